import JvmDerived
import JvmDerived.Pilot.@@N@@Statement
import JvmDerived.Pilot.@@N@@Code
set_option linter.unusedVariables false
set_option linter.unusedSimpArgs false
namespace Jvm.RoadKit
open Sem ClassFile Op Lib Jvm.Stand Jvm.Free Jvm.LawKit
section New
variable {p : Program} {l : Launch} {e : Env} {R : Room} {s : State} {m : MethodId} {args : Array Value} {below : List Frame} {meth : Method} {c : Code} {T : State} {locs : List Loc} {cells slots : Nat}
theorem retI (X : Stand p l e R s m args below meth c T locs cells slots) (hx : p.tables.exec = Jvm.exec) {pc : Nat} {Ls : Array Slot} {z : Int32} {rest : List Value} (hret : meth.sig.returnType = some .int) (hd : decode c.code pc = .ok (.ireturn, 1)) {fs : List Frame}
    (hl : ∀ (f : JFrame) (acts : List Action), f.method = m → f.locked = none → f.entered = [] → (doReturn e (T.setTop f) acts (some (.int z))).1 = T.setFrames fs) : Steps p.tables e below (T.setTop (mkF m pc Ls (.int z :: rest))) (T.setFrames fs) := by
  have hm' : T.vm.method? m = some meth := X.method'
  have hn : narrow .int (.int z) = .int z := rfl
  show Steps p.tables e below (T.setTop { method := m, pc := pc, locals := Ls, stack := _ :: rest, locked := none }) _
  jvm_step X.here [X.here.top, hx, hd, hm', hret, hn]
  first | (intro acts; rw [hl _ acts rfl rfl rfl]) | rw [hl _ _ rfl rfl rfl]
  exact Steps.refl _
end New
abbrev Go (p : Program) (e : Env) (below : List Frame) (T : State) (f : JFrame) (A : State) : Prop := ∀ t, Steps p.tables e below (T.setTop f) t → Steps p.tables e below A t
theorem own_retA (w : Value) (h : w.isRef = true) (t : FieldType) (ht : t.isReference = true) : narrow t w = w := by
  cases w <;> simp [Value.isRef] at h <;> cases t <;> simp [FieldType.isReference] at ht <;> rfl
theorem own_fitA (w : Value) (h : w.isRef = true) (t : FieldType) (ht : t.isReference = true) : fits t w = true := by
  cases w <;> simp [Value.isRef] at h <;> cases t <;> simp [FieldType.isReference] at ht <;> rfl
theorem own_narb (x : Int32) : nar .byte (x.toInt8.toInt32) = x.toInt8.toInt32 := by
  show x.toInt8.toInt32.toInt8.toInt32 = _
  simp
theorem own_ft_byte {z y : Int32} (e : nar .byte z = y) : fits .byte (.int y) = true := by rw [← e]; exact fits_nar_byte z
theorem own_ft_char {z y : Int32} (e : nar .char z = y) : fits .char (.int y) = true := by rw [← e]; exact fits_nar_char z
theorem own_ft_short {z y : Int32} (e : nar .short z = y) : fits .short (.int y) = true := by rw [← e]; exact fits_nar_short z
theorem own_ft_boolean {z y : Int32} (e : nar .boolean z = y) : fits .boolean (.int y) = true := by rw [← e]; exact fits_nar_bool z
theorem own_nw_byte {z y : Int32} (e : nar .byte z = y) : narrow .byte (.int z) = .int y := by rw [← e]; rfl
theorem own_nw_char {z y : Int32} (e : nar .char z = y) : narrow .char (.int z) = .int y := by rw [← e]; rfl
theorem own_nw_short {z y : Int32} (e : nar .short z = y) : narrow .short (.int z) = .int y := by rw [← e]; rfl
theorem own_nw_boolean {z y : Int32} (e : nar .boolean z = y) : narrow .boolean (.int z) = .int y := by rw [← e]; rfl
theorem own_narc (x : Int32) : nar .char (x.toUInt32.toUInt16.toUInt32.toInt32) = x.toUInt32.toUInt16.toUInt32.toInt32 := by
  show x.toUInt32.toUInt16.toUInt32.toInt32.toUInt32.toUInt16.toUInt32.toInt32 = _
  have q := c_i2c x
  have r := c_i2c x.toUInt32.toUInt16.toUInt32.toInt32
  apply Int32.toInt_inj.mp
  omega
theorem own_ext_refl {h : Heap} : Ext h h := ⟨Nat.le_refl _, fun _ _ q => q⟩
theorem own_ext_trans {h h' h2 : Heap} (A : Ext h h') (B : Ext h' h2) : Ext h h2 := ⟨Nat.le_trans A.1 B.1, fun a c q => B.2 a c (A.2 a c q)⟩
theorem own_ext_keep {h h' : Heap} (K : Keep h h' []) : Ext h h' := ⟨K.1, fun a c q => K.2.1 a c q nin0⟩
theorem own_lcmp_self (x : Int64) : lcmpW x x = (0 : Int32) := by rw [lcW]; exact (lc_eq x x).mpr rfl
theorem own_catV {v : Value} (h : v.isRef = true) : v.category = 1 := by cases v <;> simp [Value.isRef] at h <;> rfl
end Jvm.RoadKit
namespace Jvm.RoadKit
open Sem ClassFile Op Lib Jvm.Stand Jvm.Free Jvm.LawKit
theorem own_old_le {Z : State} {n0 : Nat} {h : Heap} (O : Old Z n0 h) : n0 ≤ h.size := O.1 ▸ O.2.1
theorem own_fld_int {args : Array Value} {s : State} {t : Term} {C n d : String} {k : Int32} {a : Addr} (h : (Cond.eq (.field t C n d) (.int k)).value args s none s [] = some true) (ev : t.eval args s none [] s = some (.ref a)) : Fld s s.heap a C n d (.int k) := by
  obtain ⟨x, y, h1, h2, -, k2⟩ := cmp_v (Or.inl h)
  cases h2.symm.trans (Term.int_eval k)
  obtain ⟨z, rfl⟩ := k2
  have e : z = k := gotT (Cond.eq_ints h1 h2) h
  subst e
  exact Fld.start ((fld_at ev).symm.trans h1)
theorem own_eqint {args : Array Value} {s : State} {t : Term} {k : Int32} (h : (Cond.eq t (.int k)).value args s none s [] = some true) : t.eval args s none [] s = some (.int k) := by
  obtain ⟨x, y, h1, h2, -, k2⟩ := cmp_v (Or.inl h)
  cases h2.symm.trans (Term.int_eval k)
  obtain ⟨z, rfl⟩ := k2
  have e : z = k := gotT (Cond.eq_ints h1 h2) h
  subst e
  exact h1
end Jvm.RoadKit
namespace Jvm.RoadKit
open Sem ClassFile Op Lib Jvm.Stand Jvm.Free Jvm.LawKit
theorem own_c255 (x : Int32) : ¬ ((255 : Int32) < ((x &&& (255 : Int32)).toUInt32.toUInt16.toUInt32.toInt32)) := by
  rw [i2c_mask, Int32.lt_iff_toInt_lt]
  have h : (x &&& 255).toInt ≤ 255 := (c_and x 255 (by decide)).2
  show ¬ (255 < (x &&& 255).toInt)
  omega
theorem own_c0 (x : Int32) : ¬ (((x &&& (255 : Int32)).toUInt32.toUInt16.toUInt32.toInt32) < (0 : Int32)) := by
  rw [i2c_mask, Int32.lt_iff_toInt_lt]
  have h : 0 ≤ (x &&& 255).toInt := (c_and x 255 (by decide)).1
  show ¬ ((x &&& 255).toInt < 0)
  omega
end Jvm.RoadKit
namespace Jvm.RoadKit
open Sem ClassFile Op Lib Jvm.Stand Jvm.Free Jvm.LawKit
theorem own_safe_null {Z : State} {EL : List (String × Nat)} {vm : Vm} {h : Heap} {x : Addr} (hal : Z.vm.Alike vm) (E : Exa Z h x "java/lang/String") (F : Fld Z h x "java/lang/String" "value" "[B" .null) : Safe Z EL vm h x := fun B => by
  obtain ⟨p, -, u, a, -, q, -, G, rfl | rfl⟩ := B
  · obtain ⟨cS, ⟨⟨s1, s2, s3, ⟨cv, kv, iv, s4, s4'⟩, -, s6, s7, s8, -⟩, hfS, hcS⟩, -⟩ := G
    obtain ⟨cell, cf, k, i, f, h1, h2, h3, h4, h5, h6, h7⟩ := F
    obtain ⟨k', z4⟩ := ff_back (U := Wst Z vm h) hal s4
    cases (show h[q.sa]? = some q.sC from s1).symm.trans h1
    cases h2.symm.trans z4
    cases h7.symm.trans s8
  · obtain ⟨cell, k, e1, e2, e3, -, -⟩ := E
    cases (show h[q.sd]? = some q.SA from G.hd).symm.trans e1
    obtain ⟨cS, -, -, f, -⟩ := G
    have f : vm.findClass "[B" = some q.SA.cls := f
    rw [hal.findClass] at f
    obtain ⟨k1, q1, q2⟩ := Vm.findClass_spec f
    obtain ⟨k2, q3, q4⟩ := Vm.findClass_spec e2
    cases q1.symm.trans q3
    exact absurd (q2.symm.trans q4) (by decide)
end Jvm.RoadKit
namespace Jvm.RoadKit
open Sem ClassFile Op Lib Jvm.Stand Jvm.Free Jvm.LawKit
theorem own_narid {c : Int32} (h0 : ¬ (c < (0 : Int32))) (h1 : ¬ ((65535 : Int32) < c)) : nar .char c = c := by
  show c.toUInt32.toUInt16.toUInt32.toInt32 = c
  have q := c_i2c c
  have a' : ¬ (c.toInt < 0) := fun z => h0 (Int32.lt_iff_toInt_lt.mpr z)
  have b' : ¬ (65535 < c.toInt) := fun z => h1 (Int32.lt_iff_toInt_lt.mpr z)
  apply Int32.toInt_inj.mp
  omega
theorem own_w255 {c : Int32} (h : ¬ ((255 : Int32) < c)) : ¬ ((65535 : Int32) < c) := by
  intro q
  have b' : ¬ (255 < c.toInt) := fun z => h (Int32.lt_iff_toInt_lt.mpr z)
  have q' : 65535 < c.toInt := Int32.lt_iff_toInt_lt.mp q
  omega
theorem own_i2c0 (x : Int32) : ¬ (x.toUInt32.toUInt16.toUInt32.toInt32 < (0 : Int32)) := by
  intro z
  have q := c_i2c x
  have z' : x.toUInt32.toUInt16.toUInt32.toInt32.toInt < 0 := Int32.lt_iff_toInt_lt.mp z
  omega
theorem own_i2c1 (x : Int32) : ¬ ((65535 : Int32) < x.toUInt32.toUInt16.toUInt32.toInt32) := by
  intro z
  have q := c_i2c x
  have z' : 65535 < x.toUInt32.toUInt16.toUInt32.toInt32.toInt := Int32.lt_iff_toInt_lt.mp z
  omega
theorem own_rec8 {c : Int32} (h0 : ¬ (c < (0 : Int32))) (h1 : ¬ ((255 : Int32) < c)) : (c.toInt8.toInt32 &&& (255 : Int32)).toUInt32.toUInt16.toUInt32.toInt32 = c := by
  rw [i2c_mask]
  have q := c_i2b c
  have r : (c.toInt8.toInt32 &&& (255 : Int32)).toInt = c.toInt8.toInt32.toInt % 256 := c_mask c.toInt8.toInt32 255 8 (by decide) (by decide)
  have a' : ¬ (c.toInt < 0) := fun z => h0 (Int32.lt_iff_toInt_lt.mpr z)
  have b' : ¬ (255 < c.toInt) := fun z => h1 (Int32.lt_iff_toInt_lt.mpr z)
  apply Int32.toInt_inj.mp
  omega
theorem own_rec16 {c : Int32} (h0 : ¬ (c < (0 : Int32))) (h1 : ¬ ((65535 : Int32) < c)) :
    ((((c >>> ((0 : Int32) &&& 31)).toInt8.toInt32 &&& (255 : Int32)) <<< ((0 : Int32) &&& 31)) ||| (((c >>> ((8 : Int32) &&& 31)).toInt8.toInt32 &&& (255 : Int32)) <<< ((8 : Int32) &&& 31))).toUInt32.toUInt16.toUInt32.toInt32 = c := by
  have a' : ¬ (c.toInt < 0) := fun z => h0 (Int32.lt_iff_toInt_lt.mpr z)
  have b' : ¬ (65535 < c.toInt) := fun z => h1 (Int32.lt_iff_toInt_lt.mpr z)
  have a1 : (c >>> ((0 : Int32) &&& 31)).toInt = c.toInt / 1 := c_ishr c 0 0 (by decide)
  have a2 : (c >>> ((8 : Int32) &&& 31)).toInt = c.toInt / 256 := c_ishr c 8 8 (by decide)
  have b1 := c_i2b (c >>> ((0 : Int32) &&& 31))
  have b2 := c_i2b (c >>> ((8 : Int32) &&& 31))
  have d1 : ((c >>> ((0 : Int32) &&& 31)).toInt8.toInt32 &&& (255 : Int32)).toInt = (c >>> ((0 : Int32) &&& 31)).toInt8.toInt32.toInt % 256 := c_mask _ 255 8 (by decide) (by decide)
  have d2 : ((c >>> ((8 : Int32) &&& 31)).toInt8.toInt32 &&& (255 : Int32)).toInt = (c >>> ((8 : Int32) &&& 31)).toInt8.toInt32.toInt % 256 := c_mask _ 255 8 (by decide) (by decide)
  generalize (c >>> ((0 : Int32) &&& 31)).toInt8.toInt32 &&& (255 : Int32) = u at *
  generalize (c >>> ((8 : Int32) &&& 31)).toInt8.toInt32 &&& (255 : Int32) = w at *
  have f1 : (u <<< ((0 : Int32) &&& 31)) = u := by rw [shlm (m := 1) (by decide)]; simp
  have f2 : (w <<< ((8 : Int32) &&& 31)) = w * 256 := shlm (by decide)
  rw [f1, f2]
  have g2 : ((w * 256).toInt - (w.toInt * 256)) % 4294967296 = 0 := c_imul w 256
  have r2 := rng32 (w * 256)
  have m1 : (w * 256).toInt = w.toInt * 256 := by omega
  have k := c_or' u (w * 256) 8 (by decide) 256 (by decide)
  have o := c_i2c (u ||| w * 256)
  have ro := rng32 (u ||| w * 256)
  apply Int32.toInt_inj.mp
  have := k (by omega) (by omega) (by omega)
  omega
end Jvm.RoadKit
namespace Jvm.RoadKit
open Sem ClassFile Op Lib Jvm.Stand Jvm.Free Jvm.LawKit
theorem own_nn {k : Nat} (h : k < 2147483648) : (Int32.ofNat k).toInt = k := Int32.toInt_ofNat_of_lt h
theorem own_lt {a b : Nat} (h : a < b) (hb : b < 2147483648) : Int32.ofNat a < Int32.ofNat b := by
  rw [Int32.lt_iff_toInt_lt, own_nn (by omega), own_nn hb]; omega
theorem own_nlt {a b : Nat} (h : b ≤ a) (ha : a < 2147483648) : ¬ (Int32.ofNat a < Int32.ofNat b) := by
  rw [Int32.lt_iff_toInt_lt, own_nn ha, own_nn (by omega)]; omega
theorem own_nonneg {k : Nat} (h : k < 2147483648) : ¬ (Int32.ofNat k < (0 : Int32)) := by
  intro q
  have q' : (Int32.ofNat k).toInt < 0 := Int32.lt_iff_toInt_lt.mp q
  rw [own_nn h] at q'; omega
theorem own_clamp {k : Nat} (h : k < 2147483648) : (Int32.ofNat k).toNatClampNeg = k := by
  simp only [Int32.toNatClampNeg, own_nn h]; rfl
theorem own_succ (k : Nat) : Int32.ofNat k + (1 : Int32) = Int32.ofNat (k + 1) := (Int32.ofNat_add k 1).symm
theorem own_inj {a b : Nat} (ha : a < 2147483648) (hb : b < 2147483648) (h : ¬ (a = b)) : ¬ (Int32.ofNat a = Int32.ofNat b) := fun q => h (by
  have := congrArg Int32.toInt q
  rw [own_nn ha, own_nn hb] at this; omega)
theorem own_getc (ls : List Int32) (i : Nat) : (ls.map Value.int).getD i (.int 0) = .int (ls.getD i 0) := by
  simp only [List.getD_eq_getElem?_getD, List.getElem?_map]
  cases ls[i]? <;> rfl
def own_b8 (c : Int32) : Int32 := c.toInt8.toInt32
def own_lo (c : Int32) : Int32 := (c >>> ((0 : Int32) &&& 31)).toInt8.toInt32
def own_hi (c : Int32) : Int32 := (c >>> ((8 : Int32) &&& 31)).toInt8.toInt32
def own_lb (ls : List Int32) : List Value := ls.map (fun c => .int (own_b8 c))
def own_wb : List Int32 → List Value
  | [] => []
  | c :: r => .int (own_lo c) :: .int (own_hi c) :: own_wb r
theorem own_lb_len (ls : List Int32) : (own_lb ls).length = ls.length := by simp [own_lb]
theorem own_wb_len : ∀ ls : List Int32, (own_wb ls).length = 2 * ls.length
  | [] => rfl
  | c :: r => by simp [own_wb, own_wb_len r]; omega
theorem own_lb_get {ls : List Int32} {i : Nat} (h : i < ls.length) : (own_lb ls).getD i (.int 0) = .int ((ls.getD i 0).toInt8.toInt32) := by
  simp [own_lb, List.getD_eq_getElem?_getD, h, own_b8]
theorem own_wb_get0 : ∀ {ls : List Int32} {i : Nat}, i < ls.length → (own_wb ls).getD (2 * i) (.int 0) = .int (((ls.getD i 0) >>> ((0 : Int32) &&& 31)).toInt8.toInt32)
  | c :: r, 0, _ => by simp [own_wb, own_lo]
  | c :: r, i + 1, h => by
    have := own_wb_get0 (ls := r) (i := i) (by simpa using h)
    simpa [own_wb, Nat.mul_add] using this
theorem own_wb_get1 : ∀ {ls : List Int32} {i : Nat}, i < ls.length → (own_wb ls).getD (2 * i + 1) (.int 0) = .int (((ls.getD i 0) >>> ((8 : Int32) &&& 31)).toInt8.toInt32)
  | c :: r, 0, _ => by simp [own_wb, own_hi]
  | c :: r, i + 1, h => by
    have := own_wb_get1 (ls := r) (i := i) (by simpa using h)
    simpa [own_wb, Nat.mul_add] using this
def own_F (ls : List Int32) (k : Nat) : List Value := own_lb (ls.take k) ++ List.replicate (ls.length - k) (.int 0)
theorem own_F0 (ls : List Int32) : own_F ls 0 = List.replicate ls.length (.int 0) := by simp [own_F, own_lb]
theorem own_Fn (ls : List Int32) : own_F ls ls.length = own_lb ls := by simp [own_F]
theorem own_Flen {ls : List Int32} {k : Nat} (h : k ≤ ls.length) : (own_F ls k).length = ls.length := by simp [own_F, own_lb]; omega
theorem own_FS {ls : List Int32} {k : Nat} (h : k < ls.length) : (own_F ls k).set k (.int ((ls.getD k 0).toInt8.toInt32)) = own_F ls (k + 1) := by
  have e : ls.length - k = (ls.length - (k + 1)) + 1 := by omega
  have t : (own_lb (ls.take k)).length = k := by rw [own_lb_len, List.length_take]; omega
  unfold own_F
  rw [List.set_append_right k _ (by omega), t, Nat.sub_self, e, List.replicate_succ, List.set_cons_zero]
  have u : ls.take (k + 1) = ls.take k ++ [ls.getD k 0] := by
    rw [List.take_add_one, List.getD_eq_getElem?_getD, List.getElem?_eq_getElem h]; rfl
  rw [u]
  simp [own_lb, own_b8]
def own_G (ls : List Int32) (k : Nat) : List Value := own_wb (ls.take k) ++ List.replicate (2 * (ls.length - k)) (.int 0)
theorem own_G0 (ls : List Int32) : own_G ls 0 = List.replicate (2 * ls.length) (.int 0) := by simp [own_G, own_wb]
theorem own_Gn (ls : List Int32) : own_G ls ls.length = own_wb ls := by simp [own_G]
theorem own_Glen {ls : List Int32} {k : Nat} (h : k ≤ ls.length) : (own_G ls k).length = 2 * ls.length := by simp [own_G, own_wb_len]; omega
theorem own_wb_app : ∀ (a b : List Int32), own_wb (a ++ b) = own_wb a ++ own_wb b
  | [], b => rfl
  | c :: r, b => by simp [own_wb, own_wb_app r b]
theorem own_GS {ls : List Int32} {k : Nat} (h : k < ls.length) : ((own_G ls k).set (2 * k) (.int (((ls.getD k 0) >>> ((0 : Int32) &&& 31)).toInt8.toInt32))).set (2 * k + 1) (.int (((ls.getD k 0) >>> ((8 : Int32) &&& 31)).toInt8.toInt32)) = own_G ls (k + 1) := by
  have e : 2 * (ls.length - k) = (2 * (ls.length - (k + 1))) + 1 + 1 := by omega
  have t : (own_wb (ls.take k)).length = 2 * k := by rw [own_wb_len, List.length_take]; omega
  unfold own_G
  rw [List.set_append_right _ _ (by omega), t, Nat.sub_self, e, List.replicate_succ, List.replicate_succ, List.set_cons_zero, List.set_append_right _ _ (by omega), t]
  have u : ls.take (k + 1) = ls.take k ++ [ls.getD k 0] := by
    rw [List.take_add_one, List.getD_eq_getElem?_getD, List.getElem?_eq_getElem h]; rfl
  rw [u, own_wb_app, show 2 * k + 1 - 2 * k = 1 by omega, List.set_cons_succ, List.set_cons_zero]
  simp [own_wb, own_lo, own_hi]
theorem own_first (P : Nat → Prop) (n : Nat) (h : ¬ ∀ i, i < n → ¬ P i) : ∃ r, r < n ∧ P r ∧ ∀ i, i < r → ¬ P i := by
  induction n with
  | zero => exact absurd (fun i hi => absurd hi (Nat.not_lt_zero i)) h
  | succ n ih =>
    by_cases q : ∀ i, i < n → ¬ P i
    · refine ⟨n, by omega, Classical.byContradiction fun z => h fun i hi => ?_, q⟩
      by_cases e : i = n
      · subst e; exact z
      · exact q i (by omega)
    · obtain ⟨r, h1, h2, h3⟩ := ih q
      exact ⟨r, by omega, h2, h3⟩
theorem own_dbl {n : Nat} (h : 2 * n < 2147483648) : Int32.ofNat n <<< ((1 : Int32) &&& 31) = Int32.ofNat (2 * n) := by
  have e : Int32.ofNat n <<< ((1 : Int32) &&& 31) = Int32.ofNat n * 2 := shlm (by decide)
  rw [e, Nat.mul_comm]; exact (Int32.ofNat_mul n 2).symm
theorem own_half {n : Nat} (h : 2 * n < 2147483648) : Int32.ofNat (2 * n) >>> ((1 : Int32) &&& 31) = Int32.ofNat n := by
  apply Int32.toInt_inj.mp
  have e : (Int32.ofNat (2 * n) >>> ((1 : Int32) &&& 31)).toInt = (Int32.ofNat (2 * n)).toInt / 2 := c_ishr _ 1 1 (by decide)
  rw [e, own_nn h, own_nn (by omega)]; omega
theorem own_shr0 (x : Int32) : x >>> ((0 : Int32) &&& 31) = x := by
  apply Int32.toInt_inj.mp
  have e : (x >>> ((0 : Int32) &&& 31)).toInt = x.toInt / 1 := c_ishr _ 0 0 (by decide)
  rw [e]; omega
theorem own_cfa0 (x : Int32) : (((x - x).toUInt32 >>> ((31 : Int32) &&& 31).toUInt32).toInt32).toInt8.toInt32 = (0 : Int32) := by
  rw [Int32.sub_self]; decide
theorem own_cfa1 {n : Nat} (h0 : 0 < n) (h : 2 * n < 2147483648) : (((Int32.ofNat n - Int32.ofNat (2 * n)).toUInt32 >>> ((31 : Int32) &&& 31).toUInt32).toInt32).toInt8.toInt32 = (1 : Int32) := by
  have b := c_isub (Int32.ofNat n) (Int32.ofNat (2 * n))
  rw [own_nn (by omega), own_nn h] at b
  have r := rng32 (Int32.ofNat n - Int32.ofNat (2 * n))
  have u : (((Int32.ofNat n - Int32.ofNat (2 * n)).toUInt32 >>> ((31 : Int32) &&& 31).toUInt32).toInt32).toInt = ((Int32.ofNat n - Int32.ofNat (2 * n)).toInt % 4294967296) / 2147483648 := c_iushr _ 31 31 (by decide) (by decide)
  have v : (((Int32.ofNat n - Int32.ofNat (2 * n)).toUInt32 >>> ((31 : Int32) &&& 31).toUInt32).toInt32) = 1 := by
    apply Int32.toInt_inj.mp
    show _ = 1
    omega
  rw [v]; decide
def own_chars (ls : List Int32) : Prop := ∀ i, i < ls.length → ¬ (ls.getD i 0 < (0 : Int32)) ∧ ¬ ((65535 : Int32) < ls.getD i 0)
def own_lat (ls : List Int32) : Prop := ∀ i, i < ls.length → ¬ ((255 : Int32) < ls.getD i 0)
def own_cod (ls : List Int32) (cd z : Int32) (vs : List Value) : Prop := (cd = (0 : Int32) ∧ z = Int32.ofNat ls.length ∧ vs = own_lb ls ∧ own_lat ls) ∨ (cd = (1 : Int32) ∧ z = Int32.ofNat (2 * ls.length) ∧ vs = own_wb ls)
theorem own_cod01 {ls : List Int32} {cd z : Int32} {vs : List Value} (h : own_cod ls cd z vs) : cd = (0 : Int32) ∨ cd = (1 : Int32) := h.imp (·.1) (·.1)
theorem own_codz {ls : List Int32} {cd z : Int32} {vs : List Value} (h : own_cod ls cd z vs) (h0 : 0 < ls.length) (hB : ls.length ≤ 4000) : ¬ (z = (0 : Int32)) := by
  rcases h with ⟨-, rfl, -⟩ | ⟨-, rfl, -⟩
  · exact own_inj (b := 0) (by omega) (by omega) (by omega)
  · exact own_inj (b := 0) (by omega) (by omega) (by omega)
theorem own_cdlen {ls : List Int32} {cd z : Int32} {vs : List Value} (h : own_cod ls cd z vs) (hB : ls.length ≤ 4000) : z >>> (cd &&& 31) = Int32.ofNat ls.length := by
  rcases h with ⟨rfl, rfl, -⟩ | ⟨rfl, rfl, -⟩
  · exact own_shr0 _
  · exact own_half (by omega)
theorem own_cnil : own_chars [] := fun i h => absurd h (Nat.not_lt_zero i)
theorem own_ccons {c : Int32} {r : List Int32} (h : ¬ (c < (0 : Int32)) ∧ ¬ ((65535 : Int32) < c)) (t : own_chars r) : own_chars (c :: r) := by
  intro i hi
  cases i with
  | zero => exact h
  | succ i => exact t i (by simpa using hi)
theorem own_nar01 {c : Int32} (h : c = (0 : Int32) ∨ c = (1 : Int32)) : nar .byte c = c := by rcases h with rfl | rfl <;> decide
end Jvm.RoadKit
namespace Jvm.RoadKit
def own_lw (c : Int32) : Prop := 97 ≤ c.toInt ∧ c.toInt ≤ 122
def own_tl (c : Int32) : Prop := (97 ≤ c.toInt ∧ c.toInt ≤ 122) ∨ (48 ≤ c.toInt ∧ c.toInt ≤ 57) ∨ c.toInt = 95
def own_valid (ls : List Int32) : Prop := ls.length ≤ 64 ∧ own_lw (ls.getD 0 0) ∧ ∀ i, i + 1 < ls.length → own_tl (ls.getD (i + 1) 0)
def own_allt : List Int32 → Prop
  | [] => True
  | c :: r => own_tl c ∧ own_allt r
theorem own_tl95 : own_tl (95 : Int32) := Or.inr (Or.inr rfl)
theorem own_allt_iff : ∀ r : List Int32, own_allt r ↔ ∀ i, i < r.length → own_tl (r.getD i 0)
  | [] => ⟨fun _ i h => absurd h (Nat.not_lt_zero i), fun _ => trivial⟩
  | c :: r => by
    constructor
    · intro h i hi
      cases i with
      | zero => exact h.1
      | succ i => exact (own_allt_iff r).mp h.2 i (by simpa using hi)
    · intro h
      exact ⟨h 0 (by simp), (own_allt_iff r).mpr fun i hi => h (i + 1) (by simpa using hi)⟩
theorem own_valid_cons (c : Int32) (r : List Int32) : own_valid (c :: r) ↔ ((c :: r).length ≤ 64 ∧ own_lw c ∧ own_allt r) := by
  unfold own_valid
  rw [own_allt_iff]
  constructor
  · rintro ⟨h1, h2, h3⟩
    exact ⟨h1, h2, fun i hi => h3 i (by simpa using hi)⟩
  · rintro ⟨h1, h2, h3⟩
    exact ⟨h1, h2, fun i hi => h3 i (by simpa using hi)⟩
theorem own_r0 {r : Int32} {P : Prop} (h01 : r = (0 : Int32) ∨ r = (1 : Int32)) (h : r = (1 : Int32) ↔ P) (n : ¬ P) : r = (0 : Int32) := h01.elim id (fun q => absurd (h.mp q) n)
theorem own_b0 {b : Int32} {P : Prop} (h : b = (1 : Int32) ↔ P) (g : b = (0 : Int32)) : ¬ P := fun q => by have := h.mpr q; rw [g] at this; exact absurd this (by decide)
theorem own_b1 {b : Int32} {P : Prop} (h01 : b = (0 : Int32) ∨ b = (1 : Int32)) (h : b = (1 : Int32) ↔ P) (g : ¬ (b = (0 : Int32))) : P := h.mp (h01.resolve_left g)
theorem own_eqb {a b : Int32} {P : Prop} (a01 : a = (0 : Int32) ∨ a = (1 : Int32)) (ha : a = (1 : Int32) ↔ P) (b01 : b = (0 : Int32) ∨ b = (1 : Int32)) (hb : b = (1 : Int32) ↔ P) : a = b := by
  rcases a01 with rfl | rfl <;> rcases b01 with rfl | rfl
  · rfl
  · exact ha.mpr (hb.mp rfl)
  · exact (hb.mpr (ha.mp rfl)).symm
  · rfl
end Jvm.RoadKit
namespace Jvm.Pilot.@@N@@
open Jvm Jvm.ClassFile Sem Op Lib Jvm.Free Jvm.Stand Jvm.LawKit Jvm.RoadKit Bundle Jvm.Pilot.@@N@@.Jvm.D
theorem own_EW {Z : State} {a0 : Array Value} (hw : ∀ d ∈ tables_1, d.before a0 Z = true) : EW Z a0 consts_1 := (EW.cons (hw _ (List.mem_of_getElem? (i := 15) rfl)) (by decide) EW.nil)
theorem own_wS {Z : State} {a0 : Array Value} (hw : ∀ d ∈ tables_1, d.before a0 Z = true) : ∀ a ∈ Bundle.stringAtoms, a.before a0 Z = true := by
  intro a ha
  simp only [Bundle.stringAtoms, Bundle.sN, List.mem_cons, List.not_mem_nil, or_false] at ha
  rcases ha with rfl | rfl | rfl | rfl | rfl | rfl | rfl
  · exact (hw _ (List.mem_of_getElem? (i := 3) rfl))
  · exact (hw _ (List.mem_of_getElem? (i := 2) rfl))
  · exact (hw _ (List.mem_of_getElem? (i := 16) rfl))
  · exact (hw _ (List.mem_of_getElem? (i := 17) rfl))
  · exact (hw _ (List.mem_of_getElem? (i := 18) rfl))
  · exact (hw _ (List.mem_of_getElem? (i := 19) rfl))
  · exact (hw _ (List.mem_of_getElem? (i := 20) rfl))
theorem own_compact {Z : State} {a0 : Array Value} (hsets : ∀ d ∈ jdkStatics_1, d.before a0 Z = true) : Jvm.Lit.compactW.before a0 Z = true := hsets _ (List.mem_of_getElem? (i := 2) rfl)
theorem d11_0 : decode method_2_code 0 = .ok (.iload_n 0, 1) := by decide +kernel
theorem d11_1 : decode method_2_code 1 = .ok (.bipush 97, 2) := by decide +kernel
theorem d11_3 : decode method_2_code 3 = .ok (.if_icmp .lt 13, 3) := by decide +kernel
theorem d11_16 : decode method_2_code 16 = .ok (.iconst 0, 1) := by decide +kernel
theorem d11_17 : decode method_2_code 17 = .ok (.ireturn, 1) := by decide +kernel
theorem d11_6 : decode method_2_code 6 = .ok (.iload_n 0, 1) := by decide +kernel
theorem d11_7 : decode method_2_code 7 = .ok (.bipush 122, 2) := by decide +kernel
theorem d11_9 : decode method_2_code 9 = .ok (.if_icmp .gt 7, 3) := by decide +kernel
theorem d11_12 : decode method_2_code 12 = .ok (.iconst 1, 1) := by decide +kernel
theorem d11_13 : decode method_2_code 13 = .ok (.goto 4, 3) := by decide +kernel
theorem pn_com_example_clear_fault_clearfault_FaultIsValidCodePinLaw : plainName "com/example/clear_fault/clearfault/FaultIsValidCodePinLaw" = true := by first | (simp [plainName, overriddenIn]; done) | decide +kernel
theorem ef_low (m : MethodId) (x0 : Int32)  : entryFrame m #[(.int x0)] 1 = mkF m 0 #[.val (.int x0)] [] := by first | (simp [entryFrame, mkF, argsToLocals, Value.category]; done) | rfl
def Q_low (Z : State) (ch : Int32) (h0 : Heap) (n0 : Nat) (v : Option Value) (h : Heap) (L : List Loc) : Prop := ∃ (bb : Int32), v = some (.int bb) ∧ Fr n0 L ∧ h = h0 ∧ (bb = (0 : Int32) ∨ bb = (1 : Int32)) ∧ (bb = (1 : Int32) ↔ own_lw ch)
set_option maxRecDepth 65536 in
set_option maxHeartbeats 40000000 in
theorem rm_low (l : Launch) (Z : State) (a0 : Array Value) (hw : ∀ d ∈ tables_1, d.before a0 Z = true) (ws : List Jvm.Cond) (ch : Int32) (h0 : Heap) (n0 : Nat) (O0 : Old Z n0 h0)  :
    MetFree l (⟨"com/example/clear_fault/clearfault/FaultIsValidCodePinLaw", "lower", "(C)Z"⟩ : MethodName) (head1 (Jvm.Cond.code (⟨"com/example/clear_fault/clearfault/FaultIsValidCodePinLaw", "lower", "(C)Z"⟩ : MethodName) method_2_code 1 (some .boolean) :: ws) ({ frames := 0, cells := 0, slots := 0, locals := 0 } : Room)) (fun a U => a = #[(.int ch)] ∧ Z.Warmed39 U.vm ∧ U.heap = h0) (fun _ _ _ _ _ => True) (fun _ U o U' => ∃ v L, o = .returned v ∧ Q_low Z ch h0 n0 v U'.heap L ∧ FrameEnd U o U' L ({ frames := 0, cells := 0, slots := 0, locals := 0 } : Room).cells ({ frames := 0, cells := 0, slots := 0, locals := 0 } : Room).slots) := by
  refine MetFree.of_bodySF (plainFor_of_name pn_com_example_clear_fault_clearfault_FaultIsValidCodePinLaw) hisR ?_
  intro p e s m args below meth c s₁ Bd hml0 hP hK
  obtain ⟨rfl, hZ, hh⟩ := hP
  have hx := Bd.exec
  have hby := Bd.bytes
  have hml : c.maxLocals = 1 := hml0
  have hown : s.vm.findClass "com/example/clear_fault/clearfault/FaultIsValidCodePinLaw" = some m.cls := findClass_of_methodNamed Bd.named
  have hnm := (name_of_methodNamed Bd.named Bd.method).1
  have X0 : Stand p l e ({ frames := 0, cells := 0, slots := 0, locals := 0 } : Room) s m #[(.int ch)] below meth c s₁ [] 0 0 := Stand.of_body Bd
  have e0 : s₁.heap = h0 := by rw [← hh, Bd.state]; rfl
  have N0 := Fr.nil n0
  have g0 : Go p e below s₁ (mkF m 0 #[iv ch] []) (s₁.setTop (entryFrame m #[(.int ch)] 1)) := fun t kont => castTop (ef_low m ch ) kont
  generalize s₁.setTop (entryFrame m #[(.int ch)] 1) = A0 at g0 ⊢
  have g102 : Go p e below s₁ (mkF m 3 #[iv ch] [(.int (97 : Int32)), (.int ch)]) A0 := by
    intro t kont
    refine g0 t ?_
    refine XS.iloadN X0.here hx rfl (hb hby d11_0) rfl ?_
    refine XS.bipush X0.here hx rfl (hb hby d11_1) ?_
    exact kont
  by_cases c101 : ch < (97 : Int32)
  ·
    have q103 : ch.toInt < 97 := Int32.lt_iff_toInt_lt.mp c101
    have g104 : Go p e below s₁ (mkF m 17 #[iv ch] [(.int (0 : Int32))]) A0 := by
      intro t kont
      refine g102 t ?_
      refine XS.icmpYes X0.here hx rfl (pc0 := 3) (pc' := 16) rfl (hb hby d11_3) rfl (tlt c101).1 (by decide) (by decide) ?_
      refine XS.iconst X0.here hx rfl (hb hby d11_16) ?_
      exact kont
    obtain ⟨fs, hr, hrun, hended, hW, hsame⟩ := X0.leave (v := some (.int (0 : Int32))) (fun h => by rw [Bd.returns] at h; cases h)
    refine ⟨_, _, g104 _ (retN X0 hx (t := .boolean) Bd.returns (by simp) (hb hby d11_17) hr), hrun, hended, _, _, rfl, ?_, ⟨_, rfl⟩, hW, hsame.mono (by decide) (by decide)⟩
    show Q_low Z ch h0 n0 _ s₁.heap _
    rw [e0]
    exact ⟨(0 : Int32), rfl, N0, rfl, Or.inl rfl, by unfold own_lw; exact iff_of_false (by decide) (by omega)⟩
  have q105 : ¬ (ch.toInt < 97) := fun z => c101 (Int32.lt_iff_toInt_lt.mpr z)
  have g107 : Go p e below s₁ (mkF m 9 #[iv ch] [(.int (122 : Int32)), (.int ch)]) A0 := by
    intro t kont
    refine g102 t ?_
    refine XS.icmpNo X0.here hx rfl (hb hby d11_3) rfl (flt c101).1 ?_
    refine XS.iloadN X0.here hx rfl (hb hby d11_6) rfl ?_
    refine XS.bipush X0.here hx rfl (hb hby d11_7) ?_
    exact kont
  by_cases c106 : (122 : Int32) < ch
  ·
    have q108 : 122 < ch.toInt := Int32.lt_iff_toInt_lt.mp c106
    have g109 : Go p e below s₁ (mkF m 17 #[iv ch] [(.int (0 : Int32))]) A0 := by
      intro t kont
      refine g107 t ?_
      refine XS.icmpYes X0.here hx rfl (pc0 := 9) (pc' := 16) rfl (hb hby d11_9) rfl (tlt c106).2.2.1 (by decide) (by decide) ?_
      refine XS.iconst X0.here hx rfl (hb hby d11_16) ?_
      exact kont
    obtain ⟨fs, hr, hrun, hended, hW, hsame⟩ := X0.leave (v := some (.int (0 : Int32))) (fun h => by rw [Bd.returns] at h; cases h)
    refine ⟨_, _, g109 _ (retN X0 hx (t := .boolean) Bd.returns (by simp) (hb hby d11_17) hr), hrun, hended, _, _, rfl, ?_, ⟨_, rfl⟩, hW, hsame.mono (by decide) (by decide)⟩
    show Q_low Z ch h0 n0 _ s₁.heap _
    rw [e0]
    exact ⟨(0 : Int32), rfl, N0, rfl, Or.inl rfl, by unfold own_lw; exact iff_of_false (by decide) (by omega)⟩
  have q110 : ¬ (122 < ch.toInt) := fun z => c106 (Int32.lt_iff_toInt_lt.mpr z)
  have g111 : Go p e below s₁ (mkF m 17 #[iv ch] [(.int (1 : Int32))]) A0 := by
    intro t kont
    refine g107 t ?_
    refine XS.icmpNo X0.here hx rfl (hb hby d11_9) rfl (flt c106).2.2.1 ?_
    refine XS.iconst X0.here hx rfl (hb hby d11_12) ?_
    refine XS.goto X0.here hx rfl (pc0 := 13) (pc' := 17) rfl (hb hby d11_13) (by decide) (by decide) ?_
    exact kont
  obtain ⟨fs, hr, hrun, hended, hW, hsame⟩ := X0.leave (v := some (.int (1 : Int32))) (fun h => by rw [Bd.returns] at h; cases h)
  refine ⟨_, _, g111 _ (retN X0 hx (t := .boolean) Bd.returns (by simp) (hb hby d11_17) hr), hrun, hended, _, _, rfl, ?_, ⟨_, rfl⟩, hW, hsame.mono (by decide) (by decide)⟩
  show Q_low Z ch h0 n0 _ s₁.heap _
  rw [e0]
  exact ⟨(1 : Int32), rfl, N0, rfl, Or.inr rfl, by unfold own_lw; exact iff_of_true rfl (by omega)⟩
theorem d25_0 : decode method_3_code 0 = .ok (.iload_n 0, 1) := by decide +kernel
theorem d25_1 : decode method_3_code 1 = .ok (.invokestatic 7, 3) := by decide +kernel
theorem pd_0 : parseMethodDescriptor "(C)Z" = some ⟨[.char], some .boolean⟩ := by decide +kernel
theorem d25_4 : decode method_3_code 4 = .ok (.ifCond .ne 21, 3) := by decide +kernel
theorem d25_7 : decode method_3_code 7 = .ok (.iload_n 0, 1) := by decide +kernel
theorem d25_8 : decode method_3_code 8 = .ok (.bipush 48, 2) := by decide +kernel
theorem d25_10 : decode method_3_code 10 = .ok (.if_icmp .lt 9, 3) := by decide +kernel
theorem d25_19 : decode method_3_code 19 = .ok (.iload_n 0, 1) := by decide +kernel
theorem d25_20 : decode method_3_code 20 = .ok (.bipush 95, 2) := by decide +kernel
theorem d25_22 : decode method_3_code 22 = .ok (.if_icmp .ne 7, 3) := by decide +kernel
theorem d25_25 : decode method_3_code 25 = .ok (.iconst 1, 1) := by decide +kernel
theorem d25_26 : decode method_3_code 26 = .ok (.goto 4, 3) := by decide +kernel
theorem d25_30 : decode method_3_code 30 = .ok (.ireturn, 1) := by decide +kernel
theorem d25_29 : decode method_3_code 29 = .ok (.iconst 0, 1) := by decide +kernel
theorem d25_13 : decode method_3_code 13 = .ok (.iload_n 0, 1) := by decide +kernel
theorem d25_14 : decode method_3_code 14 = .ok (.bipush 57, 2) := by decide +kernel
theorem d25_16 : decode method_3_code 16 = .ok (.if_icmp .le 9, 3) := by decide +kernel
theorem ef_tail (m : MethodId) (x0 : Int32)  : entryFrame m #[(.int x0)] 1 = mkF m 0 #[.val (.int x0)] [] := by first | (simp [entryFrame, mkF, argsToLocals, Value.category]; done) | rfl
def Q_tail (Z : State) (ch : Int32) (h0 : Heap) (n0 : Nat) (v : Option Value) (h : Heap) (L : List Loc) : Prop := ∃ (bb : Int32), v = some (.int bb) ∧ Fr n0 L ∧ h = h0 ∧ (bb = (0 : Int32) ∨ bb = (1 : Int32)) ∧ (bb = (1 : Int32) ↔ own_tl ch)
set_option maxRecDepth 65536 in
set_option maxHeartbeats 40000000 in
theorem rm_tail (l : Launch) (Z : State) (a0 : Array Value) (hw : ∀ d ∈ tables_1, d.before a0 Z = true) (ws : List Jvm.Cond) (ch : Int32) (h0 : Heap) (n0 : Nat) (O0 : Old Z n0 h0)  :
    MetFree l (⟨"com/example/clear_fault/clearfault/FaultIsValidCodePinLaw", "tail", "(C)Z"⟩ : MethodName) (head1 (Jvm.Cond.code (⟨"com/example/clear_fault/clearfault/FaultIsValidCodePinLaw", "tail", "(C)Z"⟩ : MethodName) method_3_code 1 (some .boolean) :: ws) ({ frames := 1, cells := 0, slots := 0, locals := 12 } : Room)) (fun a U => a = #[(.int ch)] ∧ Z.Warmed39 U.vm ∧ U.heap = h0) (fun _ _ _ _ _ => True) (fun _ U o U' => ∃ v L, o = .returned v ∧ Q_tail Z ch h0 n0 v U'.heap L ∧ FrameEnd U o U' L ({ frames := 1, cells := 0, slots := 0, locals := 12 } : Room).cells ({ frames := 1, cells := 0, slots := 0, locals := 12 } : Room).slots) := by
  refine MetFree.of_bodySF (plainFor_of_name pn_com_example_clear_fault_clearfault_FaultIsValidCodePinLaw) hisR ?_
  intro p e s m args below meth c s₁ Bd hml0 hP hK
  obtain ⟨rfl, hZ, hh⟩ := hP
  have hx := Bd.exec
  have hby := Bd.bytes
  have hml : c.maxLocals = 1 := hml0
  have hown : s.vm.findClass "com/example/clear_fault/clearfault/FaultIsValidCodePinLaw" = some m.cls := findClass_of_methodNamed Bd.named
  have hnm := (name_of_methodNamed Bd.named Bd.method).1
  have X0 : Stand p l e ({ frames := 1, cells := 0, slots := 0, locals := 12 } : Room) s m #[(.int ch)] below meth c s₁ [] 0 0 := Stand.of_body Bd
  have e0 : s₁.heap = h0 := by rw [← hh, Bd.state]; rfl
  have N0 := Fr.nil n0
  have g0 : Go p e below s₁ (mkF m 0 #[iv ch] []) (s₁.setTop (entryFrame m #[(.int ch)] 1)) := fun t kont => castTop (ef_tail m ch ) kont
  generalize s₁.setTop (entryFrame m #[(.int ch)] 1) = A0 at g0 ⊢
  have g101 : Go p e below s₁ (mkF m 1 #[iv ch] [(.int ch)]) A0 := by
    intro t kont
    refine g0 t ?_
    refine XS.iloadN X0.here hx rfl (hb hby d25_0) rfl ?_
    exact kont
  obtain ⟨_, _, ⟨T102, L102, k102, n102⟩, -, X102, ⟨Lc102, hQ102, l102, y102, z102⟩, st102⟩ := Jvm.LawKit.callS X0 hx (y := (⟨"com/example/clear_fault/clearfault/FaultIsValidCodePinLaw", "lower", "(C)Z"⟩ : MethodName)) hown (mvT hZ (hw _ (List.mem_of_getElem? (i := 53) rfl))) (mvT hZ (hw _ (List.mem_of_getElem? (i := 54) rfl))) (mvT hZ (hw _ (List.mem_of_getElem? (i := 55) rfl))) (mvT hZ (hw _ (List.mem_of_getElem? (i := 56) rfl))) (by decide) (backOf (W := 0) (rm_low l Z a0 hw [] ch h0 n0 O0 ) hZ (hw _ (List.mem_of_getElem? (i := 56) rfl)) (hw _ (List.mem_of_getElem? (i := 55) rfl)) (by decide) (by decide)) (g := (mkF m 1 #[iv ch] [(.int ch)])) rfl (by rw [hml]; rfl) (argsL := [(.int ch)]) (rest := []) (lenOf pd_0 rfl) rfl (by show 2 * 0 + _ ≤ _; exact Nat.le_of_eq rfl) (hb hby d25_1) (fun _ _ => ⟨rfl, e0, (by decide : 0 + 0 ≤ _), (by decide : 0 + 0 ≤ _)⟩)
  dsimp only [Pt.U, Pt.locs, Pt.cells, Pt.slots] at X102 l102 y102 z102 st102 hQ102
  subst y102 z102
  obtain ⟨r103, rfl, M102, e102, y104, y105⟩ := hQ102
  have N102 : Fr n0 L102 := by rw [l102]; exact Fr.app N0 M102
  have g106 : Go p e below T102 (mkF m 4 #[iv ch] [(.int r103)]) A0 := fun t kont => g101 t (st102 t kont)
  rcases (y104 : r103 = (0 : Int32) ∨ r103 = (1 : Int32)) with c107 | c107
  ·
    subst c107
    have qlw : ¬ (97 ≤ ch.toInt ∧ ch.toInt ≤ 122) := fun z => absurd (y105.mpr z) (by decide)
    have g109 : Go p e below T102 (mkF m 10 #[iv ch] [(.int (48 : Int32)), (.int ch)]) A0 := by
      intro t kont
      refine g106 t ?_
      refine XS.ifNo X102.here hx rfl (hb hby d25_4) rfl ((if0 _ _).trans (teq (by decide : (0 : Int32) = (0 : Int32))).2) ?_
      refine XS.iloadN X102.here hx rfl (hb hby d25_7) rfl ?_
      refine XS.bipush X102.here hx rfl (hb hby d25_8) ?_
      exact kont
    by_cases c108 : ch < (48 : Int32)
    ·
      have q110 : ch.toInt < 48 := Int32.lt_iff_toInt_lt.mp c108
      have g112 : Go p e below T102 (mkF m 22 #[iv ch] [(.int (95 : Int32)), (.int ch)]) A0 := by
        intro t kont
        refine g109 t ?_
        refine XS.icmpYes X102.here hx rfl (pc0 := 10) (pc' := 19) rfl (hb hby d25_10) rfl (tlt c108).1 (by decide) (by decide) ?_
        refine XS.iloadN X102.here hx rfl (hb hby d25_19) rfl ?_
        refine XS.bipush X102.here hx rfl (hb hby d25_20) ?_
        exact kont
      by_cases c111 : ch = (95 : Int32)
      ·
        have q113 : ch.toInt = 95 := congrArg Int32.toInt c111
        have g114 : Go p e below T102 (mkF m 30 #[iv ch] [(.int (1 : Int32))]) A0 := by
          intro t kont
          refine g112 t ?_
          refine XS.icmpNo X102.here hx rfl (hb hby d25_22) rfl (teq c111).2 ?_
          refine XS.iconst X102.here hx rfl (hb hby d25_25) ?_
          refine XS.goto X102.here hx rfl (pc0 := 26) (pc' := 30) rfl (hb hby d25_26) (by decide) (by decide) ?_
          exact kont
        obtain ⟨fs, hr, hrun, hended, hW, hsame⟩ := X102.leave (v := some (.int (1 : Int32))) (fun h => by rw [Bd.returns] at h; cases h)
        refine ⟨_, _, g114 _ (retN X102 hx (t := .boolean) Bd.returns (by simp) (hb hby d25_30) hr), hrun, hended, _, _, rfl, ?_, ⟨_, rfl⟩, hW, hsame.mono (by decide) (by decide)⟩
        show Q_tail Z ch h0 n0 _ T102.heap _
        rw [e102]
        exact ⟨(1 : Int32), rfl, N102, rfl, Or.inr rfl, by unfold own_tl; exact iff_of_true rfl (by omega)⟩
      have q115 : ¬ (ch.toInt = 95) := fun z => c111 (Int32.toInt_inj.mp z)
      have g116 : Go p e below T102 (mkF m 30 #[iv ch] [(.int (0 : Int32))]) A0 := by
        intro t kont
        refine g112 t ?_
        refine XS.icmpYes X102.here hx rfl (pc0 := 22) (pc' := 29) rfl (hb hby d25_22) rfl (feq c111).2 (by decide) (by decide) ?_
        refine XS.iconst X102.here hx rfl (hb hby d25_29) ?_
        exact kont
      obtain ⟨fs, hr, hrun, hended, hW, hsame⟩ := X102.leave (v := some (.int (0 : Int32))) (fun h => by rw [Bd.returns] at h; cases h)
      refine ⟨_, _, g116 _ (retN X102 hx (t := .boolean) Bd.returns (by simp) (hb hby d25_30) hr), hrun, hended, _, _, rfl, ?_, ⟨_, rfl⟩, hW, hsame.mono (by decide) (by decide)⟩
      show Q_tail Z ch h0 n0 _ T102.heap _
      rw [e102]
      exact ⟨(0 : Int32), rfl, N102, rfl, Or.inl rfl, by unfold own_tl; exact iff_of_false (by decide) (by omega)⟩
    have q117 : ¬ (ch.toInt < 48) := fun z => c108 (Int32.lt_iff_toInt_lt.mpr z)
    have g119 : Go p e below T102 (mkF m 16 #[iv ch] [(.int (57 : Int32)), (.int ch)]) A0 := by
      intro t kont
      refine g109 t ?_
      refine XS.icmpNo X102.here hx rfl (hb hby d25_10) rfl (flt c108).1 ?_
      refine XS.iloadN X102.here hx rfl (hb hby d25_13) rfl ?_
      refine XS.bipush X102.here hx rfl (hb hby d25_14) ?_
      exact kont
    by_cases c118 : (57 : Int32) < ch
    ·
      have q120 : 57 < ch.toInt := Int32.lt_iff_toInt_lt.mp c118
      have g122 : Go p e below T102 (mkF m 22 #[iv ch] [(.int (95 : Int32)), (.int ch)]) A0 := by
        intro t kont
        refine g119 t ?_
        refine XS.icmpNo X102.here hx rfl (hb hby d25_16) rfl (tlt c118).2.2.2 ?_
        refine XS.iloadN X102.here hx rfl (hb hby d25_19) rfl ?_
        refine XS.bipush X102.here hx rfl (hb hby d25_20) ?_
        exact kont
      by_cases c121 : ch = (95 : Int32)
      ·
        have q123 : ch.toInt = 95 := congrArg Int32.toInt c121
        have g124 : Go p e below T102 (mkF m 30 #[iv ch] [(.int (1 : Int32))]) A0 := by
          intro t kont
          refine g122 t ?_
          refine XS.icmpNo X102.here hx rfl (hb hby d25_22) rfl (teq c121).2 ?_
          refine XS.iconst X102.here hx rfl (hb hby d25_25) ?_
          refine XS.goto X102.here hx rfl (pc0 := 26) (pc' := 30) rfl (hb hby d25_26) (by decide) (by decide) ?_
          exact kont
        obtain ⟨fs, hr, hrun, hended, hW, hsame⟩ := X102.leave (v := some (.int (1 : Int32))) (fun h => by rw [Bd.returns] at h; cases h)
        refine ⟨_, _, g124 _ (retN X102 hx (t := .boolean) Bd.returns (by simp) (hb hby d25_30) hr), hrun, hended, _, _, rfl, ?_, ⟨_, rfl⟩, hW, hsame.mono (by decide) (by decide)⟩
        show Q_tail Z ch h0 n0 _ T102.heap _
        rw [e102]
        exact ⟨(1 : Int32), rfl, N102, rfl, Or.inr rfl, by unfold own_tl; exact iff_of_true rfl (by omega)⟩
      have q125 : ¬ (ch.toInt = 95) := fun z => c121 (Int32.toInt_inj.mp z)
      have g126 : Go p e below T102 (mkF m 30 #[iv ch] [(.int (0 : Int32))]) A0 := by
        intro t kont
        refine g122 t ?_
        refine XS.icmpYes X102.here hx rfl (pc0 := 22) (pc' := 29) rfl (hb hby d25_22) rfl (feq c121).2 (by decide) (by decide) ?_
        refine XS.iconst X102.here hx rfl (hb hby d25_29) ?_
        exact kont
      obtain ⟨fs, hr, hrun, hended, hW, hsame⟩ := X102.leave (v := some (.int (0 : Int32))) (fun h => by rw [Bd.returns] at h; cases h)
      refine ⟨_, _, g126 _ (retN X102 hx (t := .boolean) Bd.returns (by simp) (hb hby d25_30) hr), hrun, hended, _, _, rfl, ?_, ⟨_, rfl⟩, hW, hsame.mono (by decide) (by decide)⟩
      show Q_tail Z ch h0 n0 _ T102.heap _
      rw [e102]
      exact ⟨(0 : Int32), rfl, N102, rfl, Or.inl rfl, by unfold own_tl; exact iff_of_false (by decide) (by omega)⟩
    have q127 : ¬ (57 < ch.toInt) := fun z => c118 (Int32.lt_iff_toInt_lt.mpr z)
    have g128 : Go p e below T102 (mkF m 30 #[iv ch] [(.int (1 : Int32))]) A0 := by
      intro t kont
      refine g119 t ?_
      refine XS.icmpYes X102.here hx rfl (pc0 := 16) (pc' := 25) rfl (hb hby d25_16) rfl (flt c118).2.2.2 (by decide) (by decide) ?_
      refine XS.iconst X102.here hx rfl (hb hby d25_25) ?_
      refine XS.goto X102.here hx rfl (pc0 := 26) (pc' := 30) rfl (hb hby d25_26) (by decide) (by decide) ?_
      exact kont
    obtain ⟨fs, hr, hrun, hended, hW, hsame⟩ := X102.leave (v := some (.int (1 : Int32))) (fun h => by rw [Bd.returns] at h; cases h)
    refine ⟨_, _, g128 _ (retN X102 hx (t := .boolean) Bd.returns (by simp) (hb hby d25_30) hr), hrun, hended, _, _, rfl, ?_, ⟨_, rfl⟩, hW, hsame.mono (by decide) (by decide)⟩
    show Q_tail Z ch h0 n0 _ T102.heap _
    rw [e102]
    exact ⟨(1 : Int32), rfl, N102, rfl, Or.inr rfl, by unfold own_tl; exact iff_of_true rfl (by omega)⟩
  subst c107
  have qlw : 97 ≤ ch.toInt ∧ ch.toInt ≤ 122 := y105.mp rfl
  have g129 : Go p e below T102 (mkF m 30 #[iv ch] [(.int (1 : Int32))]) A0 := by
    intro t kont
    refine g106 t ?_
    refine XS.ifYes X102.here hx rfl (pc0 := 4) (pc' := 25) rfl (hb hby d25_4) rfl ((if0 _ _).trans (feq (by decide : ¬ ((1 : Int32) = (0 : Int32)))).2) (by decide) (by decide) ?_
    refine XS.iconst X102.here hx rfl (hb hby d25_25) ?_
    refine XS.goto X102.here hx rfl (pc0 := 26) (pc' := 30) rfl (hb hby d25_26) (by decide) (by decide) ?_
    exact kont
  obtain ⟨fs, hr, hrun, hended, hW, hsame⟩ := X102.leave (v := some (.int (1 : Int32))) (fun h => by rw [Bd.returns] at h; cases h)
  refine ⟨_, _, g129 _ (retN X102 hx (t := .boolean) Bd.returns (by simp) (hb hby d25_30) hr), hrun, hended, _, _, rfl, ?_, ⟨_, rfl⟩, hW, hsame.mono (by decide) (by decide)⟩
  show Q_tail Z ch h0 n0 _ T102.heap _
  rw [e102]
  exact ⟨(1 : Int32), rfl, N102, rfl, Or.inr rfl, by unfold own_tl; exact iff_of_true rfl (by omega)⟩
theorem d2_0 : decode jdk_42_method_149_code 0 = .ok (.aload_n 0, 1) := by decide +kernel
theorem d2_1 : decode jdk_42_method_149_code 1 = .ok (.invokespecial 1, 3) := by decide +kernel
theorem d2_4 : decode jdk_42_method_149_code 4 = .ok (.iload_n 3, 1) := by decide +kernel
theorem d2_5 : decode jdk_42_method_149_code 5 = .ok (.ifCond .ne 22, 3) := by decide +kernel
theorem d2_8 : decode jdk_42_method_149_code 8 = .ok (.aload_n 0, 1) := by decide +kernel
theorem d2_9 : decode jdk_42_method_149_code 9 = .ok (.ldc 7, 2) := by decide +kernel
theorem d2_11 : decode jdk_42_method_149_code 11 = .ok (.getfield 9, 3) := by decide +kernel
theorem d2_14 : decode jdk_42_method_149_code 14 = .ok (.putfield 9, 3) := by decide +kernel
theorem d2_17 : decode jdk_42_method_149_code 17 = .ok (.aload_n 0, 1) := by decide +kernel
theorem d2_18 : decode jdk_42_method_149_code 18 = .ok (.ldc 7, 2) := by decide +kernel
theorem d2_20 : decode jdk_42_method_149_code 20 = .ok (.getfield 15, 3) := by decide +kernel
theorem d2_23 : decode jdk_42_method_149_code 23 = .ok (.putfield 15, 3) := by decide +kernel
theorem d2_26 : decode jdk_42_method_149_code 26 = .ok (.return_, 1) := by decide +kernel
theorem pn_java_lang_String : plainName "java/lang/String" = true := by first | (simp [plainName, overriddenIn]; done) | decide +kernel
theorem ef_sin0 (m : MethodId) (x0 : Addr) (x1 : Addr) (x2 : Int32) (x3 : Int32)  : entryFrame m #[(.ref x0), (.ref x1), (.int x2), (.int x3), .null] 6 = mkF m 0 #[.val (.ref x0), .val (.ref x1), .val (.int x2), .val (.int x3), .val .null, .unset] [] := by first | (simp [entryFrame, mkF, argsToLocals, Value.category]; done) | rfl
def Q_sin0 (Z : State) (a1 : Addr) (s1 : Addr) (h0 : Heap) (n0 : Nat) (v : Option Value) (h : Heap) (L : List Loc) : Prop := ∃ (r : Addr), ∃ (kid : ClassId), v = none ∧ Fr n0 L ∧ Keep h0 h [a1] ∧ (Exa Z h a1 "java/lang/String") ∧ (Fld Z h a1 "java/lang/String" "coder" "B" (.int (0 : Int32))) ∧ (Fld Z h a1 "java/lang/String" "value" "[B" (.ref r)) ∧ (Arv Z h r kid .byte (0 : Int32) [] (.int (0 : Int32)))
set_option maxRecDepth 65536 in
set_option maxHeartbeats 40000000 in
theorem rm_sin0 (l : Launch) (Z : State) (a0 : Array Value) (hw : ∀ d ∈ tables_1, d.before a0 Z = true) (ws : List Jvm.Cond) (a1 : Addr) (s1 : Addr) (h0 : Heap) (n0 : Nat) (O0 : Old Z n0 h0) (F0_ : Fld Z h0 a1 "java/lang/String" "value" "[B" .null) (F1_ : Fld Z h0 a1 "java/lang/String" "coder" "B" (.int (0 : Int32))) (E2_ : Exa Z h0 a1 "java/lang/String") (G3_ : n0 ≤ a1) :
    MetFree l (⟨"java/lang/String", "<init>", "([CIILjava/lang/Void;)V"⟩ : MethodName) (head1 (Jvm.Cond.code (⟨"java/lang/String", "<init>", "([CIILjava/lang/Void;)V"⟩ : MethodName) jdk_42_method_149_code 6 none :: ws) ({ frames := 1, cells := 4, slots := 8, locals := 12 } : Room)) (fun a U => a = #[(.ref a1), (.ref s1), (.int (0 : Int32)), (.int (0 : Int32)), .null] ∧ Z.Warmed39 U.vm ∧ U.heap = h0 ∧ CHv Z consts_1 U.vm h0) (fun _ _ _ _ _ => True) (fun _ U o U' => ∃ v L, o = .returned v ∧ Q_sin0 Z a1 s1 h0 n0 v U'.heap L ∧ CHr Z consts_1 U.vm U.heap U'.vm U'.heap ∧ ReturnedEndW U o U' L ({ frames := 1, cells := 4, slots := 8, locals := 12 } : Room).cells ({ frames := 1, cells := 4, slots := 8, locals := 12 } : Room).slots) := by
  refine MetFree.of_bodySF (plainFor_of_name pn_java_lang_String) hisR ?_
  intro p e s m args below meth c s₁ Bd hml0 hP hK
  obtain ⟨rfl, hZ, hh, hC0⟩ := hP
  have hx := Bd.exec
  have hby := Bd.bytes
  have hml : c.maxLocals = 6 := hml0
  have hown : s.vm.findClass "java/lang/String" = some m.cls := findClass_of_methodNamed Bd.named
  have hnm := (name_of_methodNamed Bd.named Bd.method).1
  have X0 : Stand p l e ({ frames := 1, cells := 4, slots := 8, locals := 12 } : Room) (s.setVm s.vm) m #[(.ref a1), (.ref s1), (.int (0 : Int32)), (.int (0 : Int32)), .null] below meth c s₁ [] 0 0 := Stand.of_body Bd
  have e0 : s₁.heap = h0 := by rw [← hh, Bd.state]; rfl
  have N0 := Fr.nil n0
  have hS : s.Since s.vm 0 := (State.WarmedH.refl s).since 0
  have hk : 0 ≤ h0.size := Nat.zero_le _
  have hZ : Z.Warmed39 (s.setVm s.vm).vm := hZ
  have hown : (s.setVm s.vm).vm.findClass "java/lang/String" = some m.cls := hown
  have R0 : CHr Z consts_1 s.vm h0 s.vm h0 := CHr.refl hC0
  have g0 : Go p e below s₁ (mkF m 0 #[rv a1, rv s1, iv (0 : Int32), iv (0 : Int32), .val .null, .unset] []) (s₁.setTop (entryFrame m #[(.ref a1), (.ref s1), (.int (0 : Int32)), (.int (0 : Int32)), .null] 6)) := fun t kont => castTop (ef_sin0 m a1 s1 (0 : Int32) (0 : Int32) ) kont
  generalize s₁.setTop (entryFrame m #[(.ref a1), (.ref s1), (.int (0 : Int32)), (.int (0 : Int32)), .null] 6) = A0 at g0 ⊢
  have g101 : Go p e below s₁ (mkF m 1 #[rv a1, rv s1, iv (0 : Int32), iv (0 : Int32), .val .null, .unset] [(.ref a1)]) A0 := by
    intro t kont
    refine g0 t ?_
    refine XS.aloadN X0.here hx rfl (hb hby d2_0) rfl rfl ?_
    exact kont
  obtain ⟨T102, X102, e102, st102⟩ := initO X0 hx hZ hown (hw _ (List.mem_of_getElem? (i := 12) rfl)) (hw _ (List.mem_of_getElem? (i := 13) rfl)) (hw _ (List.mem_of_getElem? (i := 14) rfl)) e0 (g := (mkF m 1 #[rv a1, rv s1, iv (0 : Int32), iv (0 : Int32), .val .null, .unset] [(.ref a1)])) rfl (by rw [hml]; rfl) rfl (hb hby d2_1) (by decide) (W := 0) (by show 2 * 0 + _ ≤ _; exact Nat.le_of_eq rfl) (by decide)
  have g103 : Go p e below T102 (mkF m 4 #[rv a1, rv s1, iv (0 : Int32), iv (0 : Int32), .val .null, .unset] []) A0 := fun t kont => g101 t (st102 t kont)
  have g104 : Go p e below T102 (mkF m 9 #[rv a1, rv s1, iv (0 : Int32), iv (0 : Int32), .val .null, .unset] [(.ref a1)]) A0 := by
    intro t kont
    refine g103 t ?_
    refine XS.iloadN X102.here hx rfl (hb hby d2_4) rfl ?_
    refine XS.ifNo X102.here hx rfl (hb hby d2_5) rfl ((if0 _ _).trans (teq (by decide : (0 : Int32) = (0 : Int32))).2) ?_
    refine XS.aloadN X102.here hx rfl (hb hby d2_8) rfl rfl ?_
    exact kont
  have sf106 : Safe Z consts_1 s.vm h0 a1 := own_safe_null hZ.alike E2_ F0_
  obtain ⟨b105, T105, h105, k105, c105, kc105, X105, e105, E105, hS, hk, hZ, hown, A105, F105, G105, V105, la105, lb105, C105, -, ne105, st105⟩ := ldcCH X102 hx hZ hown (hw _ (List.mem_of_getElem? (i := 15) rfl)) (own_wS hw) e102 hS hk (own_EW hw) (List.mem_of_getElem? (i := 0) rfl) R0.1 (vs := []) (z := (0 : Int32)) ⟨by decide, by decide⟩ (by decide) rfl (g := (mkF m 9 #[rv a1, rv s1, iv (0 : Int32), iv (0 : Int32), .val .null, .unset] [(.ref a1)])) rfl (hb hby d2_9) (n := 0) (by decide) (by decide) (by decide) (by decide)
  have R107 : CHr Z consts_1 s.vm h0 T105.vm h105 := R0.trans C105
  have O108 := O0.ext E105
  have sf109 : Safe Z consts_1 T105.vm h105 a1 := (CHr.safe C105 F0_.lt sf106)
  have hn110 := ne105 a1 sf109
  have g111 : Go p e below T105 (mkF m 11 #[rv a1, rv s1, iv (0 : Int32), iv (0 : Int32), .val .null, .unset] [(.ref b105), (.ref a1)]) A0 := fun t kont => g104 t (st105 t kont)
  obtain ⟨T112, X112, e112, st112⟩ := getF X105 hx hZ hown (host := "") (Or.inl (hw _ (List.mem_of_getElem? (i := 21) rfl))) Via.refl e105 G105 (g := (mkF m 11 #[rv a1, rv s1, iv (0 : Int32), iv (0 : Int32), .val .null, .unset] [(.ref b105), (.ref a1)])) rfl rfl (hb hby d2_11)
  have g113 : Go p e below T112 (mkF m 14 #[rv a1, rv s1, iv (0 : Int32), iv (0 : Int32), .val .null, .unset] [(.ref c105), (.ref a1)]) A0 := fun t kont => g111 t (st112 t kont)
  have y114 : Exa Z h105 a1 "java/lang/String" := (E2_.ext E105)
  have y115 : Fld Z h105 a1 "java/lang/String" "value" "[B" .null := (F0_.ext E105)
  obtain ⟨T116, h116, X116, e116, W116, st116⟩ := putF X112 hx hZ hown (host := "") (Or.inl (hw _ (List.mem_of_getElem? (i := 21) rfl))) Via.refl e112 y115 y114 (Or.inr ⟨(hw _ (List.mem_of_getElem? (i := 17) rfl)), rfl, hnm⟩) (hw _ (List.mem_of_getElem? (i := 2) rfl)) (ty := (.array .byte)) (by decide) rfl rfl (g := (mkF m 14 #[rv a1, rv s1, iv (0 : Int32), iv (0 : Int32), .val .null, .unset] [(.ref c105), (.ref a1)])) rfl rfl (hb hby d2_14)
  have R117 : CHr Z consts_1 s.vm h0 T105.vm h116 := R107.trans (CHr.wr W116 sf109 R107.1)
  have O118 := O108.wr W116 G3_
  have y119 : Fld Z h116 a1 "java/lang/String" "value" "[B" (.ref c105) := y115.same W116
  have N116 := Fr.snoc X116 N0 G3_
  have g120 : Go p e below T116 (mkF m 17 #[rv a1, rv s1, iv (0 : Int32), iv (0 : Int32), .val .null, .unset] []) A0 := fun t kont => g113 t (st116 t kont)
  have g121 : Go p e below T116 (mkF m 18 #[rv a1, rv s1, iv (0 : Int32), iv (0 : Int32), .val .null, .unset] [(.ref a1)]) A0 := by
    intro t kont
    refine g120 t ?_
    refine XS.aloadN X116.here hx rfl (hb hby d2_17) rfl rfl ?_
    exact kont
  obtain ⟨b122, T122, h122, k122, c122, kc122, X122, e122, E122, hS, hk, hZ, hown, A122, F122, G122, V122, la122, lb122, C122, -, ne122, st122⟩ := ldcCH X116 hx hZ hown (hw _ (List.mem_of_getElem? (i := 15) rfl)) (own_wS hw) e116 hS (Nat.le_trans hk (Keep.of_wr W116).1) (own_EW hw) (List.mem_of_getElem? (i := 0) rfl) R117.1 (vs := []) (z := (0 : Int32)) ⟨by decide, by decide⟩ (by decide) rfl (g := (mkF m 18 #[rv a1, rv s1, iv (0 : Int32), iv (0 : Int32), .val .null, .unset] [(.ref a1)])) rfl (hb hby d2_18) (n := 0) (by decide) (by decide) (by decide) (by decide)
  have R123 : CHr Z consts_1 s.vm h0 T122.vm h122 := R117.trans C122
  have O124 := O118.ext E122
  have sf125 : Safe Z consts_1 T122.vm h122 a1 := (CHr.safe C122 (Nat.lt_of_lt_of_le F0_.lt (Nat.le_trans E105.1 (Keep.of_wr W116).1)) (Safe.wr W116 sf109 R107.1 sf109))
  have hn126 := ne122 a1 sf125
  have g127 : Go p e below T122 (mkF m 20 #[rv a1, rv s1, iv (0 : Int32), iv (0 : Int32), .val .null, .unset] [(.ref b122), (.ref a1)]) A0 := fun t kont => g121 t (st122 t kont)
  obtain ⟨T128, X128, e128, st128⟩ := getF X122 hx hZ hown (host := "") (Or.inl (hw _ (List.mem_of_getElem? (i := 22) rfl))) Via.refl e122 F122 (g := (mkF m 20 #[rv a1, rv s1, iv (0 : Int32), iv (0 : Int32), .val .null, .unset] [(.ref b122), (.ref a1)])) rfl rfl (hb hby d2_20)
  have g129 : Go p e below T128 (mkF m 23 #[rv a1, rv s1, iv (0 : Int32), iv (0 : Int32), .val .null, .unset] [(.int (0 : Int32)), (.ref a1)]) A0 := fun t kont => g127 t (st128 t kont)
  have y130 : Exa Z h122 a1 "java/lang/String" := ((y114.wr W116).ext E122)
  have y131 : Fld Z h122 a1 "java/lang/String" "coder" "B" (.int (0 : Int32)) := (((F1_.ext E105).other W116 (Or.inr (slot_ne (Or.inr (hw _ (List.mem_of_getElem? (i := 18) rfl))) (Or.inr (hw _ (List.mem_of_getElem? (i := 17) rfl))) (by decide) (t := .byte) (t' := (.array .byte)) (by decide) (by decide)))).ext E122)
  obtain ⟨T132, h132, X132, e132, W132, st132⟩ := putFN X128 hx hZ hown (hw _ (List.mem_of_getElem? (i := 22) rfl)) Via.refl e128 y131 y130 (Or.inr ⟨(hw _ (List.mem_of_getElem? (i := 18) rfl)), rfl, hnm⟩) (hw _ (List.mem_of_getElem? (i := 2) rfl)) (ty := .byte) (v := (.int (0 : Int32))) (v' := (.int (0 : Int32))) (by decide) (own_nw_byte (by decide : nar .byte (0 : Int32) = (0 : Int32))) (own_ft_byte (by decide : nar .byte (0 : Int32) = (0 : Int32))) (g := (mkF m 23 #[rv a1, rv s1, iv (0 : Int32), iv (0 : Int32), .val .null, .unset] [(.int (0 : Int32)), (.ref a1)])) rfl rfl (hb hby d2_23)
  have R133 : CHr Z consts_1 s.vm h0 T122.vm h132 := R123.trans (CHr.wr W132 sf125 R123.1)
  have O134 := O124.wr W132 G3_
  have y135 : Fld Z h132 a1 "java/lang/String" "coder" "B" (.int (0 : Int32)) := y131.same W132
  have N132 := Fr.snoc X132 N116 G3_
  have g136 : Go p e below T132 (mkF m 26 #[rv a1, rv s1, iv (0 : Int32), iv (0 : Int32), .val .null, .unset] []) A0 := fun t kont => g129 t (st132 t kont)
  have K137 : Keep h0 h132 [a1] := (((((Keep.refl h0 [a1]).ext E105).wr W116 (Or.inl (List.mem_of_getElem? (i := 0) rfl))).ext E122).wr W132 (Or.inl (List.mem_of_getElem? (i := 0) rfl)))
  have y138 : Exa Z h132 a1 "java/lang/String" := (y130.wr W132)
  have y139 : Fld Z h132 a1 "java/lang/String" "value" "[B" (.ref c105) := ((y119.ext E122).other W132 (Or.inr (slot_ne (Or.inr (hw _ (List.mem_of_getElem? (i := 17) rfl))) (Or.inr (hw _ (List.mem_of_getElem? (i := 18) rfl))) (by decide) (t := (.array .byte)) (t' := .byte) (by decide) (by decide))))
  have y140 : Arv Z h132 c105 kc105 .byte (0 : Int32) [] (.int (0 : Int32)) := (((V105.other W116 (Ne.symm hn110.2)).ext E122).other W132 (Ne.symm hn110.2))
  obtain ⟨fs, hr, hrun, hended, hRW⟩ := X132.leaveW hS (by rw [e132]; exact (Nat.le_trans hk (Keep.of_wr W132).1)) (v := none) (fun _ => rfl)
  refine ⟨_, _, g136 _ (X132.returnOut hx Bd.returns (hb hby d2_26) hr), hrun, hended, _, _, rfl, ?_, ?_, hRW.1, hRW.2.1, hRW.2.2.1, hRW.2.2.2.mono (by decide) (by decide)⟩
  ·
    show Q_sin0 Z a1 s1 h0 n0 _ T132.heap _
    rw [e132]
    exact ⟨c105, kc105, rfl, N132, K137, y138, y135, y139, y140⟩
  ·
    rw [hh]
    show CHr Z consts_1 s.vm h0 T132.vm T132.heap
    rw [e132]
    exact R133.trans (CHv.at X132 hZ (own_EW hw) R133.1)
theorem d1_0 : decode jdk_42_method_3_code 0 = .ok (.aload_n 0, 1) := by decide +kernel
theorem d1_1 : decode jdk_42_method_3_code 1 = .ok (.aload_n 1, 1) := by decide +kernel
theorem d1_2 : decode jdk_42_method_3_code 2 = .ok (.iconst 0, 1) := by decide +kernel
theorem d1_3 : decode jdk_42_method_3_code 3 = .ok (.aload_n 1, 1) := by decide +kernel
theorem d1_4 : decode jdk_42_method_3_code 4 = .ok (.arraylength, 1) := by decide +kernel
theorem d1_5 : decode jdk_42_method_3_code 5 = .ok (.aconst_null, 1) := by decide +kernel
theorem d1_6 : decode jdk_42_method_3_code 6 = .ok (.invokespecial 27, 3) := by decide +kernel
theorem pd_1 : parseMethodDescriptor "([CIILjava/lang/Void;)V" = some ⟨[(.array .char), .int, .int, (.object "java/lang/Void")], none⟩ := by decide +kernel
theorem d1_9 : decode jdk_42_method_3_code 9 = .ok (.return_, 1) := by decide +kernel
theorem ef_sIni0 (m : MethodId) (x0 : Addr) (x1 : Addr)  : entryFrame m #[(.ref x0), (.ref x1)] 2 = mkF m 0 #[.val (.ref x0), .val (.ref x1)] [] := by first | (simp [entryFrame, mkF, argsToLocals, Value.category]; done) | rfl
def Q_sIni0 (Z : State) (a1 : Addr) (s1 : Addr) (ks : ClassId) (h0 : Heap) (n0 : Nat) (v : Option Value) (h : Heap) (L : List Loc) : Prop := ∃ (r : Addr), ∃ (kid : ClassId), v = none ∧ Fr n0 L ∧ Keep h0 h [a1] ∧ (Exa Z h a1 "java/lang/String") ∧ (Fld Z h a1 "java/lang/String" "coder" "B" (.int (0 : Int32))) ∧ (Fld Z h a1 "java/lang/String" "value" "[B" (.ref r)) ∧ (Arv Z h r kid .byte (0 : Int32) [] (.int (0 : Int32)))
set_option maxRecDepth 65536 in
set_option maxHeartbeats 40000000 in
theorem rm_sIni0 (l : Launch) (Z : State) (a0 : Array Value) (hw : ∀ d ∈ tables_1, d.before a0 Z = true) (ws : List Jvm.Cond) (a1 : Addr) (s1 : Addr) (ks : ClassId) (h0 : Heap) (n0 : Nat) (O0 : Old Z n0 h0) (F0_ : Fld Z h0 a1 "java/lang/String" "value" "[B" .null) (F1_ : Fld Z h0 a1 "java/lang/String" "coder" "B" (.int (0 : Int32))) (E2_ : Exa Z h0 a1 "java/lang/String") (G3_ : n0 ≤ a1) (A4_ : Arv Z h0 s1 ks .char (0 : Int32) [] (.int (0 : Int32))) :
    MetFree l (⟨"java/lang/String", "<init>", "([C)V"⟩ : MethodName) (head1 (Jvm.Cond.code (⟨"java/lang/String", "<init>", "([C)V"⟩ : MethodName) jdk_42_method_3_code 2 none :: ws) ({ frames := 2, cells := 4, slots := 8, locals := 29 } : Room)) (fun a U => a = #[(.ref a1), (.ref s1)] ∧ Z.Warmed39 U.vm ∧ U.heap = h0 ∧ CHv Z consts_1 U.vm h0) (fun _ _ _ _ _ => True) (fun _ U o U' => ∃ v L, o = .returned v ∧ Q_sIni0 Z a1 s1 ks h0 n0 v U'.heap L ∧ CHr Z consts_1 U.vm U.heap U'.vm U'.heap ∧ ReturnedEndW U o U' L ({ frames := 2, cells := 4, slots := 8, locals := 29 } : Room).cells ({ frames := 2, cells := 4, slots := 8, locals := 29 } : Room).slots) := by
  refine MetFree.of_bodySF (plainFor_of_name pn_java_lang_String) hisR ?_
  intro p e s m args below meth c s₁ Bd hml0 hP hK
  obtain ⟨rfl, hZ, hh, hC0⟩ := hP
  have hx := Bd.exec
  have hby := Bd.bytes
  have hml : c.maxLocals = 2 := hml0
  have hown : s.vm.findClass "java/lang/String" = some m.cls := findClass_of_methodNamed Bd.named
  have hnm := (name_of_methodNamed Bd.named Bd.method).1
  have X0 : Stand p l e ({ frames := 2, cells := 4, slots := 8, locals := 29 } : Room) (s.setVm s.vm) m #[(.ref a1), (.ref s1)] below meth c s₁ [] 0 0 := Stand.of_body Bd
  have e0 : s₁.heap = h0 := by rw [← hh, Bd.state]; rfl
  have N0 := Fr.nil n0
  have hS : s.Since s.vm 0 := (State.WarmedH.refl s).since 0
  have hk : 0 ≤ h0.size := Nat.zero_le _
  have hZ : Z.Warmed39 (s.setVm s.vm).vm := hZ
  have hown : (s.setVm s.vm).vm.findClass "java/lang/String" = some m.cls := hown
  have R0 : CHr Z consts_1 s.vm h0 s.vm h0 := CHr.refl hC0
  have g0 : Go p e below s₁ (mkF m 0 #[rv a1, rv s1] []) (s₁.setTop (entryFrame m #[(.ref a1), (.ref s1)] 2)) := fun t kont => castTop (ef_sIni0 m a1 s1 ) kont
  generalize s₁.setTop (entryFrame m #[(.ref a1), (.ref s1)] 2) = A0 at g0 ⊢
  have g101 : Go p e below s₁ (mkF m 4 #[rv a1, rv s1] [(.ref s1), (.int (0 : Int32)), (.ref s1), (.ref a1)]) A0 := by
    intro t kont
    refine g0 t ?_
    refine XS.aloadN X0.here hx rfl (hb hby d1_0) rfl rfl ?_
    refine XS.aloadN X0.here hx rfl (hb hby d1_1) rfl rfl ?_
    refine XS.iconst X0.here hx rfl (hb hby d1_2) ?_
    refine XS.aloadN X0.here hx rfl (hb hby d1_3) rfl rfl ?_
    exact kont
  have zz102 := A4_
  obtain ⟨cl102, Ar102, -, S102, M102, -, -⟩ := zz102
  have g103 : Go p e below s₁ (mkF m 5 #[rv a1, rv s1] [(.int (0 : Int32)), (.int (0 : Int32)), (.ref s1), (.ref a1)]) A0 := by
    intro t kont
    refine g101 t ?_
    refine X0.arraylength hx (by rw [e0]; exact Ar102.1) (State.isArrayOf_alike hZ.alike Ar102.2.1) (g := (mkF m 4 #[rv a1, rv s1] [(.ref s1), (.int (0 : Int32)), (.ref s1), (.ref a1)])) rfl rfl (hb hby d1_4) _ ?_
    rw [len_of S102 M102]
    exact kont
  have g104 : Go p e below s₁ (mkF m 6 #[rv a1, rv s1] [.null, (.int (0 : Int32)), (.int (0 : Int32)), (.ref s1), (.ref a1)]) A0 := by
    intro t kont
    refine g103 t ?_
    refine XS.aconstNull X0.here hx rfl (hb hby d1_5) ?_
    exact kont
  obtain ⟨_, _, ⟨T105, L105, k105, n105⟩, -, X105, hS105, hg105, ⟨Lc105, hQ105, l105, y105, z105, C105⟩, st105⟩ := X0.specialBackS hx (y := (⟨"java/lang/String", "<init>", "([CIILjava/lang/Void;)V"⟩ : MethodName)) rfl hown (mvT hZ (hw _ (List.mem_of_getElem? (i := 8) rfl))) (mvT hZ (hw _ (List.mem_of_getElem? (i := 9) rfl))) (mvT hZ (hw _ (List.mem_of_getElem? (i := 11) rfl))) (by decide) (backOfSH (W := 0) (rm_sin0 l Z a0 hw [] a1 s1 h0 n0 O0 F0_ F1_ E2_ G3_) hZ (hw _ (List.mem_of_getElem? (i := 11) rfl)) (hw _ (List.mem_of_getElem? (i := 3) rfl)) (by decide) (by decide) (own_EW hw) R0.1) (g := (mkF m 6 #[rv a1, rv s1] [.null, (.int (0 : Int32)), (.int (0 : Int32)), (.ref s1), (.ref a1)])) rfl (by rw [hml]; rfl) (Steps.refl _) (a := a1) (argsL := [(.ref s1), (.int (0 : Int32)), (.int (0 : Int32)), .null]) (rest := []) (lenOf pd_1 rfl) rfl (by show 2 * 0 + _ ≤ _; exact Nat.le_of_eq rfl) (hb hby d1_6) (fun _ _ => ⟨rfl, e0, (by decide : 0 + 4 ≤ _), (by decide : 0 + 8 ≤ _)⟩)
  dsimp only [Pt.U, Pt.locs, Pt.cells, Pt.slots] at X105 l105 y105 z105 st105 hQ105 hS105 hg105 C105
  subst y105 z105
  obtain ⟨X105, hS, hZ, hown⟩ := rebS hS (n1 := s₁.heap.size) (by rw [e0]; exact hk) X105 hS105 hg105 hZ hown
  obtain ⟨r106, r107, rfl, M105, K105, y108, y109, y110, y111⟩ := hQ105
  have N105 : Fr n0 L105 := by rw [l105]; exact Fr.app N0 M105
  have R112 : CHr Z consts_1 s.vm h0 T105.vm T105.heap := R0.trans C105
  have O113 := O0.keep K105 (allS G3_ all0)
  have g114 : Go p e below T105 (mkF m 9 #[rv a1, rv s1] []) A0 := fun t kont => g104 t (st105.trans kont)
  have K115 : Keep h0 T105.heap [a1] := ((Keep.refl h0 [a1]).trans K105 (allS (P := fun x => x ∈ [a1] ∨ h0.size ≤ x) (Or.inl (List.mem_of_getElem? (i := 0) rfl)) all0))
  obtain ⟨fs, hr, hrun, hended, hRW⟩ := X105.leaveW hS (Nat.le_refl _) (v := none) (fun _ => rfl)
  refine ⟨_, _, g114 _ (X105.returnOut hx Bd.returns (hb hby d1_9) hr), hrun, hended, _, _, rfl, ?_, ?_, hRW.1, hRW.2.1, hRW.2.2.1, hRW.2.2.2.mono (by decide) (by decide)⟩
  ·
    show Q_sIni0 Z a1 s1 ks h0 n0 _ T105.heap _
    exact ⟨r106, r107, rfl, N105, K115, y108, y109, y110, y111⟩
  ·
    rw [hh]
    show CHr Z consts_1 s.vm h0 T105.vm T105.heap
    exact R112.trans (CHv.at X105 hZ (own_EW hw) R112.1)
theorem d7_0 : decode jdk_52_method_21_code 0 = .ok (.iconst 0, 1) := by decide +kernel
theorem d7_1 : decode jdk_52_method_21_code 1 = .ok (.istore 5, 2) := by decide +kernel
theorem d7_3 : decode jdk_52_method_21_code 3 = .ok (.iload 5, 2) := by decide +kernel
theorem d7_5 : decode jdk_52_method_21_code 5 = .ok (.iload 4, 2) := by decide +kernel
theorem d7_7 : decode jdk_52_method_21_code 7 = .ok (.if_icmp .ge 37, 3) := by decide +kernel
theorem d7_10 : decode jdk_52_method_21_code 10 = .ok (.aload_n 0, 1) := by decide +kernel
theorem d7_11 : decode jdk_52_method_21_code 11 = .ok (.iload_n 1, 1) := by decide +kernel
theorem d7_12 : decode jdk_52_method_21_code 12 = .ok (.caload, 1) := by decide +kernel
theorem d7_13 : decode jdk_52_method_21_code 13 = .ok (.istore 6, 2) := by decide +kernel
theorem d7_15 : decode jdk_52_method_21_code 15 = .ok (.iload 6, 2) := by decide +kernel
theorem d7_17 : decode jdk_52_method_21_code 17 = .ok (.sipush 255, 3) := by decide +kernel
theorem d7_20 : decode jdk_52_method_21_code 20 = .ok (.if_icmp .le 6, 3) := by decide +kernel
theorem d7_26 : decode jdk_52_method_21_code 26 = .ok (.aload_n 2, 1) := by decide +kernel
theorem d7_27 : decode jdk_52_method_21_code 27 = .ok (.iload_n 3, 1) := by decide +kernel
theorem d7_28 : decode jdk_52_method_21_code 28 = .ok (.iload 6, 2) := by decide +kernel
theorem d7_30 : decode jdk_52_method_21_code 30 = .ok (.i2b, 1) := by decide +kernel
theorem d7_31 : decode jdk_52_method_21_code 31 = .ok (.bastore, 1) := by decide +kernel
theorem d7_32 : decode jdk_52_method_21_code 32 = .ok (.iinc 1 1, 3) := by decide +kernel
theorem d7_35 : decode jdk_52_method_21_code 35 = .ok (.iinc 3 1, 3) := by decide +kernel
theorem d7_38 : decode jdk_52_method_21_code 38 = .ok (.iinc 5 1, 3) := by decide +kernel
theorem d7_41 : decode jdk_52_method_21_code 41 = .ok (.goto (-38), 3) := by decide +kernel
theorem d7_23 : decode jdk_52_method_21_code 23 = .ok (.iload 5, 2) := by decide +kernel
theorem d7_25 : decode jdk_52_method_21_code 25 = .ok (.ireturn, 1) := by decide +kernel
theorem d7_44 : decode jdk_52_method_21_code 44 = .ok (.iload 4, 2) := by decide +kernel
theorem d7_46 : decode jdk_52_method_21_code 46 = .ok (.ireturn, 1) := by decide +kernel
theorem pn_java_lang_StringUTF16 : plainName "java/lang/StringUTF16" = true := by first | (simp [plainName, overriddenIn]; done) | decide +kernel
theorem ef_cmpG (m : MethodId) (x0 : Addr) (x1 : Int32) (x2 : Addr) (x3 : Int32) (x4 : Int32)  : entryFrame m #[(.ref x0), (.int x1), (.ref x2), (.int x3), (.int x4)] 7 = mkF m 0 #[.val (.ref x0), .val (.int x1), .val (.ref x2), .val (.int x3), .val (.int x4), .unset, .unset] [] := by first | (simp [entryFrame, mkF, argsToLocals, Value.category]; done) | rfl
def Q_cmpG (Z : State) (s1 : Addr) (d1 : Addr) (ks : ClassId) (kd : ClassId) (ls : List Int32) (rn : Nat) (h0 : Heap) (n0 : Nat) (v : Option Value) (h : Heap) (L : List Loc) : Prop := v = some (.int (Int32.ofNat rn)) ∧ Fr n0 L ∧ Keep h0 h [d1] ∧ (Arv Z h d1 kd .byte (Int32.ofNat ls.length) (own_F ls rn) (.int (0 : Int32)))
set_option maxRecDepth 65536 in
set_option maxHeartbeats 40000000 in
theorem rm_cmpG (l : Launch) (Z : State) (a0 : Array Value) (hw : ∀ d ∈ tables_1, d.before a0 Z = true) (ws : List Jvm.Cond) (s1 : Addr) (d1 : Addr) (ks : ClassId) (kd : ClassId) (ls : List Int32) (rn : Nat) (h0 : Heap) (n0 : Nat) (O0 : Old Z n0 h0) (A0_ : Arv Z h0 s1 ks .char (Int32.ofNat ls.length) (ls.map Value.int) (.int (0 : Int32))) (A1_ : Arv Z h0 d1 kd .byte (Int32.ofNat ls.length) (List.replicate ls.length (.int (0 : Int32))) (.int (0 : Int32))) (G2_ : n0 ≤ d1) (NE3_ : ¬ (s1 = d1)) (hB : ls.length ≤ 65) (hr : rn ≤ ls.length) (hl : ∀ i, i < rn → ¬ ((255 : Int32) < ls.getD i 0)) (hwd : rn < ls.length → (255 : Int32) < ls.getD rn 0) :
    MetFree l (⟨"java/lang/StringUTF16", "compress", "([CI[BII)I"⟩ : MethodName) (head1 (Jvm.Cond.code (⟨"java/lang/StringUTF16", "compress", "([CI[BII)I"⟩ : MethodName) jdk_52_method_21_code 7 (some .int) :: ws) ({ frames := 0, cells := 0, slots := 0, locals := 0 } : Room)) (fun a U => a = #[(.ref s1), (.int (0 : Int32)), (.ref d1), (.int (0 : Int32)), (.int (Int32.ofNat ls.length))] ∧ Z.Warmed39 U.vm ∧ U.heap = h0) (fun _ _ _ _ _ => True) (fun _ U o U' => ∃ v L, o = .returned v ∧ Q_cmpG Z s1 d1 ks kd ls rn h0 n0 v U'.heap L ∧ FrameEnd U o U' L ({ frames := 0, cells := 0, slots := 0, locals := 0 } : Room).cells ({ frames := 0, cells := 0, slots := 0, locals := 0 } : Room).slots) := by
  refine MetFree.of_bodySF (plainFor_of_name pn_java_lang_StringUTF16) hisR ?_
  intro p e s m args below meth c s₁ Bd hml0 hP hK
  obtain ⟨rfl, hZ, hh⟩ := hP
  have hx := Bd.exec
  have hby := Bd.bytes
  have hml : c.maxLocals = 7 := hml0
  have hown : s.vm.findClass "java/lang/StringUTF16" = some m.cls := findClass_of_methodNamed Bd.named
  have hnm := (name_of_methodNamed Bd.named Bd.method).1
  have X0 : Stand p l e ({ frames := 0, cells := 0, slots := 0, locals := 0 } : Room) s m #[(.ref s1), (.int (0 : Int32)), (.ref d1), (.int (0 : Int32)), (.int (Int32.ofNat ls.length))] below meth c s₁ [] 0 0 := Stand.of_body Bd
  have e0 : s₁.heap = h0 := by rw [← hh, Bd.state]; rfl
  have N0 := Fr.nil n0
  have g0 : Go p e below s₁ (mkF m 0 #[rv s1, iv (0 : Int32), rv d1, iv (0 : Int32), iv (Int32.ofNat ls.length), .unset, .unset] []) (s₁.setTop (entryFrame m #[(.ref s1), (.int (0 : Int32)), (.ref d1), (.int (0 : Int32)), (.int (Int32.ofNat ls.length))] 7)) := fun t kont => castTop (ef_cmpG m s1 (0 : Int32) d1 (0 : Int32) (Int32.ofNat ls.length) ) kont
  generalize s₁.setTop (entryFrame m #[(.ref s1), (.int (0 : Int32)), (.ref d1), (.int (0 : Int32)), (.int (Int32.ofNat ls.length))] 7) = A0 at g0 ⊢
  have g101 : Go p e below s₁ (mkF m 3 #[rv s1, iv (0 : Int32), rv d1, iv (0 : Int32), iv (Int32.ofNat ls.length), iv (0 : Int32), .unset] []) A0 := by
    intro t kont
    refine g0 t ?_
    refine XS.iconst X0.here hx rfl (hb hby d7_0) ?_
    refine XS.istore X0.here hx rfl (hb hby d7_1) rfl (l' := #[rv s1, iv (0 : Int32), rv d1, iv (0 : Int32), iv (Int32.ofNat ls.length), iv (0 : Int32), .unset]) rfl ?_
    exact kont
  have loop102 : ∀ k : Nat, k ≤ rn → ∃ (T102 : State) (lc102 : List Loc) (h102 : Heap) (sl6 : Slot), Stand p l e ({ frames := 0, cells := 0, slots := 0, locals := 0 } : Room) s m #[(.ref s1), (.int (0 : Int32)), (.ref d1), (.int (0 : Int32)), (.int (Int32.ofNat ls.length))] below meth c T102 lc102 0 0 ∧ T102.heap = h102 ∧ Keep h0 h102 [d1] ∧ Fr n0 lc102 ∧ One sl6 ∧ (Arv Z h102 d1 kd .byte (Int32.ofNat ls.length) (own_F ls k) (.int (0 : Int32))) ∧ Go p e below T102 (mkF m 3 #[rv s1, iv (Int32.ofNat k), rv d1, iv (Int32.ofNat k), iv (Int32.ofNat ls.length), iv (Int32.ofNat k), sl6] []) A0 := by
    intro k
    induction k with
    | zero =>
      intro _
      exact ⟨_, _, _, .unset, X0, e0, (Keep.refl _ _), N0, One.u, (by rw [own_F0]; exact A1_), g101⟩
    | succ k ih =>
      intro hk_k
      obtain ⟨T103, lc103, h103, sl6, X103, e103, K103, N103, One_sl6, y104, g103⟩ := ih (Nat.le_of_succ_le hk_k)
      have O105 := O0.keep K103 (allS G2_ all0)
      have g106 : Go p e below T103 (mkF m 12 #[rv s1, iv (Int32.ofNat k), rv d1, iv (Int32.ofNat k), iv (Int32.ofNat ls.length), iv (Int32.ofNat k), sl6] [(.int (Int32.ofNat k)), (.ref s1)]) A0 := by
        intro t kont
        refine g103 t ?_
        refine XS.iload X103.here hx rfl (hb hby d7_3) rfl ?_
        refine XS.iload X103.here hx rfl (hb hby d7_5) rfl ?_
        refine XS.icmpNo X103.here hx rfl (hb hby d7_7) rfl (tlt (own_lt (by omega) (by omega) : (Int32.ofNat k) < (Int32.ofNat ls.length))).2.1 ?_
        refine XS.aloadN X103.here hx rfl (hb hby d7_10) rfl rfl ?_
        refine XS.iloadN X103.here hx rfl (hb hby d7_11) rfl ?_
        exact kont
      have y107 : Arv Z h103 s1 ks .char (Int32.ofNat ls.length) (ls.map Value.int) (.int (0 : Int32)) := (A0_.keep K103 (ninS NE3_ nin0))
      have zz108 := y107
      obtain ⟨cl108, Ar108, q108, S108, M108, H108, G108⟩ := zz108
      have in108 : ¬ ((Int32.ofNat k) < 0 ∨ cl108.slots.size ≤ ((Int32.ofNat k)).toNatClampNeg) := inb_of S108 ⟨own_nonneg (by omega), own_lt (by omega) (by omega)⟩
      have at108 : cl108.slots[((Int32.ofNat k)).toNatClampNeg]? = some (.int (ls.getD k 0)) := Has.at H108 in108 (by rw [own_clamp (by omega)]; exact own_getc ls k)
      have g109 : Go p e below T103 (mkF m 13 #[rv s1, iv (Int32.ofNat k), rv d1, iv (Int32.ofNat k), iv (Int32.ofNat ls.length), iv (Int32.ofNat k), sl6] [(.int (ls.getD k 0))]) A0 := fun t kont => g106 t (X103.caload hx (j := (Int32.ofNat k)) (v := (.int (ls.getD k 0))) (by rw [e103]; exact Ar108.1) (State.isArrayOf_alike hZ.alike Ar108.2.1) Ar108.2.2 in108 at108 (g := (mkF m 12 #[rv s1, iv (Int32.ofNat k), rv d1, iv (Int32.ofNat k), iv (Int32.ofNat ls.length), iv (Int32.ofNat k), sl6] [(.int (Int32.ofNat k)), (.ref s1)])) rfl rfl (hb hby d7_12) t kont)
      have g110 : Go p e below T103 (mkF m 31 #[rv s1, iv (Int32.ofNat k), rv d1, iv (Int32.ofNat k), iv (Int32.ofNat ls.length), iv (Int32.ofNat k), iv (ls.getD k 0)] [(.int ((ls.getD k 0).toInt8.toInt32)), (.int (Int32.ofNat k)), (.ref d1)]) A0 := by
        intro t kont
        refine g109 t ?_
        refine XS.istore X103.here hx rfl (hb hby d7_13) rfl (l' := #[rv s1, iv (Int32.ofNat k), rv d1, iv (Int32.ofNat k), iv (Int32.ofNat ls.length), iv (Int32.ofNat k), iv (ls.getD k 0)]) (XS.store1 (o := sl6) rfl One_sl6 rfl) ?_
        refine XS.iload X103.here hx rfl (hb hby d7_15) rfl ?_
        refine XS.sipush X103.here hx rfl (hb hby d7_17) ?_
        refine XS.icmpYes X103.here hx rfl (pc0 := 20) (pc' := 26) rfl (hb hby d7_20) rfl (flt (hl k (by omega) : ¬ ((255 : Int32) < (ls.getD k 0)))).2.2.2 (by decide) (by decide) ?_
        refine XS.aloadN X103.here hx rfl (hb hby d7_26) rfl rfl ?_
        refine XS.iloadN X103.here hx rfl (hb hby d7_27) rfl ?_
        refine XS.iload X103.here hx rfl (hb hby d7_28) rfl ?_
        refine XS.i2b X103.here hx rfl (hb hby d7_30) rfl ?_
        exact kont
      have zz111 := y104
      obtain ⟨cl111, Ar111, q111, S111, M111, H111, G111⟩ := zz111
      have in111 : ¬ ((Int32.ofNat k) < 0 ∨ cl111.slots.size ≤ ((Int32.ofNat k)).toNatClampNeg) := inb_of S111 ⟨own_nonneg (by omega), own_lt (by omega) (by omega)⟩
      obtain ⟨T111, h111, X111, e111, W111, st111⟩ := stB X103 hx hZ e103 Ar111 (j := (Int32.ofNat k)) in111 (g := (mkF m 31 #[rv s1, iv (Int32.ofNat k), rv d1, iv (Int32.ofNat k), iv (Int32.ofNat ls.length), iv (Int32.ofNat k), iv (ls.getD k 0)] [(.int ((ls.getD k 0).toInt8.toInt32)), (.int (Int32.ofNat k)), (.ref d1)])) rfl rfl (hb hby d7_31)
      rw [show nar .byte ((ls.getD k 0).toInt8.toInt32) = ((ls.getD k 0).toInt8.toInt32) from (own_narb _)] at W111
      have O112 := O105.wr W111 G2_
      have y113 : Arv Z h111 d1 kd .byte (Int32.ofNat ls.length) ((own_F ls k).set k (.int ((ls.getD k 0).toInt8.toInt32))) (.int (0 : Int32)) := Arv.set Ar111 q111 S111 M111 H111 G111 (own_ft_byte (z := ((ls.getD k 0).toInt8.toInt32)) (own_narb _)) W111 k (own_clamp (by omega)) (by rw [own_Flen (by omega)]; omega)
      have N111 := Fr.snoc X111 N103 G2_
      have g114 : Go p e below T111 (mkF m 32 #[rv s1, iv (Int32.ofNat k), rv d1, iv (Int32.ofNat k), iv (Int32.ofNat ls.length), iv (Int32.ofNat k), iv (ls.getD k 0)] []) A0 := fun t kont => g110 t (st111 t kont)
      have g115 : Go p e below T111 (mkF m 3 #[rv s1, iv ((Int32.ofNat k) + (1 : Int32)), rv d1, iv ((Int32.ofNat k) + (1 : Int32)), iv (Int32.ofNat ls.length), iv ((Int32.ofNat k) + (1 : Int32)), iv (ls.getD k 0)] []) A0 := by
        intro t kont
        refine g114 t ?_
        refine XS.iinc X111.here hx rfl (hb hby d7_32) rfl (l' := #[rv s1, iv ((Int32.ofNat k) + (1 : Int32)), rv d1, iv (Int32.ofNat k), iv (Int32.ofNat ls.length), iv (Int32.ofNat k), iv (ls.getD k 0)]) rfl ?_
        refine XS.iinc X111.here hx rfl (hb hby d7_35) rfl (l' := #[rv s1, iv ((Int32.ofNat k) + (1 : Int32)), rv d1, iv ((Int32.ofNat k) + (1 : Int32)), iv (Int32.ofNat ls.length), iv (Int32.ofNat k), iv (ls.getD k 0)]) rfl ?_
        refine XS.iinc X111.here hx rfl (hb hby d7_38) rfl (l' := #[rv s1, iv ((Int32.ofNat k) + (1 : Int32)), rv d1, iv ((Int32.ofNat k) + (1 : Int32)), iv (Int32.ofNat ls.length), iv ((Int32.ofNat k) + (1 : Int32)), iv (ls.getD k 0)]) rfl ?_
        refine XS.goto X111.here hx rfl (pc0 := 41) (pc' := 3) rfl (hb hby d7_41) (by decide) (by decide) ?_
        exact kont
      have g116 : Go p e below T111 (mkF m 3 #[rv s1, iv (Int32.ofNat (k + 1)), rv d1, iv (Int32.ofNat (k + 1)), iv (Int32.ofNat ls.length), iv (Int32.ofNat (k + 1)), iv (ls.getD k 0)] []) A0 := by rw [← own_succ k]; exact g115
      exact ⟨_, _, _, (iv (ls.getD k 0)), X111, e111, (((Keep.refl h0 [d1]).trans K103 (allS (P := fun x => x ∈ [d1] ∨ h0.size ≤ x) (Or.inl (List.mem_of_getElem? (i := 0) rfl)) all0)).wr W111 (Or.inl (List.mem_of_getElem? (i := 0) rfl))), N111, (One.val rfl), (by rw [← own_FS (show k < ls.length by omega)]; exact y113), g116⟩
  obtain ⟨T117, lc117, h117, sl6, X117, e117, K117, N117, One_sl6, y118, g117⟩ := loop102 rn (Nat.le_refl _)
  have O119 := O0.keep K117 (allS G2_ all0)
  by_cases c120 : rn < ls.length
  ·
    have g121 : Go p e below T117 (mkF m 12 #[rv s1, iv (Int32.ofNat rn), rv d1, iv (Int32.ofNat rn), iv (Int32.ofNat ls.length), iv (Int32.ofNat rn), sl6] [(.int (Int32.ofNat rn)), (.ref s1)]) A0 := by
      intro t kont
      refine g117 t ?_
      refine XS.iload X117.here hx rfl (hb hby d7_3) rfl ?_
      refine XS.iload X117.here hx rfl (hb hby d7_5) rfl ?_
      refine XS.icmpNo X117.here hx rfl (hb hby d7_7) rfl (tlt (own_lt (by omega) (by omega) : (Int32.ofNat rn) < (Int32.ofNat ls.length))).2.1 ?_
      refine XS.aloadN X117.here hx rfl (hb hby d7_10) rfl rfl ?_
      refine XS.iloadN X117.here hx rfl (hb hby d7_11) rfl ?_
      exact kont
    have y122 : Arv Z h117 s1 ks .char (Int32.ofNat ls.length) (ls.map Value.int) (.int (0 : Int32)) := (A0_.keep K117 (ninS NE3_ nin0))
    have zz123 := y122
    obtain ⟨cl123, Ar123, q123, S123, M123, H123, G123⟩ := zz123
    have in123 : ¬ ((Int32.ofNat rn) < 0 ∨ cl123.slots.size ≤ ((Int32.ofNat rn)).toNatClampNeg) := inb_of S123 ⟨own_nonneg (by omega), own_lt (by omega) (by omega)⟩
    have at123 : cl123.slots[((Int32.ofNat rn)).toNatClampNeg]? = some (.int (ls.getD rn 0)) := Has.at H123 in123 (by rw [own_clamp (by omega)]; exact own_getc ls rn)
    have g124 : Go p e below T117 (mkF m 13 #[rv s1, iv (Int32.ofNat rn), rv d1, iv (Int32.ofNat rn), iv (Int32.ofNat ls.length), iv (Int32.ofNat rn), sl6] [(.int (ls.getD rn 0))]) A0 := fun t kont => g121 t (X117.caload hx (j := (Int32.ofNat rn)) (v := (.int (ls.getD rn 0))) (by rw [e117]; exact Ar123.1) (State.isArrayOf_alike hZ.alike Ar123.2.1) Ar123.2.2 in123 at123 (g := (mkF m 12 #[rv s1, iv (Int32.ofNat rn), rv d1, iv (Int32.ofNat rn), iv (Int32.ofNat ls.length), iv (Int32.ofNat rn), sl6] [(.int (Int32.ofNat rn)), (.ref s1)])) rfl rfl (hb hby d7_12) t kont)
    have g125 : Go p e below T117 (mkF m 25 #[rv s1, iv (Int32.ofNat rn), rv d1, iv (Int32.ofNat rn), iv (Int32.ofNat ls.length), iv (Int32.ofNat rn), iv (ls.getD rn 0)] [(.int (Int32.ofNat rn))]) A0 := by
      intro t kont
      refine g124 t ?_
      refine XS.istore X117.here hx rfl (hb hby d7_13) rfl (l' := #[rv s1, iv (Int32.ofNat rn), rv d1, iv (Int32.ofNat rn), iv (Int32.ofNat ls.length), iv (Int32.ofNat rn), iv (ls.getD rn 0)]) (XS.store1 (o := sl6) rfl One_sl6 rfl) ?_
      refine XS.iload X117.here hx rfl (hb hby d7_15) rfl ?_
      refine XS.sipush X117.here hx rfl (hb hby d7_17) ?_
      refine XS.icmpNo X117.here hx rfl (hb hby d7_20) rfl (tlt (hwd c120 : (255 : Int32) < (ls.getD rn 0))).2.2.2 ?_
      refine XS.iload X117.here hx rfl (hb hby d7_23) rfl ?_
      exact kont
    have K126 : Keep h0 h117 [d1] := ((Keep.refl h0 [d1]).trans K117 (allS (P := fun x => x ∈ [d1] ∨ h0.size ≤ x) (Or.inl (List.mem_of_getElem? (i := 0) rfl)) all0))
    obtain ⟨fs, hr, hrun, hended, hW, hsame⟩ := X117.leave (v := some (.int (Int32.ofNat rn))) (fun h => by rw [Bd.returns] at h; cases h)
    refine ⟨_, _, g125 _ (retI X117 hx Bd.returns (hb hby d7_25) hr), hrun, hended, _, _, rfl, ?_, ⟨_, rfl⟩, hW, hsame.mono (by decide) (by decide)⟩
    show Q_cmpG Z s1 d1 ks kd ls rn h0 n0 _ T117.heap _
    rw [e117]
    exact ⟨rfl, N117, K126, y118⟩
  have g127 : Go p e below T117 (mkF m 46 #[rv s1, iv (Int32.ofNat rn), rv d1, iv (Int32.ofNat rn), iv (Int32.ofNat ls.length), iv (Int32.ofNat rn), sl6] [(.int (Int32.ofNat ls.length))]) A0 := by
    intro t kont
    refine g117 t ?_
    refine XS.iload X117.here hx rfl (hb hby d7_3) rfl ?_
    refine XS.iload X117.here hx rfl (hb hby d7_5) rfl ?_
    refine XS.icmpYes X117.here hx rfl (pc0 := 7) (pc' := 44) rfl (hb hby d7_7) rfl (flt (own_nlt (by omega) (by omega) : ¬ ((Int32.ofNat rn) < (Int32.ofNat ls.length)))).2.1 (by decide) (by decide) ?_
    refine XS.iload X117.here hx rfl (hb hby d7_44) rfl ?_
    exact kont
  have K128 : Keep h0 h117 [d1] := ((Keep.refl h0 [d1]).trans K117 (allS (P := fun x => x ∈ [d1] ∨ h0.size ≤ x) (Or.inl (List.mem_of_getElem? (i := 0) rfl)) all0))
  obtain ⟨fs, hr, hrun, hended, hW, hsame⟩ := X117.leave (v := some (.int (Int32.ofNat ls.length))) (fun h => by rw [Bd.returns] at h; cases h)
  refine ⟨_, _, g127 _ (retI X117 hx Bd.returns (hb hby d7_46) hr), hrun, hended, _, _, rfl, ?_, ⟨_, rfl⟩, hW, hsame.mono (by decide) (by decide)⟩
  show Q_cmpG Z s1 d1 ks kd ls rn h0 n0 _ T117.heap _
  rw [e117]
  exact ⟨congrArg (fun z => some (Value.int z)) (congrArg Int32.ofNat (show ls.length = rn by omega)), N117, K128, y118⟩
theorem d19_0 : decode jdk_52_method_3_code 0 = .ok (.iload_n 0, 1) := by decide +kernel
theorem d19_1 : decode jdk_52_method_3_code 1 = .ok (.ifCond .ge 11, 3) := by decide +kernel
theorem d19_12 : decode jdk_52_method_3_code 12 = .ok (.iload_n 0, 1) := by decide +kernel
theorem d19_13 : decode jdk_52_method_3_code 13 = .ok (.ldc 20, 2) := by decide +kernel
theorem d19_15 : decode jdk_52_method_3_code 15 = .ok (.if_icmp .lt 40, 3) := by decide +kernel
theorem d19_55 : decode jdk_52_method_3_code 55 = .ok (.iload_n 0, 1) := by decide +kernel
theorem d19_56 : decode jdk_52_method_3_code 56 = .ok (.iconst 1, 1) := by decide +kernel
theorem d19_57 : decode jdk_52_method_3_code 57 = .ok (.ishl, 1) := by decide +kernel
theorem d19_58 : decode jdk_52_method_3_code 58 = .ok (.ireturn, 1) := by decide +kernel
theorem ef_nblG (m : MethodId) (x0 : Int32)  : entryFrame m #[(.int x0)] 1 = mkF m 0 #[.val (.int x0)] [] := by first | (simp [entryFrame, mkF, argsToLocals, Value.category]; done) | rfl
def Q_nblG (Z : State) (ls : List Int32) (h0 : Heap) (n0 : Nat) (v : Option Value) (h : Heap) (L : List Loc) : Prop := v = some (.int (Int32.ofNat (2 * ls.length))) ∧ Fr n0 L ∧ h = h0
set_option maxRecDepth 65536 in
set_option maxHeartbeats 40000000 in
theorem rm_nblG (l : Launch) (Z : State) (a0 : Array Value) (hw : ∀ d ∈ tables_1, d.before a0 Z = true) (ws : List Jvm.Cond) (ls : List Int32) (h0 : Heap) (n0 : Nat) (O0 : Old Z n0 h0) (hB : ls.length ≤ 65) :
    MetFree l (⟨"java/lang/StringUTF16", "newBytesLength", "(I)I"⟩ : MethodName) (head1 (Jvm.Cond.code (⟨"java/lang/StringUTF16", "newBytesLength", "(I)I"⟩ : MethodName) jdk_52_method_3_code 1 (some .int) :: ws) ({ frames := 0, cells := 0, slots := 0, locals := 0 } : Room)) (fun a U => a = #[(.int (Int32.ofNat ls.length))] ∧ Z.Warmed39 U.vm ∧ U.heap = h0) (fun _ _ _ _ _ => True) (fun _ U o U' => ∃ v L, o = .returned v ∧ Q_nblG Z ls h0 n0 v U'.heap L ∧ FrameEnd U o U' L ({ frames := 0, cells := 0, slots := 0, locals := 0 } : Room).cells ({ frames := 0, cells := 0, slots := 0, locals := 0 } : Room).slots) := by
  refine MetFree.of_bodySF (plainFor_of_name pn_java_lang_StringUTF16) hisR ?_
  intro p e s m args below meth c s₁ Bd hml0 hP hK
  obtain ⟨rfl, hZ, hh⟩ := hP
  have hx := Bd.exec
  have hby := Bd.bytes
  have hml : c.maxLocals = 1 := hml0
  have hown : s.vm.findClass "java/lang/StringUTF16" = some m.cls := findClass_of_methodNamed Bd.named
  have hnm := (name_of_methodNamed Bd.named Bd.method).1
  have X0 : Stand p l e ({ frames := 0, cells := 0, slots := 0, locals := 0 } : Room) s m #[(.int (Int32.ofNat ls.length))] below meth c s₁ [] 0 0 := Stand.of_body Bd
  have e0 : s₁.heap = h0 := by rw [← hh, Bd.state]; rfl
  have N0 := Fr.nil n0
  have g0 : Go p e below s₁ (mkF m 0 #[iv (Int32.ofNat ls.length)] []) (s₁.setTop (entryFrame m #[(.int (Int32.ofNat ls.length))] 1)) := fun t kont => castTop (ef_nblG m (Int32.ofNat ls.length) ) kont
  generalize s₁.setTop (entryFrame m #[(.int (Int32.ofNat ls.length))] 1) = A0 at g0 ⊢
  have g101 : Go p e below s₁ (mkF m 58 #[iv (Int32.ofNat ls.length)] [(.int ((Int32.ofNat ls.length) <<< ((1 : Int32) &&& 31)))]) A0 := by
    intro t kont
    refine g0 t ?_
    refine XS.iloadN X0.here hx rfl (hb hby d19_0) rfl ?_
    refine XS.ifYes X0.here hx rfl (pc0 := 1) (pc' := 12) rfl (hb hby d19_1) rfl ((if0 _ _).trans (flt (own_nonneg (by omega) : ¬ ((Int32.ofNat ls.length) < (0 : Int32)))).2.1) (by decide) (by decide) ?_
    refine XS.iloadN X0.here hx rfl (hb hby d19_12) rfl ?_
    refine X0.ldcInt hx hown (mvT hZ (hw _ (List.mem_of_getElem? (i := 88) rfl))) (g := (mkF m 13 #[iv (Int32.ofNat ls.length)] [(.int (Int32.ofNat ls.length))])) rfl (hb hby d19_13) _ ?_
    refine XS.icmpYes X0.here hx rfl (pc0 := 15) (pc' := 55) rfl (hb hby d19_15) rfl (tlt (own_lt (b := 1073741823) (by omega) (by omega) : (Int32.ofNat ls.length) < (1073741823 : Int32))).1 (by decide) (by decide) ?_
    refine XS.iloadN X0.here hx rfl (hb hby d19_55) rfl ?_
    refine XS.iconst X0.here hx rfl (hb hby d19_56) ?_
    refine XS.ishl X0.here hx rfl (hb hby d19_57) rfl ?_
    exact kont
  obtain ⟨fs, hr, hrun, hended, hW, hsame⟩ := X0.leave (v := some (.int ((Int32.ofNat ls.length) <<< ((1 : Int32) &&& 31)))) (fun h => by rw [Bd.returns] at h; cases h)
  refine ⟨_, _, g101 _ (retI X0 hx Bd.returns (hb hby d19_58) hr), hrun, hended, _, _, rfl, ?_, ⟨_, rfl⟩, hW, hsame.mono (by decide) (by decide)⟩
  show Q_nblG Z ls h0 n0 _ s₁.heap _
  rw [e0]
  exact ⟨congrArg (fun z => some (Value.int z)) (own_dbl (by omega)), N0, rfl⟩
theorem d18_0 : decode jdk_52_method_2_code 0 = .ok (.iload_n 0, 1) := by decide +kernel
theorem d18_1 : decode jdk_52_method_2_code 1 = .ok (.invokestatic 11, 3) := by decide +kernel
theorem pd_2 : parseMethodDescriptor "(I)I" = some ⟨[.int], some .int⟩ := by decide +kernel
theorem d18_4 : decode jdk_52_method_2_code 4 = .ok (.newarray .byte, 2) := by decide +kernel
theorem d18_6 : decode jdk_52_method_2_code 6 = .ok (.areturn, 1) := by decide +kernel
theorem ef_nbfG (m : MethodId) (x0 : Int32)  : entryFrame m #[(.int x0)] 1 = mkF m 0 #[.val (.int x0)] [] := by first | (simp [entryFrame, mkF, argsToLocals, Value.category]; done) | rfl
def Q_nbfG (Z : State) (ls : List Int32) (h0 : Heap) (n0 : Nat) (v : Option Value) (h : Heap) (L : List Loc) : Prop := ∃ (r : Addr), ∃ (kid : ClassId), v = some (.ref r) ∧ Fr n0 L ∧ Keep h0 h [] ∧ h0.size ≤ r ∧ (Exa Z h r "[B") ∧ (Arv Z h r kid .byte (Int32.ofNat (2 * ls.length)) (List.replicate (2 * ls.length) (.int (0 : Int32))) (.int (0 : Int32)))
set_option maxRecDepth 65536 in
set_option maxHeartbeats 40000000 in
theorem rm_nbfG (l : Launch) (Z : State) (a0 : Array Value) (hw : ∀ d ∈ tables_1, d.before a0 Z = true) (ws : List Jvm.Cond) (ls : List Int32) (h0 : Heap) (n0 : Nat) (O0 : Old Z n0 h0) (hB : ls.length ≤ 65) :
    MetFree l (⟨"java/lang/StringUTF16", "newBytesFor", "(I)[B"⟩ : MethodName) (head1 (Jvm.Cond.code (⟨"java/lang/StringUTF16", "newBytesFor", "(I)[B"⟩ : MethodName) jdk_52_method_2_code 1 (some (.array .byte)) :: ws) ({ frames := 1, cells := 1, slots := 130, locals := 12 } : Room)) (fun a U => a = #[(.int (Int32.ofNat ls.length))] ∧ Z.Warmed39 U.vm ∧ U.heap = h0) (fun _ _ _ _ _ => True) (fun _ U o U' => ∃ v L, o = .returned v ∧ Q_nbfG Z ls h0 n0 v U'.heap L ∧ FrameEnd U o U' L ({ frames := 1, cells := 1, slots := 130, locals := 12 } : Room).cells ({ frames := 1, cells := 1, slots := 130, locals := 12 } : Room).slots) := by
  refine MetFree.of_bodySF (plainFor_of_name pn_java_lang_StringUTF16) hisR ?_
  intro p e s m args below meth c s₁ Bd hml0 hP hK
  obtain ⟨rfl, hZ, hh⟩ := hP
  have hx := Bd.exec
  have hby := Bd.bytes
  have hml : c.maxLocals = 1 := hml0
  have hown : s.vm.findClass "java/lang/StringUTF16" = some m.cls := findClass_of_methodNamed Bd.named
  have hnm := (name_of_methodNamed Bd.named Bd.method).1
  have X0 : Stand p l e ({ frames := 1, cells := 1, slots := 130, locals := 12 } : Room) s m #[(.int (Int32.ofNat ls.length))] below meth c s₁ [] 0 0 := Stand.of_body Bd
  have e0 : s₁.heap = h0 := by rw [← hh, Bd.state]; rfl
  have N0 := Fr.nil n0
  have g0 : Go p e below s₁ (mkF m 0 #[iv (Int32.ofNat ls.length)] []) (s₁.setTop (entryFrame m #[(.int (Int32.ofNat ls.length))] 1)) := fun t kont => castTop (ef_nbfG m (Int32.ofNat ls.length) ) kont
  generalize s₁.setTop (entryFrame m #[(.int (Int32.ofNat ls.length))] 1) = A0 at g0 ⊢
  have g101 : Go p e below s₁ (mkF m 1 #[iv (Int32.ofNat ls.length)] [(.int (Int32.ofNat ls.length))]) A0 := by
    intro t kont
    refine g0 t ?_
    refine XS.iloadN X0.here hx rfl (hb hby d18_0) rfl ?_
    exact kont
  obtain ⟨_, _, ⟨T102, L102, k102, n102⟩, -, X102, ⟨Lc102, hQ102, l102, y102, z102⟩, st102⟩ := Jvm.LawKit.callS X0 hx (y := (⟨"java/lang/StringUTF16", "newBytesLength", "(I)I"⟩ : MethodName)) hown (mvT hZ (hw _ (List.mem_of_getElem? (i := 85) rfl))) (mvT hZ (hw _ (List.mem_of_getElem? (i := 86) rfl))) (mvT hZ (hw _ (List.mem_of_getElem? (i := 35) rfl))) (mvT hZ (hw _ (List.mem_of_getElem? (i := 87) rfl))) (by decide) (backOf (W := 0) (rm_nblG l Z a0 hw [] ls h0 n0 O0 hB) hZ (hw _ (List.mem_of_getElem? (i := 87) rfl)) (hw _ (List.mem_of_getElem? (i := 35) rfl)) (by decide) (by decide)) (g := (mkF m 1 #[iv (Int32.ofNat ls.length)] [(.int (Int32.ofNat ls.length))])) rfl (by rw [hml]; rfl) (argsL := [(.int (Int32.ofNat ls.length))]) (rest := []) (lenOf pd_2 rfl) rfl (by show 2 * 0 + _ ≤ _; exact Nat.le_of_eq rfl) (hb hby d18_1) (fun _ _ => ⟨rfl, e0, (by decide : 0 + 0 ≤ _), (by decide : 0 + 0 ≤ _)⟩)
  dsimp only [Pt.U, Pt.locs, Pt.cells, Pt.slots] at X102 l102 y102 z102 st102 hQ102
  subst y102 z102
  obtain ⟨rfl, M102, e102⟩ := hQ102
  have N102 : Fr n0 L102 := by rw [l102]; exact Fr.app N0 M102
  have g103 : Go p e below T102 (mkF m 4 #[iv (Int32.ofNat ls.length)] [(.int (Int32.ofNat (2 * ls.length)))]) A0 := fun t kont => g101 t (st102 t kont)
  obtain ⟨T104, h104, k104, X104, e104, E104, A104, F104, st104⟩ := newPE X102 hx hZ (hw _ (List.mem_of_getElem? (i := 16) rfl)) e102 (g := (mkF m 4 #[iv (Int32.ofNat ls.length)] [(.int (Int32.ofNat (2 * ls.length)))])) rfl (hb hby d18_4) rfl (own_nonneg (by omega)) (cap := 130) (by rw [own_clamp (by omega)]; omega) (by decide) (by decide) (by decide) (ad := "[B") (by decide)
  obtain ⟨b104, gb104⟩ : ∃ z, z = h0.size := ⟨_, rfl⟩
  rw [← gb104] at A104 F104 st104
  have O105 := O0.ext E104
  have y106 : Arv Z h104 b104 k104 .byte (Int32.ofNat (2 * ls.length)) (List.replicate (2 * ls.length) (.int (0 : Int32))) (.int (0 : Int32)) := (Arv.new A104 (own_nonneg (by omega))).pad (pad_rep [] (.int (0 : Int32)) (2 * ls.length))
  have g107 : Go p e below T104 (mkF m 6 #[iv (Int32.ofNat ls.length)] [(.ref b104)]) A0 := fun t kont => g103 t (st104 t kont)
  have K108 : Keep h0 h104 [] := ((Keep.refl h0 []).ext E104)
  obtain ⟨fs, hr, hrun, hended, hW, hsame⟩ := X104.leave (v := some (.ref b104)) (fun h => by rw [Bd.returns] at h; cases h)
  refine ⟨_, _, g107 _ (retOut X104 hx Bd.returns rfl (Or.inr (Or.inr (Or.inr (Or.inr ⟨rfl, rfl, rfl⟩)))) (hb hby d18_6) hr), hrun, hended, _, _, rfl, ?_, ⟨_, rfl⟩, hW, hsame.mono (by decide) (by decide)⟩
  show Q_nbfG Z ls h0 n0 _ T104.heap _
  rw [e104]
  exact ⟨b104, k104, rfl, N102, K108, (Nat.le_of_eq gb104.symm), F104, y106⟩
theorem d20_0 : decode jdk_52_method_4_code 0 = .ok (.getstatic 44, 3) := by decide +kernel
theorem d20_3 : decode jdk_52_method_4_code 3 = .ok (.ifCond .ne 25, 3) := by decide +kernel
theorem d20_28 : decode jdk_52_method_4_code 28 = .ok (.iload_n 1, 1) := by decide +kernel
theorem d20_29 : decode jdk_52_method_4_code 29 = .ok (.iconst 1, 1) := by decide +kernel
theorem d20_30 : decode jdk_52_method_4_code 30 = .ok (.ishl, 1) := by decide +kernel
theorem d20_31 : decode jdk_52_method_4_code 31 = .ok (.istore_n 1, 1) := by decide +kernel
theorem d20_32 : decode jdk_52_method_4_code 32 = .ok (.aload_n 0, 1) := by decide +kernel
theorem d20_33 : decode jdk_52_method_4_code 33 = .ok (.iload_n 1, 1) := by decide +kernel
theorem d20_34 : decode jdk_52_method_4_code 34 = .ok (.iinc 1 1, 3) := by decide +kernel
theorem d20_37 : decode jdk_52_method_4_code 37 = .ok (.iload_n 2, 1) := by decide +kernel
theorem d20_38 : decode jdk_52_method_4_code 38 = .ok (.getstatic 59, 3) := by decide +kernel
theorem d20_41 : decode jdk_52_method_4_code 41 = .ok (.ishr, 1) := by decide +kernel
theorem d20_42 : decode jdk_52_method_4_code 42 = .ok (.i2b, 1) := by decide +kernel
theorem d20_43 : decode jdk_52_method_4_code 43 = .ok (.bastore, 1) := by decide +kernel
theorem d20_44 : decode jdk_52_method_4_code 44 = .ok (.aload_n 0, 1) := by decide +kernel
theorem d20_45 : decode jdk_52_method_4_code 45 = .ok (.iload_n 1, 1) := by decide +kernel
theorem d20_46 : decode jdk_52_method_4_code 46 = .ok (.iload_n 2, 1) := by decide +kernel
theorem d20_47 : decode jdk_52_method_4_code 47 = .ok (.getstatic 63, 3) := by decide +kernel
theorem d20_50 : decode jdk_52_method_4_code 50 = .ok (.ishr, 1) := by decide +kernel
theorem d20_51 : decode jdk_52_method_4_code 51 = .ok (.i2b, 1) := by decide +kernel
theorem d20_52 : decode jdk_52_method_4_code 52 = .ok (.bastore, 1) := by decide +kernel
theorem d20_53 : decode jdk_52_method_4_code 53 = .ok (.return_, 1) := by decide +kernel
theorem ef_putG (m : MethodId) (x0 : Addr) (x1 : Int32) (x2 : Int32)  : entryFrame m #[(.ref x0), (.int x1), (.int x2)] 3 = mkF m 0 #[.val (.ref x0), .val (.int x1), .val (.int x2)] [] := by first | (simp [entryFrame, mkF, argsToLocals, Value.category]; done) | rfl
def Q_putG (Z : State) (v1 : Addr) (i1 : Nat) (ch : Int32) (kv : ClassId) (z1 : Int32) (vs : List Value) (h0 : Heap) (n0 : Nat) (v : Option Value) (h : Heap) (L : List Loc) : Prop := v = none ∧ Fr n0 L ∧ Keep h0 h [v1] ∧ (Arv Z h v1 kv .byte z1 ((vs.set (2 * i1) (.int ((ch >>> ((0 : Int32) &&& 31)).toInt8.toInt32))).set (2 * i1 + 1) (.int ((ch >>> ((8 : Int32) &&& 31)).toInt8.toInt32))) (.int (0 : Int32)))
set_option maxRecDepth 65536 in
set_option maxHeartbeats 40000000 in
theorem rm_putG (l : Launch) (Z : State) (a0 : Array Value) (hw : ∀ d ∈ tables_1, d.before a0 Z = true) (ws : List Jvm.Cond) (v1 : Addr) (i1 : Nat) (ch : Int32) (kv : ClassId) (z1 : Int32) (vs : List Value) (h0 : Heap) (n0 : Nat) (O0 : Old Z n0 h0) (A0_ : Arv Z h0 v1 kv .byte z1 vs (.int (0 : Int32))) (G1_ : n0 ≤ v1) (hin : 2 * i1 + 1 < vs.length) (hz : z1 = Int32.ofNat vs.length) (hvl : vs.length ≤ 130) (S5_ : Sta Z Z.heap "java/lang/StringUTF16" "$assertionsDisabled" "Z" (.int (1 : Int32))) (S6_ : Sta Z Z.heap "java/lang/StringUTF16" "HI_BYTE_SHIFT" "I" (.int (0 : Int32))) (S7_ : Sta Z Z.heap "java/lang/StringUTF16" "LO_BYTE_SHIFT" "I" (.int (8 : Int32))) :
    MetFree l (⟨"java/lang/StringUTF16", "putChar", "([BII)V"⟩ : MethodName) (head1 (Jvm.Cond.code (⟨"java/lang/StringUTF16", "putChar", "([BII)V"⟩ : MethodName) jdk_52_method_4_code 3 none :: ws) ({ frames := 0, cells := 0, slots := 0, locals := 0 } : Room)) (fun a U => a = #[(.ref v1), (.int (Int32.ofNat i1)), (.int ch)] ∧ Z.Warmed39 U.vm ∧ U.heap = h0) (fun _ _ _ _ _ => True) (fun _ U o U' => ∃ v L, o = .returned v ∧ Q_putG Z v1 i1 ch kv z1 vs h0 n0 v U'.heap L ∧ FrameEnd U o U' L ({ frames := 0, cells := 0, slots := 0, locals := 0 } : Room).cells ({ frames := 0, cells := 0, slots := 0, locals := 0 } : Room).slots) := by
  refine MetFree.of_bodySF (plainFor_of_name pn_java_lang_StringUTF16) hisR ?_
  intro p e s m args below meth c s₁ Bd hml0 hP hK
  obtain ⟨rfl, hZ, hh⟩ := hP
  have hx := Bd.exec
  have hby := Bd.bytes
  have hml : c.maxLocals = 3 := hml0
  have hown : s.vm.findClass "java/lang/StringUTF16" = some m.cls := findClass_of_methodNamed Bd.named
  have hnm := (name_of_methodNamed Bd.named Bd.method).1
  have X0 : Stand p l e ({ frames := 0, cells := 0, slots := 0, locals := 0 } : Room) s m #[(.ref v1), (.int (Int32.ofNat i1)), (.int ch)] below meth c s₁ [] 0 0 := Stand.of_body Bd
  have e0 : s₁.heap = h0 := by rw [← hh, Bd.state]; rfl
  have N0 := Fr.nil n0
  have g0 : Go p e below s₁ (mkF m 0 #[rv v1, iv (Int32.ofNat i1), iv ch] []) (s₁.setTop (entryFrame m #[(.ref v1), (.int (Int32.ofNat i1)), (.int ch)] 3)) := fun t kont => castTop (ef_putG m v1 (Int32.ofNat i1) ch ) kont
  generalize s₁.setTop (entryFrame m #[(.ref v1), (.int (Int32.ofNat i1)), (.int ch)] 3) = A0 at g0 ⊢
  have y101 : Sta Z h0 "java/lang/StringUTF16" "$assertionsDisabled" "Z" (.int (1 : Int32)) := S5_.ext O0.2
  obtain ⟨T102, X102, e102, st102⟩ := getS2 X0 hx hZ hown (host := "") (Or.inl (hw _ (List.mem_of_getElem? (i := 92) rfl))) Via.refl e0 y101 (g := (mkF m 0 #[rv v1, iv (Int32.ofNat i1), iv ch] [])) rfl (hb hby d20_0)
  have g103 : Go p e below T102 (mkF m 3 #[rv v1, iv (Int32.ofNat i1), iv ch] [(.int (1 : Int32))]) A0 := fun t kont => g0 t (st102 t kont)
  have g104 : Go p e below T102 (mkF m 31 #[rv v1, iv (Int32.ofNat i1), iv ch] [(.int ((Int32.ofNat i1) <<< ((1 : Int32) &&& 31)))]) A0 := by
    intro t kont
    refine g103 t ?_
    refine XS.ifYes X102.here hx rfl (pc0 := 3) (pc' := 28) rfl (hb hby d20_3) rfl ((if0 _ _).trans (feq (by decide : ¬ ((1 : Int32) = (0 : Int32)))).2) (by decide) (by decide) ?_
    refine XS.iloadN X102.here hx rfl (hb hby d20_28) rfl ?_
    refine XS.iconst X102.here hx rfl (hb hby d20_29) ?_
    refine XS.ishl X102.here hx rfl (hb hby d20_30) rfl ?_
    exact kont
  have g105 : Go p e below T102 (mkF m 31 #[rv v1, iv (Int32.ofNat i1), iv ch] [(.int (Int32.ofNat (2 * i1)))]) A0 := by rw [← own_dbl (n := i1) (by omega)]; exact g104
  have g106 : Go p e below T102 (mkF m 38 #[rv v1, iv ((Int32.ofNat (2 * i1)) + (1 : Int32)), iv ch] [(.int ch), (.int (Int32.ofNat (2 * i1))), (.ref v1)]) A0 := by
    intro t kont
    refine g105 t ?_
    refine XS.istoreN X102.here hx rfl (hb hby d20_31) rfl (l' := #[rv v1, iv (Int32.ofNat (2 * i1)), iv ch]) rfl ?_
    refine XS.aloadN X102.here hx rfl (hb hby d20_32) rfl rfl ?_
    refine XS.iloadN X102.here hx rfl (hb hby d20_33) rfl ?_
    refine XS.iinc X102.here hx rfl (hb hby d20_34) rfl (l' := #[rv v1, iv ((Int32.ofNat (2 * i1)) + (1 : Int32)), iv ch]) rfl ?_
    refine XS.iloadN X102.here hx rfl (hb hby d20_37) rfl ?_
    exact kont
  have y107 : Sta Z h0 "java/lang/StringUTF16" "HI_BYTE_SHIFT" "I" (.int (0 : Int32)) := S6_.ext O0.2
  obtain ⟨T108, X108, e108, st108⟩ := getS2 X102 hx hZ hown (host := "") (Or.inl (hw _ (List.mem_of_getElem? (i := 93) rfl))) Via.refl e102 y107 (g := (mkF m 38 #[rv v1, iv ((Int32.ofNat (2 * i1)) + (1 : Int32)), iv ch] [(.int ch), (.int (Int32.ofNat (2 * i1))), (.ref v1)])) rfl (hb hby d20_38)
  have g109 : Go p e below T108 (mkF m 41 #[rv v1, iv ((Int32.ofNat (2 * i1)) + (1 : Int32)), iv ch] [(.int (0 : Int32)), (.int ch), (.int (Int32.ofNat (2 * i1))), (.ref v1)]) A0 := fun t kont => g106 t (st108 t kont)
  have g110 : Go p e below T108 (mkF m 43 #[rv v1, iv ((Int32.ofNat (2 * i1)) + (1 : Int32)), iv ch] [(.int ((ch >>> ((0 : Int32) &&& 31)).toInt8.toInt32)), (.int (Int32.ofNat (2 * i1))), (.ref v1)]) A0 := by
    intro t kont
    refine g109 t ?_
    refine XS.ishr X108.here hx rfl (hb hby d20_41) rfl ?_
    refine XS.i2b X108.here hx rfl (hb hby d20_42) rfl ?_
    exact kont
  have zz111 := A0_
  obtain ⟨cl111, Ar111, q111, S111, M111, H111, G111⟩ := zz111
  have in111 : ¬ ((Int32.ofNat (2 * i1)) < 0 ∨ cl111.slots.size ≤ ((Int32.ofNat (2 * i1))).toNatClampNeg) := inb_of S111 ⟨own_nonneg (by omega), by rw [hz]; exact own_lt (by omega) (by omega)⟩
  obtain ⟨T111, h111, X111, e111, W111, st111⟩ := stB X108 hx hZ e108 Ar111 (j := (Int32.ofNat (2 * i1))) in111 (g := (mkF m 43 #[rv v1, iv ((Int32.ofNat (2 * i1)) + (1 : Int32)), iv ch] [(.int ((ch >>> ((0 : Int32) &&& 31)).toInt8.toInt32)), (.int (Int32.ofNat (2 * i1))), (.ref v1)])) rfl rfl (hb hby d20_43)
  rw [show nar .byte ((ch >>> ((0 : Int32) &&& 31)).toInt8.toInt32) = ((ch >>> ((0 : Int32) &&& 31)).toInt8.toInt32) from (own_narb _)] at W111
  have O112 := O0.wr W111 G1_
  have y113 : Arv Z h111 v1 kv .byte z1 (vs.set (2 * i1) (.int ((ch >>> ((0 : Int32) &&& 31)).toInt8.toInt32))) (.int (0 : Int32)) := Arv.set Ar111 q111 S111 M111 H111 G111 (own_ft_byte (z := ((ch >>> ((0 : Int32) &&& 31)).toInt8.toInt32)) (own_narb _)) W111 (2 * i1) (own_clamp (by omega)) (by omega)
  have N111 := Fr.snoc X111 N0 G1_
  have g114 : Go p e below T111 (mkF m 44 #[rv v1, iv ((Int32.ofNat (2 * i1)) + (1 : Int32)), iv ch] []) A0 := fun t kont => g110 t (st111 t kont)
  have g115 : Go p e below T111 (mkF m 44 #[rv v1, iv (Int32.ofNat (2 * i1 + 1)), iv ch] []) A0 := by rw [← own_succ (2 * i1)]; exact g114
  have g116 : Go p e below T111 (mkF m 47 #[rv v1, iv (Int32.ofNat (2 * i1 + 1)), iv ch] [(.int ch), (.int (Int32.ofNat (2 * i1 + 1))), (.ref v1)]) A0 := by
    intro t kont
    refine g115 t ?_
    refine XS.aloadN X111.here hx rfl (hb hby d20_44) rfl rfl ?_
    refine XS.iloadN X111.here hx rfl (hb hby d20_45) rfl ?_
    refine XS.iloadN X111.here hx rfl (hb hby d20_46) rfl ?_
    exact kont
  have y117 : Sta Z h111 "java/lang/StringUTF16" "LO_BYTE_SHIFT" "I" (.int (8 : Int32)) := S7_.ext O112.2
  obtain ⟨T118, X118, e118, st118⟩ := getS2 X111 hx hZ hown (host := "") (Or.inl (hw _ (List.mem_of_getElem? (i := 94) rfl))) Via.refl e111 y117 (g := (mkF m 47 #[rv v1, iv (Int32.ofNat (2 * i1 + 1)), iv ch] [(.int ch), (.int (Int32.ofNat (2 * i1 + 1))), (.ref v1)])) rfl (hb hby d20_47)
  have g119 : Go p e below T118 (mkF m 50 #[rv v1, iv (Int32.ofNat (2 * i1 + 1)), iv ch] [(.int (8 : Int32)), (.int ch), (.int (Int32.ofNat (2 * i1 + 1))), (.ref v1)]) A0 := fun t kont => g116 t (st118 t kont)
  have g120 : Go p e below T118 (mkF m 52 #[rv v1, iv (Int32.ofNat (2 * i1 + 1)), iv ch] [(.int ((ch >>> ((8 : Int32) &&& 31)).toInt8.toInt32)), (.int (Int32.ofNat (2 * i1 + 1))), (.ref v1)]) A0 := by
    intro t kont
    refine g119 t ?_
    refine XS.ishr X118.here hx rfl (hb hby d20_50) rfl ?_
    refine XS.i2b X118.here hx rfl (hb hby d20_51) rfl ?_
    exact kont
  have zz121 := y113
  obtain ⟨cl121, Ar121, q121, S121, M121, H121, G121⟩ := zz121
  have in121 : ¬ ((Int32.ofNat (2 * i1 + 1)) < 0 ∨ cl121.slots.size ≤ ((Int32.ofNat (2 * i1 + 1))).toNatClampNeg) := inb_of S121 ⟨own_nonneg (by omega), by rw [hz]; exact own_lt (by omega) (by omega)⟩
  obtain ⟨T121, h121, X121, e121, W121, st121⟩ := stB X118 hx hZ e118 Ar121 (j := (Int32.ofNat (2 * i1 + 1))) in121 (g := (mkF m 52 #[rv v1, iv (Int32.ofNat (2 * i1 + 1)), iv ch] [(.int ((ch >>> ((8 : Int32) &&& 31)).toInt8.toInt32)), (.int (Int32.ofNat (2 * i1 + 1))), (.ref v1)])) rfl rfl (hb hby d20_52)
  rw [show nar .byte ((ch >>> ((8 : Int32) &&& 31)).toInt8.toInt32) = ((ch >>> ((8 : Int32) &&& 31)).toInt8.toInt32) from (own_narb _)] at W121
  have O122 := O112.wr W121 G1_
  have y123 : Arv Z h121 v1 kv .byte z1 ((vs.set (2 * i1) (.int ((ch >>> ((0 : Int32) &&& 31)).toInt8.toInt32))).set (2 * i1 + 1) (.int ((ch >>> ((8 : Int32) &&& 31)).toInt8.toInt32))) (.int (0 : Int32)) := Arv.set Ar121 q121 S121 M121 H121 G121 (own_ft_byte (z := ((ch >>> ((8 : Int32) &&& 31)).toInt8.toInt32)) (own_narb _)) W121 (2 * i1 + 1) (own_clamp (by omega)) (by rw [List.length_set]; omega)
  have N121 := Fr.snoc X121 N111 G1_
  have g124 : Go p e below T121 (mkF m 53 #[rv v1, iv (Int32.ofNat (2 * i1 + 1)), iv ch] []) A0 := fun t kont => g120 t (st121 t kont)
  have K125 : Keep h0 h121 [v1] := (((Keep.refl h0 [v1]).wr W111 (Or.inl (List.mem_of_getElem? (i := 0) rfl))).wr W121 (Or.inl (List.mem_of_getElem? (i := 0) rfl)))
  obtain ⟨fs, hr, hrun, hended, hW, hsame⟩ := X121.leave (v := none) (fun _ => rfl)
  refine ⟨_, _, g124 _ (X121.returnOut hx Bd.returns (hb hby d20_53) hr), hrun, hended, _, _, rfl, ?_, ⟨_, rfl⟩, hW, hsame.mono (by decide) (by decide)⟩
  show Q_putG Z v1 i1 ch kv z1 vs h0 n0 _ T121.heap _
  rw [e121]
  exact ⟨rfl, N121, K125, y123⟩
theorem d17_0 : decode jdk_52_method_14_code 0 = .ok (.iload_n 2, 1) := by decide +kernel
theorem d17_1 : decode jdk_52_method_14_code 1 = .ok (.invokestatic 107, 3) := by decide +kernel
theorem pd_3 : parseMethodDescriptor "(I)[B" = some ⟨[.int], some (.array .byte)⟩ := by decide +kernel
theorem d17_4 : decode jdk_52_method_14_code 4 = .ok (.astore_n 3, 1) := by decide +kernel
theorem d17_5 : decode jdk_52_method_14_code 5 = .ok (.iconst 0, 1) := by decide +kernel
theorem d17_6 : decode jdk_52_method_14_code 6 = .ok (.istore 4, 2) := by decide +kernel
theorem d17_8 : decode jdk_52_method_14_code 8 = .ok (.iload 4, 2) := by decide +kernel
theorem d17_10 : decode jdk_52_method_14_code 10 = .ok (.iload_n 2, 1) := by decide +kernel
theorem d17_11 : decode jdk_52_method_14_code 11 = .ok (.if_icmp .ge 21, 3) := by decide +kernel
theorem d17_14 : decode jdk_52_method_14_code 14 = .ok (.aload_n 3, 1) := by decide +kernel
theorem d17_15 : decode jdk_52_method_14_code 15 = .ok (.iload 4, 2) := by decide +kernel
theorem d17_17 : decode jdk_52_method_14_code 17 = .ok (.aload_n 0, 1) := by decide +kernel
theorem d17_18 : decode jdk_52_method_14_code 18 = .ok (.iload_n 1, 1) := by decide +kernel
theorem d17_19 : decode jdk_52_method_14_code 19 = .ok (.caload, 1) := by decide +kernel
theorem d17_20 : decode jdk_52_method_14_code 20 = .ok (.invokestatic 111, 3) := by decide +kernel
theorem pd_4 : parseMethodDescriptor "([BII)V" = some ⟨[(.array .byte), .int, .int], none⟩ := by decide +kernel
theorem d17_23 : decode jdk_52_method_14_code 23 = .ok (.iinc 1 1, 3) := by decide +kernel
theorem d17_26 : decode jdk_52_method_14_code 26 = .ok (.iinc 4 1, 3) := by decide +kernel
theorem d17_29 : decode jdk_52_method_14_code 29 = .ok (.goto (-21), 3) := by decide +kernel
theorem d17_32 : decode jdk_52_method_14_code 32 = .ok (.aload_n 3, 1) := by decide +kernel
theorem d17_33 : decode jdk_52_method_14_code 33 = .ok (.areturn, 1) := by decide +kernel
theorem ef_u2bG (m : MethodId) (x0 : Addr) (x1 : Int32) (x2 : Int32)  : entryFrame m #[(.ref x0), (.int x1), (.int x2)] 5 = mkF m 0 #[.val (.ref x0), .val (.int x1), .val (.int x2), .unset, .unset] [] := by first | (simp [entryFrame, mkF, argsToLocals, Value.category]; done) | rfl
def Q_u2bG (Z : State) (s1 : Addr) (ks : ClassId) (ls : List Int32) (h0 : Heap) (n0 : Nat) (v : Option Value) (h : Heap) (L : List Loc) : Prop := ∃ (r : Addr), ∃ (kid : ClassId), v = some (.ref r) ∧ Fr n0 L ∧ Keep h0 h [] ∧ h0.size ≤ r ∧ (Exa Z h r "[B") ∧ (Arv Z h r kid .byte (Int32.ofNat (2 * ls.length)) (own_wb ls) (.int (0 : Int32)))
set_option maxRecDepth 65536 in
set_option maxHeartbeats 40000000 in
theorem rm_u2bG (l : Launch) (Z : State) (a0 : Array Value) (hw : ∀ d ∈ tables_1, d.before a0 Z = true) (ws : List Jvm.Cond) (s1 : Addr) (ks : ClassId) (ls : List Int32) (h0 : Heap) (n0 : Nat) (O0 : Old Z n0 h0) (A0_ : Arv Z h0 s1 ks .char (Int32.ofNat ls.length) (ls.map Value.int) (.int (0 : Int32))) (hB : ls.length ≤ 65) (S2_ : Sta Z Z.heap "java/lang/StringUTF16" "$assertionsDisabled" "Z" (.int (1 : Int32))) (S3_ : Sta Z Z.heap "java/lang/StringUTF16" "HI_BYTE_SHIFT" "I" (.int (0 : Int32))) (S4_ : Sta Z Z.heap "java/lang/StringUTF16" "LO_BYTE_SHIFT" "I" (.int (8 : Int32))) :
    MetFree l (⟨"java/lang/StringUTF16", "toBytes", "([CII)[B"⟩ : MethodName) (head1 (Jvm.Cond.code (⟨"java/lang/StringUTF16", "toBytes", "([CII)[B"⟩ : MethodName) jdk_52_method_14_code 5 (some (.array .byte)) :: ws) ({ frames := 2, cells := 1, slots := 130, locals := 24 } : Room)) (fun a U => a = #[(.ref s1), (.int (0 : Int32)), (.int (Int32.ofNat ls.length))] ∧ Z.Warmed39 U.vm ∧ U.heap = h0) (fun _ _ _ _ _ => True) (fun _ U o U' => ∃ v L, o = .returned v ∧ Q_u2bG Z s1 ks ls h0 n0 v U'.heap L ∧ FrameEnd U o U' L ({ frames := 2, cells := 1, slots := 130, locals := 24 } : Room).cells ({ frames := 2, cells := 1, slots := 130, locals := 24 } : Room).slots) := by
  refine MetFree.of_bodySF (plainFor_of_name pn_java_lang_StringUTF16) hisR ?_
  intro p e s m args below meth c s₁ Bd hml0 hP hK
  obtain ⟨rfl, hZ, hh⟩ := hP
  have hx := Bd.exec
  have hby := Bd.bytes
  have hml : c.maxLocals = 5 := hml0
  have hown : s.vm.findClass "java/lang/StringUTF16" = some m.cls := findClass_of_methodNamed Bd.named
  have hnm := (name_of_methodNamed Bd.named Bd.method).1
  have X0 : Stand p l e ({ frames := 2, cells := 1, slots := 130, locals := 24 } : Room) s m #[(.ref s1), (.int (0 : Int32)), (.int (Int32.ofNat ls.length))] below meth c s₁ [] 0 0 := Stand.of_body Bd
  have e0 : s₁.heap = h0 := by rw [← hh, Bd.state]; rfl
  have N0 := Fr.nil n0
  have g0 : Go p e below s₁ (mkF m 0 #[rv s1, iv (0 : Int32), iv (Int32.ofNat ls.length), .unset, .unset] []) (s₁.setTop (entryFrame m #[(.ref s1), (.int (0 : Int32)), (.int (Int32.ofNat ls.length))] 5)) := fun t kont => castTop (ef_u2bG m s1 (0 : Int32) (Int32.ofNat ls.length) ) kont
  generalize s₁.setTop (entryFrame m #[(.ref s1), (.int (0 : Int32)), (.int (Int32.ofNat ls.length))] 5) = A0 at g0 ⊢
  have g101 : Go p e below s₁ (mkF m 1 #[rv s1, iv (0 : Int32), iv (Int32.ofNat ls.length), .unset, .unset] [(.int (Int32.ofNat ls.length))]) A0 := by
    intro t kont
    refine g0 t ?_
    refine XS.iloadN X0.here hx rfl (hb hby d17_0) rfl ?_
    exact kont
  obtain ⟨_, _, ⟨T102, L102, k102, n102⟩, -, X102, ⟨Lc102, hQ102, l102, y102, z102⟩, st102⟩ := Jvm.LawKit.callS X0 hx (y := (⟨"java/lang/StringUTF16", "newBytesFor", "(I)[B"⟩ : MethodName)) hown (mvT hZ (hw _ (List.mem_of_getElem? (i := 82) rfl))) (mvT hZ (hw _ (List.mem_of_getElem? (i := 83) rfl))) (mvT hZ (hw _ (List.mem_of_getElem? (i := 35) rfl))) (mvT hZ (hw _ (List.mem_of_getElem? (i := 84) rfl))) (by decide) (backOf (W := 0) (rm_nbfG l Z a0 hw [] ls h0 n0 O0 hB) hZ (hw _ (List.mem_of_getElem? (i := 84) rfl)) (hw _ (List.mem_of_getElem? (i := 35) rfl)) (by decide) (by decide)) (g := (mkF m 1 #[rv s1, iv (0 : Int32), iv (Int32.ofNat ls.length), .unset, .unset] [(.int (Int32.ofNat ls.length))])) rfl (by rw [hml]; rfl) (argsL := [(.int (Int32.ofNat ls.length))]) (rest := []) (lenOf pd_3 rfl) rfl (by show 2 * 0 + _ ≤ _; exact Nat.le_of_eq rfl) (hb hby d17_1) (fun _ _ => ⟨rfl, e0, (by decide : 0 + 1 ≤ _), (by decide : 0 + 130 ≤ _)⟩)
  dsimp only [Pt.U, Pt.locs, Pt.cells, Pt.slots] at X102 l102 y102 z102 st102 hQ102
  subst y102 z102
  obtain ⟨r103, r104, rfl, M102, K102, y105, y106, y107⟩ := hQ102
  have N102 : Fr n0 L102 := by rw [l102]; exact Fr.app N0 M102
  have O108 := O0.keep K102 all0
  have g109 : Go p e below T102 (mkF m 4 #[rv s1, iv (0 : Int32), iv (Int32.ofNat ls.length), .unset, .unset] [(.ref r103)]) A0 := fun t kont => g101 t (st102 t kont)
  have g110 : Go p e below T102 (mkF m 8 #[rv s1, iv (0 : Int32), iv (Int32.ofNat ls.length), rv r103, iv (0 : Int32)] []) A0 := by
    intro t kont
    refine g109 t ?_
    refine XS.astoreN X102.here hx rfl (hb hby d17_4) rfl rfl (l' := #[rv s1, iv (0 : Int32), iv (Int32.ofNat ls.length), rv r103, .unset]) rfl ?_
    refine XS.iconst X102.here hx rfl (hb hby d17_5) ?_
    refine XS.istore X102.here hx rfl (hb hby d17_6) rfl (l' := #[rv s1, iv (0 : Int32), iv (Int32.ofNat ls.length), rv r103, iv (0 : Int32)]) rfl ?_
    exact kont
  have loop111 : ∀ k : Nat, k ≤ ls.length → ∃ (T111 : State) (lc111 : List Loc) (h111 : Heap), Stand p l e ({ frames := 2, cells := 1, slots := 130, locals := 24 } : Room) s m #[(.ref s1), (.int (0 : Int32)), (.int (Int32.ofNat ls.length))] below meth c T111 lc111 1 130 ∧ T111.heap = h111 ∧ Keep T102.heap h111 [r103] ∧ Fr n0 lc111 ∧ (Arv Z h111 r103 r104 .byte (Int32.ofNat (2 * ls.length)) (own_G ls k) (.int (0 : Int32))) ∧ Go p e below T111 (mkF m 8 #[rv s1, iv (Int32.ofNat k), iv (Int32.ofNat ls.length), rv r103, iv (Int32.ofNat k)] []) A0 := by
    intro k
    induction k with
    | zero =>
      intro _
      exact ⟨_, _, _, X102, rfl, (Keep.refl _ _), N102, (by rw [own_G0]; exact y107), g110⟩
    | succ k ih =>
      intro hk_k
      obtain ⟨T112, lc112, h112, X112, e112, K112, N112, y113, g112⟩ := ih (Nat.le_of_succ_le hk_k)
      have ge114 : n0 ≤ r103 := Nat.le_trans (own_old_le O0) y105
      have O115 := O108.keep K112 (allS ge114 all0)
      have g116 : Go p e below T112 (mkF m 19 #[rv s1, iv (Int32.ofNat k), iv (Int32.ofNat ls.length), rv r103, iv (Int32.ofNat k)] [(.int (Int32.ofNat k)), (.ref s1), (.int (Int32.ofNat k)), (.ref r103)]) A0 := by
        intro t kont
        refine g112 t ?_
        refine XS.iload X112.here hx rfl (hb hby d17_8) rfl ?_
        refine XS.iloadN X112.here hx rfl (hb hby d17_10) rfl ?_
        refine XS.icmpNo X112.here hx rfl (hb hby d17_11) rfl (tlt (own_lt (by omega) (by omega) : (Int32.ofNat k) < (Int32.ofNat ls.length))).2.1 ?_
        refine XS.aloadN X112.here hx rfl (hb hby d17_14) rfl rfl ?_
        refine XS.iload X112.here hx rfl (hb hby d17_15) rfl ?_
        refine XS.aloadN X112.here hx rfl (hb hby d17_17) rfl rfl ?_
        refine XS.iloadN X112.here hx rfl (hb hby d17_18) rfl ?_
        exact kont
      have y117 : Arv Z h112 s1 ks .char (Int32.ofNat ls.length) (ls.map Value.int) (.int (0 : Int32)) := ((A0_.keep K102 nin0).keep K112 (ninS (Nat.ne_of_lt (Nat.lt_of_lt_of_le A0_.lt y105)) nin0))
      have zz118 := y117
      obtain ⟨cl118, Ar118, q118, S118, M118, H118, G118⟩ := zz118
      have in118 : ¬ ((Int32.ofNat k) < 0 ∨ cl118.slots.size ≤ ((Int32.ofNat k)).toNatClampNeg) := inb_of S118 ⟨own_nonneg (by omega), own_lt (by omega) (by omega)⟩
      have at118 : cl118.slots[((Int32.ofNat k)).toNatClampNeg]? = some (.int (ls.getD k 0)) := Has.at H118 in118 (by rw [own_clamp (by omega)]; exact own_getc ls k)
      have g119 : Go p e below T112 (mkF m 20 #[rv s1, iv (Int32.ofNat k), iv (Int32.ofNat ls.length), rv r103, iv (Int32.ofNat k)] [(.int (ls.getD k 0)), (.int (Int32.ofNat k)), (.ref r103)]) A0 := fun t kont => g116 t (X112.caload hx (j := (Int32.ofNat k)) (v := (.int (ls.getD k 0))) (by rw [e112]; exact Ar118.1) (State.isArrayOf_alike hZ.alike Ar118.2.1) Ar118.2.2 in118 at118 (g := (mkF m 19 #[rv s1, iv (Int32.ofNat k), iv (Int32.ofNat ls.length), rv r103, iv (Int32.ofNat k)] [(.int (Int32.ofNat k)), (.ref s1), (.int (Int32.ofNat k)), (.ref r103)])) rfl rfl (hb hby d17_19) t kont)
      obtain ⟨_, _, ⟨T120, L120, k120, n120⟩, -, X120, ⟨Lc120, hQ120, l120, y120, z120⟩, st120⟩ := Jvm.LawKit.callS X112 hx (y := (⟨"java/lang/StringUTF16", "putChar", "([BII)V"⟩ : MethodName)) hown (mvT hZ (hw _ (List.mem_of_getElem? (i := 89) rfl))) (mvT hZ (hw _ (List.mem_of_getElem? (i := 90) rfl))) (mvT hZ (hw _ (List.mem_of_getElem? (i := 35) rfl))) (mvT hZ (hw _ (List.mem_of_getElem? (i := 91) rfl))) (by decide) (backOf (W := 0) (rm_putG l Z a0 hw [] r103 k (ls.getD k 0) r104 (Int32.ofNat (2 * ls.length)) (own_G ls k) h112 n0 O115 y113 ge114 (by rw [own_Glen (by omega)]; omega) (by rw [own_Glen (by omega)]) (by rw [own_Glen (by omega)]; omega) S2_ S3_ S4_) hZ (hw _ (List.mem_of_getElem? (i := 91) rfl)) (hw _ (List.mem_of_getElem? (i := 35) rfl)) (by decide) (by decide)) (g := (mkF m 20 #[rv s1, iv (Int32.ofNat k), iv (Int32.ofNat ls.length), rv r103, iv (Int32.ofNat k)] [(.int (ls.getD k 0)), (.int (Int32.ofNat k)), (.ref r103)])) rfl (by rw [hml]; rfl) (argsL := [(.ref r103), (.int (Int32.ofNat k)), (.int (ls.getD k 0))]) (rest := []) (lenOf pd_4 rfl) rfl (by show 2 * 0 + _ ≤ _; exact Nat.le_of_eq rfl) (hb hby d17_20) (fun _ _ => ⟨rfl, e112, (by decide : 1 + 0 ≤ _), (by decide : 130 + 0 ≤ _)⟩)
      dsimp only [Pt.U, Pt.locs, Pt.cells, Pt.slots] at X120 l120 y120 z120 st120 hQ120
      subst y120 z120
      obtain ⟨rfl, M120, K120, y121⟩ := hQ120
      have N120 : Fr n0 L120 := by rw [l120]; exact Fr.app N112 M120
      have O122 := O115.keep K120 (allS ge114 all0)
      have g123 : Go p e below T120 (mkF m 23 #[rv s1, iv (Int32.ofNat k), iv (Int32.ofNat ls.length), rv r103, iv (Int32.ofNat k)] []) A0 := fun t kont => g119 t (st120 t kont)
      have g124 : Go p e below T120 (mkF m 8 #[rv s1, iv ((Int32.ofNat k) + (1 : Int32)), iv (Int32.ofNat ls.length), rv r103, iv ((Int32.ofNat k) + (1 : Int32))] []) A0 := by
        intro t kont
        refine g123 t ?_
        refine XS.iinc X120.here hx rfl (hb hby d17_23) rfl (l' := #[rv s1, iv ((Int32.ofNat k) + (1 : Int32)), iv (Int32.ofNat ls.length), rv r103, iv (Int32.ofNat k)]) rfl ?_
        refine XS.iinc X120.here hx rfl (hb hby d17_26) rfl (l' := #[rv s1, iv ((Int32.ofNat k) + (1 : Int32)), iv (Int32.ofNat ls.length), rv r103, iv ((Int32.ofNat k) + (1 : Int32))]) rfl ?_
        refine XS.goto X120.here hx rfl (pc0 := 29) (pc' := 8) rfl (hb hby d17_29) (by decide) (by decide) ?_
        exact kont
      have g125 : Go p e below T120 (mkF m 8 #[rv s1, iv (Int32.ofNat (k + 1)), iv (Int32.ofNat ls.length), rv r103, iv (Int32.ofNat (k + 1))] []) A0 := by rw [← own_succ k]; exact g124
      exact ⟨_, _, _, X120, rfl, (((Keep.refl T102.heap [r103]).trans K112 (allS (P := fun x => x ∈ [r103] ∨ T102.heap.size ≤ x) (Or.inl (List.mem_of_getElem? (i := 0) rfl)) all0)).trans K120 (allS (P := fun x => x ∈ [r103] ∨ T102.heap.size ≤ x) (Or.inl (List.mem_of_getElem? (i := 0) rfl)) all0)), N120, (by rw [← own_GS (show k < ls.length by omega)]; exact y121), g125⟩
  obtain ⟨T126, lc126, h126, X126, e126, K126, N126, y127, g126⟩ := loop111 ls.length (Nat.le_refl _)
  have ge128 : n0 ≤ r103 := Nat.le_trans (own_old_le O0) y105
  have O129 := O108.keep K126 (allS ge128 all0)
  have g130 : Go p e below T126 (mkF m 33 #[rv s1, iv (Int32.ofNat ls.length), iv (Int32.ofNat ls.length), rv r103, iv (Int32.ofNat ls.length)] [(.ref r103)]) A0 := by
    intro t kont
    refine g126 t ?_
    refine XS.iload X126.here hx rfl (hb hby d17_8) rfl ?_
    refine XS.iloadN X126.here hx rfl (hb hby d17_10) rfl ?_
    refine XS.icmpYes X126.here hx rfl (pc0 := 11) (pc' := 32) rfl (hb hby d17_11) rfl (flt (own_nlt (by omega) (by omega) : ¬ ((Int32.ofNat ls.length) < (Int32.ofNat ls.length)))).2.1 (by decide) (by decide) ?_
    refine XS.aloadN X126.here hx rfl (hb hby d17_32) rfl rfl ?_
    exact kont
  have K131 : Keep h0 h126 [] := (((Keep.refl h0 []).trans K102 (fun x hx => nomatch hx)).trans K126 (allS (P := fun x => x ∈ [] ∨ h0.size ≤ x) (Or.inr y105) all0))
  have y132 : Exa Z h126 r103 "[B" := (y106.keep K126)
  obtain ⟨fs, hr, hrun, hended, hW, hsame⟩ := X126.leave (v := some (.ref r103)) (fun h => by rw [Bd.returns] at h; cases h)
  refine ⟨_, _, g130 _ (retOut X126 hx Bd.returns rfl (Or.inr (Or.inr (Or.inr (Or.inr ⟨rfl, rfl, rfl⟩)))) (hb hby d17_33) hr), hrun, hended, _, _, rfl, ?_, ⟨_, rfl⟩, hW, hsame.mono (by decide) (by decide)⟩
  show Q_u2bG Z s1 ks ls h0 n0 _ T126.heap _
  rw [e126]
  exact ⟨r103, r104, rfl, N126, K131, y105, y132, (own_Gn ls) ▸ y127⟩
theorem d21_0 : decode jdk_52_method_5_code 0 = .ok (.getstatic 44, 3) := by decide +kernel
theorem d21_3 : decode jdk_52_method_5_code 3 = .ok (.ifCond .ne 25, 3) := by decide +kernel
theorem d21_28 : decode jdk_52_method_5_code 28 = .ok (.iload_n 1, 1) := by decide +kernel
theorem d21_29 : decode jdk_52_method_5_code 29 = .ok (.iconst 1, 1) := by decide +kernel
theorem d21_30 : decode jdk_52_method_5_code 30 = .ok (.ishl, 1) := by decide +kernel
theorem d21_31 : decode jdk_52_method_5_code 31 = .ok (.istore_n 1, 1) := by decide +kernel
theorem d21_32 : decode jdk_52_method_5_code 32 = .ok (.aload_n 0, 1) := by decide +kernel
theorem d21_33 : decode jdk_52_method_5_code 33 = .ok (.iload_n 1, 1) := by decide +kernel
theorem d21_34 : decode jdk_52_method_5_code 34 = .ok (.iinc 1 1, 3) := by decide +kernel
theorem d21_37 : decode jdk_52_method_5_code 37 = .ok (.baload, 1) := by decide +kernel
theorem d21_38 : decode jdk_52_method_5_code 38 = .ok (.sipush 255, 3) := by decide +kernel
theorem d21_41 : decode jdk_52_method_5_code 41 = .ok (.iand, 1) := by decide +kernel
theorem d21_42 : decode jdk_52_method_5_code 42 = .ok (.getstatic 59, 3) := by decide +kernel
theorem d21_45 : decode jdk_52_method_5_code 45 = .ok (.ishl, 1) := by decide +kernel
theorem d21_46 : decode jdk_52_method_5_code 46 = .ok (.aload_n 0, 1) := by decide +kernel
theorem d21_47 : decode jdk_52_method_5_code 47 = .ok (.iload_n 1, 1) := by decide +kernel
theorem d21_48 : decode jdk_52_method_5_code 48 = .ok (.baload, 1) := by decide +kernel
theorem d21_49 : decode jdk_52_method_5_code 49 = .ok (.sipush 255, 3) := by decide +kernel
theorem d21_52 : decode jdk_52_method_5_code 52 = .ok (.iand, 1) := by decide +kernel
theorem d21_53 : decode jdk_52_method_5_code 53 = .ok (.getstatic 63, 3) := by decide +kernel
theorem d21_56 : decode jdk_52_method_5_code 56 = .ok (.ishl, 1) := by decide +kernel
theorem d21_57 : decode jdk_52_method_5_code 57 = .ok (.ior, 1) := by decide +kernel
theorem d21_58 : decode jdk_52_method_5_code 58 = .ok (.i2c, 1) := by decide +kernel
theorem d21_59 : decode jdk_52_method_5_code 59 = .ok (.ireturn, 1) := by decide +kernel
theorem ef_getG (m : MethodId) (x0 : Addr) (x1 : Int32)  : entryFrame m #[(.ref x0), (.int x1)] 2 = mkF m 0 #[.val (.ref x0), .val (.int x1)] [] := by first | (simp [entryFrame, mkF, argsToLocals, Value.category]; done) | rfl
def Q_getG (Z : State) (v1 : Addr) (i1 : Nat) (kv : ClassId) (ls : List Int32) (h0 : Heap) (n0 : Nat) (v : Option Value) (h : Heap) (L : List Loc) : Prop := v = some (.int (ls.getD i1 0)) ∧ Fr n0 L ∧ h = h0
set_option maxRecDepth 65536 in
set_option maxHeartbeats 40000000 in
theorem rm_getG (l : Launch) (Z : State) (a0 : Array Value) (hw : ∀ d ∈ tables_1, d.before a0 Z = true) (ws : List Jvm.Cond) (v1 : Addr) (i1 : Nat) (kv : ClassId) (ls : List Int32) (h0 : Heap) (n0 : Nat) (O0 : Old Z n0 h0) (A0_ : Arv Z h0 v1 kv .byte (Int32.ofNat (2 * ls.length)) (own_wb ls) (.int (0 : Int32))) (hB : ls.length ≤ 65) (hi : i1 < ls.length) (hch : own_chars ls) (S4_ : Sta Z Z.heap "java/lang/StringUTF16" "$assertionsDisabled" "Z" (.int (1 : Int32))) (S5_ : Sta Z Z.heap "java/lang/StringUTF16" "HI_BYTE_SHIFT" "I" (.int (0 : Int32))) (S6_ : Sta Z Z.heap "java/lang/StringUTF16" "LO_BYTE_SHIFT" "I" (.int (8 : Int32))) :
    MetFree l (⟨"java/lang/StringUTF16", "getChar", "([BI)C"⟩ : MethodName) (head1 (Jvm.Cond.code (⟨"java/lang/StringUTF16", "getChar", "([BI)C"⟩ : MethodName) jdk_52_method_5_code 2 (some .char) :: ws) ({ frames := 0, cells := 0, slots := 0, locals := 0 } : Room)) (fun a U => a = #[(.ref v1), (.int (Int32.ofNat i1))] ∧ Z.Warmed39 U.vm ∧ U.heap = h0) (fun _ _ _ _ _ => True) (fun _ U o U' => ∃ v L, o = .returned v ∧ Q_getG Z v1 i1 kv ls h0 n0 v U'.heap L ∧ FrameEnd U o U' L ({ frames := 0, cells := 0, slots := 0, locals := 0 } : Room).cells ({ frames := 0, cells := 0, slots := 0, locals := 0 } : Room).slots) := by
  refine MetFree.of_bodySF (plainFor_of_name pn_java_lang_StringUTF16) hisR ?_
  intro p e s m args below meth c s₁ Bd hml0 hP hK
  obtain ⟨rfl, hZ, hh⟩ := hP
  have hx := Bd.exec
  have hby := Bd.bytes
  have hml : c.maxLocals = 2 := hml0
  have hown : s.vm.findClass "java/lang/StringUTF16" = some m.cls := findClass_of_methodNamed Bd.named
  have hnm := (name_of_methodNamed Bd.named Bd.method).1
  have X0 : Stand p l e ({ frames := 0, cells := 0, slots := 0, locals := 0 } : Room) s m #[(.ref v1), (.int (Int32.ofNat i1))] below meth c s₁ [] 0 0 := Stand.of_body Bd
  have e0 : s₁.heap = h0 := by rw [← hh, Bd.state]; rfl
  have N0 := Fr.nil n0
  have g0 : Go p e below s₁ (mkF m 0 #[rv v1, iv (Int32.ofNat i1)] []) (s₁.setTop (entryFrame m #[(.ref v1), (.int (Int32.ofNat i1))] 2)) := fun t kont => castTop (ef_getG m v1 (Int32.ofNat i1) ) kont
  generalize s₁.setTop (entryFrame m #[(.ref v1), (.int (Int32.ofNat i1))] 2) = A0 at g0 ⊢
  have y101 : Sta Z h0 "java/lang/StringUTF16" "$assertionsDisabled" "Z" (.int (1 : Int32)) := S4_.ext O0.2
  obtain ⟨T102, X102, e102, st102⟩ := getS2 X0 hx hZ hown (host := "") (Or.inl (hw _ (List.mem_of_getElem? (i := 92) rfl))) Via.refl e0 y101 (g := (mkF m 0 #[rv v1, iv (Int32.ofNat i1)] [])) rfl (hb hby d21_0)
  have g103 : Go p e below T102 (mkF m 3 #[rv v1, iv (Int32.ofNat i1)] [(.int (1 : Int32))]) A0 := fun t kont => g0 t (st102 t kont)
  have g104 : Go p e below T102 (mkF m 31 #[rv v1, iv (Int32.ofNat i1)] [(.int ((Int32.ofNat i1) <<< ((1 : Int32) &&& 31)))]) A0 := by
    intro t kont
    refine g103 t ?_
    refine XS.ifYes X102.here hx rfl (pc0 := 3) (pc' := 28) rfl (hb hby d21_3) rfl ((if0 _ _).trans (feq (by decide : ¬ ((1 : Int32) = (0 : Int32)))).2) (by decide) (by decide) ?_
    refine XS.iloadN X102.here hx rfl (hb hby d21_28) rfl ?_
    refine XS.iconst X102.here hx rfl (hb hby d21_29) ?_
    refine XS.ishl X102.here hx rfl (hb hby d21_30) rfl ?_
    exact kont
  have g105 : Go p e below T102 (mkF m 31 #[rv v1, iv (Int32.ofNat i1)] [(.int (Int32.ofNat (2 * i1)))]) A0 := by rw [← own_dbl (n := i1) (by omega)]; exact g104
  have g106 : Go p e below T102 (mkF m 37 #[rv v1, iv ((Int32.ofNat (2 * i1)) + (1 : Int32))] [(.int (Int32.ofNat (2 * i1))), (.ref v1)]) A0 := by
    intro t kont
    refine g105 t ?_
    refine XS.istoreN X102.here hx rfl (hb hby d21_31) rfl (l' := #[rv v1, iv (Int32.ofNat (2 * i1))]) rfl ?_
    refine XS.aloadN X102.here hx rfl (hb hby d21_32) rfl rfl ?_
    refine XS.iloadN X102.here hx rfl (hb hby d21_33) rfl ?_
    refine XS.iinc X102.here hx rfl (hb hby d21_34) rfl (l' := #[rv v1, iv ((Int32.ofNat (2 * i1)) + (1 : Int32))]) rfl ?_
    exact kont
  have zz107 := A0_
  obtain ⟨cl107, Ar107, q107, S107, M107, H107, G107⟩ := zz107
  have in107 : ¬ ((Int32.ofNat (2 * i1)) < 0 ∨ cl107.slots.size ≤ ((Int32.ofNat (2 * i1))).toNatClampNeg) := inb_of S107 ⟨own_nonneg (by omega), own_lt (by omega) (by omega)⟩
  have at107 : cl107.slots[((Int32.ofNat (2 * i1))).toNatClampNeg]? = some (.int (((ls.getD i1 0) >>> ((0 : Int32) &&& 31)).toInt8.toInt32)) := Has.at H107 in107 (by rw [own_clamp (by omega)]; exact own_wb_get0 hi)
  have g108 : Go p e below T102 (mkF m 38 #[rv v1, iv ((Int32.ofNat (2 * i1)) + (1 : Int32))] [(.int (((ls.getD i1 0) >>> ((0 : Int32) &&& 31)).toInt8.toInt32))]) A0 := fun t kont => g106 t (X102.baloadBytes hx (j := (Int32.ofNat (2 * i1))) (v := (.int (((ls.getD i1 0) >>> ((0 : Int32) &&& 31)).toInt8.toInt32))) (by rw [e102]; exact Ar107.1) (State.isArrayOf_alike hZ.alike Ar107.2.1) Ar107.2.2 in107 at107 (g := (mkF m 37 #[rv v1, iv ((Int32.ofNat (2 * i1)) + (1 : Int32))] [(.int (Int32.ofNat (2 * i1))), (.ref v1)])) rfl rfl (hb hby d21_37) t kont)
  have g109 : Go p e below T102 (mkF m 42 #[rv v1, iv ((Int32.ofNat (2 * i1)) + (1 : Int32))] [(.int ((((ls.getD i1 0) >>> ((0 : Int32) &&& 31)).toInt8.toInt32) &&& (255 : Int32)))]) A0 := by
    intro t kont
    refine g108 t ?_
    refine XS.sipush X102.here hx rfl (hb hby d21_38) ?_
    refine XS.iand X102.here hx rfl (hb hby d21_41) rfl ?_
    exact kont
  have y110 : Sta Z h0 "java/lang/StringUTF16" "HI_BYTE_SHIFT" "I" (.int (0 : Int32)) := S5_.ext O0.2
  obtain ⟨T111, X111, e111, st111⟩ := getS2 X102 hx hZ hown (host := "") (Or.inl (hw _ (List.mem_of_getElem? (i := 93) rfl))) Via.refl e102 y110 (g := (mkF m 42 #[rv v1, iv ((Int32.ofNat (2 * i1)) + (1 : Int32))] [(.int ((((ls.getD i1 0) >>> ((0 : Int32) &&& 31)).toInt8.toInt32) &&& (255 : Int32)))])) rfl (hb hby d21_42)
  have g112 : Go p e below T111 (mkF m 45 #[rv v1, iv ((Int32.ofNat (2 * i1)) + (1 : Int32))] [(.int (0 : Int32)), (.int ((((ls.getD i1 0) >>> ((0 : Int32) &&& 31)).toInt8.toInt32) &&& (255 : Int32)))]) A0 := fun t kont => g109 t (st111 t kont)
  have g113 : Go p e below T111 (mkF m 46 #[rv v1, iv ((Int32.ofNat (2 * i1)) + (1 : Int32))] [(.int (((((ls.getD i1 0) >>> ((0 : Int32) &&& 31)).toInt8.toInt32) &&& (255 : Int32)) <<< ((0 : Int32) &&& 31)))]) A0 := by
    intro t kont
    refine g112 t ?_
    refine XS.ishl X111.here hx rfl (hb hby d21_45) rfl ?_
    exact kont
  have g114 : Go p e below T111 (mkF m 46 #[rv v1, iv (Int32.ofNat (2 * i1 + 1))] [(.int (((((ls.getD i1 0) >>> ((0 : Int32) &&& 31)).toInt8.toInt32) &&& (255 : Int32)) <<< ((0 : Int32) &&& 31)))]) A0 := by rw [← own_succ (2 * i1)]; exact g113
  have g115 : Go p e below T111 (mkF m 48 #[rv v1, iv (Int32.ofNat (2 * i1 + 1))] [(.int (Int32.ofNat (2 * i1 + 1))), (.ref v1), (.int (((((ls.getD i1 0) >>> ((0 : Int32) &&& 31)).toInt8.toInt32) &&& (255 : Int32)) <<< ((0 : Int32) &&& 31)))]) A0 := by
    intro t kont
    refine g114 t ?_
    refine XS.aloadN X111.here hx rfl (hb hby d21_46) rfl rfl ?_
    refine XS.iloadN X111.here hx rfl (hb hby d21_47) rfl ?_
    exact kont
  have zz116 := A0_
  obtain ⟨cl116, Ar116, q116, S116, M116, H116, G116⟩ := zz116
  have in116 : ¬ ((Int32.ofNat (2 * i1 + 1)) < 0 ∨ cl116.slots.size ≤ ((Int32.ofNat (2 * i1 + 1))).toNatClampNeg) := inb_of S116 ⟨own_nonneg (by omega), own_lt (by omega) (by omega)⟩
  have at116 : cl116.slots[((Int32.ofNat (2 * i1 + 1))).toNatClampNeg]? = some (.int (((ls.getD i1 0) >>> ((8 : Int32) &&& 31)).toInt8.toInt32)) := Has.at H116 in116 (by rw [own_clamp (by omega)]; exact own_wb_get1 hi)
  have g117 : Go p e below T111 (mkF m 49 #[rv v1, iv (Int32.ofNat (2 * i1 + 1))] [(.int (((ls.getD i1 0) >>> ((8 : Int32) &&& 31)).toInt8.toInt32)), (.int (((((ls.getD i1 0) >>> ((0 : Int32) &&& 31)).toInt8.toInt32) &&& (255 : Int32)) <<< ((0 : Int32) &&& 31)))]) A0 := fun t kont => g115 t (X111.baloadBytes hx (j := (Int32.ofNat (2 * i1 + 1))) (v := (.int (((ls.getD i1 0) >>> ((8 : Int32) &&& 31)).toInt8.toInt32))) (by rw [e111]; exact Ar116.1) (State.isArrayOf_alike hZ.alike Ar116.2.1) Ar116.2.2 in116 at116 (g := (mkF m 48 #[rv v1, iv (Int32.ofNat (2 * i1 + 1))] [(.int (Int32.ofNat (2 * i1 + 1))), (.ref v1), (.int (((((ls.getD i1 0) >>> ((0 : Int32) &&& 31)).toInt8.toInt32) &&& (255 : Int32)) <<< ((0 : Int32) &&& 31)))])) rfl rfl (hb hby d21_48) t kont)
  have g118 : Go p e below T111 (mkF m 53 #[rv v1, iv (Int32.ofNat (2 * i1 + 1))] [(.int ((((ls.getD i1 0) >>> ((8 : Int32) &&& 31)).toInt8.toInt32) &&& (255 : Int32))), (.int (((((ls.getD i1 0) >>> ((0 : Int32) &&& 31)).toInt8.toInt32) &&& (255 : Int32)) <<< ((0 : Int32) &&& 31)))]) A0 := by
    intro t kont
    refine g117 t ?_
    refine XS.sipush X111.here hx rfl (hb hby d21_49) ?_
    refine XS.iand X111.here hx rfl (hb hby d21_52) rfl ?_
    exact kont
  have y119 : Sta Z h0 "java/lang/StringUTF16" "LO_BYTE_SHIFT" "I" (.int (8 : Int32)) := S6_.ext O0.2
  obtain ⟨T120, X120, e120, st120⟩ := getS2 X111 hx hZ hown (host := "") (Or.inl (hw _ (List.mem_of_getElem? (i := 94) rfl))) Via.refl e111 y119 (g := (mkF m 53 #[rv v1, iv (Int32.ofNat (2 * i1 + 1))] [(.int ((((ls.getD i1 0) >>> ((8 : Int32) &&& 31)).toInt8.toInt32) &&& (255 : Int32))), (.int (((((ls.getD i1 0) >>> ((0 : Int32) &&& 31)).toInt8.toInt32) &&& (255 : Int32)) <<< ((0 : Int32) &&& 31)))])) rfl (hb hby d21_53)
  have g121 : Go p e below T120 (mkF m 56 #[rv v1, iv (Int32.ofNat (2 * i1 + 1))] [(.int (8 : Int32)), (.int ((((ls.getD i1 0) >>> ((8 : Int32) &&& 31)).toInt8.toInt32) &&& (255 : Int32))), (.int (((((ls.getD i1 0) >>> ((0 : Int32) &&& 31)).toInt8.toInt32) &&& (255 : Int32)) <<< ((0 : Int32) &&& 31)))]) A0 := fun t kont => g118 t (st120 t kont)
  have g122 : Go p e below T120 (mkF m 59 #[rv v1, iv (Int32.ofNat (2 * i1 + 1))] [(.int (((((((ls.getD i1 0) >>> ((0 : Int32) &&& 31)).toInt8.toInt32) &&& (255 : Int32)) <<< ((0 : Int32) &&& 31)) ||| (((((ls.getD i1 0) >>> ((8 : Int32) &&& 31)).toInt8.toInt32) &&& (255 : Int32)) <<< ((8 : Int32) &&& 31))).toUInt32.toUInt16.toUInt32.toInt32))]) A0 := by
    intro t kont
    refine g121 t ?_
    refine XS.ishl X120.here hx rfl (hb hby d21_56) rfl ?_
    refine XS.ior X120.here hx rfl (hb hby d21_57) rfl ?_
    refine XS.i2c X120.here hx rfl (hb hby d21_58) rfl ?_
    exact kont
  obtain ⟨fs, hr, hrun, hended, hW, hsame⟩ := X120.leave (v := some (.int (((((((ls.getD i1 0) >>> ((0 : Int32) &&& 31)).toInt8.toInt32) &&& (255 : Int32)) <<< ((0 : Int32) &&& 31)) ||| (((((ls.getD i1 0) >>> ((8 : Int32) &&& 31)).toInt8.toInt32) &&& (255 : Int32)) <<< ((8 : Int32) &&& 31))).toUInt32.toUInt16.toUInt32.toInt32))) (fun h => by rw [Bd.returns] at h; cases h)
  refine ⟨_, _, g122 _ (retN X120 hx (t := .char) Bd.returns (by simp) (hb hby d21_59) (by rw [(own_narc _)]; exact hr)), hrun, hended, _, _, rfl, ?_, ⟨_, rfl⟩, hW, hsame.mono (by decide) (by decide)⟩
  show Q_getG Z v1 i1 kv ls h0 n0 _ T120.heap _
  rw [e120]
  exact ⟨congrArg (fun z => some (Value.int z)) (own_rec16 (hch i1 hi).1 (hch i1 hi).2), N0, rfl⟩
theorem d6_0 : decode jdk_52_method_16_code 0 = .ok (.iload_n 2, 1) := by decide +kernel
theorem d6_1 : decode jdk_52_method_16_code 1 = .ok (.newarray .byte, 2) := by decide +kernel
theorem d6_3 : decode jdk_52_method_16_code 3 = .ok (.astore_n 3, 1) := by decide +kernel
theorem d6_4 : decode jdk_52_method_16_code 4 = .ok (.aload_n 0, 1) := by decide +kernel
theorem d6_5 : decode jdk_52_method_16_code 5 = .ok (.iload_n 1, 1) := by decide +kernel
theorem d6_6 : decode jdk_52_method_16_code 6 = .ok (.aload_n 3, 1) := by decide +kernel
theorem d6_7 : decode jdk_52_method_16_code 7 = .ok (.iconst 0, 1) := by decide +kernel
theorem d6_8 : decode jdk_52_method_16_code 8 = .ok (.iload_n 2, 1) := by decide +kernel
theorem d6_9 : decode jdk_52_method_16_code 9 = .ok (.invokestatic 115, 3) := by decide +kernel
theorem pd_5 : parseMethodDescriptor "([CI[BII)I" = some ⟨[(.array .char), .int, (.array .byte), .int, .int], some .int⟩ := by decide +kernel
theorem d6_12 : decode jdk_52_method_16_code 12 = .ok (.istore 4, 2) := by decide +kernel
theorem d6_14 : decode jdk_52_method_16_code 14 = .ok (.iload 4, 2) := by decide +kernel
theorem d6_16 : decode jdk_52_method_16_code 16 = .ok (.iload_n 2, 1) := by decide +kernel
theorem d6_17 : decode jdk_52_method_16_code 17 = .ok (.if_icmp .eq 40, 3) := by decide +kernel
theorem d6_57 : decode jdk_52_method_16_code 57 = .ok (.aload_n 3, 1) := by decide +kernel
theorem d6_58 : decode jdk_52_method_16_code 58 = .ok (.areturn, 1) := by decide +kernel
theorem d6_20 : decode jdk_52_method_16_code 20 = .ok (.aload_n 0, 1) := by decide +kernel
theorem d6_21 : decode jdk_52_method_16_code 21 = .ok (.iload_n 1, 1) := by decide +kernel
theorem d6_22 : decode jdk_52_method_16_code 22 = .ok (.iload_n 2, 1) := by decide +kernel
theorem d6_23 : decode jdk_52_method_16_code 23 = .ok (.invokestatic 119, 3) := by decide +kernel
theorem pd_6 : parseMethodDescriptor "([CII)[B" = some ⟨[(.array .char), .int, .int], some (.array .byte)⟩ := by decide +kernel
theorem d6_26 : decode jdk_52_method_16_code 26 = .ok (.astore 5, 2) := by decide +kernel
theorem d6_28 : decode jdk_52_method_16_code 28 = .ok (.aload 5, 2) := by decide +kernel
theorem d6_30 : decode jdk_52_method_16_code 30 = .ok (.iload 4, 2) := by decide +kernel
theorem d6_32 : decode jdk_52_method_16_code 32 = .ok (.invokestatic 71, 3) := by decide +kernel
theorem pd_7 : parseMethodDescriptor "([BI)C" = some ⟨[(.array .byte), .int], some .char⟩ := by decide +kernel
theorem d6_35 : decode jdk_52_method_16_code 35 = .ok (.sipush 255, 3) := by decide +kernel
theorem d6_38 : decode jdk_52_method_16_code 38 = .ok (.if_icmp .gt 16, 3) := by decide +kernel
theorem d6_54 : decode jdk_52_method_16_code 54 = .ok (.aload 5, 2) := by decide +kernel
theorem d6_56 : decode jdk_52_method_16_code 56 = .ok (.areturn, 1) := by decide +kernel
theorem ef_comG (m : MethodId) (x0 : Addr) (x1 : Int32) (x2 : Int32)  : entryFrame m #[(.ref x0), (.int x1), (.int x2)] 6 = mkF m 0 #[.val (.ref x0), .val (.int x1), .val (.int x2), .unset, .unset, .unset] [] := by first | (simp [entryFrame, mkF, argsToLocals, Value.category]; done) | rfl
def Q_comG (Z : State) (s1 : Addr) (ks : ClassId) (ls : List Int32) (h0 : Heap) (n0 : Nat) (v : Option Value) (h : Heap) (L : List Loc) : Prop := ∃ (r : Addr), ∃ (kid : ClassId), ∃ (cd : Int32), ∃ (z : Int32), ∃ (vs : List Value), v = some (.ref r) ∧ Fr n0 L ∧ Keep h0 h [] ∧ h0.size ≤ r ∧ (Exa Z h r "[B") ∧ (Arv Z h r kid .byte z vs (.int (0 : Int32))) ∧ (own_cod ls cd z vs)
set_option maxRecDepth 65536 in
set_option maxHeartbeats 40000000 in
theorem rm_comG (l : Launch) (Z : State) (a0 : Array Value) (hw : ∀ d ∈ tables_1, d.before a0 Z = true) (ws : List Jvm.Cond) (s1 : Addr) (ks : ClassId) (ls : List Int32) (h0 : Heap) (n0 : Nat) (O0 : Old Z n0 h0) (A0_ : Arv Z h0 s1 ks .char (Int32.ofNat ls.length) (ls.map Value.int) (.int (0 : Int32))) (hB : ls.length ≤ 65) (hch : own_chars ls) (S3_ : Sta Z Z.heap "java/lang/StringUTF16" "$assertionsDisabled" "Z" (.int (1 : Int32))) (S4_ : Sta Z Z.heap "java/lang/StringUTF16" "HI_BYTE_SHIFT" "I" (.int (0 : Int32))) (S5_ : Sta Z Z.heap "java/lang/StringUTF16" "LO_BYTE_SHIFT" "I" (.int (8 : Int32))) :
    MetFree l (⟨"java/lang/StringUTF16", "compress", "([CII)[B"⟩ : MethodName) (head1 (Jvm.Cond.code (⟨"java/lang/StringUTF16", "compress", "([CII)[B"⟩ : MethodName) jdk_52_method_16_code 6 (some (.array .byte)) :: ws) ({ frames := 3, cells := 2, slots := 195, locals := 40 } : Room)) (fun a U => a = #[(.ref s1), (.int (0 : Int32)), (.int (Int32.ofNat ls.length))] ∧ Z.Warmed39 U.vm ∧ U.heap = h0) (fun _ _ _ _ _ => True) (fun _ U o U' => ∃ v L, o = .returned v ∧ Q_comG Z s1 ks ls h0 n0 v U'.heap L ∧ FrameEnd U o U' L ({ frames := 3, cells := 2, slots := 195, locals := 40 } : Room).cells ({ frames := 3, cells := 2, slots := 195, locals := 40 } : Room).slots) := by
  refine MetFree.of_bodySF (plainFor_of_name pn_java_lang_StringUTF16) hisR ?_
  intro p e s m args below meth c s₁ Bd hml0 hP hK
  obtain ⟨rfl, hZ, hh⟩ := hP
  have hx := Bd.exec
  have hby := Bd.bytes
  have hml : c.maxLocals = 6 := hml0
  have hown : s.vm.findClass "java/lang/StringUTF16" = some m.cls := findClass_of_methodNamed Bd.named
  have hnm := (name_of_methodNamed Bd.named Bd.method).1
  have X0 : Stand p l e ({ frames := 3, cells := 2, slots := 195, locals := 40 } : Room) s m #[(.ref s1), (.int (0 : Int32)), (.int (Int32.ofNat ls.length))] below meth c s₁ [] 0 0 := Stand.of_body Bd
  have e0 : s₁.heap = h0 := by rw [← hh, Bd.state]; rfl
  have N0 := Fr.nil n0
  have g0 : Go p e below s₁ (mkF m 0 #[rv s1, iv (0 : Int32), iv (Int32.ofNat ls.length), .unset, .unset, .unset] []) (s₁.setTop (entryFrame m #[(.ref s1), (.int (0 : Int32)), (.int (Int32.ofNat ls.length))] 6)) := fun t kont => castTop (ef_comG m s1 (0 : Int32) (Int32.ofNat ls.length) ) kont
  generalize s₁.setTop (entryFrame m #[(.ref s1), (.int (0 : Int32)), (.int (Int32.ofNat ls.length))] 6) = A0 at g0 ⊢
  have g101 : Go p e below s₁ (mkF m 1 #[rv s1, iv (0 : Int32), iv (Int32.ofNat ls.length), .unset, .unset, .unset] [(.int (Int32.ofNat ls.length))]) A0 := by
    intro t kont
    refine g0 t ?_
    refine XS.iloadN X0.here hx rfl (hb hby d6_0) rfl ?_
    exact kont
  obtain ⟨T102, h102, k102, X102, e102, E102, A102, F102, st102⟩ := newPE X0 hx hZ (hw _ (List.mem_of_getElem? (i := 16) rfl)) e0 (g := (mkF m 1 #[rv s1, iv (0 : Int32), iv (Int32.ofNat ls.length), .unset, .unset, .unset] [(.int (Int32.ofNat ls.length))])) rfl (hb hby d6_1) rfl (own_nonneg (by omega)) (cap := 65) (by rw [own_clamp (by omega)]; omega) (by decide) (by decide) (by decide) (ad := "[B") (by decide)
  obtain ⟨b102, gb102⟩ : ∃ z, z = h0.size := ⟨_, rfl⟩
  rw [← gb102] at A102 F102 st102
  have O103 := O0.ext E102
  have y104 : Arv Z h102 b102 k102 .byte (Int32.ofNat ls.length) (List.replicate ls.length (.int (0 : Int32))) (.int (0 : Int32)) := (Arv.new A102 (own_nonneg (by omega))).pad (pad_rep [] (.int (0 : Int32)) ls.length)
  have g105 : Go p e below T102 (mkF m 3 #[rv s1, iv (0 : Int32), iv (Int32.ofNat ls.length), .unset, .unset, .unset] [(.ref b102)]) A0 := fun t kont => g101 t (st102 t kont)
  have g107 : Go p e below T102 (mkF m 9 #[rv s1, iv (0 : Int32), iv (Int32.ofNat ls.length), rv b102, .unset, .unset] [(.int (Int32.ofNat ls.length)), (.int (0 : Int32)), (.ref b102), (.int (0 : Int32)), (.ref s1)]) A0 := by
    intro t kont
    refine g105 t ?_
    refine XS.astoreN X102.here hx rfl (hb hby d6_3) rfl rfl (l' := #[rv s1, iv (0 : Int32), iv (Int32.ofNat ls.length), rv b102, .unset, .unset]) rfl ?_
    refine XS.aloadN X102.here hx rfl (hb hby d6_4) rfl rfl ?_
    refine XS.iloadN X102.here hx rfl (hb hby d6_5) rfl ?_
    refine XS.aloadN X102.here hx rfl (hb hby d6_6) rfl rfl ?_
    refine XS.iconst X102.here hx rfl (hb hby d6_7) ?_
    refine XS.iloadN X102.here hx rfl (hb hby d6_8) rfl ?_
    exact kont
  by_cases c106 : own_lat ls
  ·
    have y109 : Arv Z h102 s1 ks .char (Int32.ofNat ls.length) (ls.map Value.int) (.int (0 : Int32)) := (A0_.ext E102)
    have ge110 : n0 ≤ b102 := Nat.le_trans (own_old_le O0) (Nat.le_of_eq gb102.symm)
    obtain ⟨_, _, ⟨T108, L108, k108, n108⟩, -, X108, ⟨Lc108, hQ108, l108, y108, z108⟩, st108⟩ := Jvm.LawKit.callS X102 hx (y := (⟨"java/lang/StringUTF16", "compress", "([CI[BII)I"⟩ : MethodName)) hown (mvT hZ (hw _ (List.mem_of_getElem? (i := 37) rfl))) (mvT hZ (hw _ (List.mem_of_getElem? (i := 38) rfl))) (mvT hZ (hw _ (List.mem_of_getElem? (i := 35) rfl))) (mvT hZ (hw _ (List.mem_of_getElem? (i := 39) rfl))) (by decide) (backOf (W := 0) (rm_cmpG l Z a0 hw [] s1 b102 ks k102 ls ls.length h102 n0 O103 y109 y104 ge110 (Nat.ne_of_lt (Nat.lt_of_lt_of_le A0_.lt (Nat.le_of_eq gb102.symm))) hB (Nat.le_refl _) (c106) (fun q => absurd q (Nat.lt_irrefl _))) hZ (hw _ (List.mem_of_getElem? (i := 39) rfl)) (hw _ (List.mem_of_getElem? (i := 35) rfl)) (by decide) (by decide)) (g := (mkF m 9 #[rv s1, iv (0 : Int32), iv (Int32.ofNat ls.length), rv b102, .unset, .unset] [(.int (Int32.ofNat ls.length)), (.int (0 : Int32)), (.ref b102), (.int (0 : Int32)), (.ref s1)])) rfl (by rw [hml]; rfl) (argsL := [(.ref s1), (.int (0 : Int32)), (.ref b102), (.int (0 : Int32)), (.int (Int32.ofNat ls.length))]) (rest := []) (lenOf pd_5 rfl) rfl (by show 2 * 0 + _ ≤ _; exact Nat.le_of_eq rfl) (hb hby d6_9) (fun _ _ => ⟨rfl, e102, (by decide : 1 + 0 ≤ _), (by decide : 65 + 0 ≤ _)⟩)
    dsimp only [Pt.U, Pt.locs, Pt.cells, Pt.slots] at X108 l108 y108 z108 st108 hQ108
    subst y108 z108
    obtain ⟨rfl, M108, K108, y111⟩ := hQ108
    have N108 : Fr n0 L108 := by rw [l108]; exact Fr.app N0 M108
    have O112 := O103.keep K108 (allS ge110 all0)
    have g113 : Go p e below T108 (mkF m 12 #[rv s1, iv (0 : Int32), iv (Int32.ofNat ls.length), rv b102, .unset, .unset] [(.int (Int32.ofNat ls.length))]) A0 := fun t kont => g107 t (st108 t kont)
    have y114 : Arv Z T108.heap b102 k102 .byte (Int32.ofNat ls.length) (own_lb ls) (.int (0 : Int32)) := (own_Fn ls) ▸ y111
    have g115 : Go p e below T108 (mkF m 58 #[rv s1, iv (0 : Int32), iv (Int32.ofNat ls.length), rv b102, iv (Int32.ofNat ls.length), .unset] [(.ref b102)]) A0 := by
      intro t kont
      refine g113 t ?_
      refine XS.istore X108.here hx rfl (hb hby d6_12) rfl (l' := #[rv s1, iv (0 : Int32), iv (Int32.ofNat ls.length), rv b102, iv (Int32.ofNat ls.length), .unset]) rfl ?_
      refine XS.iload X108.here hx rfl (hb hby d6_14) rfl ?_
      refine XS.iloadN X108.here hx rfl (hb hby d6_16) rfl ?_
      refine XS.icmpYes X108.here hx rfl (pc0 := 17) (pc' := 57) rfl (hb hby d6_17) rfl (teq (rfl : (Int32.ofNat ls.length) = (Int32.ofNat ls.length))).1 (by decide) (by decide) ?_
      refine XS.aloadN X108.here hx rfl (hb hby d6_57) rfl rfl ?_
      exact kont
    have K116 : Keep h0 T108.heap [] := (((Keep.refl h0 []).ext E102).trans K108 (allS (P := fun x => x ∈ [] ∨ h0.size ≤ x) (Or.inr (Nat.le_of_eq gb102.symm)) all0))
    have y117 : Exa Z T108.heap b102 "[B" := (F102.keep K108)
    obtain ⟨fs, hr, hrun, hended, hW, hsame⟩ := X108.leave (v := some (.ref b102)) (fun h => by rw [Bd.returns] at h; cases h)
    refine ⟨_, _, g115 _ (retOut X108 hx Bd.returns rfl (Or.inr (Or.inr (Or.inr (Or.inr ⟨rfl, rfl, rfl⟩)))) (hb hby d6_58) hr), hrun, hended, _, _, rfl, ?_, ⟨_, rfl⟩, hW, hsame.mono (by decide) (by decide)⟩
    show Q_comG Z s1 ks ls h0 n0 _ T108.heap _
    exact ⟨b102, k102, (0 : Int32), (Int32.ofNat ls.length), (own_lb ls), rfl, N108, K116, (Nat.le_of_eq gb102.symm), y117, y114, Or.inl ⟨rfl, rfl, rfl, c106⟩⟩
  obtain ⟨rn, hr1, hr2, hr3⟩ := own_first (fun i => (255 : Int32) < ls.getD i 0) ls.length c106
  have y119 : Arv Z h102 s1 ks .char (Int32.ofNat ls.length) (ls.map Value.int) (.int (0 : Int32)) := (A0_.ext E102)
  have ge120 : n0 ≤ b102 := Nat.le_trans (own_old_le O0) (Nat.le_of_eq gb102.symm)
  obtain ⟨_, _, ⟨T118, L118, k118, n118⟩, -, X118, ⟨Lc118, hQ118, l118, y118, z118⟩, st118⟩ := Jvm.LawKit.callS X102 hx (y := (⟨"java/lang/StringUTF16", "compress", "([CI[BII)I"⟩ : MethodName)) hown (mvT hZ (hw _ (List.mem_of_getElem? (i := 37) rfl))) (mvT hZ (hw _ (List.mem_of_getElem? (i := 38) rfl))) (mvT hZ (hw _ (List.mem_of_getElem? (i := 35) rfl))) (mvT hZ (hw _ (List.mem_of_getElem? (i := 39) rfl))) (by decide) (backOf (W := 0) (rm_cmpG l Z a0 hw [] s1 b102 ks k102 ls rn h102 n0 O103 y119 y104 ge120 (Nat.ne_of_lt (Nat.lt_of_lt_of_le A0_.lt (Nat.le_of_eq gb102.symm))) hB (Nat.le_of_lt hr1) (hr3) (fun _ => hr2)) hZ (hw _ (List.mem_of_getElem? (i := 39) rfl)) (hw _ (List.mem_of_getElem? (i := 35) rfl)) (by decide) (by decide)) (g := (mkF m 9 #[rv s1, iv (0 : Int32), iv (Int32.ofNat ls.length), rv b102, .unset, .unset] [(.int (Int32.ofNat ls.length)), (.int (0 : Int32)), (.ref b102), (.int (0 : Int32)), (.ref s1)])) rfl (by rw [hml]; rfl) (argsL := [(.ref s1), (.int (0 : Int32)), (.ref b102), (.int (0 : Int32)), (.int (Int32.ofNat ls.length))]) (rest := []) (lenOf pd_5 rfl) rfl (by show 2 * 0 + _ ≤ _; exact Nat.le_of_eq rfl) (hb hby d6_9) (fun _ _ => ⟨rfl, e102, (by decide : 1 + 0 ≤ _), (by decide : 65 + 0 ≤ _)⟩)
  dsimp only [Pt.U, Pt.locs, Pt.cells, Pt.slots] at X118 l118 y118 z118 st118 hQ118
  subst y118 z118
  obtain ⟨rfl, M118, K118, y121⟩ := hQ118
  have N118 : Fr n0 L118 := by rw [l118]; exact Fr.app N0 M118
  have O122 := O103.keep K118 (allS ge120 all0)
  have g123 : Go p e below T118 (mkF m 12 #[rv s1, iv (0 : Int32), iv (Int32.ofNat ls.length), rv b102, .unset, .unset] [(.int (Int32.ofNat rn))]) A0 := fun t kont => g107 t (st118 t kont)
  have g124 : Go p e below T118 (mkF m 23 #[rv s1, iv (0 : Int32), iv (Int32.ofNat ls.length), rv b102, iv (Int32.ofNat rn), .unset] [(.int (Int32.ofNat ls.length)), (.int (0 : Int32)), (.ref s1)]) A0 := by
    intro t kont
    refine g123 t ?_
    refine XS.istore X118.here hx rfl (hb hby d6_12) rfl (l' := #[rv s1, iv (0 : Int32), iv (Int32.ofNat ls.length), rv b102, iv (Int32.ofNat rn), .unset]) rfl ?_
    refine XS.iload X118.here hx rfl (hb hby d6_14) rfl ?_
    refine XS.iloadN X118.here hx rfl (hb hby d6_16) rfl ?_
    refine XS.icmpNo X118.here hx rfl (hb hby d6_17) rfl (feq (own_inj (by omega) (by omega) (by omega) : ¬ ((Int32.ofNat rn) = (Int32.ofNat ls.length)))).1 ?_
    refine XS.aloadN X118.here hx rfl (hb hby d6_20) rfl rfl ?_
    refine XS.iloadN X118.here hx rfl (hb hby d6_21) rfl ?_
    refine XS.iloadN X118.here hx rfl (hb hby d6_22) rfl ?_
    exact kont
  have y126 : Arv Z T118.heap s1 ks .char (Int32.ofNat ls.length) (ls.map Value.int) (.int (0 : Int32)) := (y119.keep K118 (ninS (Nat.ne_of_lt (Nat.lt_of_lt_of_le A0_.lt (Nat.le_of_eq gb102.symm))) nin0))
  obtain ⟨_, _, ⟨T125, L125, k125, n125⟩, -, X125, ⟨Lc125, hQ125, l125, y125, z125⟩, st125⟩ := Jvm.LawKit.callS X118 hx (y := (⟨"java/lang/StringUTF16", "toBytes", "([CII)[B"⟩ : MethodName)) hown (mvT hZ (hw _ (List.mem_of_getElem? (i := 79) rfl))) (mvT hZ (hw _ (List.mem_of_getElem? (i := 80) rfl))) (mvT hZ (hw _ (List.mem_of_getElem? (i := 35) rfl))) (mvT hZ (hw _ (List.mem_of_getElem? (i := 81) rfl))) (by decide) (backOf (W := 0) (rm_u2bG l Z a0 hw [] s1 ks ls T118.heap n0 O122 y126 hB S3_ S4_ S5_) hZ (hw _ (List.mem_of_getElem? (i := 81) rfl)) (hw _ (List.mem_of_getElem? (i := 35) rfl)) (by decide) (by decide)) (g := (mkF m 23 #[rv s1, iv (0 : Int32), iv (Int32.ofNat ls.length), rv b102, iv (Int32.ofNat rn), .unset] [(.int (Int32.ofNat ls.length)), (.int (0 : Int32)), (.ref s1)])) rfl (by rw [hml]; rfl) (argsL := [(.ref s1), (.int (0 : Int32)), (.int (Int32.ofNat ls.length))]) (rest := []) (lenOf pd_6 rfl) rfl (by show 2 * 0 + _ ≤ _; exact Nat.le_of_eq rfl) (hb hby d6_23) (fun _ _ => ⟨rfl, rfl, (by decide : 1 + 1 ≤ _), (by decide : 65 + 130 ≤ _)⟩)
  dsimp only [Pt.U, Pt.locs, Pt.cells, Pt.slots] at X125 l125 y125 z125 st125 hQ125
  subst y125 z125
  obtain ⟨r127, r128, rfl, M125, K125, y129, y130, y131⟩ := hQ125
  have N125 : Fr n0 L125 := by rw [l125]; exact Fr.app N118 M125
  have O132 := O122.keep K125 all0
  have g133 : Go p e below T125 (mkF m 26 #[rv s1, iv (0 : Int32), iv (Int32.ofNat ls.length), rv b102, iv (Int32.ofNat rn), .unset] [(.ref r127)]) A0 := fun t kont => g124 t (st125 t kont)
  have g134 : Go p e below T125 (mkF m 32 #[rv s1, iv (0 : Int32), iv (Int32.ofNat ls.length), rv b102, iv (Int32.ofNat rn), rv r127] [(.int (Int32.ofNat rn)), (.ref r127)]) A0 := by
    intro t kont
    refine g133 t ?_
    refine XS.astore X125.here hx rfl (hb hby d6_26) rfl rfl (l' := #[rv s1, iv (0 : Int32), iv (Int32.ofNat ls.length), rv b102, iv (Int32.ofNat rn), rv r127]) rfl ?_
    refine XS.aload X125.here hx rfl (hb hby d6_28) rfl rfl ?_
    refine XS.iload X125.here hx rfl (hb hby d6_30) rfl ?_
    exact kont
  obtain ⟨_, _, ⟨T135, L135, k135, n135⟩, -, X135, ⟨Lc135, hQ135, l135, y135, z135⟩, st135⟩ := Jvm.LawKit.callS X125 hx (y := (⟨"java/lang/StringUTF16", "getChar", "([BI)C"⟩ : MethodName)) hown (mvT hZ (hw _ (List.mem_of_getElem? (i := 95) rfl))) (mvT hZ (hw _ (List.mem_of_getElem? (i := 96) rfl))) (mvT hZ (hw _ (List.mem_of_getElem? (i := 35) rfl))) (mvT hZ (hw _ (List.mem_of_getElem? (i := 97) rfl))) (by decide) (backOf (W := 0) (rm_getG l Z a0 hw [] r127 rn r128 ls T125.heap n0 O132 y131 hB (hr1) hch S3_ S4_ S5_) hZ (hw _ (List.mem_of_getElem? (i := 97) rfl)) (hw _ (List.mem_of_getElem? (i := 35) rfl)) (by decide) (by decide)) (g := (mkF m 32 #[rv s1, iv (0 : Int32), iv (Int32.ofNat ls.length), rv b102, iv (Int32.ofNat rn), rv r127] [(.int (Int32.ofNat rn)), (.ref r127)])) rfl (by rw [hml]; rfl) (argsL := [(.ref r127), (.int (Int32.ofNat rn))]) (rest := []) (lenOf pd_7 rfl) rfl (by show 2 * 0 + _ ≤ _; exact Nat.le_of_eq rfl) (hb hby d6_32) (fun _ _ => ⟨rfl, rfl, (by decide : 2 + 0 ≤ _), (by decide : 195 + 0 ≤ _)⟩)
  dsimp only [Pt.U, Pt.locs, Pt.cells, Pt.slots] at X135 l135 y135 z135 st135 hQ135
  subst y135 z135
  obtain ⟨rfl, M135, e135⟩ := hQ135
  have N135 : Fr n0 L135 := by rw [l135]; exact Fr.app N125 M135
  have g136 : Go p e below T135 (mkF m 35 #[rv s1, iv (0 : Int32), iv (Int32.ofNat ls.length), rv b102, iv (Int32.ofNat rn), rv r127] [(.int (ls.getD rn 0))]) A0 := fun t kont => g134 t (st135 t kont)
  have g137 : Go p e below T135 (mkF m 56 #[rv s1, iv (0 : Int32), iv (Int32.ofNat ls.length), rv b102, iv (Int32.ofNat rn), rv r127] [(.ref r127)]) A0 := by
    intro t kont
    refine g136 t ?_
    refine XS.sipush X135.here hx rfl (hb hby d6_35) ?_
    refine XS.icmpYes X135.here hx rfl (pc0 := 38) (pc' := 54) rfl (hb hby d6_38) rfl (tlt hr2).2.2.1 (by decide) (by decide) ?_
    refine XS.aload X135.here hx rfl (hb hby d6_54) rfl rfl ?_
    exact kont
  have K138 : Keep h0 T125.heap [] := ((((Keep.refl h0 []).ext E102).trans K118 (allS (P := fun x => x ∈ [] ∨ h0.size ≤ x) (Or.inr (Nat.le_of_eq gb102.symm)) all0)).trans K125 (fun x hx => nomatch hx))
  obtain ⟨fs, hr, hrun, hended, hW, hsame⟩ := X135.leave (v := some (.ref r127)) (fun h => by rw [Bd.returns] at h; cases h)
  refine ⟨_, _, g137 _ (retOut X135 hx Bd.returns rfl (Or.inr (Or.inr (Or.inr (Or.inr ⟨rfl, rfl, rfl⟩)))) (hb hby d6_56) hr), hrun, hended, _, _, rfl, ?_, ⟨_, rfl⟩, hW, hsame.mono (by decide) (by decide)⟩
  show Q_comG Z s1 ks ls h0 n0 _ T135.heap _
  rw [e135]
  exact ⟨r127, r128, (1 : Int32), (Int32.ofNat (2 * ls.length)), (own_wb ls), rfl, N135, K138, (Nat.le_trans (Nat.le_trans E102.1 K118.1) y129), y130, y131, Or.inr ⟨rfl, rfl, rfl⟩⟩
theorem d8_0 : decode jdk_52_method_15_code 0 = .ok (.iload_n 1, 1) := by decide +kernel
theorem d8_1 : decode jdk_52_method_15_code 1 = .ok (.aload_n 0, 1) := by decide +kernel
theorem d8_2 : decode jdk_52_method_15_code 2 = .ok (.arraylength, 1) := by decide +kernel
theorem d8_3 : decode jdk_52_method_15_code 3 = .ok (.isub, 1) := by decide +kernel
theorem d8_4 : decode jdk_52_method_15_code 4 = .ok (.bipush 31, 2) := by decide +kernel
theorem d8_6 : decode jdk_52_method_15_code 6 = .ok (.iushr, 1) := by decide +kernel
theorem d8_7 : decode jdk_52_method_15_code 7 = .ok (.i2b, 1) := by decide +kernel
theorem d8_8 : decode jdk_52_method_15_code 8 = .ok (.ireturn, 1) := by decide +kernel
theorem ef_cfaL (m : MethodId) (x0 : Addr) (x1 : Int32)  : entryFrame m #[(.ref x0), (.int x1)] 2 = mkF m 0 #[.val (.ref x0), .val (.int x1)] [] := by first | (simp [entryFrame, mkF, argsToLocals, Value.category]; done) | rfl
def Q_cfaL (Z : State) (b1 : Addr) (kid : ClassId) (vs : List Value) (ls : List Int32) (h0 : Heap) (n0 : Nat) (v : Option Value) (h : Heap) (L : List Loc) : Prop := v = some (.int (0 : Int32)) ∧ Fr n0 L ∧ h = h0
set_option maxRecDepth 65536 in
set_option maxHeartbeats 40000000 in
theorem rm_cfaL (l : Launch) (Z : State) (a0 : Array Value) (hw : ∀ d ∈ tables_1, d.before a0 Z = true) (ws : List Jvm.Cond) (b1 : Addr) (kid : ClassId) (vs : List Value) (ls : List Int32) (h0 : Heap) (n0 : Nat) (O0 : Old Z n0 h0) (A0_ : Arv Z h0 b1 kid .byte (Int32.ofNat ls.length) vs (.int (0 : Int32))) :
    MetFree l (⟨"java/lang/StringUTF16", "coderFromArrayLen", "([BI)B"⟩ : MethodName) (head1 (Jvm.Cond.code (⟨"java/lang/StringUTF16", "coderFromArrayLen", "([BI)B"⟩ : MethodName) jdk_52_method_15_code 2 (some .byte) :: ws) ({ frames := 0, cells := 0, slots := 0, locals := 0 } : Room)) (fun a U => a = #[(.ref b1), (.int (Int32.ofNat ls.length))] ∧ Z.Warmed39 U.vm ∧ U.heap = h0) (fun _ _ _ _ _ => True) (fun _ U o U' => ∃ v L, o = .returned v ∧ Q_cfaL Z b1 kid vs ls h0 n0 v U'.heap L ∧ FrameEnd U o U' L ({ frames := 0, cells := 0, slots := 0, locals := 0 } : Room).cells ({ frames := 0, cells := 0, slots := 0, locals := 0 } : Room).slots) := by
  refine MetFree.of_bodySF (plainFor_of_name pn_java_lang_StringUTF16) hisR ?_
  intro p e s m args below meth c s₁ Bd hml0 hP hK
  obtain ⟨rfl, hZ, hh⟩ := hP
  have hx := Bd.exec
  have hby := Bd.bytes
  have hml : c.maxLocals = 2 := hml0
  have hown : s.vm.findClass "java/lang/StringUTF16" = some m.cls := findClass_of_methodNamed Bd.named
  have hnm := (name_of_methodNamed Bd.named Bd.method).1
  have X0 : Stand p l e ({ frames := 0, cells := 0, slots := 0, locals := 0 } : Room) s m #[(.ref b1), (.int (Int32.ofNat ls.length))] below meth c s₁ [] 0 0 := Stand.of_body Bd
  have e0 : s₁.heap = h0 := by rw [← hh, Bd.state]; rfl
  have N0 := Fr.nil n0
  have g0 : Go p e below s₁ (mkF m 0 #[rv b1, iv (Int32.ofNat ls.length)] []) (s₁.setTop (entryFrame m #[(.ref b1), (.int (Int32.ofNat ls.length))] 2)) := fun t kont => castTop (ef_cfaL m b1 (Int32.ofNat ls.length) ) kont
  generalize s₁.setTop (entryFrame m #[(.ref b1), (.int (Int32.ofNat ls.length))] 2) = A0 at g0 ⊢
  have g101 : Go p e below s₁ (mkF m 2 #[rv b1, iv (Int32.ofNat ls.length)] [(.ref b1), (.int (Int32.ofNat ls.length))]) A0 := by
    intro t kont
    refine g0 t ?_
    refine XS.iloadN X0.here hx rfl (hb hby d8_0) rfl ?_
    refine XS.aloadN X0.here hx rfl (hb hby d8_1) rfl rfl ?_
    exact kont
  have zz102 := A0_
  obtain ⟨cl102, Ar102, -, S102, M102, -, -⟩ := zz102
  have g103 : Go p e below s₁ (mkF m 3 #[rv b1, iv (Int32.ofNat ls.length)] [(.int (Int32.ofNat ls.length)), (.int (Int32.ofNat ls.length))]) A0 := by
    intro t kont
    refine g101 t ?_
    refine X0.arraylength hx (by rw [e0]; exact Ar102.1) (State.isArrayOf_alike hZ.alike Ar102.2.1) (g := (mkF m 2 #[rv b1, iv (Int32.ofNat ls.length)] [(.ref b1), (.int (Int32.ofNat ls.length))])) rfl rfl (hb hby d8_2) _ ?_
    rw [len_of S102 M102]
    exact kont
  have g104 : Go p e below s₁ (mkF m 8 #[rv b1, iv (Int32.ofNat ls.length)] [(.int (((((Int32.ofNat ls.length) - (Int32.ofNat ls.length)).toUInt32 >>> ((31 : Int32) &&& 31).toUInt32).toInt32).toInt8.toInt32))]) A0 := by
    intro t kont
    refine g103 t ?_
    refine XS.isub X0.here hx rfl (hb hby d8_3) rfl ?_
    refine XS.bipush X0.here hx rfl (hb hby d8_4) ?_
    refine XS.iushr X0.here hx rfl (hb hby d8_6) rfl ?_
    refine XS.i2b X0.here hx rfl (hb hby d8_7) rfl ?_
    exact kont
  obtain ⟨fs, hr, hrun, hended, hW, hsame⟩ := X0.leave (v := some (.int (((((Int32.ofNat ls.length) - (Int32.ofNat ls.length)).toUInt32 >>> ((31 : Int32) &&& 31).toUInt32).toInt32).toInt8.toInt32))) (fun h => by rw [Bd.returns] at h; cases h)
  refine ⟨_, _, g104 _ (retN X0 hx (t := .byte) Bd.returns (by simp) (hb hby d8_8) (by rw [(own_narb _)]; exact hr)), hrun, hended, _, _, rfl, ?_, ⟨_, rfl⟩, hW, hsame.mono (by decide) (by decide)⟩
  show Q_cfaL Z b1 kid vs ls h0 n0 _ s₁.heap _
  rw [e0]
  exact ⟨congrArg (fun z => some (Value.int z)) (own_cfa0 _), N0, rfl⟩
theorem ef_cfaU (m : MethodId) (x0 : Addr) (x1 : Int32)  : entryFrame m #[(.ref x0), (.int x1)] 2 = mkF m 0 #[.val (.ref x0), .val (.int x1)] [] := by first | (simp [entryFrame, mkF, argsToLocals, Value.category]; done) | rfl
def Q_cfaU (Z : State) (b1 : Addr) (kid : ClassId) (vs : List Value) (ls : List Int32) (h0 : Heap) (n0 : Nat) (v : Option Value) (h : Heap) (L : List Loc) : Prop := v = some (.int (1 : Int32)) ∧ Fr n0 L ∧ h = h0
set_option maxRecDepth 65536 in
set_option maxHeartbeats 40000000 in
theorem rm_cfaU (l : Launch) (Z : State) (a0 : Array Value) (hw : ∀ d ∈ tables_1, d.before a0 Z = true) (ws : List Jvm.Cond) (b1 : Addr) (kid : ClassId) (vs : List Value) (ls : List Int32) (h0 : Heap) (n0 : Nat) (O0 : Old Z n0 h0) (A0_ : Arv Z h0 b1 kid .byte (Int32.ofNat (2 * ls.length)) vs (.int (0 : Int32))) (hn0 : 0 < ls.length) (hB : ls.length ≤ 65) :
    MetFree l (⟨"java/lang/StringUTF16", "coderFromArrayLen", "([BI)B"⟩ : MethodName) (head1 (Jvm.Cond.code (⟨"java/lang/StringUTF16", "coderFromArrayLen", "([BI)B"⟩ : MethodName) jdk_52_method_15_code 2 (some .byte) :: ws) ({ frames := 0, cells := 0, slots := 0, locals := 0 } : Room)) (fun a U => a = #[(.ref b1), (.int (Int32.ofNat ls.length))] ∧ Z.Warmed39 U.vm ∧ U.heap = h0) (fun _ _ _ _ _ => True) (fun _ U o U' => ∃ v L, o = .returned v ∧ Q_cfaU Z b1 kid vs ls h0 n0 v U'.heap L ∧ FrameEnd U o U' L ({ frames := 0, cells := 0, slots := 0, locals := 0 } : Room).cells ({ frames := 0, cells := 0, slots := 0, locals := 0 } : Room).slots) := by
  refine MetFree.of_bodySF (plainFor_of_name pn_java_lang_StringUTF16) hisR ?_
  intro p e s m args below meth c s₁ Bd hml0 hP hK
  obtain ⟨rfl, hZ, hh⟩ := hP
  have hx := Bd.exec
  have hby := Bd.bytes
  have hml : c.maxLocals = 2 := hml0
  have hown : s.vm.findClass "java/lang/StringUTF16" = some m.cls := findClass_of_methodNamed Bd.named
  have hnm := (name_of_methodNamed Bd.named Bd.method).1
  have X0 : Stand p l e ({ frames := 0, cells := 0, slots := 0, locals := 0 } : Room) s m #[(.ref b1), (.int (Int32.ofNat ls.length))] below meth c s₁ [] 0 0 := Stand.of_body Bd
  have e0 : s₁.heap = h0 := by rw [← hh, Bd.state]; rfl
  have N0 := Fr.nil n0
  have g0 : Go p e below s₁ (mkF m 0 #[rv b1, iv (Int32.ofNat ls.length)] []) (s₁.setTop (entryFrame m #[(.ref b1), (.int (Int32.ofNat ls.length))] 2)) := fun t kont => castTop (ef_cfaU m b1 (Int32.ofNat ls.length) ) kont
  generalize s₁.setTop (entryFrame m #[(.ref b1), (.int (Int32.ofNat ls.length))] 2) = A0 at g0 ⊢
  have g101 : Go p e below s₁ (mkF m 2 #[rv b1, iv (Int32.ofNat ls.length)] [(.ref b1), (.int (Int32.ofNat ls.length))]) A0 := by
    intro t kont
    refine g0 t ?_
    refine XS.iloadN X0.here hx rfl (hb hby d8_0) rfl ?_
    refine XS.aloadN X0.here hx rfl (hb hby d8_1) rfl rfl ?_
    exact kont
  have zz102 := A0_
  obtain ⟨cl102, Ar102, -, S102, M102, -, -⟩ := zz102
  have g103 : Go p e below s₁ (mkF m 3 #[rv b1, iv (Int32.ofNat ls.length)] [(.int (Int32.ofNat (2 * ls.length))), (.int (Int32.ofNat ls.length))]) A0 := by
    intro t kont
    refine g101 t ?_
    refine X0.arraylength hx (by rw [e0]; exact Ar102.1) (State.isArrayOf_alike hZ.alike Ar102.2.1) (g := (mkF m 2 #[rv b1, iv (Int32.ofNat ls.length)] [(.ref b1), (.int (Int32.ofNat ls.length))])) rfl rfl (hb hby d8_2) _ ?_
    rw [len_of S102 M102]
    exact kont
  have g104 : Go p e below s₁ (mkF m 8 #[rv b1, iv (Int32.ofNat ls.length)] [(.int (((((Int32.ofNat ls.length) - (Int32.ofNat (2 * ls.length))).toUInt32 >>> ((31 : Int32) &&& 31).toUInt32).toInt32).toInt8.toInt32))]) A0 := by
    intro t kont
    refine g103 t ?_
    refine XS.isub X0.here hx rfl (hb hby d8_3) rfl ?_
    refine XS.bipush X0.here hx rfl (hb hby d8_4) ?_
    refine XS.iushr X0.here hx rfl (hb hby d8_6) rfl ?_
    refine XS.i2b X0.here hx rfl (hb hby d8_7) rfl ?_
    exact kont
  obtain ⟨fs, hr, hrun, hended, hW, hsame⟩ := X0.leave (v := some (.int (((((Int32.ofNat ls.length) - (Int32.ofNat (2 * ls.length))).toUInt32 >>> ((31 : Int32) &&& 31).toUInt32).toInt32).toInt8.toInt32))) (fun h => by rw [Bd.returns] at h; cases h)
  refine ⟨_, _, g104 _ (retN X0 hx (t := .byte) Bd.returns (by simp) (hb hby d8_8) (by rw [(own_narb _)]; exact hr)), hrun, hended, _, _, rfl, ?_, ⟨_, rfl⟩, hW, hsame.mono (by decide) (by decide)⟩
  show Q_cfaU Z b1 kid vs ls h0 n0 _ s₁.heap _
  rw [e0]
  exact ⟨congrArg (fun z => some (Value.int z)) (own_cfa1 hn0 (by omega)), N0, rfl⟩
theorem d2_27 : decode jdk_42_method_149_code 27 = .ok (.getstatic 38, 3) := by decide +kernel
theorem d2_30 : decode jdk_42_method_149_code 30 = .ok (.ifCond .eq 28, 3) := by decide +kernel
theorem d2_33 : decode jdk_42_method_149_code 33 = .ok (.aload_n 1, 1) := by decide +kernel
theorem d2_34 : decode jdk_42_method_149_code 34 = .ok (.iload_n 2, 1) := by decide +kernel
theorem d2_35 : decode jdk_42_method_149_code 35 = .ok (.iload_n 3, 1) := by decide +kernel
theorem d2_36 : decode jdk_42_method_149_code 36 = .ok (.invokestatic 177, 3) := by decide +kernel
theorem d2_39 : decode jdk_42_method_149_code 39 = .ok (.astore 5, 2) := by decide +kernel
theorem d2_41 : decode jdk_42_method_149_code 41 = .ok (.aload_n 0, 1) := by decide +kernel
theorem d2_42 : decode jdk_42_method_149_code 42 = .ok (.aload 5, 2) := by decide +kernel
theorem d2_44 : decode jdk_42_method_149_code 44 = .ok (.iload_n 3, 1) := by decide +kernel
theorem d2_45 : decode jdk_42_method_149_code 45 = .ok (.invokestatic 47, 3) := by decide +kernel
theorem pd_8 : parseMethodDescriptor "([BI)B" = some ⟨[(.array .byte), .int], some .byte⟩ := by decide +kernel
theorem d2_48 : decode jdk_42_method_149_code 48 = .ok (.putfield 15, 3) := by decide +kernel
theorem d2_51 : decode jdk_42_method_149_code 51 = .ok (.aload_n 0, 1) := by decide +kernel
theorem d2_52 : decode jdk_42_method_149_code 52 = .ok (.aload 5, 2) := by decide +kernel
theorem d2_54 : decode jdk_42_method_149_code 54 = .ok (.putfield 9, 3) := by decide +kernel
theorem d2_57 : decode jdk_42_method_149_code 57 = .ok (.return_, 1) := by decide +kernel
theorem ef_sinG (m : MethodId) (x0 : Addr) (x1 : Addr) (x2 : Int32) (x3 : Int32)  : entryFrame m #[(.ref x0), (.ref x1), (.int x2), (.int x3), .null] 6 = mkF m 0 #[.val (.ref x0), .val (.ref x1), .val (.int x2), .val (.int x3), .val .null, .unset] [] := by first | (simp [entryFrame, mkF, argsToLocals, Value.category]; done) | rfl
def Q_sinG (Z : State) (a1 : Addr) (s1 : Addr) (ks : ClassId) (ls : List Int32) (cs : Int32) (h0 : Heap) (n0 : Nat) (v : Option Value) (h : Heap) (L : List Loc) : Prop := ∃ (r : Addr), ∃ (kid : ClassId), ∃ (cd : Int32), ∃ (z : Int32), ∃ (vs : List Value), v = none ∧ Fr n0 L ∧ Keep h0 h [a1] ∧ (Exa Z h a1 "java/lang/String") ∧ (Fld Z h a1 "java/lang/String" "coder" "B" (.int cd)) ∧ (Fld Z h a1 "java/lang/String" "value" "[B" (.ref r)) ∧ h0.size ≤ r ∧ (Arv Z h r kid .byte z vs (.int (0 : Int32))) ∧ (own_cod ls cd z vs)
set_option maxRecDepth 65536 in
set_option maxHeartbeats 40000000 in
theorem rm_sinG (l : Launch) (Z : State) (a0 : Array Value) (hw : ∀ d ∈ tables_1, d.before a0 Z = true) (ws : List Jvm.Cond) (a1 : Addr) (s1 : Addr) (ks : ClassId) (ls : List Int32) (cs : Int32) (h0 : Heap) (n0 : Nat) (O0 : Old Z n0 h0) (F0_ : Fld Z h0 a1 "java/lang/String" "value" "[B" .null) (F1_ : Fld Z h0 a1 "java/lang/String" "coder" "B" (.int (0 : Int32))) (E2_ : Exa Z h0 a1 "java/lang/String") (G3_ : n0 ≤ a1) (A4_ : Arv Z h0 s1 ks .char (Int32.ofNat ls.length) (ls.map Value.int) (.int (0 : Int32))) (hB : ls.length ≤ 65) (hn0 : 0 < ls.length) (hch : own_chars ls) (S8_ : Sta Z Z.heap "java/lang/String" "COMPACT_STRINGS" "Z" (.int cs)) (hcs : ¬ (cs = (0 : Int32))) (S10_ : Sta Z Z.heap "java/lang/StringUTF16" "$assertionsDisabled" "Z" (.int (1 : Int32))) (S11_ : Sta Z Z.heap "java/lang/StringUTF16" "HI_BYTE_SHIFT" "I" (.int (0 : Int32))) (S12_ : Sta Z Z.heap "java/lang/StringUTF16" "LO_BYTE_SHIFT" "I" (.int (8 : Int32))) :
    MetFree l (⟨"java/lang/String", "<init>", "([CIILjava/lang/Void;)V"⟩ : MethodName) (head1 (Jvm.Cond.code (⟨"java/lang/String", "<init>", "([CIILjava/lang/Void;)V"⟩ : MethodName) jdk_42_method_149_code 6 none :: ws) ({ frames := 4, cells := 2, slots := 195, locals := 57 } : Room)) (fun a U => a = #[(.ref a1), (.ref s1), (.int (0 : Int32)), (.int (Int32.ofNat ls.length)), .null] ∧ Z.Warmed39 U.vm ∧ U.heap = h0) (fun _ _ _ _ _ => True) (fun _ U o U' => ∃ v L, o = .returned v ∧ Q_sinG Z a1 s1 ks ls cs h0 n0 v U'.heap L ∧ FrameEnd U o U' L ({ frames := 4, cells := 2, slots := 195, locals := 57 } : Room).cells ({ frames := 4, cells := 2, slots := 195, locals := 57 } : Room).slots) := by
  refine MetFree.of_bodySF (plainFor_of_name pn_java_lang_String) hisR ?_
  intro p e s m args below meth c s₁ Bd hml0 hP hK
  obtain ⟨rfl, hZ, hh⟩ := hP
  have hx := Bd.exec
  have hby := Bd.bytes
  have hml : c.maxLocals = 6 := hml0
  have hown : s.vm.findClass "java/lang/String" = some m.cls := findClass_of_methodNamed Bd.named
  have hnm := (name_of_methodNamed Bd.named Bd.method).1
  have X0 : Stand p l e ({ frames := 4, cells := 2, slots := 195, locals := 57 } : Room) s m #[(.ref a1), (.ref s1), (.int (0 : Int32)), (.int (Int32.ofNat ls.length)), .null] below meth c s₁ [] 0 0 := Stand.of_body Bd
  have e0 : s₁.heap = h0 := by rw [← hh, Bd.state]; rfl
  have N0 := Fr.nil n0
  have g0 : Go p e below s₁ (mkF m 0 #[rv a1, rv s1, iv (0 : Int32), iv (Int32.ofNat ls.length), .val .null, .unset] []) (s₁.setTop (entryFrame m #[(.ref a1), (.ref s1), (.int (0 : Int32)), (.int (Int32.ofNat ls.length)), .null] 6)) := fun t kont => castTop (ef_sinG m a1 s1 (0 : Int32) (Int32.ofNat ls.length) ) kont
  generalize s₁.setTop (entryFrame m #[(.ref a1), (.ref s1), (.int (0 : Int32)), (.int (Int32.ofNat ls.length)), .null] 6) = A0 at g0 ⊢
  have g101 : Go p e below s₁ (mkF m 1 #[rv a1, rv s1, iv (0 : Int32), iv (Int32.ofNat ls.length), .val .null, .unset] [(.ref a1)]) A0 := by
    intro t kont
    refine g0 t ?_
    refine XS.aloadN X0.here hx rfl (hb hby d2_0) rfl rfl ?_
    exact kont
  obtain ⟨T102, X102, e102, st102⟩ := initO X0 hx hZ hown (hw _ (List.mem_of_getElem? (i := 12) rfl)) (hw _ (List.mem_of_getElem? (i := 13) rfl)) (hw _ (List.mem_of_getElem? (i := 14) rfl)) e0 (g := (mkF m 1 #[rv a1, rv s1, iv (0 : Int32), iv (Int32.ofNat ls.length), .val .null, .unset] [(.ref a1)])) rfl (by rw [hml]; rfl) rfl (hb hby d2_1) (by decide) (W := 0) (by show 2 * 0 + _ ≤ _; exact Nat.le_of_eq rfl) (by decide)
  have g103 : Go p e below T102 (mkF m 4 #[rv a1, rv s1, iv (0 : Int32), iv (Int32.ofNat ls.length), .val .null, .unset] []) A0 := fun t kont => g101 t (st102 t kont)
  have g104 : Go p e below T102 (mkF m 27 #[rv a1, rv s1, iv (0 : Int32), iv (Int32.ofNat ls.length), .val .null, .unset] []) A0 := by
    intro t kont
    refine g103 t ?_
    refine XS.iloadN X102.here hx rfl (hb hby d2_4) rfl ?_
    refine XS.ifYes X102.here hx rfl (pc0 := 5) (pc' := 27) rfl (hb hby d2_5) rfl ((if0 _ _).trans (feq (own_inj (b := 0) (by omega) (by omega) (by omega) : ¬ ((Int32.ofNat ls.length) = (0 : Int32)))).2) (by decide) (by decide) ?_
    exact kont
  have y105 : Sta Z h0 "java/lang/String" "COMPACT_STRINGS" "Z" (.int cs) := S8_.ext O0.2
  obtain ⟨T106, X106, e106, st106⟩ := getS2 X102 hx hZ hown (host := "") (Or.inl (hw _ (List.mem_of_getElem? (i := 32) rfl))) Via.refl e102 y105 (g := (mkF m 27 #[rv a1, rv s1, iv (0 : Int32), iv (Int32.ofNat ls.length), .val .null, .unset] [])) rfl (hb hby d2_27)
  have g107 : Go p e below T106 (mkF m 30 #[rv a1, rv s1, iv (0 : Int32), iv (Int32.ofNat ls.length), .val .null, .unset] [(.int cs)]) A0 := fun t kont => g104 t (st106 t kont)
  have g108 : Go p e below T106 (mkF m 36 #[rv a1, rv s1, iv (0 : Int32), iv (Int32.ofNat ls.length), .val .null, .unset] [(.int (Int32.ofNat ls.length)), (.int (0 : Int32)), (.ref s1)]) A0 := by
    intro t kont
    refine g107 t ?_
    refine XS.ifNo X106.here hx rfl (hb hby d2_30) rfl ((if0 _ _).trans (feq hcs).1) ?_
    refine XS.aloadN X106.here hx rfl (hb hby d2_33) rfl rfl ?_
    refine XS.iloadN X106.here hx rfl (hb hby d2_34) rfl ?_
    refine XS.iloadN X106.here hx rfl (hb hby d2_35) rfl ?_
    exact kont
  obtain ⟨_, _, ⟨T109, L109, k109, n109⟩, -, X109, ⟨Lc109, hQ109, l109, y109, z109⟩, st109⟩ := Jvm.LawKit.callS X106 hx (y := (⟨"java/lang/StringUTF16", "compress", "([CII)[B"⟩ : MethodName)) hown (mvT hZ (hw _ (List.mem_of_getElem? (i := 33) rfl))) (mvT hZ (hw _ (List.mem_of_getElem? (i := 34) rfl))) (mvT hZ (hw _ (List.mem_of_getElem? (i := 35) rfl))) (mvT hZ (hw _ (List.mem_of_getElem? (i := 36) rfl))) (by decide) (backOf (W := 0) (rm_comG l Z a0 hw [] s1 ks ls h0 n0 O0 A4_ hB hch S10_ S11_ S12_) hZ (hw _ (List.mem_of_getElem? (i := 36) rfl)) (hw _ (List.mem_of_getElem? (i := 35) rfl)) (by decide) (by decide)) (g := (mkF m 36 #[rv a1, rv s1, iv (0 : Int32), iv (Int32.ofNat ls.length), .val .null, .unset] [(.int (Int32.ofNat ls.length)), (.int (0 : Int32)), (.ref s1)])) rfl (by rw [hml]; rfl) (argsL := [(.ref s1), (.int (0 : Int32)), (.int (Int32.ofNat ls.length))]) (rest := []) (lenOf pd_6 rfl) rfl (by show 2 * 0 + _ ≤ _; exact Nat.le_of_eq rfl) (hb hby d2_36) (fun _ _ => ⟨rfl, e106, (by decide : 0 + 2 ≤ _), (by decide : 0 + 195 ≤ _)⟩)
  dsimp only [Pt.U, Pt.locs, Pt.cells, Pt.slots] at X109 l109 y109 z109 st109 hQ109
  subst y109 z109
  obtain ⟨r110, r111, r112, r113, r114, rfl, M109, K109, y115, y116, y117, y118⟩ := hQ109
  have N109 : Fr n0 L109 := by rw [l109]; exact Fr.app N0 M109
  have O119 := O0.keep K109 all0
  have g120 : Go p e below T109 (mkF m 39 #[rv a1, rv s1, iv (0 : Int32), iv (Int32.ofNat ls.length), .val .null, .unset] [(.ref r110)]) A0 := fun t kont => g108 t (st109 t kont)
  have g121 : Go p e below T109 (mkF m 45 #[rv a1, rv s1, iv (0 : Int32), iv (Int32.ofNat ls.length), .val .null, rv r110] [(.int (Int32.ofNat ls.length)), (.ref r110), (.ref a1)]) A0 := by
    intro t kont
    refine g120 t ?_
    refine XS.astore X109.here hx rfl (hb hby d2_39) rfl rfl (l' := #[rv a1, rv s1, iv (0 : Int32), iv (Int32.ofNat ls.length), .val .null, rv r110]) rfl ?_
    refine XS.aloadN X109.here hx rfl (hb hby d2_41) rfl rfl ?_
    refine XS.aload X109.here hx rfl (hb hby d2_42) rfl rfl ?_
    refine XS.iloadN X109.here hx rfl (hb hby d2_44) rfl ?_
    exact kont
  rcases y118 with ⟨rfl, rfl, rfl, hlat⟩ | ⟨rfl, rfl, rfl⟩
  ·
    obtain ⟨_, _, ⟨T122, L122, k122, n122⟩, -, X122, ⟨Lc122, hQ122, l122, y122, z122⟩, st122⟩ := Jvm.LawKit.callS X109 hx (y := (⟨"java/lang/StringUTF16", "coderFromArrayLen", "([BI)B"⟩ : MethodName)) hown (mvT hZ (hw _ (List.mem_of_getElem? (i := 40) rfl))) (mvT hZ (hw _ (List.mem_of_getElem? (i := 41) rfl))) (mvT hZ (hw _ (List.mem_of_getElem? (i := 35) rfl))) (mvT hZ (hw _ (List.mem_of_getElem? (i := 42) rfl))) (by decide) (backOf (W := 1) (rm_cfaL l Z a0 hw [] r110 r111 (own_lb ls) ls T109.heap n0 O119 y117) hZ (hw _ (List.mem_of_getElem? (i := 42) rfl)) (hw _ (List.mem_of_getElem? (i := 35) rfl)) (by decide) (by decide)) (g := (mkF m 45 #[rv a1, rv s1, iv (0 : Int32), iv (Int32.ofNat ls.length), .val .null, rv r110] [(.int (Int32.ofNat ls.length)), (.ref r110), (.ref a1)])) rfl (by rw [hml]; rfl) (argsL := [(.ref r110), (.int (Int32.ofNat ls.length))]) (rest := [(.ref a1)]) (lenOf pd_8 rfl) rfl (by show 2 * 0 + _ ≤ _; exact Nat.le_of_eq rfl) (hb hby d2_45) (fun _ _ => ⟨rfl, rfl, (by decide : 2 + 0 ≤ _), (by decide : 195 + 0 ≤ _)⟩)
    dsimp only [Pt.U, Pt.locs, Pt.cells, Pt.slots] at X122 l122 y122 z122 st122 hQ122
    subst y122 z122
    obtain ⟨rfl, M122, e122⟩ := hQ122
    have N122 : Fr n0 L122 := by rw [l122]; exact Fr.app N109 M122
    have g123 : Go p e below T122 (mkF m 48 #[rv a1, rv s1, iv (0 : Int32), iv (Int32.ofNat ls.length), .val .null, rv r110] [(.int (0 : Int32)), (.ref a1)]) A0 := fun t kont => g121 t (st122 t kont)
    have y124 : Exa Z T109.heap a1 "java/lang/String" := (E2_.keep K109)
    have y125 : Fld Z T109.heap a1 "java/lang/String" "coder" "B" (.int (0 : Int32)) := (F1_.keep K109 nin0)
    obtain ⟨T126, h126, X126, e126, W126, st126⟩ := putFN X122 hx hZ hown (hw _ (List.mem_of_getElem? (i := 22) rfl)) Via.refl e122 y125 y124 (Or.inr ⟨(hw _ (List.mem_of_getElem? (i := 18) rfl)), rfl, hnm⟩) (hw _ (List.mem_of_getElem? (i := 2) rfl)) (ty := .byte) (v := (.int (0 : Int32))) (v' := (.int (0 : Int32))) (by decide) (own_nw_byte (by decide : nar .byte (0 : Int32) = (0 : Int32))) (own_ft_byte (by decide : nar .byte (0 : Int32) = (0 : Int32))) (g := (mkF m 48 #[rv a1, rv s1, iv (0 : Int32), iv (Int32.ofNat ls.length), .val .null, rv r110] [(.int (0 : Int32)), (.ref a1)])) rfl rfl (hb hby d2_48)
    have O127 := O119.wr W126 G3_
    have y128 : Fld Z h126 a1 "java/lang/String" "coder" "B" (.int (0 : Int32)) := y125.same W126
    have N126 := Fr.snoc X126 N122 G3_
    have g129 : Go p e below T126 (mkF m 51 #[rv a1, rv s1, iv (0 : Int32), iv (Int32.ofNat ls.length), .val .null, rv r110] []) A0 := fun t kont => g123 t (st126 t kont)
    have g130 : Go p e below T126 (mkF m 54 #[rv a1, rv s1, iv (0 : Int32), iv (Int32.ofNat ls.length), .val .null, rv r110] [(.ref r110), (.ref a1)]) A0 := by
      intro t kont
      refine g129 t ?_
      refine XS.aloadN X126.here hx rfl (hb hby d2_51) rfl rfl ?_
      refine XS.aload X126.here hx rfl (hb hby d2_52) rfl rfl ?_
      exact kont
    have y131 : Exa Z h126 a1 "java/lang/String" := (y124.wr W126)
    have y132 : Fld Z h126 a1 "java/lang/String" "value" "[B" .null := ((F0_.keep K109 nin0).other W126 (Or.inr (slot_ne (Or.inr (hw _ (List.mem_of_getElem? (i := 17) rfl))) (Or.inr (hw _ (List.mem_of_getElem? (i := 18) rfl))) (by decide) (t := (.array .byte)) (t' := .byte) (by decide) (by decide))))
    obtain ⟨T133, h133, X133, e133, W133, st133⟩ := putF X126 hx hZ hown (host := "") (Or.inl (hw _ (List.mem_of_getElem? (i := 21) rfl))) Via.refl e126 y132 y131 (Or.inr ⟨(hw _ (List.mem_of_getElem? (i := 17) rfl)), rfl, hnm⟩) (hw _ (List.mem_of_getElem? (i := 2) rfl)) (ty := (.array .byte)) (by decide) rfl rfl (g := (mkF m 54 #[rv a1, rv s1, iv (0 : Int32), iv (Int32.ofNat ls.length), .val .null, rv r110] [(.ref r110), (.ref a1)])) rfl rfl (hb hby d2_54)
    have O134 := O127.wr W133 G3_
    have y135 : Fld Z h133 a1 "java/lang/String" "value" "[B" (.ref r110) := y132.same W133
    have N133 := Fr.snoc X133 N126 G3_
    have g136 : Go p e below T133 (mkF m 57 #[rv a1, rv s1, iv (0 : Int32), iv (Int32.ofNat ls.length), .val .null, rv r110] []) A0 := fun t kont => g130 t (st133 t kont)
    have K137 : Keep h0 h133 [a1] := ((((Keep.refl h0 [a1]).trans K109 (fun x hx => nomatch hx)).wr W126 (Or.inl (List.mem_of_getElem? (i := 0) rfl))).wr W133 (Or.inl (List.mem_of_getElem? (i := 0) rfl)))
    have y138 : Exa Z h133 a1 "java/lang/String" := (y131.wr W133)
    have y139 : Fld Z h133 a1 "java/lang/String" "coder" "B" (.int (0 : Int32)) := (y128.other W133 (Or.inr (slot_ne (Or.inr (hw _ (List.mem_of_getElem? (i := 18) rfl))) (Or.inr (hw _ (List.mem_of_getElem? (i := 17) rfl))) (by decide) (t := .byte) (t' := (.array .byte)) (by decide) (by decide))))
    have y140 : Arv Z h133 r110 r111 .byte (Int32.ofNat ls.length) (own_lb ls) (.int (0 : Int32)) := ((y117.other W126 (Ne.symm (Nat.ne_of_lt (Nat.lt_of_lt_of_le F0_.lt y115)))).other W133 (Ne.symm (Nat.ne_of_lt (Nat.lt_of_lt_of_le F0_.lt y115))))
    obtain ⟨fs, hr, hrun, hended, hW, hsame⟩ := X133.leave (v := none) (fun _ => rfl)
    refine ⟨_, _, g136 _ (X133.returnOut hx Bd.returns (hb hby d2_57) hr), hrun, hended, _, _, rfl, ?_, ⟨_, rfl⟩, hW, hsame.mono (by decide) (by decide)⟩
    show Q_sinG Z a1 s1 ks ls cs h0 n0 _ T133.heap _
    rw [e133]
    exact ⟨r110, r111, (0 : Int32), (Int32.ofNat ls.length), (own_lb ls), rfl, N133, K137, y138, y139, y135, y115, y140, Or.inl ⟨rfl, rfl, rfl, hlat⟩⟩
  obtain ⟨_, _, ⟨T141, L141, k141, n141⟩, -, X141, ⟨Lc141, hQ141, l141, y141, z141⟩, st141⟩ := Jvm.LawKit.callS X109 hx (y := (⟨"java/lang/StringUTF16", "coderFromArrayLen", "([BI)B"⟩ : MethodName)) hown (mvT hZ (hw _ (List.mem_of_getElem? (i := 40) rfl))) (mvT hZ (hw _ (List.mem_of_getElem? (i := 41) rfl))) (mvT hZ (hw _ (List.mem_of_getElem? (i := 35) rfl))) (mvT hZ (hw _ (List.mem_of_getElem? (i := 42) rfl))) (by decide) (backOf (W := 1) (rm_cfaU l Z a0 hw [] r110 r111 (own_wb ls) ls T109.heap n0 O119 y117 hn0 hB) hZ (hw _ (List.mem_of_getElem? (i := 42) rfl)) (hw _ (List.mem_of_getElem? (i := 35) rfl)) (by decide) (by decide)) (g := (mkF m 45 #[rv a1, rv s1, iv (0 : Int32), iv (Int32.ofNat ls.length), .val .null, rv r110] [(.int (Int32.ofNat ls.length)), (.ref r110), (.ref a1)])) rfl (by rw [hml]; rfl) (argsL := [(.ref r110), (.int (Int32.ofNat ls.length))]) (rest := [(.ref a1)]) (lenOf pd_8 rfl) rfl (by show 2 * 0 + _ ≤ _; exact Nat.le_of_eq rfl) (hb hby d2_45) (fun _ _ => ⟨rfl, rfl, (by decide : 2 + 0 ≤ _), (by decide : 195 + 0 ≤ _)⟩)
  dsimp only [Pt.U, Pt.locs, Pt.cells, Pt.slots] at X141 l141 y141 z141 st141 hQ141
  subst y141 z141
  obtain ⟨rfl, M141, e141⟩ := hQ141
  have N141 : Fr n0 L141 := by rw [l141]; exact Fr.app N109 M141
  have g142 : Go p e below T141 (mkF m 48 #[rv a1, rv s1, iv (0 : Int32), iv (Int32.ofNat ls.length), .val .null, rv r110] [(.int (1 : Int32)), (.ref a1)]) A0 := fun t kont => g121 t (st141 t kont)
  have y143 : Exa Z T109.heap a1 "java/lang/String" := (E2_.keep K109)
  have y144 : Fld Z T109.heap a1 "java/lang/String" "coder" "B" (.int (0 : Int32)) := (F1_.keep K109 nin0)
  obtain ⟨T145, h145, X145, e145, W145, st145⟩ := putFN X141 hx hZ hown (hw _ (List.mem_of_getElem? (i := 22) rfl)) Via.refl e141 y144 y143 (Or.inr ⟨(hw _ (List.mem_of_getElem? (i := 18) rfl)), rfl, hnm⟩) (hw _ (List.mem_of_getElem? (i := 2) rfl)) (ty := .byte) (v := (.int (1 : Int32))) (v' := (.int (1 : Int32))) (by decide) (own_nw_byte (by decide : nar .byte (1 : Int32) = (1 : Int32))) (own_ft_byte (by decide : nar .byte (1 : Int32) = (1 : Int32))) (g := (mkF m 48 #[rv a1, rv s1, iv (0 : Int32), iv (Int32.ofNat ls.length), .val .null, rv r110] [(.int (1 : Int32)), (.ref a1)])) rfl rfl (hb hby d2_48)
  have O146 := O119.wr W145 G3_
  have y147 : Fld Z h145 a1 "java/lang/String" "coder" "B" (.int (1 : Int32)) := y144.same W145
  have N145 := Fr.snoc X145 N141 G3_
  have g148 : Go p e below T145 (mkF m 51 #[rv a1, rv s1, iv (0 : Int32), iv (Int32.ofNat ls.length), .val .null, rv r110] []) A0 := fun t kont => g142 t (st145 t kont)
  have g149 : Go p e below T145 (mkF m 54 #[rv a1, rv s1, iv (0 : Int32), iv (Int32.ofNat ls.length), .val .null, rv r110] [(.ref r110), (.ref a1)]) A0 := by
    intro t kont
    refine g148 t ?_
    refine XS.aloadN X145.here hx rfl (hb hby d2_51) rfl rfl ?_
    refine XS.aload X145.here hx rfl (hb hby d2_52) rfl rfl ?_
    exact kont
  have y150 : Exa Z h145 a1 "java/lang/String" := (y143.wr W145)
  have y151 : Fld Z h145 a1 "java/lang/String" "value" "[B" .null := ((F0_.keep K109 nin0).other W145 (Or.inr (slot_ne (Or.inr (hw _ (List.mem_of_getElem? (i := 17) rfl))) (Or.inr (hw _ (List.mem_of_getElem? (i := 18) rfl))) (by decide) (t := (.array .byte)) (t' := .byte) (by decide) (by decide))))
  obtain ⟨T152, h152, X152, e152, W152, st152⟩ := putF X145 hx hZ hown (host := "") (Or.inl (hw _ (List.mem_of_getElem? (i := 21) rfl))) Via.refl e145 y151 y150 (Or.inr ⟨(hw _ (List.mem_of_getElem? (i := 17) rfl)), rfl, hnm⟩) (hw _ (List.mem_of_getElem? (i := 2) rfl)) (ty := (.array .byte)) (by decide) rfl rfl (g := (mkF m 54 #[rv a1, rv s1, iv (0 : Int32), iv (Int32.ofNat ls.length), .val .null, rv r110] [(.ref r110), (.ref a1)])) rfl rfl (hb hby d2_54)
  have O153 := O146.wr W152 G3_
  have y154 : Fld Z h152 a1 "java/lang/String" "value" "[B" (.ref r110) := y151.same W152
  have N152 := Fr.snoc X152 N145 G3_
  have g155 : Go p e below T152 (mkF m 57 #[rv a1, rv s1, iv (0 : Int32), iv (Int32.ofNat ls.length), .val .null, rv r110] []) A0 := fun t kont => g149 t (st152 t kont)
  have K156 : Keep h0 h152 [a1] := ((((Keep.refl h0 [a1]).trans K109 (fun x hx => nomatch hx)).wr W145 (Or.inl (List.mem_of_getElem? (i := 0) rfl))).wr W152 (Or.inl (List.mem_of_getElem? (i := 0) rfl)))
  have y157 : Exa Z h152 a1 "java/lang/String" := (y150.wr W152)
  have y158 : Fld Z h152 a1 "java/lang/String" "coder" "B" (.int (1 : Int32)) := (y147.other W152 (Or.inr (slot_ne (Or.inr (hw _ (List.mem_of_getElem? (i := 18) rfl))) (Or.inr (hw _ (List.mem_of_getElem? (i := 17) rfl))) (by decide) (t := .byte) (t' := (.array .byte)) (by decide) (by decide))))
  have y159 : Arv Z h152 r110 r111 .byte (Int32.ofNat (2 * ls.length)) (own_wb ls) (.int (0 : Int32)) := ((y117.other W145 (Ne.symm (Nat.ne_of_lt (Nat.lt_of_lt_of_le F0_.lt y115)))).other W152 (Ne.symm (Nat.ne_of_lt (Nat.lt_of_lt_of_le F0_.lt y115))))
  obtain ⟨fs, hr, hrun, hended, hW, hsame⟩ := X152.leave (v := none) (fun _ => rfl)
  refine ⟨_, _, g155 _ (X152.returnOut hx Bd.returns (hb hby d2_57) hr), hrun, hended, _, _, rfl, ?_, ⟨_, rfl⟩, hW, hsame.mono (by decide) (by decide)⟩
  show Q_sinG Z a1 s1 ks ls cs h0 n0 _ T152.heap _
  rw [e152]
  exact ⟨r110, r111, (1 : Int32), (Int32.ofNat (2 * ls.length)), (own_wb ls), rfl, N152, K156, y157, y158, y154, y115, y159, Or.inr ⟨rfl, rfl, rfl⟩⟩
theorem ef_sIniG (m : MethodId) (x0 : Addr) (x1 : Addr)  : entryFrame m #[(.ref x0), (.ref x1)] 2 = mkF m 0 #[.val (.ref x0), .val (.ref x1)] [] := by first | (simp [entryFrame, mkF, argsToLocals, Value.category]; done) | rfl
def Q_sIniG (Z : State) (a1 : Addr) (s1 : Addr) (ks : ClassId) (ls : List Int32) (cs : Int32) (h0 : Heap) (n0 : Nat) (v : Option Value) (h : Heap) (L : List Loc) : Prop := ∃ (r : Addr), ∃ (kid : ClassId), ∃ (cd : Int32), ∃ (z : Int32), ∃ (vs : List Value), v = none ∧ Fr n0 L ∧ Keep h0 h [a1] ∧ (Exa Z h a1 "java/lang/String") ∧ (Fld Z h a1 "java/lang/String" "coder" "B" (.int cd)) ∧ (Fld Z h a1 "java/lang/String" "value" "[B" (.ref r)) ∧ h0.size ≤ r ∧ (Arv Z h r kid .byte z vs (.int (0 : Int32))) ∧ (own_cod ls cd z vs)
set_option maxRecDepth 65536 in
set_option maxHeartbeats 40000000 in
theorem rm_sIniG (l : Launch) (Z : State) (a0 : Array Value) (hw : ∀ d ∈ tables_1, d.before a0 Z = true) (ws : List Jvm.Cond) (a1 : Addr) (s1 : Addr) (ks : ClassId) (ls : List Int32) (cs : Int32) (h0 : Heap) (n0 : Nat) (O0 : Old Z n0 h0) (F0_ : Fld Z h0 a1 "java/lang/String" "value" "[B" .null) (F1_ : Fld Z h0 a1 "java/lang/String" "coder" "B" (.int (0 : Int32))) (E2_ : Exa Z h0 a1 "java/lang/String") (G3_ : n0 ≤ a1) (A4_ : Arv Z h0 s1 ks .char (Int32.ofNat ls.length) (ls.map Value.int) (.int (0 : Int32))) (hB : ls.length ≤ 65) (hn0 : 0 < ls.length) (hch : own_chars ls) (S8_ : Sta Z Z.heap "java/lang/String" "COMPACT_STRINGS" "Z" (.int cs)) (hcs : ¬ (cs = (0 : Int32))) (S10_ : Sta Z Z.heap "java/lang/StringUTF16" "$assertionsDisabled" "Z" (.int (1 : Int32))) (S11_ : Sta Z Z.heap "java/lang/StringUTF16" "HI_BYTE_SHIFT" "I" (.int (0 : Int32))) (S12_ : Sta Z Z.heap "java/lang/StringUTF16" "LO_BYTE_SHIFT" "I" (.int (8 : Int32))) :
    MetFree l (⟨"java/lang/String", "<init>", "([C)V"⟩ : MethodName) (head1 (Jvm.Cond.code (⟨"java/lang/String", "<init>", "([C)V"⟩ : MethodName) jdk_42_method_3_code 2 none :: ws) ({ frames := 5, cells := 2, slots := 195, locals := 74 } : Room)) (fun a U => a = #[(.ref a1), (.ref s1)] ∧ Z.Warmed39 U.vm ∧ U.heap = h0) (fun _ _ _ _ _ => True) (fun _ U o U' => ∃ v L, o = .returned v ∧ Q_sIniG Z a1 s1 ks ls cs h0 n0 v U'.heap L ∧ FrameEnd U o U' L ({ frames := 5, cells := 2, slots := 195, locals := 74 } : Room).cells ({ frames := 5, cells := 2, slots := 195, locals := 74 } : Room).slots) := by
  refine MetFree.of_bodySF (plainFor_of_name pn_java_lang_String) hisR ?_
  intro p e s m args below meth c s₁ Bd hml0 hP hK
  obtain ⟨rfl, hZ, hh⟩ := hP
  have hx := Bd.exec
  have hby := Bd.bytes
  have hml : c.maxLocals = 2 := hml0
  have hown : s.vm.findClass "java/lang/String" = some m.cls := findClass_of_methodNamed Bd.named
  have hnm := (name_of_methodNamed Bd.named Bd.method).1
  have X0 : Stand p l e ({ frames := 5, cells := 2, slots := 195, locals := 74 } : Room) s m #[(.ref a1), (.ref s1)] below meth c s₁ [] 0 0 := Stand.of_body Bd
  have e0 : s₁.heap = h0 := by rw [← hh, Bd.state]; rfl
  have N0 := Fr.nil n0
  have g0 : Go p e below s₁ (mkF m 0 #[rv a1, rv s1] []) (s₁.setTop (entryFrame m #[(.ref a1), (.ref s1)] 2)) := fun t kont => castTop (ef_sIniG m a1 s1 ) kont
  generalize s₁.setTop (entryFrame m #[(.ref a1), (.ref s1)] 2) = A0 at g0 ⊢
  have g101 : Go p e below s₁ (mkF m 4 #[rv a1, rv s1] [(.ref s1), (.int (0 : Int32)), (.ref s1), (.ref a1)]) A0 := by
    intro t kont
    refine g0 t ?_
    refine XS.aloadN X0.here hx rfl (hb hby d1_0) rfl rfl ?_
    refine XS.aloadN X0.here hx rfl (hb hby d1_1) rfl rfl ?_
    refine XS.iconst X0.here hx rfl (hb hby d1_2) ?_
    refine XS.aloadN X0.here hx rfl (hb hby d1_3) rfl rfl ?_
    exact kont
  have zz102 := A4_
  obtain ⟨cl102, Ar102, -, S102, M102, -, -⟩ := zz102
  have g103 : Go p e below s₁ (mkF m 5 #[rv a1, rv s1] [(.int (Int32.ofNat ls.length)), (.int (0 : Int32)), (.ref s1), (.ref a1)]) A0 := by
    intro t kont
    refine g101 t ?_
    refine X0.arraylength hx (by rw [e0]; exact Ar102.1) (State.isArrayOf_alike hZ.alike Ar102.2.1) (g := (mkF m 4 #[rv a1, rv s1] [(.ref s1), (.int (0 : Int32)), (.ref s1), (.ref a1)])) rfl rfl (hb hby d1_4) _ ?_
    rw [len_of S102 M102]
    exact kont
  have g104 : Go p e below s₁ (mkF m 6 #[rv a1, rv s1] [.null, (.int (Int32.ofNat ls.length)), (.int (0 : Int32)), (.ref s1), (.ref a1)]) A0 := by
    intro t kont
    refine g103 t ?_
    refine XS.aconstNull X0.here hx rfl (hb hby d1_5) ?_
    exact kont
  obtain ⟨_, _, ⟨T105, L105, k105, n105⟩, -, X105, ⟨Lc105, hQ105, l105, y105, z105⟩, st105⟩ := X0.specialBack hx (y := (⟨"java/lang/String", "<init>", "([CIILjava/lang/Void;)V"⟩ : MethodName)) rfl hown (mvT hZ (hw _ (List.mem_of_getElem? (i := 8) rfl))) (mvT hZ (hw _ (List.mem_of_getElem? (i := 9) rfl))) (mvT hZ (hw _ (List.mem_of_getElem? (i := 11) rfl))) (by decide) (backOf (W := 0) (rm_sinG l Z a0 hw [] a1 s1 ks ls cs h0 n0 O0 F0_ F1_ E2_ G3_ A4_ hB hn0 hch S8_ hcs S10_ S11_ S12_) hZ (hw _ (List.mem_of_getElem? (i := 11) rfl)) (hw _ (List.mem_of_getElem? (i := 3) rfl)) (by decide) (by decide)) (g := (mkF m 6 #[rv a1, rv s1] [.null, (.int (Int32.ofNat ls.length)), (.int (0 : Int32)), (.ref s1), (.ref a1)])) rfl (by rw [hml]; rfl) (Steps.refl _) (a := a1) (argsL := [(.ref s1), (.int (0 : Int32)), (.int (Int32.ofNat ls.length)), .null]) (rest := []) (lenOf pd_1 rfl) rfl (by show 2 * 0 + _ ≤ _; exact Nat.le_of_eq rfl) (hb hby d1_6) (fun _ _ => ⟨rfl, e0, (by decide : 0 + 2 ≤ _), (by decide : 0 + 195 ≤ _)⟩)
  dsimp only [Pt.U, Pt.locs, Pt.cells, Pt.slots] at X105 l105 y105 z105 st105 hQ105
  subst y105 z105
  obtain ⟨r106, r107, r108, r109, r110, rfl, M105, K105, y111, y112, y113, y114, y115, y116⟩ := hQ105
  have N105 : Fr n0 L105 := by rw [l105]; exact Fr.app N0 M105
  have O117 := O0.keep K105 (allS G3_ all0)
  have g118 : Go p e below T105 (mkF m 9 #[rv a1, rv s1] []) A0 := fun t kont => g104 t (st105.trans kont)
  have K119 : Keep h0 T105.heap [a1] := ((Keep.refl h0 [a1]).trans K105 (allS (P := fun x => x ∈ [a1] ∨ h0.size ≤ x) (Or.inl (List.mem_of_getElem? (i := 0) rfl)) all0))
  obtain ⟨fs, hr, hrun, hended, hW, hsame⟩ := X105.leave (v := none) (fun _ => rfl)
  refine ⟨_, _, g118 _ (X105.returnOut hx Bd.returns (hb hby d1_9) hr), hrun, hended, _, _, rfl, ?_, ⟨_, rfl⟩, hW, hsame.mono (by decide) (by decide)⟩
  show Q_sIniG Z a1 s1 ks ls cs h0 n0 _ T105.heap _
  exact ⟨r106, r107, r108, r109, r110, rfl, N105, K119, y111, y112, y113, y114, y115, y116⟩
theorem d5_0 : decode jdk_42_method_55_code 0 = .ok (.aload_n 0, 1) := by decide +kernel
theorem d5_1 : decode jdk_42_method_55_code 1 = .ok (.getfield 9, 3) := by decide +kernel
theorem d5_4 : decode jdk_42_method_55_code 4 = .ok (.arraylength, 1) := by decide +kernel
theorem d5_5 : decode jdk_42_method_55_code 5 = .ok (.ifCond .ne 7, 3) := by decide +kernel
theorem d5_12 : decode jdk_42_method_55_code 12 = .ok (.iconst 0, 1) := by decide +kernel
theorem d5_13 : decode jdk_42_method_55_code 13 = .ok (.ireturn, 1) := by decide +kernel
theorem ef_isE (m : MethodId) (x0 : Addr)  : entryFrame m #[(.ref x0)] 1 = mkF m 0 #[.val (.ref x0)] [] := by first | (simp [entryFrame, mkF, argsToLocals, Value.category]; done) | rfl
def Q_isE (Z : State) (a1 : Addr) (b1 : Addr) (kb : ClassId) (z1 : Int32) (vs1 : List Value) (h0 : Heap) (n0 : Nat) (v : Option Value) (h : Heap) (L : List Loc) : Prop := v = some (.int (0 : Int32)) ∧ Fr n0 L ∧ h = h0
set_option maxRecDepth 65536 in
set_option maxHeartbeats 40000000 in
theorem rm_isE (l : Launch) (Z : State) (a0 : Array Value) (hw : ∀ d ∈ tables_1, d.before a0 Z = true) (ws : List Jvm.Cond) (a1 : Addr) (b1 : Addr) (kb : ClassId) (z1 : Int32) (vs1 : List Value) (h0 : Heap) (n0 : Nat) (O0 : Old Z n0 h0) (F0_ : Fld Z h0 a1 "java/lang/String" "value" "[B" (.ref b1)) (A1_ : Arv Z h0 b1 kb .byte z1 vs1 (.int (0 : Int32))) (hz1 : ¬ (z1 = (0 : Int32))) :
    MetFree l (⟨"java/lang/String", "isEmpty", "()Z"⟩ : MethodName) (head1 (Jvm.Cond.code (⟨"java/lang/String", "isEmpty", "()Z"⟩ : MethodName) jdk_42_method_55_code 1 (some .boolean) :: ws) ({ frames := 0, cells := 0, slots := 0, locals := 0 } : Room)) (fun a U => a = #[(.ref a1)] ∧ Z.Warmed39 U.vm ∧ U.heap = h0) (fun _ _ _ _ _ => True) (fun _ U o U' => ∃ v L, o = .returned v ∧ Q_isE Z a1 b1 kb z1 vs1 h0 n0 v U'.heap L ∧ FrameEnd U o U' L ({ frames := 0, cells := 0, slots := 0, locals := 0 } : Room).cells ({ frames := 0, cells := 0, slots := 0, locals := 0 } : Room).slots) := by
  refine MetFree.of_bodySF (plainFor_of_name pn_java_lang_String) hisR ?_
  intro p e s m args below meth c s₁ Bd hml0 hP hK
  obtain ⟨rfl, hZ, hh⟩ := hP
  have hx := Bd.exec
  have hby := Bd.bytes
  have hml : c.maxLocals = 1 := hml0
  have hown : s.vm.findClass "java/lang/String" = some m.cls := findClass_of_methodNamed Bd.named
  have hnm := (name_of_methodNamed Bd.named Bd.method).1
  have X0 : Stand p l e ({ frames := 0, cells := 0, slots := 0, locals := 0 } : Room) s m #[(.ref a1)] below meth c s₁ [] 0 0 := Stand.of_body Bd
  have e0 : s₁.heap = h0 := by rw [← hh, Bd.state]; rfl
  have N0 := Fr.nil n0
  have g0 : Go p e below s₁ (mkF m 0 #[rv a1] []) (s₁.setTop (entryFrame m #[(.ref a1)] 1)) := fun t kont => castTop (ef_isE m a1 ) kont
  generalize s₁.setTop (entryFrame m #[(.ref a1)] 1) = A0 at g0 ⊢
  have g101 : Go p e below s₁ (mkF m 1 #[rv a1] [(.ref a1)]) A0 := by
    intro t kont
    refine g0 t ?_
    refine XS.aloadN X0.here hx rfl (hb hby d5_0) rfl rfl ?_
    exact kont
  obtain ⟨T102, X102, e102, st102⟩ := getF X0 hx hZ hown (host := "") (Or.inl (hw _ (List.mem_of_getElem? (i := 21) rfl))) Via.refl e0 F0_ (g := (mkF m 1 #[rv a1] [(.ref a1)])) rfl rfl (hb hby d5_1)
  have g103 : Go p e below T102 (mkF m 4 #[rv a1] [(.ref b1)]) A0 := fun t kont => g101 t (st102 t kont)
  have zz104 := A1_
  obtain ⟨cl104, Ar104, -, S104, M104, -, -⟩ := zz104
  have g105 : Go p e below T102 (mkF m 5 #[rv a1] [(.int z1)]) A0 := by
    intro t kont
    refine g103 t ?_
    refine X102.arraylength hx (by rw [e102]; exact Ar104.1) (State.isArrayOf_alike hZ.alike Ar104.2.1) (g := (mkF m 4 #[rv a1] [(.ref b1)])) rfl rfl (hb hby d5_4) _ ?_
    rw [len_of S104 M104]
    exact kont
  have g106 : Go p e below T102 (mkF m 13 #[rv a1] [(.int (0 : Int32))]) A0 := by
    intro t kont
    refine g105 t ?_
    refine XS.ifYes X102.here hx rfl (pc0 := 5) (pc' := 12) rfl (hb hby d5_5) rfl ((if0 _ _).trans (feq hz1).2) (by decide) (by decide) ?_
    refine XS.iconst X102.here hx rfl (hb hby d5_12) ?_
    exact kont
  obtain ⟨fs, hr, hrun, hended, hW, hsame⟩ := X102.leave (v := some (.int (0 : Int32))) (fun h => by rw [Bd.returns] at h; cases h)
  refine ⟨_, _, g106 _ (retN X102 hx (t := .boolean) Bd.returns (by simp) (hb hby d5_13) hr), hrun, hended, _, _, rfl, ?_, ⟨_, rfl⟩, hW, hsame.mono (by decide) (by decide)⟩
  show Q_isE Z a1 b1 kb z1 vs1 h0 n0 _ T102.heap _
  rw [e102]
  exact ⟨rfl, N0, rfl⟩
theorem d10_0 : decode jdk_42_method_152_code 0 = .ok (.getstatic 38, 3) := by decide +kernel
theorem d10_3 : decode jdk_42_method_152_code 3 = .ok (.ifCond .eq 10, 3) := by decide +kernel
theorem d10_6 : decode jdk_42_method_152_code 6 = .ok (.aload_n 0, 1) := by decide +kernel
theorem d10_7 : decode jdk_42_method_152_code 7 = .ok (.getfield 15, 3) := by decide +kernel
theorem d10_10 : decode jdk_42_method_152_code 10 = .ok (.goto 4, 3) := by decide +kernel
theorem d10_14 : decode jdk_42_method_152_code 14 = .ok (.ireturn, 1) := by decide +kernel
theorem ef_cdrG (m : MethodId) (x0 : Addr)  : entryFrame m #[(.ref x0)] 1 = mkF m 0 #[.val (.ref x0)] [] := by first | (simp [entryFrame, mkF, argsToLocals, Value.category]; done) | rfl
def Q_cdrG (Z : State) (a1 : Addr) (cs : Int32) (cd : Int32) (h0 : Heap) (n0 : Nat) (v : Option Value) (h : Heap) (L : List Loc) : Prop := v = some (.int cd) ∧ Fr n0 L ∧ h = h0
set_option maxRecDepth 65536 in
set_option maxHeartbeats 40000000 in
theorem rm_cdrG (l : Launch) (Z : State) (a0 : Array Value) (hw : ∀ d ∈ tables_1, d.before a0 Z = true) (ws : List Jvm.Cond) (a1 : Addr) (cs : Int32) (cd : Int32) (h0 : Heap) (n0 : Nat) (O0 : Old Z n0 h0) (S0_ : Sta Z Z.heap "java/lang/String" "COMPACT_STRINGS" "Z" (.int cs)) (hcs : ¬ (cs = (0 : Int32))) (F2_ : Fld Z h0 a1 "java/lang/String" "coder" "B" (.int cd)) (h01 : cd = (0 : Int32) ∨ cd = (1 : Int32)) :
    MetFree l (⟨"java/lang/String", "coder", "()B"⟩ : MethodName) (head1 (Jvm.Cond.code (⟨"java/lang/String", "coder", "()B"⟩ : MethodName) jdk_42_method_152_code 1 (some .byte) :: ws) ({ frames := 0, cells := 0, slots := 0, locals := 0 } : Room)) (fun a U => a = #[(.ref a1)] ∧ Z.Warmed39 U.vm ∧ U.heap = h0) (fun _ _ _ _ _ => True) (fun _ U o U' => ∃ v L, o = .returned v ∧ Q_cdrG Z a1 cs cd h0 n0 v U'.heap L ∧ FrameEnd U o U' L ({ frames := 0, cells := 0, slots := 0, locals := 0 } : Room).cells ({ frames := 0, cells := 0, slots := 0, locals := 0 } : Room).slots) := by
  refine MetFree.of_bodySF (plainFor_of_name pn_java_lang_String) hisR ?_
  intro p e s m args below meth c s₁ Bd hml0 hP hK
  obtain ⟨rfl, hZ, hh⟩ := hP
  have hx := Bd.exec
  have hby := Bd.bytes
  have hml : c.maxLocals = 1 := hml0
  have hown : s.vm.findClass "java/lang/String" = some m.cls := findClass_of_methodNamed Bd.named
  have hnm := (name_of_methodNamed Bd.named Bd.method).1
  have X0 : Stand p l e ({ frames := 0, cells := 0, slots := 0, locals := 0 } : Room) s m #[(.ref a1)] below meth c s₁ [] 0 0 := Stand.of_body Bd
  have e0 : s₁.heap = h0 := by rw [← hh, Bd.state]; rfl
  have N0 := Fr.nil n0
  have g0 : Go p e below s₁ (mkF m 0 #[rv a1] []) (s₁.setTop (entryFrame m #[(.ref a1)] 1)) := fun t kont => castTop (ef_cdrG m a1 ) kont
  generalize s₁.setTop (entryFrame m #[(.ref a1)] 1) = A0 at g0 ⊢
  have r_cd : nar .byte cd = cd := own_nar01 h01
  have y101 : Sta Z h0 "java/lang/String" "COMPACT_STRINGS" "Z" (.int cs) := S0_.ext O0.2
  obtain ⟨T102, X102, e102, st102⟩ := getS2 X0 hx hZ hown (host := "") (Or.inl (hw _ (List.mem_of_getElem? (i := 32) rfl))) Via.refl e0 y101 (g := (mkF m 0 #[rv a1] [])) rfl (hb hby d10_0)
  have g103 : Go p e below T102 (mkF m 3 #[rv a1] [(.int cs)]) A0 := fun t kont => g0 t (st102 t kont)
  have g104 : Go p e below T102 (mkF m 7 #[rv a1] [(.ref a1)]) A0 := by
    intro t kont
    refine g103 t ?_
    refine XS.ifNo X102.here hx rfl (hb hby d10_3) rfl ((if0 _ _).trans (feq hcs).1) ?_
    refine XS.aloadN X102.here hx rfl (hb hby d10_6) rfl rfl ?_
    exact kont
  obtain ⟨T105, X105, e105, st105⟩ := getF X102 hx hZ hown (host := "") (Or.inl (hw _ (List.mem_of_getElem? (i := 22) rfl))) Via.refl e102 F2_ (g := (mkF m 7 #[rv a1] [(.ref a1)])) rfl rfl (hb hby d10_7)
  have g106 : Go p e below T105 (mkF m 10 #[rv a1] [(.int cd)]) A0 := fun t kont => g104 t (st105 t kont)
  have g107 : Go p e below T105 (mkF m 14 #[rv a1] [(.int cd)]) A0 := by
    intro t kont
    refine g106 t ?_
    refine XS.goto X105.here hx rfl (pc0 := 10) (pc' := 14) rfl (hb hby d10_10) (by decide) (by decide) ?_
    exact kont
  obtain ⟨fs, hr, hrun, hended, hW, hsame⟩ := X105.leave (v := some (.int cd)) (fun h => by rw [Bd.returns] at h; cases h)
  refine ⟨_, _, g107 _ (retN X105 hx (t := .byte) Bd.returns (by simp) (hb hby d10_14) (by rw [r_cd]; exact hr)), hrun, hended, _, _, rfl, ?_, ⟨_, rfl⟩, hW, hsame.mono (by decide) (by decide)⟩
  show Q_cdrG Z a1 cs cd h0 n0 _ T105.heap _
  rw [e105]
  exact ⟨rfl, N0, rfl⟩
theorem d9_0 : decode jdk_42_method_54_code 0 = .ok (.aload_n 0, 1) := by decide +kernel
theorem d9_1 : decode jdk_42_method_54_code 1 = .ok (.getfield 9, 3) := by decide +kernel
theorem d9_4 : decode jdk_42_method_54_code 4 = .ok (.arraylength, 1) := by decide +kernel
theorem d9_5 : decode jdk_42_method_54_code 5 = .ok (.aload_n 0, 1) := by decide +kernel
theorem d9_6 : decode jdk_42_method_54_code 6 = .ok (.invokevirtual 335, 3) := by decide +kernel
theorem pd_9 : parseMethodDescriptor "()B" = some ⟨[], some .byte⟩ := by decide +kernel
theorem d9_9 : decode jdk_42_method_54_code 9 = .ok (.ishr, 1) := by decide +kernel
theorem d9_10 : decode jdk_42_method_54_code 10 = .ok (.ireturn, 1) := by decide +kernel
theorem ef_lenG (m : MethodId) (x0 : Addr)  : entryFrame m #[(.ref x0)] 1 = mkF m 0 #[.val (.ref x0)] [] := by first | (simp [entryFrame, mkF, argsToLocals, Value.category]; done) | rfl
def Q_lenG (Z : State) (a1 : Addr) (v1 : Addr) (kv : ClassId) (cd : Int32) (z1 : Int32) (vs : List Value) (ls : List Int32) (cs : Int32) (h0 : Heap) (n0 : Nat) (v : Option Value) (h : Heap) (L : List Loc) : Prop := v = some (.int (Int32.ofNat ls.length)) ∧ Fr n0 L ∧ h = h0
set_option maxRecDepth 65536 in
set_option maxHeartbeats 40000000 in
theorem rm_lenG (l : Launch) (Z : State) (a0 : Array Value) (hw : ∀ d ∈ tables_1, d.before a0 Z = true) (ws : List Jvm.Cond) (a1 : Addr) (v1 : Addr) (kv : ClassId) (cd : Int32) (z1 : Int32) (vs : List Value) (ls : List Int32) (cs : Int32) (h0 : Heap) (n0 : Nat) (O0 : Old Z n0 h0) (S0_ : Sta Z Z.heap "java/lang/String" "COMPACT_STRINGS" "Z" (.int cs)) (hcs : ¬ (cs = (0 : Int32))) (F2_ : Fld Z h0 a1 "java/lang/String" "value" "[B" (.ref v1)) (F3_ : Fld Z h0 a1 "java/lang/String" "coder" "B" (.int cd)) (E4_ : Exa Z h0 a1 "java/lang/String") (A5_ : Arv Z h0 v1 kv .byte z1 vs (.int (0 : Int32))) (hcod : own_cod ls cd z1 vs) (hB : ls.length ≤ 65) :
    MetFree l (⟨"java/lang/String", "length", "()I"⟩ : MethodName) (head1 (Jvm.Cond.code (⟨"java/lang/String", "length", "()I"⟩ : MethodName) jdk_42_method_54_code 1 (some .int) :: ws) ({ frames := 1, cells := 0, slots := 0, locals := 13 } : Room)) (fun a U => a = #[(.ref a1)] ∧ Z.Warmed39 U.vm ∧ U.heap = h0) (fun _ _ _ _ _ => True) (fun _ U o U' => ∃ v L, o = .returned v ∧ Q_lenG Z a1 v1 kv cd z1 vs ls cs h0 n0 v U'.heap L ∧ FrameEnd U o U' L ({ frames := 1, cells := 0, slots := 0, locals := 13 } : Room).cells ({ frames := 1, cells := 0, slots := 0, locals := 13 } : Room).slots) := by
  refine MetFree.of_bodySF (plainFor_of_name pn_java_lang_String) hisR ?_
  intro p e s m args below meth c s₁ Bd hml0 hP hK
  obtain ⟨rfl, hZ, hh⟩ := hP
  have hx := Bd.exec
  have hby := Bd.bytes
  have hml : c.maxLocals = 1 := hml0
  have hown : s.vm.findClass "java/lang/String" = some m.cls := findClass_of_methodNamed Bd.named
  have hnm := (name_of_methodNamed Bd.named Bd.method).1
  have X0 : Stand p l e ({ frames := 1, cells := 0, slots := 0, locals := 13 } : Room) s m #[(.ref a1)] below meth c s₁ [] 0 0 := Stand.of_body Bd
  have e0 : s₁.heap = h0 := by rw [← hh, Bd.state]; rfl
  have N0 := Fr.nil n0
  have g0 : Go p e below s₁ (mkF m 0 #[rv a1] []) (s₁.setTop (entryFrame m #[(.ref a1)] 1)) := fun t kont => castTop (ef_lenG m a1 ) kont
  generalize s₁.setTop (entryFrame m #[(.ref a1)] 1) = A0 at g0 ⊢
  have g101 : Go p e below s₁ (mkF m 1 #[rv a1] [(.ref a1)]) A0 := by
    intro t kont
    refine g0 t ?_
    refine XS.aloadN X0.here hx rfl (hb hby d9_0) rfl rfl ?_
    exact kont
  obtain ⟨T102, X102, e102, st102⟩ := getF X0 hx hZ hown (host := "") (Or.inl (hw _ (List.mem_of_getElem? (i := 21) rfl))) Via.refl e0 F2_ (g := (mkF m 1 #[rv a1] [(.ref a1)])) rfl rfl (hb hby d9_1)
  have g103 : Go p e below T102 (mkF m 4 #[rv a1] [(.ref v1)]) A0 := fun t kont => g101 t (st102 t kont)
  have zz104 := A5_
  obtain ⟨cl104, Ar104, -, S104, M104, -, -⟩ := zz104
  have g105 : Go p e below T102 (mkF m 5 #[rv a1] [(.int z1)]) A0 := by
    intro t kont
    refine g103 t ?_
    refine X102.arraylength hx (by rw [e102]; exact Ar104.1) (State.isArrayOf_alike hZ.alike Ar104.2.1) (g := (mkF m 4 #[rv a1] [(.ref v1)])) rfl rfl (hb hby d9_4) _ ?_
    rw [len_of S104 M104]
    exact kont
  have g106 : Go p e below T102 (mkF m 6 #[rv a1] [(.ref a1), (.int z1)]) A0 := by
    intro t kont
    refine g105 t ?_
    refine XS.aloadN X102.here hx rfl (hb hby d9_5) rfl rfl ?_
    exact kont
  obtain ⟨cq107, kq107, q107a, q107b, q107c⟩ := isOf hZ e102 E4_
  obtain ⟨_, _, ⟨T107, L107, k107, n107⟩, -, X107, ⟨Lc107, hQ107, l107, y107, z107⟩, st107⟩ := X102.virtualBack hx (y := (⟨"java/lang/String", "coder", "()B"⟩ : MethodName)) (z := (⟨"java/lang/String", "coder", "()B"⟩ : MethodName)) hown (mvT hZ (hw _ (List.mem_of_getElem? (i := 48) rfl))) (mvT hZ (hw _ (List.mem_of_getElem? (i := 49) rfl))) (notFace_of_selects (args := #[]) (mvT hZ (hw _ (List.mem_of_getElem? (i := 51) rfl)))) (mvT hZ (hw _ (List.mem_of_getElem? (i := 51) rfl))) (mvT hZ (hw _ (List.mem_of_getElem? (i := 50) rfl))) (by decide) (backOf (W := 1) (rm_cdrG l Z a0 hw [] a1 cs cd h0 n0 O0 S0_ hcs F3_ (own_cod01 hcod)) hZ (hw _ (List.mem_of_getElem? (i := 52) rfl)) (hw _ (List.mem_of_getElem? (i := 3) rfl)) (by decide) (by decide)) q107a q107c (g := (mkF m 6 #[rv a1] [(.ref a1), (.int z1)])) rfl (by rw [hml]; rfl) (Steps.refl _) (argsL := []) (rest := [(.int z1)]) (lenOf pd_9 rfl) rfl (by show 2 * 0 + _ ≤ _; exact Nat.le_of_eq rfl) (hb hby d9_6) (fun _ _ => ⟨rfl, e102, (by decide : 0 + 0 ≤ _), (by decide : 0 + 0 ≤ _)⟩)
  dsimp only [Pt.U, Pt.locs, Pt.cells, Pt.slots] at X107 l107 y107 z107 st107 hQ107
  subst y107 z107
  obtain ⟨rfl, M107, e107⟩ := hQ107
  have N107 : Fr n0 L107 := by rw [l107]; exact Fr.app N0 M107
  have g108 : Go p e below T107 (mkF m 9 #[rv a1] [(.int cd), (.int z1)]) A0 := fun t kont => g106 t (st107.trans kont)
  have g109 : Go p e below T107 (mkF m 10 #[rv a1] [(.int (z1 >>> (cd &&& 31)))]) A0 := by
    intro t kont
    refine g108 t ?_
    refine XS.ishr X107.here hx rfl (hb hby d9_9) rfl ?_
    exact kont
  obtain ⟨fs, hr, hrun, hended, hW, hsame⟩ := X107.leave (v := some (.int (z1 >>> (cd &&& 31)))) (fun h => by rw [Bd.returns] at h; cases h)
  refine ⟨_, _, g109 _ (retI X107 hx Bd.returns (hb hby d9_10) hr), hrun, hended, _, _, rfl, ?_, ⟨_, rfl⟩, hW, hsame.mono (by decide) (by decide)⟩
  show Q_lenG Z a1 v1 kv cd z1 vs ls cs h0 n0 _ T107.heap _
  rw [e107]
  exact ⟨congrArg (fun z => some (Value.int z)) (own_cdlen hcod (by omega)), N107, rfl⟩
theorem d13_0 : decode jdk_42_method_154_code 0 = .ok (.getstatic 38, 3) := by decide +kernel
theorem d13_3 : decode jdk_42_method_154_code 3 = .ok (.ifCond .eq 14, 3) := by decide +kernel
theorem d13_6 : decode jdk_42_method_154_code 6 = .ok (.aload_n 0, 1) := by decide +kernel
theorem d13_7 : decode jdk_42_method_154_code 7 = .ok (.getfield 15, 3) := by decide +kernel
theorem d13_10 : decode jdk_42_method_154_code 10 = .ok (.ifCond .ne 7, 3) := by decide +kernel
theorem d13_13 : decode jdk_42_method_154_code 13 = .ok (.iconst 1, 1) := by decide +kernel
theorem d13_14 : decode jdk_42_method_154_code 14 = .ok (.goto 4, 3) := by decide +kernel
theorem d13_18 : decode jdk_42_method_154_code 18 = .ok (.ireturn, 1) := by decide +kernel
theorem ef_isl0 (m : MethodId) (x0 : Addr)  : entryFrame m #[(.ref x0)] 1 = mkF m 0 #[.val (.ref x0)] [] := by first | (simp [entryFrame, mkF, argsToLocals, Value.category]; done) | rfl
def Q_isl0 (Z : State) (a1 : Addr) (cs : Int32) (h0 : Heap) (n0 : Nat) (v : Option Value) (h : Heap) (L : List Loc) : Prop := v = some (.int (1 : Int32)) ∧ Fr n0 L ∧ h = h0
set_option maxRecDepth 65536 in
set_option maxHeartbeats 40000000 in
theorem rm_isl0 (l : Launch) (Z : State) (a0 : Array Value) (hw : ∀ d ∈ tables_1, d.before a0 Z = true) (ws : List Jvm.Cond) (a1 : Addr) (cs : Int32) (h0 : Heap) (n0 : Nat) (O0 : Old Z n0 h0) (S0_ : Sta Z Z.heap "java/lang/String" "COMPACT_STRINGS" "Z" (.int cs)) (hcs : ¬ (cs = (0 : Int32))) (F2_ : Fld Z h0 a1 "java/lang/String" "coder" "B" (.int (0 : Int32))) :
    MetFree l (⟨"java/lang/String", "isLatin1", "()Z"⟩ : MethodName) (head1 (Jvm.Cond.code (⟨"java/lang/String", "isLatin1", "()Z"⟩ : MethodName) jdk_42_method_154_code 1 (some .boolean) :: ws) ({ frames := 0, cells := 0, slots := 0, locals := 0 } : Room)) (fun a U => a = #[(.ref a1)] ∧ Z.Warmed39 U.vm ∧ U.heap = h0) (fun _ _ _ _ _ => True) (fun _ U o U' => ∃ v L, o = .returned v ∧ Q_isl0 Z a1 cs h0 n0 v U'.heap L ∧ FrameEnd U o U' L ({ frames := 0, cells := 0, slots := 0, locals := 0 } : Room).cells ({ frames := 0, cells := 0, slots := 0, locals := 0 } : Room).slots) := by
  refine MetFree.of_bodySF (plainFor_of_name pn_java_lang_String) hisR ?_
  intro p e s m args below meth c s₁ Bd hml0 hP hK
  obtain ⟨rfl, hZ, hh⟩ := hP
  have hx := Bd.exec
  have hby := Bd.bytes
  have hml : c.maxLocals = 1 := hml0
  have hown : s.vm.findClass "java/lang/String" = some m.cls := findClass_of_methodNamed Bd.named
  have hnm := (name_of_methodNamed Bd.named Bd.method).1
  have X0 : Stand p l e ({ frames := 0, cells := 0, slots := 0, locals := 0 } : Room) s m #[(.ref a1)] below meth c s₁ [] 0 0 := Stand.of_body Bd
  have e0 : s₁.heap = h0 := by rw [← hh, Bd.state]; rfl
  have N0 := Fr.nil n0
  have g0 : Go p e below s₁ (mkF m 0 #[rv a1] []) (s₁.setTop (entryFrame m #[(.ref a1)] 1)) := fun t kont => castTop (ef_isl0 m a1 ) kont
  generalize s₁.setTop (entryFrame m #[(.ref a1)] 1) = A0 at g0 ⊢
  have y101 : Sta Z h0 "java/lang/String" "COMPACT_STRINGS" "Z" (.int cs) := S0_.ext O0.2
  obtain ⟨T102, X102, e102, st102⟩ := getS2 X0 hx hZ hown (host := "") (Or.inl (hw _ (List.mem_of_getElem? (i := 32) rfl))) Via.refl e0 y101 (g := (mkF m 0 #[rv a1] [])) rfl (hb hby d13_0)
  have g103 : Go p e below T102 (mkF m 3 #[rv a1] [(.int cs)]) A0 := fun t kont => g0 t (st102 t kont)
  have g104 : Go p e below T102 (mkF m 7 #[rv a1] [(.ref a1)]) A0 := by
    intro t kont
    refine g103 t ?_
    refine XS.ifNo X102.here hx rfl (hb hby d13_3) rfl ((if0 _ _).trans (feq hcs).1) ?_
    refine XS.aloadN X102.here hx rfl (hb hby d13_6) rfl rfl ?_
    exact kont
  obtain ⟨T105, X105, e105, st105⟩ := getF X102 hx hZ hown (host := "") (Or.inl (hw _ (List.mem_of_getElem? (i := 22) rfl))) Via.refl e102 F2_ (g := (mkF m 7 #[rv a1] [(.ref a1)])) rfl rfl (hb hby d13_7)
  have g106 : Go p e below T105 (mkF m 10 #[rv a1] [(.int (0 : Int32))]) A0 := fun t kont => g104 t (st105 t kont)
  have g107 : Go p e below T105 (mkF m 18 #[rv a1] [(.int (1 : Int32))]) A0 := by
    intro t kont
    refine g106 t ?_
    refine XS.ifNo X105.here hx rfl (hb hby d13_10) rfl ((if0 _ _).trans (teq (by decide : (0 : Int32) = (0 : Int32))).2) ?_
    refine XS.iconst X105.here hx rfl (hb hby d13_13) ?_
    refine XS.goto X105.here hx rfl (pc0 := 14) (pc' := 18) rfl (hb hby d13_14) (by decide) (by decide) ?_
    exact kont
  obtain ⟨fs, hr, hrun, hended, hW, hsame⟩ := X105.leave (v := some (.int (1 : Int32))) (fun h => by rw [Bd.returns] at h; cases h)
  refine ⟨_, _, g107 _ (retN X105 hx (t := .boolean) Bd.returns (by simp) (hb hby d13_18) hr), hrun, hended, _, _, rfl, ?_, ⟨_, rfl⟩, hW, hsame.mono (by decide) (by decide)⟩
  show Q_isl0 Z a1 cs h0 n0 _ T105.heap _
  rw [e105]
  exact ⟨rfl, N0, rfl⟩
theorem d13_17 : decode jdk_42_method_154_code 17 = .ok (.iconst 0, 1) := by decide +kernel
theorem ef_isl1 (m : MethodId) (x0 : Addr)  : entryFrame m #[(.ref x0)] 1 = mkF m 0 #[.val (.ref x0)] [] := by first | (simp [entryFrame, mkF, argsToLocals, Value.category]; done) | rfl
def Q_isl1 (Z : State) (a1 : Addr) (cs : Int32) (h0 : Heap) (n0 : Nat) (v : Option Value) (h : Heap) (L : List Loc) : Prop := v = some (.int (0 : Int32)) ∧ Fr n0 L ∧ h = h0
set_option maxRecDepth 65536 in
set_option maxHeartbeats 40000000 in
theorem rm_isl1 (l : Launch) (Z : State) (a0 : Array Value) (hw : ∀ d ∈ tables_1, d.before a0 Z = true) (ws : List Jvm.Cond) (a1 : Addr) (cs : Int32) (h0 : Heap) (n0 : Nat) (O0 : Old Z n0 h0) (S0_ : Sta Z Z.heap "java/lang/String" "COMPACT_STRINGS" "Z" (.int cs)) (hcs : ¬ (cs = (0 : Int32))) (F2_ : Fld Z h0 a1 "java/lang/String" "coder" "B" (.int (1 : Int32))) :
    MetFree l (⟨"java/lang/String", "isLatin1", "()Z"⟩ : MethodName) (head1 (Jvm.Cond.code (⟨"java/lang/String", "isLatin1", "()Z"⟩ : MethodName) jdk_42_method_154_code 1 (some .boolean) :: ws) ({ frames := 0, cells := 0, slots := 0, locals := 0 } : Room)) (fun a U => a = #[(.ref a1)] ∧ Z.Warmed39 U.vm ∧ U.heap = h0) (fun _ _ _ _ _ => True) (fun _ U o U' => ∃ v L, o = .returned v ∧ Q_isl1 Z a1 cs h0 n0 v U'.heap L ∧ FrameEnd U o U' L ({ frames := 0, cells := 0, slots := 0, locals := 0 } : Room).cells ({ frames := 0, cells := 0, slots := 0, locals := 0 } : Room).slots) := by
  refine MetFree.of_bodySF (plainFor_of_name pn_java_lang_String) hisR ?_
  intro p e s m args below meth c s₁ Bd hml0 hP hK
  obtain ⟨rfl, hZ, hh⟩ := hP
  have hx := Bd.exec
  have hby := Bd.bytes
  have hml : c.maxLocals = 1 := hml0
  have hown : s.vm.findClass "java/lang/String" = some m.cls := findClass_of_methodNamed Bd.named
  have hnm := (name_of_methodNamed Bd.named Bd.method).1
  have X0 : Stand p l e ({ frames := 0, cells := 0, slots := 0, locals := 0 } : Room) s m #[(.ref a1)] below meth c s₁ [] 0 0 := Stand.of_body Bd
  have e0 : s₁.heap = h0 := by rw [← hh, Bd.state]; rfl
  have N0 := Fr.nil n0
  have g0 : Go p e below s₁ (mkF m 0 #[rv a1] []) (s₁.setTop (entryFrame m #[(.ref a1)] 1)) := fun t kont => castTop (ef_isl1 m a1 ) kont
  generalize s₁.setTop (entryFrame m #[(.ref a1)] 1) = A0 at g0 ⊢
  have y101 : Sta Z h0 "java/lang/String" "COMPACT_STRINGS" "Z" (.int cs) := S0_.ext O0.2
  obtain ⟨T102, X102, e102, st102⟩ := getS2 X0 hx hZ hown (host := "") (Or.inl (hw _ (List.mem_of_getElem? (i := 32) rfl))) Via.refl e0 y101 (g := (mkF m 0 #[rv a1] [])) rfl (hb hby d13_0)
  have g103 : Go p e below T102 (mkF m 3 #[rv a1] [(.int cs)]) A0 := fun t kont => g0 t (st102 t kont)
  have g104 : Go p e below T102 (mkF m 7 #[rv a1] [(.ref a1)]) A0 := by
    intro t kont
    refine g103 t ?_
    refine XS.ifNo X102.here hx rfl (hb hby d13_3) rfl ((if0 _ _).trans (feq hcs).1) ?_
    refine XS.aloadN X102.here hx rfl (hb hby d13_6) rfl rfl ?_
    exact kont
  obtain ⟨T105, X105, e105, st105⟩ := getF X102 hx hZ hown (host := "") (Or.inl (hw _ (List.mem_of_getElem? (i := 22) rfl))) Via.refl e102 F2_ (g := (mkF m 7 #[rv a1] [(.ref a1)])) rfl rfl (hb hby d13_7)
  have g106 : Go p e below T105 (mkF m 10 #[rv a1] [(.int (1 : Int32))]) A0 := fun t kont => g104 t (st105 t kont)
  have g107 : Go p e below T105 (mkF m 18 #[rv a1] [(.int (0 : Int32))]) A0 := by
    intro t kont
    refine g106 t ?_
    refine XS.ifYes X105.here hx rfl (pc0 := 10) (pc' := 17) rfl (hb hby d13_10) rfl ((if0 _ _).trans (feq (by decide : ¬ ((1 : Int32) = (0 : Int32)))).2) (by decide) (by decide) ?_
    refine XS.iconst X105.here hx rfl (hb hby d13_17) ?_
    exact kont
  obtain ⟨fs, hr, hrun, hended, hW, hsame⟩ := X105.leave (v := some (.int (0 : Int32))) (fun h => by rw [Bd.returns] at h; cases h)
  refine ⟨_, _, g107 _ (retN X105 hx (t := .boolean) Bd.returns (by simp) (hb hby d13_18) hr), hrun, hended, _, _, rfl, ?_, ⟨_, rfl⟩, hW, hsame.mono (by decide) (by decide)⟩
  show Q_isl1 Z a1 cs h0 n0 _ T105.heap _
  rw [e105]
  exact ⟨rfl, N0, rfl⟩
theorem d16_0 : decode jdk_41_method_11_code 0 = .ok (.iload_n 0, 1) := by decide +kernel
theorem d16_1 : decode jdk_41_method_11_code 1 = .ok (.ifCond .lt 8, 3) := by decide +kernel
theorem d16_4 : decode jdk_41_method_11_code 4 = .ok (.iload_n 0, 1) := by decide +kernel
theorem d16_5 : decode jdk_41_method_11_code 5 = .ok (.iload_n 1, 1) := by decide +kernel
theorem d16_6 : decode jdk_41_method_11_code 6 = .ok (.if_icmp .lt 10, 3) := by decide +kernel
theorem d16_16 : decode jdk_41_method_11_code 16 = .ok (.iload_n 0, 1) := by decide +kernel
theorem d16_17 : decode jdk_41_method_11_code 17 = .ok (.ireturn, 1) := by decide +kernel
theorem pn_jdk_internal_util_Preconditions : plainName "jdk/internal/util/Preconditions" = true := by first | (simp [plainName, overriddenIn]; done) | decide +kernel
theorem ef_pci (m : MethodId) (x0 : Int32) (x1 : Int32) (x2 : Value) (h2 : x2.isRef = true) : entryFrame m #[(.int x0), (.int x1), x2] 3 = mkF m 0 #[.val (.int x0), .val (.int x1), .val x2] [] := by (rcases ref_cases h2 with rfl | ⟨_, rfl⟩) <;> first | (simp [entryFrame, mkF, argsToLocals, Value.category]; done) | rfl
def Q_pci (Z : State) (i1 : Int32) (i2 : Int32) (fm : Value) (h0 : Heap) (n0 : Nat) (v : Option Value) (h : Heap) (L : List Loc) : Prop := v = some (.int i1) ∧ Fr n0 L ∧ h = h0
set_option maxRecDepth 65536 in
set_option maxHeartbeats 40000000 in
theorem rm_pci (l : Launch) (Z : State) (a0 : Array Value) (hw : ∀ d ∈ tables_1, d.before a0 Z = true) (ws : List Jvm.Cond) (i1 : Int32) (i2 : Int32) (fm : Value) (h0 : Heap) (n0 : Nat) (O0 : Old Z n0 h0) (hfm : fm.isRef = true) (hi0 : ¬ (i1 < (0 : Int32))) (hi1 : i1 < i2) :
    MetFree l (⟨"jdk/internal/util/Preconditions", "checkIndex", "(IILjava/util/function/BiFunction;)I"⟩ : MethodName) (head1 (Jvm.Cond.code (⟨"jdk/internal/util/Preconditions", "checkIndex", "(IILjava/util/function/BiFunction;)I"⟩ : MethodName) jdk_41_method_11_code 3 (some .int) :: ws) ({ frames := 0, cells := 0, slots := 0, locals := 0 } : Room)) (fun a U => a = #[(.int i1), (.int i2), fm] ∧ Z.Warmed39 U.vm ∧ U.heap = h0) (fun _ _ _ _ _ => True) (fun _ U o U' => ∃ v L, o = .returned v ∧ Q_pci Z i1 i2 fm h0 n0 v U'.heap L ∧ FrameEnd U o U' L ({ frames := 0, cells := 0, slots := 0, locals := 0 } : Room).cells ({ frames := 0, cells := 0, slots := 0, locals := 0 } : Room).slots) := by
  refine MetFree.of_bodySF (plainFor_of_name pn_jdk_internal_util_Preconditions) hisR ?_
  intro p e s m args below meth c s₁ Bd hml0 hP hK
  obtain ⟨rfl, hZ, hh⟩ := hP
  have hx := Bd.exec
  have hby := Bd.bytes
  have hml : c.maxLocals = 3 := hml0
  have hown : s.vm.findClass "jdk/internal/util/Preconditions" = some m.cls := findClass_of_methodNamed Bd.named
  have hnm := (name_of_methodNamed Bd.named Bd.method).1
  have X0 : Stand p l e ({ frames := 0, cells := 0, slots := 0, locals := 0 } : Room) s m #[(.int i1), (.int i2), fm] below meth c s₁ [] 0 0 := Stand.of_body Bd
  have e0 : s₁.heap = h0 := by rw [← hh, Bd.state]; rfl
  have N0 := Fr.nil n0
  have g0 : Go p e below s₁ (mkF m 0 #[iv i1, iv i2, .val fm] []) (s₁.setTop (entryFrame m #[(.int i1), (.int i2), fm] 3)) := fun t kont => castTop (ef_pci m i1 i2 fm (hfm)) kont
  generalize s₁.setTop (entryFrame m #[(.int i1), (.int i2), fm] 3) = A0 at g0 ⊢
  have g101 : Go p e below s₁ (mkF m 17 #[iv i1, iv i2, .val fm] [(.int i1)]) A0 := by
    intro t kont
    refine g0 t ?_
    refine XS.iloadN X0.here hx rfl (hb hby d16_0) rfl ?_
    refine XS.ifNo X0.here hx rfl (hb hby d16_1) rfl ((if0 _ _).trans (flt hi0).1) ?_
    refine XS.iloadN X0.here hx rfl (hb hby d16_4) rfl ?_
    refine XS.iloadN X0.here hx rfl (hb hby d16_5) rfl ?_
    refine XS.icmpYes X0.here hx rfl (pc0 := 6) (pc' := 16) rfl (hb hby d16_6) rfl (tlt hi1).1 (by decide) (by decide) ?_
    refine XS.iloadN X0.here hx rfl (hb hby d16_16) rfl ?_
    exact kont
  obtain ⟨fs, hr, hrun, hended, hW, hsame⟩ := X0.leave (v := some (.int i1)) (fun h => by rw [Bd.returns] at h; cases h)
  refine ⟨_, _, g101 _ (retI X0 hx Bd.returns (hb hby d16_17) hr), hrun, hended, _, _, rfl, ?_, ⟨_, rfl⟩, hW, hsame.mono (by decide) (by decide)⟩
  show Q_pci Z i1 i2 fm h0 n0 _ s₁.heap _
  rw [e0]
  exact ⟨rfl, N0, rfl⟩
theorem d15_0 : decode jdk_42_method_155_code 0 = .ok (.iload_n 0, 1) := by decide +kernel
theorem d15_1 : decode jdk_42_method_155_code 1 = .ok (.iload_n 1, 1) := by decide +kernel
theorem d15_2 : decode jdk_42_method_155_code 2 = .ok (.getstatic 1053, 3) := by decide +kernel
theorem d15_5 : decode jdk_42_method_155_code 5 = .ok (.invokestatic 1059, 3) := by decide +kernel
theorem pd_10 : parseMethodDescriptor "(IILjava/util/function/BiFunction;)I" = some ⟨[.int, .int, (.object "java/util/function/BiFunction")], some .int⟩ := by decide +kernel
theorem d15_8 : decode jdk_42_method_155_code 8 = .ok (.pop, 1) := by decide +kernel
theorem d15_9 : decode jdk_42_method_155_code 9 = .ok (.return_, 1) := by decide +kernel
theorem ef_sci (m : MethodId) (x0 : Int32) (x1 : Int32)  : entryFrame m #[(.int x0), (.int x1)] 2 = mkF m 0 #[.val (.int x0), .val (.int x1)] [] := by first | (simp [entryFrame, mkF, argsToLocals, Value.category]; done) | rfl
def Q_sci (Z : State) (i1 : Int32) (i2 : Int32) (fm : Value) (h0 : Heap) (n0 : Nat) (v : Option Value) (h : Heap) (L : List Loc) : Prop := v = none ∧ Fr n0 L ∧ h = h0
set_option maxRecDepth 65536 in
set_option maxHeartbeats 40000000 in
theorem rm_sci (l : Launch) (Z : State) (a0 : Array Value) (hw : ∀ d ∈ tables_1, d.before a0 Z = true) (ws : List Jvm.Cond) (i1 : Int32) (i2 : Int32) (fm : Value) (h0 : Heap) (n0 : Nat) (O0 : Old Z n0 h0) (S0_ : Sta Z Z.heap "jdk/internal/util/Preconditions" "SIOOBE_FORMATTER" "Ljava/util/function/BiFunction;" fm) (hfm : fm.isRef = true) (hi0 : ¬ (i1 < (0 : Int32))) (hi1 : i1 < i2) :
    MetFree l (⟨"java/lang/String", "checkIndex", "(II)V"⟩ : MethodName) (head1 (Jvm.Cond.code (⟨"java/lang/String", "checkIndex", "(II)V"⟩ : MethodName) jdk_42_method_155_code 2 none :: ws) ({ frames := 1, cells := 0, slots := 0, locals := 14 } : Room)) (fun a U => a = #[(.int i1), (.int i2)] ∧ Z.Warmed39 U.vm ∧ U.heap = h0) (fun _ _ _ _ _ => True) (fun _ U o U' => ∃ v L, o = .returned v ∧ Q_sci Z i1 i2 fm h0 n0 v U'.heap L ∧ FrameEnd U o U' L ({ frames := 1, cells := 0, slots := 0, locals := 14 } : Room).cells ({ frames := 1, cells := 0, slots := 0, locals := 14 } : Room).slots) := by
  refine MetFree.of_bodySF (plainFor_of_name pn_java_lang_String) hisR ?_
  intro p e s m args below meth c s₁ Bd hml0 hP hK
  obtain ⟨rfl, hZ, hh⟩ := hP
  have hx := Bd.exec
  have hby := Bd.bytes
  have hml : c.maxLocals = 2 := hml0
  have hown : s.vm.findClass "java/lang/String" = some m.cls := findClass_of_methodNamed Bd.named
  have hnm := (name_of_methodNamed Bd.named Bd.method).1
  have X0 : Stand p l e ({ frames := 1, cells := 0, slots := 0, locals := 14 } : Room) s m #[(.int i1), (.int i2)] below meth c s₁ [] 0 0 := Stand.of_body Bd
  have e0 : s₁.heap = h0 := by rw [← hh, Bd.state]; rfl
  have N0 := Fr.nil n0
  have g0 : Go p e below s₁ (mkF m 0 #[iv i1, iv i2] []) (s₁.setTop (entryFrame m #[(.int i1), (.int i2)] 2)) := fun t kont => castTop (ef_sci m i1 i2 ) kont
  generalize s₁.setTop (entryFrame m #[(.int i1), (.int i2)] 2) = A0 at g0 ⊢
  have g101 : Go p e below s₁ (mkF m 2 #[iv i1, iv i2] [(.int i2), (.int i1)]) A0 := by
    intro t kont
    refine g0 t ?_
    refine XS.iloadN X0.here hx rfl (hb hby d15_0) rfl ?_
    refine XS.iloadN X0.here hx rfl (hb hby d15_1) rfl ?_
    exact kont
  have y102 : Sta Z h0 "jdk/internal/util/Preconditions" "SIOOBE_FORMATTER" "Ljava/util/function/BiFunction;" fm := S0_.ext O0.2
  obtain ⟨T103, X103, e103, st103⟩ := getS2 X0 hx hZ hown (host := "") (Or.inl (hw _ (List.mem_of_getElem? (i := 74) rfl))) Via.refl e0 y102 (g := (mkF m 2 #[iv i1, iv i2] [(.int i2), (.int i1)])) rfl (hb hby d15_2)
  have g104 : Go p e below T103 (mkF m 5 #[iv i1, iv i2] [fm, (.int i2), (.int i1)]) A0 := fun t kont => g101 t (st103 t kont)
  obtain ⟨_, _, ⟨T105, L105, k105, n105⟩, -, X105, ⟨Lc105, hQ105, l105, y105, z105⟩, st105⟩ := Jvm.LawKit.callS X103 hx (y := (⟨"jdk/internal/util/Preconditions", "checkIndex", "(IILjava/util/function/BiFunction;)I"⟩ : MethodName)) hown (mvT hZ (hw _ (List.mem_of_getElem? (i := 76) rfl))) (mvT hZ (hw _ (List.mem_of_getElem? (i := 77) rfl))) (mvT hZ (hw _ (List.mem_of_getElem? (i := 75) rfl))) (mvT hZ (hw _ (List.mem_of_getElem? (i := 78) rfl))) (by decide) (backOf (W := 0) (rm_pci l Z a0 hw [] i1 i2 fm h0 n0 O0 hfm hi0 hi1) hZ (hw _ (List.mem_of_getElem? (i := 78) rfl)) (hw _ (List.mem_of_getElem? (i := 75) rfl)) (by decide) (by decide)) (g := (mkF m 5 #[iv i1, iv i2] [fm, (.int i2), (.int i1)])) rfl (by rw [hml]; rfl) (argsL := [(.int i1), (.int i2), fm]) (rest := []) (lenOf pd_10 rfl) rfl (by show 2 * 0 + _ ≤ _; exact Nat.le_of_eq rfl) (hb hby d15_5) (fun _ _ => ⟨rfl, e103, (by decide : 0 + 0 ≤ _), (by decide : 0 + 0 ≤ _)⟩)
  dsimp only [Pt.U, Pt.locs, Pt.cells, Pt.slots] at X105 l105 y105 z105 st105 hQ105
  subst y105 z105
  obtain ⟨rfl, M105, e105⟩ := hQ105
  have N105 : Fr n0 L105 := by rw [l105]; exact Fr.app N0 M105
  have g106 : Go p e below T105 (mkF m 8 #[iv i1, iv i2] [(.int i1)]) A0 := fun t kont => g104 t (st105 t kont)
  have g107 : Go p e below T105 (mkF m 9 #[iv i1, iv i2] []) A0 := by
    intro t kont
    refine g106 t ?_
    refine XS.pop X105.here hx rfl (hb hby d15_8) rfl rfl ?_
    exact kont
  obtain ⟨fs, hr, hrun, hended, hW, hsame⟩ := X105.leave (v := none) (fun _ => rfl)
  refine ⟨_, _, g107 _ (X105.returnOut hx Bd.returns (hb hby d15_9) hr), hrun, hended, _, _, rfl, ?_, ⟨_, rfl⟩, hW, hsame.mono (by decide) (by decide)⟩
  show Q_sci Z i1 i2 fm h0 n0 _ T105.heap _
  rw [e105]
  exact ⟨rfl, N105, rfl⟩
theorem d14_0 : decode jdk_43_method_2_code 0 = .ok (.iload_n 1, 1) := by decide +kernel
theorem d14_1 : decode jdk_43_method_2_code 1 = .ok (.aload_n 0, 1) := by decide +kernel
theorem d14_2 : decode jdk_43_method_2_code 2 = .ok (.arraylength, 1) := by decide +kernel
theorem d14_3 : decode jdk_43_method_2_code 3 = .ok (.invokestatic 9, 3) := by decide +kernel
theorem pd_11 : parseMethodDescriptor "(II)V" = some ⟨[.int, .int], none⟩ := by decide +kernel
theorem d14_6 : decode jdk_43_method_2_code 6 = .ok (.aload_n 0, 1) := by decide +kernel
theorem d14_7 : decode jdk_43_method_2_code 7 = .ok (.iload_n 1, 1) := by decide +kernel
theorem d14_8 : decode jdk_43_method_2_code 8 = .ok (.baload, 1) := by decide +kernel
theorem d14_9 : decode jdk_43_method_2_code 9 = .ok (.sipush 255, 3) := by decide +kernel
theorem d14_12 : decode jdk_43_method_2_code 12 = .ok (.iand, 1) := by decide +kernel
theorem d14_13 : decode jdk_43_method_2_code 13 = .ok (.i2c, 1) := by decide +kernel
theorem d14_14 : decode jdk_43_method_2_code 14 = .ok (.ireturn, 1) := by decide +kernel
theorem pn_java_lang_StringLatin1 : plainName "java/lang/StringLatin1" = true := by first | (simp [plainName, overriddenIn]; done) | decide +kernel
theorem ef_lchG (m : MethodId) (x0 : Addr) (x1 : Int32)  : entryFrame m #[(.ref x0), (.int x1)] 2 = mkF m 0 #[.val (.ref x0), .val (.int x1)] [] := by first | (simp [entryFrame, mkF, argsToLocals, Value.category]; done) | rfl
def Q_lchG (Z : State) (v1 : Addr) (i1 : Nat) (kv : ClassId) (fm : Value) (ls : List Int32) (h0 : Heap) (n0 : Nat) (v : Option Value) (h : Heap) (L : List Loc) : Prop := v = some (.int (ls.getD i1 0)) ∧ Fr n0 L ∧ h = h0
set_option maxRecDepth 65536 in
set_option maxHeartbeats 40000000 in
theorem rm_lchG (l : Launch) (Z : State) (a0 : Array Value) (hw : ∀ d ∈ tables_1, d.before a0 Z = true) (ws : List Jvm.Cond) (v1 : Addr) (i1 : Nat) (kv : ClassId) (fm : Value) (ls : List Int32) (h0 : Heap) (n0 : Nat) (O0 : Old Z n0 h0) (A0_ : Arv Z h0 v1 kv .byte (Int32.ofNat ls.length) (own_lb ls) (.int (0 : Int32))) (hB : ls.length ≤ 65) (hi : i1 < ls.length) (hch : own_chars ls) (hlat : own_lat ls) (S5_ : Sta Z Z.heap "jdk/internal/util/Preconditions" "SIOOBE_FORMATTER" "Ljava/util/function/BiFunction;" fm) (hfm : fm.isRef = true) :
    MetFree l (⟨"java/lang/StringLatin1", "charAt", "([BI)C"⟩ : MethodName) (head1 (Jvm.Cond.code (⟨"java/lang/StringLatin1", "charAt", "([BI)C"⟩ : MethodName) jdk_43_method_2_code 2 (some .char) :: ws) ({ frames := 2, cells := 0, slots := 0, locals := 27 } : Room)) (fun a U => a = #[(.ref v1), (.int (Int32.ofNat i1))] ∧ Z.Warmed39 U.vm ∧ U.heap = h0) (fun _ _ _ _ _ => True) (fun _ U o U' => ∃ v L, o = .returned v ∧ Q_lchG Z v1 i1 kv fm ls h0 n0 v U'.heap L ∧ FrameEnd U o U' L ({ frames := 2, cells := 0, slots := 0, locals := 27 } : Room).cells ({ frames := 2, cells := 0, slots := 0, locals := 27 } : Room).slots) := by
  refine MetFree.of_bodySF (plainFor_of_name pn_java_lang_StringLatin1) hisR ?_
  intro p e s m args below meth c s₁ Bd hml0 hP hK
  obtain ⟨rfl, hZ, hh⟩ := hP
  have hx := Bd.exec
  have hby := Bd.bytes
  have hml : c.maxLocals = 2 := hml0
  have hown : s.vm.findClass "java/lang/StringLatin1" = some m.cls := findClass_of_methodNamed Bd.named
  have hnm := (name_of_methodNamed Bd.named Bd.method).1
  have X0 : Stand p l e ({ frames := 2, cells := 0, slots := 0, locals := 27 } : Room) s m #[(.ref v1), (.int (Int32.ofNat i1))] below meth c s₁ [] 0 0 := Stand.of_body Bd
  have e0 : s₁.heap = h0 := by rw [← hh, Bd.state]; rfl
  have N0 := Fr.nil n0
  have g0 : Go p e below s₁ (mkF m 0 #[rv v1, iv (Int32.ofNat i1)] []) (s₁.setTop (entryFrame m #[(.ref v1), (.int (Int32.ofNat i1))] 2)) := fun t kont => castTop (ef_lchG m v1 (Int32.ofNat i1) ) kont
  generalize s₁.setTop (entryFrame m #[(.ref v1), (.int (Int32.ofNat i1))] 2) = A0 at g0 ⊢
  have g101 : Go p e below s₁ (mkF m 2 #[rv v1, iv (Int32.ofNat i1)] [(.ref v1), (.int (Int32.ofNat i1))]) A0 := by
    intro t kont
    refine g0 t ?_
    refine XS.iloadN X0.here hx rfl (hb hby d14_0) rfl ?_
    refine XS.aloadN X0.here hx rfl (hb hby d14_1) rfl rfl ?_
    exact kont
  have zz102 := A0_
  obtain ⟨cl102, Ar102, -, S102, M102, -, -⟩ := zz102
  have g103 : Go p e below s₁ (mkF m 3 #[rv v1, iv (Int32.ofNat i1)] [(.int (Int32.ofNat ls.length)), (.int (Int32.ofNat i1))]) A0 := by
    intro t kont
    refine g101 t ?_
    refine X0.arraylength hx (by rw [e0]; exact Ar102.1) (State.isArrayOf_alike hZ.alike Ar102.2.1) (g := (mkF m 2 #[rv v1, iv (Int32.ofNat i1)] [(.ref v1), (.int (Int32.ofNat i1))])) rfl rfl (hb hby d14_2) _ ?_
    rw [len_of S102 M102]
    exact kont
  obtain ⟨_, _, ⟨T104, L104, k104, n104⟩, -, X104, ⟨Lc104, hQ104, l104, y104, z104⟩, st104⟩ := Jvm.LawKit.callS X0 hx (y := (⟨"java/lang/String", "checkIndex", "(II)V"⟩ : MethodName)) hown (mvT hZ (hw _ (List.mem_of_getElem? (i := 71) rfl))) (mvT hZ (hw _ (List.mem_of_getElem? (i := 72) rfl))) (mvT hZ (hw _ (List.mem_of_getElem? (i := 3) rfl))) (mvT hZ (hw _ (List.mem_of_getElem? (i := 73) rfl))) (by decide) (backOf (W := 0) (rm_sci l Z a0 hw [] (Int32.ofNat i1) (Int32.ofNat ls.length) fm h0 n0 O0 S5_ hfm (own_nonneg (by omega)) (own_lt (by omega) (by omega))) hZ (hw _ (List.mem_of_getElem? (i := 73) rfl)) (hw _ (List.mem_of_getElem? (i := 3) rfl)) (by decide) (by decide)) (g := (mkF m 3 #[rv v1, iv (Int32.ofNat i1)] [(.int (Int32.ofNat ls.length)), (.int (Int32.ofNat i1))])) rfl (by rw [hml]; rfl) (argsL := [(.int (Int32.ofNat i1)), (.int (Int32.ofNat ls.length))]) (rest := []) (lenOf pd_11 rfl) rfl (by show 2 * 0 + _ ≤ _; exact Nat.le_of_eq rfl) (hb hby d14_3) (fun _ _ => ⟨rfl, e0, (by decide : 0 + 0 ≤ _), (by decide : 0 + 0 ≤ _)⟩)
  dsimp only [Pt.U, Pt.locs, Pt.cells, Pt.slots] at X104 l104 y104 z104 st104 hQ104
  subst y104 z104
  obtain ⟨rfl, M104, e104⟩ := hQ104
  have N104 : Fr n0 L104 := by rw [l104]; exact Fr.app N0 M104
  have g105 : Go p e below T104 (mkF m 6 #[rv v1, iv (Int32.ofNat i1)] []) A0 := fun t kont => g103 t (st104 t kont)
  have g106 : Go p e below T104 (mkF m 8 #[rv v1, iv (Int32.ofNat i1)] [(.int (Int32.ofNat i1)), (.ref v1)]) A0 := by
    intro t kont
    refine g105 t ?_
    refine XS.aloadN X104.here hx rfl (hb hby d14_6) rfl rfl ?_
    refine XS.iloadN X104.here hx rfl (hb hby d14_7) rfl ?_
    exact kont
  have zz107 := A0_
  obtain ⟨cl107, Ar107, q107, S107, M107, H107, G107⟩ := zz107
  have in107 : ¬ ((Int32.ofNat i1) < 0 ∨ cl107.slots.size ≤ ((Int32.ofNat i1)).toNatClampNeg) := inb_of S107 ⟨own_nonneg (by omega), own_lt (by omega) (by omega)⟩
  have at107 : cl107.slots[((Int32.ofNat i1)).toNatClampNeg]? = some (.int ((ls.getD i1 0).toInt8.toInt32)) := Has.at H107 in107 (by rw [own_clamp (by omega)]; exact own_lb_get hi)
  have g108 : Go p e below T104 (mkF m 9 #[rv v1, iv (Int32.ofNat i1)] [(.int ((ls.getD i1 0).toInt8.toInt32))]) A0 := fun t kont => g106 t (X104.baloadBytes hx (j := (Int32.ofNat i1)) (v := (.int ((ls.getD i1 0).toInt8.toInt32))) (by rw [e104]; exact Ar107.1) (State.isArrayOf_alike hZ.alike Ar107.2.1) Ar107.2.2 in107 at107 (g := (mkF m 8 #[rv v1, iv (Int32.ofNat i1)] [(.int (Int32.ofNat i1)), (.ref v1)])) rfl rfl (hb hby d14_8) t kont)
  have g109 : Go p e below T104 (mkF m 14 #[rv v1, iv (Int32.ofNat i1)] [(.int ((((ls.getD i1 0).toInt8.toInt32) &&& (255 : Int32)).toUInt32.toUInt16.toUInt32.toInt32))]) A0 := by
    intro t kont
    refine g108 t ?_
    refine XS.sipush X104.here hx rfl (hb hby d14_9) ?_
    refine XS.iand X104.here hx rfl (hb hby d14_12) rfl ?_
    refine XS.i2c X104.here hx rfl (hb hby d14_13) rfl ?_
    exact kont
  obtain ⟨fs, hr, hrun, hended, hW, hsame⟩ := X104.leave (v := some (.int ((((ls.getD i1 0).toInt8.toInt32) &&& (255 : Int32)).toUInt32.toUInt16.toUInt32.toInt32))) (fun h => by rw [Bd.returns] at h; cases h)
  refine ⟨_, _, g109 _ (retN X104 hx (t := .char) Bd.returns (by simp) (hb hby d14_14) (by rw [(own_narc _)]; exact hr)), hrun, hended, _, _, rfl, ?_, ⟨_, rfl⟩, hW, hsame.mono (by decide) (by decide)⟩
  show Q_lchG Z v1 i1 kv fm ls h0 n0 _ T104.heap _
  rw [e104]
  exact ⟨congrArg (fun z => some (Value.int z)) (own_rec8 (hch i1 hi).1 (hlat i1 hi)), N104, rfl⟩
theorem d24_0 : decode jdk_52_method_6_code 0 = .ok (.aload_n 0, 1) := by decide +kernel
theorem d24_1 : decode jdk_52_method_6_code 1 = .ok (.arraylength, 1) := by decide +kernel
theorem d24_2 : decode jdk_52_method_6_code 2 = .ok (.iconst 1, 1) := by decide +kernel
theorem d24_3 : decode jdk_52_method_6_code 3 = .ok (.ishr, 1) := by decide +kernel
theorem d24_4 : decode jdk_52_method_6_code 4 = .ok (.ireturn, 1) := by decide +kernel
theorem ef_uleG (m : MethodId) (x0 : Addr)  : entryFrame m #[(.ref x0)] 1 = mkF m 0 #[.val (.ref x0)] [] := by first | (simp [entryFrame, mkF, argsToLocals, Value.category]; done) | rfl
def Q_uleG (Z : State) (v1 : Addr) (kv : ClassId) (vs : List Value) (ls : List Int32) (h0 : Heap) (n0 : Nat) (v : Option Value) (h : Heap) (L : List Loc) : Prop := v = some (.int (Int32.ofNat ls.length)) ∧ Fr n0 L ∧ h = h0
set_option maxRecDepth 65536 in
set_option maxHeartbeats 40000000 in
theorem rm_uleG (l : Launch) (Z : State) (a0 : Array Value) (hw : ∀ d ∈ tables_1, d.before a0 Z = true) (ws : List Jvm.Cond) (v1 : Addr) (kv : ClassId) (vs : List Value) (ls : List Int32) (h0 : Heap) (n0 : Nat) (O0 : Old Z n0 h0) (A0_ : Arv Z h0 v1 kv .byte (Int32.ofNat (2 * ls.length)) vs (.int (0 : Int32))) (hB : ls.length ≤ 65) :
    MetFree l (⟨"java/lang/StringUTF16", "length", "([B)I"⟩ : MethodName) (head1 (Jvm.Cond.code (⟨"java/lang/StringUTF16", "length", "([B)I"⟩ : MethodName) jdk_52_method_6_code 1 (some .int) :: ws) ({ frames := 0, cells := 0, slots := 0, locals := 0 } : Room)) (fun a U => a = #[(.ref v1)] ∧ Z.Warmed39 U.vm ∧ U.heap = h0) (fun _ _ _ _ _ => True) (fun _ U o U' => ∃ v L, o = .returned v ∧ Q_uleG Z v1 kv vs ls h0 n0 v U'.heap L ∧ FrameEnd U o U' L ({ frames := 0, cells := 0, slots := 0, locals := 0 } : Room).cells ({ frames := 0, cells := 0, slots := 0, locals := 0 } : Room).slots) := by
  refine MetFree.of_bodySF (plainFor_of_name pn_java_lang_StringUTF16) hisR ?_
  intro p e s m args below meth c s₁ Bd hml0 hP hK
  obtain ⟨rfl, hZ, hh⟩ := hP
  have hx := Bd.exec
  have hby := Bd.bytes
  have hml : c.maxLocals = 1 := hml0
  have hown : s.vm.findClass "java/lang/StringUTF16" = some m.cls := findClass_of_methodNamed Bd.named
  have hnm := (name_of_methodNamed Bd.named Bd.method).1
  have X0 : Stand p l e ({ frames := 0, cells := 0, slots := 0, locals := 0 } : Room) s m #[(.ref v1)] below meth c s₁ [] 0 0 := Stand.of_body Bd
  have e0 : s₁.heap = h0 := by rw [← hh, Bd.state]; rfl
  have N0 := Fr.nil n0
  have g0 : Go p e below s₁ (mkF m 0 #[rv v1] []) (s₁.setTop (entryFrame m #[(.ref v1)] 1)) := fun t kont => castTop (ef_uleG m v1 ) kont
  generalize s₁.setTop (entryFrame m #[(.ref v1)] 1) = A0 at g0 ⊢
  have g101 : Go p e below s₁ (mkF m 1 #[rv v1] [(.ref v1)]) A0 := by
    intro t kont
    refine g0 t ?_
    refine XS.aloadN X0.here hx rfl (hb hby d24_0) rfl rfl ?_
    exact kont
  have zz102 := A0_
  obtain ⟨cl102, Ar102, -, S102, M102, -, -⟩ := zz102
  have g103 : Go p e below s₁ (mkF m 2 #[rv v1] [(.int (Int32.ofNat (2 * ls.length)))]) A0 := by
    intro t kont
    refine g101 t ?_
    refine X0.arraylength hx (by rw [e0]; exact Ar102.1) (State.isArrayOf_alike hZ.alike Ar102.2.1) (g := (mkF m 1 #[rv v1] [(.ref v1)])) rfl rfl (hb hby d24_1) _ ?_
    rw [len_of S102 M102]
    exact kont
  have g104 : Go p e below s₁ (mkF m 4 #[rv v1] [(.int ((Int32.ofNat (2 * ls.length)) >>> ((1 : Int32) &&& 31)))]) A0 := by
    intro t kont
    refine g103 t ?_
    refine XS.iconst X0.here hx rfl (hb hby d24_2) ?_
    refine XS.ishr X0.here hx rfl (hb hby d24_3) rfl ?_
    exact kont
  obtain ⟨fs, hr, hrun, hended, hW, hsame⟩ := X0.leave (v := some (.int ((Int32.ofNat (2 * ls.length)) >>> ((1 : Int32) &&& 31)))) (fun h => by rw [Bd.returns] at h; cases h)
  refine ⟨_, _, g104 _ (retI X0 hx Bd.returns (hb hby d24_4) hr), hrun, hended, _, _, rfl, ?_, ⟨_, rfl⟩, hW, hsame.mono (by decide) (by decide)⟩
  show Q_uleG Z v1 kv vs ls h0 n0 _ s₁.heap _
  rw [e0]
  exact ⟨congrArg (fun z => some (Value.int z)) (own_half (by omega)), N0, rfl⟩
theorem d23_0 : decode jdk_52_method_91_code 0 = .ok (.iload_n 0, 1) := by decide +kernel
theorem d23_1 : decode jdk_52_method_91_code 1 = .ok (.aload_n 1, 1) := by decide +kernel
theorem d23_2 : decode jdk_52_method_91_code 2 = .ok (.invokestatic 48, 3) := by decide +kernel
theorem pd_12 : parseMethodDescriptor "([B)I" = some ⟨[(.array .byte)], some .int⟩ := by decide +kernel
theorem d23_5 : decode jdk_52_method_91_code 5 = .ok (.invokestatic 414, 3) := by decide +kernel
theorem d23_8 : decode jdk_52_method_91_code 8 = .ok (.return_, 1) := by decide +kernel
theorem ef_uckG (m : MethodId) (x0 : Int32) (x1 : Addr)  : entryFrame m #[(.int x0), (.ref x1)] 2 = mkF m 0 #[.val (.int x0), .val (.ref x1)] [] := by first | (simp [entryFrame, mkF, argsToLocals, Value.category]; done) | rfl
def Q_uckG (Z : State) (v1 : Addr) (i1 : Nat) (kv : ClassId) (vs : List Value) (fm : Value) (ls : List Int32) (h0 : Heap) (n0 : Nat) (v : Option Value) (h : Heap) (L : List Loc) : Prop := v = none ∧ Fr n0 L ∧ h = h0
set_option maxRecDepth 65536 in
set_option maxHeartbeats 40000000 in
theorem rm_uckG (l : Launch) (Z : State) (a0 : Array Value) (hw : ∀ d ∈ tables_1, d.before a0 Z = true) (ws : List Jvm.Cond) (v1 : Addr) (i1 : Nat) (kv : ClassId) (vs : List Value) (fm : Value) (ls : List Int32) (h0 : Heap) (n0 : Nat) (O0 : Old Z n0 h0) (A0_ : Arv Z h0 v1 kv .byte (Int32.ofNat (2 * ls.length)) vs (.int (0 : Int32))) (hB : ls.length ≤ 65) (hi : i1 < ls.length) (S3_ : Sta Z Z.heap "jdk/internal/util/Preconditions" "SIOOBE_FORMATTER" "Ljava/util/function/BiFunction;" fm) (hfm : fm.isRef = true) :
    MetFree l (⟨"java/lang/StringUTF16", "checkIndex", "(I[B)V"⟩ : MethodName) (head1 (Jvm.Cond.code (⟨"java/lang/StringUTF16", "checkIndex", "(I[B)V"⟩ : MethodName) jdk_52_method_91_code 2 none :: ws) ({ frames := 2, cells := 0, slots := 0, locals := 27 } : Room)) (fun a U => a = #[(.int (Int32.ofNat i1)), (.ref v1)] ∧ Z.Warmed39 U.vm ∧ U.heap = h0) (fun _ _ _ _ _ => True) (fun _ U o U' => ∃ v L, o = .returned v ∧ Q_uckG Z v1 i1 kv vs fm ls h0 n0 v U'.heap L ∧ FrameEnd U o U' L ({ frames := 2, cells := 0, slots := 0, locals := 27 } : Room).cells ({ frames := 2, cells := 0, slots := 0, locals := 27 } : Room).slots) := by
  refine MetFree.of_bodySF (plainFor_of_name pn_java_lang_StringUTF16) hisR ?_
  intro p e s m args below meth c s₁ Bd hml0 hP hK
  obtain ⟨rfl, hZ, hh⟩ := hP
  have hx := Bd.exec
  have hby := Bd.bytes
  have hml : c.maxLocals = 2 := hml0
  have hown : s.vm.findClass "java/lang/StringUTF16" = some m.cls := findClass_of_methodNamed Bd.named
  have hnm := (name_of_methodNamed Bd.named Bd.method).1
  have X0 : Stand p l e ({ frames := 2, cells := 0, slots := 0, locals := 27 } : Room) s m #[(.int (Int32.ofNat i1)), (.ref v1)] below meth c s₁ [] 0 0 := Stand.of_body Bd
  have e0 : s₁.heap = h0 := by rw [← hh, Bd.state]; rfl
  have N0 := Fr.nil n0
  have g0 : Go p e below s₁ (mkF m 0 #[iv (Int32.ofNat i1), rv v1] []) (s₁.setTop (entryFrame m #[(.int (Int32.ofNat i1)), (.ref v1)] 2)) := fun t kont => castTop (ef_uckG m (Int32.ofNat i1) v1 ) kont
  generalize s₁.setTop (entryFrame m #[(.int (Int32.ofNat i1)), (.ref v1)] 2) = A0 at g0 ⊢
  have g101 : Go p e below s₁ (mkF m 2 #[iv (Int32.ofNat i1), rv v1] [(.ref v1), (.int (Int32.ofNat i1))]) A0 := by
    intro t kont
    refine g0 t ?_
    refine XS.iloadN X0.here hx rfl (hb hby d23_0) rfl ?_
    refine XS.aloadN X0.here hx rfl (hb hby d23_1) rfl rfl ?_
    exact kont
  obtain ⟨_, _, ⟨T102, L102, k102, n102⟩, -, X102, ⟨Lc102, hQ102, l102, y102, z102⟩, st102⟩ := Jvm.LawKit.callS X0 hx (y := (⟨"java/lang/StringUTF16", "length", "([B)I"⟩ : MethodName)) hown (mvT hZ (hw _ (List.mem_of_getElem? (i := 104) rfl))) (mvT hZ (hw _ (List.mem_of_getElem? (i := 105) rfl))) (mvT hZ (hw _ (List.mem_of_getElem? (i := 35) rfl))) (mvT hZ (hw _ (List.mem_of_getElem? (i := 106) rfl))) (by decide) (backOf (W := 1) (rm_uleG l Z a0 hw [] v1 kv vs ls h0 n0 O0 A0_ hB) hZ (hw _ (List.mem_of_getElem? (i := 106) rfl)) (hw _ (List.mem_of_getElem? (i := 35) rfl)) (by decide) (by decide)) (g := (mkF m 2 #[iv (Int32.ofNat i1), rv v1] [(.ref v1), (.int (Int32.ofNat i1))])) rfl (by rw [hml]; rfl) (argsL := [(.ref v1)]) (rest := [(.int (Int32.ofNat i1))]) (lenOf pd_12 rfl) rfl (by show 2 * 0 + _ ≤ _; exact Nat.le_of_eq rfl) (hb hby d23_2) (fun _ _ => ⟨rfl, e0, (by decide : 0 + 0 ≤ _), (by decide : 0 + 0 ≤ _)⟩)
  dsimp only [Pt.U, Pt.locs, Pt.cells, Pt.slots] at X102 l102 y102 z102 st102 hQ102
  subst y102 z102
  obtain ⟨rfl, M102, e102⟩ := hQ102
  have N102 : Fr n0 L102 := by rw [l102]; exact Fr.app N0 M102
  have g103 : Go p e below T102 (mkF m 5 #[iv (Int32.ofNat i1), rv v1] [(.int (Int32.ofNat ls.length)), (.int (Int32.ofNat i1))]) A0 := fun t kont => g101 t (st102 t kont)
  obtain ⟨_, _, ⟨T104, L104, k104, n104⟩, -, X104, ⟨Lc104, hQ104, l104, y104, z104⟩, st104⟩ := Jvm.LawKit.callS X102 hx (y := (⟨"java/lang/String", "checkIndex", "(II)V"⟩ : MethodName)) hown (mvT hZ (hw _ (List.mem_of_getElem? (i := 107) rfl))) (mvT hZ (hw _ (List.mem_of_getElem? (i := 72) rfl))) (mvT hZ (hw _ (List.mem_of_getElem? (i := 3) rfl))) (mvT hZ (hw _ (List.mem_of_getElem? (i := 73) rfl))) (by decide) (backOf (W := 0) (rm_sci l Z a0 hw [] (Int32.ofNat i1) (Int32.ofNat ls.length) fm h0 n0 O0 S3_ hfm (own_nonneg (by omega)) (own_lt (by omega) (by omega))) hZ (hw _ (List.mem_of_getElem? (i := 73) rfl)) (hw _ (List.mem_of_getElem? (i := 3) rfl)) (by decide) (by decide)) (g := (mkF m 5 #[iv (Int32.ofNat i1), rv v1] [(.int (Int32.ofNat ls.length)), (.int (Int32.ofNat i1))])) rfl (by rw [hml]; rfl) (argsL := [(.int (Int32.ofNat i1)), (.int (Int32.ofNat ls.length))]) (rest := []) (lenOf pd_11 rfl) rfl (by show 2 * 0 + _ ≤ _; exact Nat.le_of_eq rfl) (hb hby d23_5) (fun _ _ => ⟨rfl, e102, (by decide : 0 + 0 ≤ _), (by decide : 0 + 0 ≤ _)⟩)
  dsimp only [Pt.U, Pt.locs, Pt.cells, Pt.slots] at X104 l104 y104 z104 st104 hQ104
  subst y104 z104
  obtain ⟨rfl, M104, e104⟩ := hQ104
  have N104 : Fr n0 L104 := by rw [l104]; exact Fr.app N102 M104
  have g105 : Go p e below T104 (mkF m 8 #[iv (Int32.ofNat i1), rv v1] []) A0 := fun t kont => g103 t (st104 t kont)
  obtain ⟨fs, hr, hrun, hended, hW, hsame⟩ := X104.leave (v := none) (fun _ => rfl)
  refine ⟨_, _, g105 _ (X104.returnOut hx Bd.returns (hb hby d23_8) hr), hrun, hended, _, _, rfl, ?_, ⟨_, rfl⟩, hW, hsame.mono (by decide) (by decide)⟩
  show Q_uckG Z v1 i1 kv vs fm ls h0 n0 _ T104.heap _
  rw [e104]
  exact ⟨rfl, N104, rfl⟩
theorem d22_0 : decode jdk_52_method_83_code 0 = .ok (.iload_n 1, 1) := by decide +kernel
theorem d22_1 : decode jdk_52_method_83_code 1 = .ok (.aload_n 0, 1) := by decide +kernel
theorem d22_2 : decode jdk_52_method_83_code 2 = .ok (.invokestatic 67, 3) := by decide +kernel
theorem pd_13 : parseMethodDescriptor "(I[B)V" = some ⟨[.int, (.array .byte)], none⟩ := by decide +kernel
theorem d22_5 : decode jdk_52_method_83_code 5 = .ok (.aload_n 0, 1) := by decide +kernel
theorem d22_6 : decode jdk_52_method_83_code 6 = .ok (.iload_n 1, 1) := by decide +kernel
theorem d22_7 : decode jdk_52_method_83_code 7 = .ok (.invokestatic 71, 3) := by decide +kernel
theorem d22_10 : decode jdk_52_method_83_code 10 = .ok (.ireturn, 1) := by decide +kernel
theorem ef_uchG (m : MethodId) (x0 : Addr) (x1 : Int32)  : entryFrame m #[(.ref x0), (.int x1)] 2 = mkF m 0 #[.val (.ref x0), .val (.int x1)] [] := by first | (simp [entryFrame, mkF, argsToLocals, Value.category]; done) | rfl
def Q_uchG (Z : State) (v1 : Addr) (i1 : Nat) (kv : ClassId) (fm : Value) (ls : List Int32) (h0 : Heap) (n0 : Nat) (v : Option Value) (h : Heap) (L : List Loc) : Prop := v = some (.int (ls.getD i1 0)) ∧ Fr n0 L ∧ h = h0
set_option maxRecDepth 65536 in
set_option maxHeartbeats 40000000 in
theorem rm_uchG (l : Launch) (Z : State) (a0 : Array Value) (hw : ∀ d ∈ tables_1, d.before a0 Z = true) (ws : List Jvm.Cond) (v1 : Addr) (i1 : Nat) (kv : ClassId) (fm : Value) (ls : List Int32) (h0 : Heap) (n0 : Nat) (O0 : Old Z n0 h0) (A0_ : Arv Z h0 v1 kv .byte (Int32.ofNat (2 * ls.length)) (own_wb ls) (.int (0 : Int32))) (hB : ls.length ≤ 65) (hi : i1 < ls.length) (hch : own_chars ls) (S4_ : Sta Z Z.heap "jdk/internal/util/Preconditions" "SIOOBE_FORMATTER" "Ljava/util/function/BiFunction;" fm) (hfm : fm.isRef = true) (S6_ : Sta Z Z.heap "java/lang/StringUTF16" "$assertionsDisabled" "Z" (.int (1 : Int32))) (S7_ : Sta Z Z.heap "java/lang/StringUTF16" "HI_BYTE_SHIFT" "I" (.int (0 : Int32))) (S8_ : Sta Z Z.heap "java/lang/StringUTF16" "LO_BYTE_SHIFT" "I" (.int (8 : Int32))) :
    MetFree l (⟨"java/lang/StringUTF16", "charAt", "([BI)C"⟩ : MethodName) (head1 (Jvm.Cond.code (⟨"java/lang/StringUTF16", "charAt", "([BI)C"⟩ : MethodName) jdk_52_method_83_code 2 (some .char) :: ws) ({ frames := 3, cells := 0, slots := 0, locals := 40 } : Room)) (fun a U => a = #[(.ref v1), (.int (Int32.ofNat i1))] ∧ Z.Warmed39 U.vm ∧ U.heap = h0) (fun _ _ _ _ _ => True) (fun _ U o U' => ∃ v L, o = .returned v ∧ Q_uchG Z v1 i1 kv fm ls h0 n0 v U'.heap L ∧ FrameEnd U o U' L ({ frames := 3, cells := 0, slots := 0, locals := 40 } : Room).cells ({ frames := 3, cells := 0, slots := 0, locals := 40 } : Room).slots) := by
  refine MetFree.of_bodySF (plainFor_of_name pn_java_lang_StringUTF16) hisR ?_
  intro p e s m args below meth c s₁ Bd hml0 hP hK
  obtain ⟨rfl, hZ, hh⟩ := hP
  have hx := Bd.exec
  have hby := Bd.bytes
  have hml : c.maxLocals = 2 := hml0
  have hown : s.vm.findClass "java/lang/StringUTF16" = some m.cls := findClass_of_methodNamed Bd.named
  have hnm := (name_of_methodNamed Bd.named Bd.method).1
  have X0 : Stand p l e ({ frames := 3, cells := 0, slots := 0, locals := 40 } : Room) s m #[(.ref v1), (.int (Int32.ofNat i1))] below meth c s₁ [] 0 0 := Stand.of_body Bd
  have e0 : s₁.heap = h0 := by rw [← hh, Bd.state]; rfl
  have N0 := Fr.nil n0
  have g0 : Go p e below s₁ (mkF m 0 #[rv v1, iv (Int32.ofNat i1)] []) (s₁.setTop (entryFrame m #[(.ref v1), (.int (Int32.ofNat i1))] 2)) := fun t kont => castTop (ef_uchG m v1 (Int32.ofNat i1) ) kont
  generalize s₁.setTop (entryFrame m #[(.ref v1), (.int (Int32.ofNat i1))] 2) = A0 at g0 ⊢
  have r_ch : nar .char (ls.getD i1 0) = (ls.getD i1 0) := own_narid (hch i1 hi).1 (hch i1 hi).2
  have g101 : Go p e below s₁ (mkF m 2 #[rv v1, iv (Int32.ofNat i1)] [(.ref v1), (.int (Int32.ofNat i1))]) A0 := by
    intro t kont
    refine g0 t ?_
    refine XS.iloadN X0.here hx rfl (hb hby d22_0) rfl ?_
    refine XS.aloadN X0.here hx rfl (hb hby d22_1) rfl rfl ?_
    exact kont
  obtain ⟨_, _, ⟨T102, L102, k102, n102⟩, -, X102, ⟨Lc102, hQ102, l102, y102, z102⟩, st102⟩ := Jvm.LawKit.callS X0 hx (y := (⟨"java/lang/StringUTF16", "checkIndex", "(I[B)V"⟩ : MethodName)) hown (mvT hZ (hw _ (List.mem_of_getElem? (i := 101) rfl))) (mvT hZ (hw _ (List.mem_of_getElem? (i := 102) rfl))) (mvT hZ (hw _ (List.mem_of_getElem? (i := 35) rfl))) (mvT hZ (hw _ (List.mem_of_getElem? (i := 103) rfl))) (by decide) (backOf (W := 0) (rm_uckG l Z a0 hw [] v1 i1 kv (own_wb ls) fm ls h0 n0 O0 A0_ hB hi S4_ hfm) hZ (hw _ (List.mem_of_getElem? (i := 103) rfl)) (hw _ (List.mem_of_getElem? (i := 35) rfl)) (by decide) (by decide)) (g := (mkF m 2 #[rv v1, iv (Int32.ofNat i1)] [(.ref v1), (.int (Int32.ofNat i1))])) rfl (by rw [hml]; rfl) (argsL := [(.int (Int32.ofNat i1)), (.ref v1)]) (rest := []) (lenOf pd_13 rfl) rfl (by show 2 * 0 + _ ≤ _; exact Nat.le_of_eq rfl) (hb hby d22_2) (fun _ _ => ⟨rfl, e0, (by decide : 0 + 0 ≤ _), (by decide : 0 + 0 ≤ _)⟩)
  dsimp only [Pt.U, Pt.locs, Pt.cells, Pt.slots] at X102 l102 y102 z102 st102 hQ102
  subst y102 z102
  obtain ⟨rfl, M102, e102⟩ := hQ102
  have N102 : Fr n0 L102 := by rw [l102]; exact Fr.app N0 M102
  have g103 : Go p e below T102 (mkF m 5 #[rv v1, iv (Int32.ofNat i1)] []) A0 := fun t kont => g101 t (st102 t kont)
  have g104 : Go p e below T102 (mkF m 7 #[rv v1, iv (Int32.ofNat i1)] [(.int (Int32.ofNat i1)), (.ref v1)]) A0 := by
    intro t kont
    refine g103 t ?_
    refine XS.aloadN X102.here hx rfl (hb hby d22_5) rfl rfl ?_
    refine XS.iloadN X102.here hx rfl (hb hby d22_6) rfl ?_
    exact kont
  obtain ⟨_, _, ⟨T105, L105, k105, n105⟩, -, X105, ⟨Lc105, hQ105, l105, y105, z105⟩, st105⟩ := Jvm.LawKit.callS X102 hx (y := (⟨"java/lang/StringUTF16", "getChar", "([BI)C"⟩ : MethodName)) hown (mvT hZ (hw _ (List.mem_of_getElem? (i := 95) rfl))) (mvT hZ (hw _ (List.mem_of_getElem? (i := 96) rfl))) (mvT hZ (hw _ (List.mem_of_getElem? (i := 35) rfl))) (mvT hZ (hw _ (List.mem_of_getElem? (i := 97) rfl))) (by decide) (backOf (W := 0) (rm_getG l Z a0 hw [] v1 i1 kv ls h0 n0 O0 A0_ hB hi hch S6_ S7_ S8_) hZ (hw _ (List.mem_of_getElem? (i := 97) rfl)) (hw _ (List.mem_of_getElem? (i := 35) rfl)) (by decide) (by decide)) (g := (mkF m 7 #[rv v1, iv (Int32.ofNat i1)] [(.int (Int32.ofNat i1)), (.ref v1)])) rfl (by rw [hml]; rfl) (argsL := [(.ref v1), (.int (Int32.ofNat i1))]) (rest := []) (lenOf pd_7 rfl) rfl (by show 2 * 0 + _ ≤ _; exact Nat.le_of_eq rfl) (hb hby d22_7) (fun _ _ => ⟨rfl, e102, (by decide : 0 + 0 ≤ _), (by decide : 0 + 0 ≤ _)⟩)
  dsimp only [Pt.U, Pt.locs, Pt.cells, Pt.slots] at X105 l105 y105 z105 st105 hQ105
  subst y105 z105
  obtain ⟨rfl, M105, e105⟩ := hQ105
  have N105 : Fr n0 L105 := by rw [l105]; exact Fr.app N102 M105
  have g106 : Go p e below T105 (mkF m 10 #[rv v1, iv (Int32.ofNat i1)] [(.int (ls.getD i1 0))]) A0 := fun t kont => g104 t (st105 t kont)
  obtain ⟨fs, hr, hrun, hended, hW, hsame⟩ := X105.leave (v := some (.int (ls.getD i1 0))) (fun h => by rw [Bd.returns] at h; cases h)
  refine ⟨_, _, g106 _ (retN X105 hx (t := .char) Bd.returns (by simp) (hb hby d22_10) (by rw [r_ch]; exact hr)), hrun, hended, _, _, rfl, ?_, ⟨_, rfl⟩, hW, hsame.mono (by decide) (by decide)⟩
  show Q_uchG Z v1 i1 kv fm ls h0 n0 _ T105.heap _
  rw [e105]
  exact ⟨rfl, N105, rfl⟩
theorem d12_0 : decode jdk_42_method_56_code 0 = .ok (.aload_n 0, 1) := by decide +kernel
theorem d12_1 : decode jdk_42_method_56_code 1 = .ok (.invokevirtual 492, 3) := by decide +kernel
theorem pd_14 : parseMethodDescriptor "()Z" = some ⟨[], some .boolean⟩ := by decide +kernel
theorem d12_4 : decode jdk_42_method_56_code 4 = .ok (.ifCond .eq 12, 3) := by decide +kernel
theorem d12_7 : decode jdk_42_method_56_code 7 = .ok (.aload_n 0, 1) := by decide +kernel
theorem d12_8 : decode jdk_42_method_56_code 8 = .ok (.getfield 9, 3) := by decide +kernel
theorem d12_11 : decode jdk_42_method_56_code 11 = .ok (.iload_n 1, 1) := by decide +kernel
theorem d12_12 : decode jdk_42_method_56_code 12 = .ok (.invokestatic 495, 3) := by decide +kernel
theorem d12_15 : decode jdk_42_method_56_code 15 = .ok (.ireturn, 1) := by decide +kernel
theorem d12_16 : decode jdk_42_method_56_code 16 = .ok (.aload_n 0, 1) := by decide +kernel
theorem d12_17 : decode jdk_42_method_56_code 17 = .ok (.getfield 9, 3) := by decide +kernel
theorem d12_20 : decode jdk_42_method_56_code 20 = .ok (.iload_n 1, 1) := by decide +kernel
theorem d12_21 : decode jdk_42_method_56_code 21 = .ok (.invokestatic 498, 3) := by decide +kernel
theorem d12_24 : decode jdk_42_method_56_code 24 = .ok (.ireturn, 1) := by decide +kernel
theorem ef_chaG (m : MethodId) (x0 : Addr) (x1 : Int32)  : entryFrame m #[(.ref x0), (.int x1)] 2 = mkF m 0 #[.val (.ref x0), .val (.int x1)] [] := by first | (simp [entryFrame, mkF, argsToLocals, Value.category]; done) | rfl
def Q_chaG (Z : State) (a1 : Addr) (v1 : Addr) (kv : ClassId) (cd : Int32) (z1 : Int32) (vs : List Value) (ls : List Int32) (cs : Int32) (i1 : Nat) (fm : Value) (h0 : Heap) (n0 : Nat) (v : Option Value) (h : Heap) (L : List Loc) : Prop := v = some (.int (ls.getD i1 0)) ∧ Fr n0 L ∧ h = h0
set_option maxRecDepth 65536 in
set_option maxHeartbeats 40000000 in
theorem rm_chaG (l : Launch) (Z : State) (a0 : Array Value) (hw : ∀ d ∈ tables_1, d.before a0 Z = true) (ws : List Jvm.Cond) (a1 : Addr) (v1 : Addr) (kv : ClassId) (cd : Int32) (z1 : Int32) (vs : List Value) (ls : List Int32) (cs : Int32) (i1 : Nat) (fm : Value) (h0 : Heap) (n0 : Nat) (O0 : Old Z n0 h0) (S0_ : Sta Z Z.heap "java/lang/String" "COMPACT_STRINGS" "Z" (.int cs)) (hcs : ¬ (cs = (0 : Int32))) (F2_ : Fld Z h0 a1 "java/lang/String" "value" "[B" (.ref v1)) (F3_ : Fld Z h0 a1 "java/lang/String" "coder" "B" (.int cd)) (E4_ : Exa Z h0 a1 "java/lang/String") (A5_ : Arv Z h0 v1 kv .byte z1 vs (.int (0 : Int32))) (hcod : own_cod ls cd z1 vs) (hB : ls.length ≤ 65) (hi : i1 < ls.length) (hch : own_chars ls) (S10_ : Sta Z Z.heap "jdk/internal/util/Preconditions" "SIOOBE_FORMATTER" "Ljava/util/function/BiFunction;" fm) (hfm : fm.isRef = true) (S12_ : Sta Z Z.heap "java/lang/StringUTF16" "$assertionsDisabled" "Z" (.int (1 : Int32))) (S13_ : Sta Z Z.heap "java/lang/StringUTF16" "HI_BYTE_SHIFT" "I" (.int (0 : Int32))) (S14_ : Sta Z Z.heap "java/lang/StringUTF16" "LO_BYTE_SHIFT" "I" (.int (8 : Int32))) :
    MetFree l (⟨"java/lang/String", "charAt", "(I)C"⟩ : MethodName) (head1 (Jvm.Cond.code (⟨"java/lang/String", "charAt", "(I)C"⟩ : MethodName) jdk_42_method_56_code 2 (some .char) :: ws) ({ frames := 4, cells := 0, slots := 0, locals := 53 } : Room)) (fun a U => a = #[(.ref a1), (.int (Int32.ofNat i1))] ∧ Z.Warmed39 U.vm ∧ U.heap = h0) (fun _ _ _ _ _ => True) (fun _ U o U' => ∃ v L, o = .returned v ∧ Q_chaG Z a1 v1 kv cd z1 vs ls cs i1 fm h0 n0 v U'.heap L ∧ FrameEnd U o U' L ({ frames := 4, cells := 0, slots := 0, locals := 53 } : Room).cells ({ frames := 4, cells := 0, slots := 0, locals := 53 } : Room).slots) := by
  refine MetFree.of_bodySF (plainFor_of_name pn_java_lang_String) hisR ?_
  intro p e s m args below meth c s₁ Bd hml0 hP hK
  obtain ⟨rfl, hZ, hh⟩ := hP
  have hx := Bd.exec
  have hby := Bd.bytes
  have hml : c.maxLocals = 2 := hml0
  have hown : s.vm.findClass "java/lang/String" = some m.cls := findClass_of_methodNamed Bd.named
  have hnm := (name_of_methodNamed Bd.named Bd.method).1
  have X0 : Stand p l e ({ frames := 4, cells := 0, slots := 0, locals := 53 } : Room) s m #[(.ref a1), (.int (Int32.ofNat i1))] below meth c s₁ [] 0 0 := Stand.of_body Bd
  have e0 : s₁.heap = h0 := by rw [← hh, Bd.state]; rfl
  have N0 := Fr.nil n0
  have g0 : Go p e below s₁ (mkF m 0 #[rv a1, iv (Int32.ofNat i1)] []) (s₁.setTop (entryFrame m #[(.ref a1), (.int (Int32.ofNat i1))] 2)) := fun t kont => castTop (ef_chaG m a1 (Int32.ofNat i1) ) kont
  generalize s₁.setTop (entryFrame m #[(.ref a1), (.int (Int32.ofNat i1))] 2) = A0 at g0 ⊢
  have r_ch : nar .char (ls.getD i1 0) = (ls.getD i1 0) := own_narid (hch i1 hi).1 (hch i1 hi).2
  rcases hcod with ⟨e1, e2, e3, hlat⟩ | ⟨e1, e2, e3⟩
  ·
    have y101 := F3_
    rw [e1] at y101
    have y102 := A5_
    rw [e2, e3] at y102
    have g103 : Go p e below s₁ (mkF m 1 #[rv a1, iv (Int32.ofNat i1)] [(.ref a1)]) A0 := by
      intro t kont
      refine g0 t ?_
      refine XS.aloadN X0.here hx rfl (hb hby d12_0) rfl rfl ?_
      exact kont
    obtain ⟨cq104, kq104, q104a, q104b, q104c⟩ := isOf hZ e0 E4_
    obtain ⟨_, _, ⟨T104, L104, k104, n104⟩, -, X104, ⟨Lc104, hQ104, l104, y104, z104⟩, st104⟩ := X0.virtualBack hx (y := (⟨"java/lang/String", "isLatin1", "()Z"⟩ : MethodName)) (z := (⟨"java/lang/String", "isLatin1", "()Z"⟩ : MethodName)) hown (mvT hZ (hw _ (List.mem_of_getElem? (i := 62) rfl))) (mvT hZ (hw _ (List.mem_of_getElem? (i := 63) rfl))) (notFace_of_selects (args := #[]) (mvT hZ (hw _ (List.mem_of_getElem? (i := 65) rfl)))) (mvT hZ (hw _ (List.mem_of_getElem? (i := 65) rfl))) (mvT hZ (hw _ (List.mem_of_getElem? (i := 64) rfl))) (by decide) (backOf (W := 0) (rm_isl0 l Z a0 hw [] a1 cs h0 n0 O0 S0_ hcs y101) hZ (hw _ (List.mem_of_getElem? (i := 66) rfl)) (hw _ (List.mem_of_getElem? (i := 3) rfl)) (by decide) (by decide)) q104a q104c (g := (mkF m 1 #[rv a1, iv (Int32.ofNat i1)] [(.ref a1)])) rfl (by rw [hml]; rfl) (Steps.refl _) (argsL := []) (rest := []) (lenOf pd_14 rfl) rfl (by show 2 * 0 + _ ≤ _; exact Nat.le_of_eq rfl) (hb hby d12_1) (fun _ _ => ⟨rfl, e0, (by decide : 0 + 0 ≤ _), (by decide : 0 + 0 ≤ _)⟩)
    dsimp only [Pt.U, Pt.locs, Pt.cells, Pt.slots] at X104 l104 y104 z104 st104 hQ104
    subst y104 z104
    obtain ⟨rfl, M104, e104⟩ := hQ104
    have N104 : Fr n0 L104 := by rw [l104]; exact Fr.app N0 M104
    have g105 : Go p e below T104 (mkF m 4 #[rv a1, iv (Int32.ofNat i1)] [(.int (1 : Int32))]) A0 := fun t kont => g103 t (st104.trans kont)
    have g106 : Go p e below T104 (mkF m 8 #[rv a1, iv (Int32.ofNat i1)] [(.ref a1)]) A0 := by
      intro t kont
      refine g105 t ?_
      refine XS.ifNo X104.here hx rfl (hb hby d12_4) rfl ((if0 _ _).trans (feq (by decide : ¬ ((1 : Int32) = (0 : Int32)))).1) ?_
      refine XS.aloadN X104.here hx rfl (hb hby d12_7) rfl rfl ?_
      exact kont
    obtain ⟨T107, X107, e107, st107⟩ := getF X104 hx hZ hown (host := "") (Or.inl (hw _ (List.mem_of_getElem? (i := 21) rfl))) Via.refl e104 F2_ (g := (mkF m 8 #[rv a1, iv (Int32.ofNat i1)] [(.ref a1)])) rfl rfl (hb hby d12_8)
    have g108 : Go p e below T107 (mkF m 11 #[rv a1, iv (Int32.ofNat i1)] [(.ref v1)]) A0 := fun t kont => g106 t (st107 t kont)
    have g109 : Go p e below T107 (mkF m 12 #[rv a1, iv (Int32.ofNat i1)] [(.int (Int32.ofNat i1)), (.ref v1)]) A0 := by
      intro t kont
      refine g108 t ?_
      refine XS.iloadN X107.here hx rfl (hb hby d12_11) rfl ?_
      exact kont
    obtain ⟨_, _, ⟨T110, L110, k110, n110⟩, -, X110, ⟨Lc110, hQ110, l110, y110, z110⟩, st110⟩ := Jvm.LawKit.callS X107 hx (y := (⟨"java/lang/StringLatin1", "charAt", "([BI)C"⟩ : MethodName)) hown (mvT hZ (hw _ (List.mem_of_getElem? (i := 67) rfl))) (mvT hZ (hw _ (List.mem_of_getElem? (i := 68) rfl))) (mvT hZ (hw _ (List.mem_of_getElem? (i := 69) rfl))) (mvT hZ (hw _ (List.mem_of_getElem? (i := 70) rfl))) (by decide) (backOf (W := 0) (rm_lchG l Z a0 hw [] v1 i1 kv fm ls h0 n0 O0 y102 hB hi hch hlat S10_ hfm) hZ (hw _ (List.mem_of_getElem? (i := 70) rfl)) (hw _ (List.mem_of_getElem? (i := 69) rfl)) (by decide) (by decide)) (g := (mkF m 12 #[rv a1, iv (Int32.ofNat i1)] [(.int (Int32.ofNat i1)), (.ref v1)])) rfl (by rw [hml]; rfl) (argsL := [(.ref v1), (.int (Int32.ofNat i1))]) (rest := []) (lenOf pd_7 rfl) rfl (by show 2 * 0 + _ ≤ _; exact Nat.le_of_eq rfl) (hb hby d12_12) (fun _ _ => ⟨rfl, e107, (by decide : 0 + 0 ≤ _), (by decide : 0 + 0 ≤ _)⟩)
    dsimp only [Pt.U, Pt.locs, Pt.cells, Pt.slots] at X110 l110 y110 z110 st110 hQ110
    subst y110 z110
    obtain ⟨rfl, M110, e110⟩ := hQ110
    have N110 : Fr n0 L110 := by rw [l110]; exact Fr.app N104 M110
    have g111 : Go p e below T110 (mkF m 15 #[rv a1, iv (Int32.ofNat i1)] [(.int (ls.getD i1 0))]) A0 := fun t kont => g109 t (st110 t kont)
    obtain ⟨fs, hr, hrun, hended, hW, hsame⟩ := X110.leave (v := some (.int (ls.getD i1 0))) (fun h => by rw [Bd.returns] at h; cases h)
    refine ⟨_, _, g111 _ (retN X110 hx (t := .char) Bd.returns (by simp) (hb hby d12_15) (by rw [r_ch]; exact hr)), hrun, hended, _, _, rfl, ?_, ⟨_, rfl⟩, hW, hsame.mono (by decide) (by decide)⟩
    show Q_chaG Z a1 v1 kv cd z1 vs ls cs i1 fm h0 n0 _ T110.heap _
    rw [e110]
    exact ⟨rfl, N110, rfl⟩
  have y112 := F3_
  rw [e1] at y112
  have y113 := A5_
  rw [e2, e3] at y113
  have g114 : Go p e below s₁ (mkF m 1 #[rv a1, iv (Int32.ofNat i1)] [(.ref a1)]) A0 := by
    intro t kont
    refine g0 t ?_
    refine XS.aloadN X0.here hx rfl (hb hby d12_0) rfl rfl ?_
    exact kont
  obtain ⟨cq115, kq115, q115a, q115b, q115c⟩ := isOf hZ e0 E4_
  obtain ⟨_, _, ⟨T115, L115, k115, n115⟩, -, X115, ⟨Lc115, hQ115, l115, y115, z115⟩, st115⟩ := X0.virtualBack hx (y := (⟨"java/lang/String", "isLatin1", "()Z"⟩ : MethodName)) (z := (⟨"java/lang/String", "isLatin1", "()Z"⟩ : MethodName)) hown (mvT hZ (hw _ (List.mem_of_getElem? (i := 62) rfl))) (mvT hZ (hw _ (List.mem_of_getElem? (i := 63) rfl))) (notFace_of_selects (args := #[]) (mvT hZ (hw _ (List.mem_of_getElem? (i := 65) rfl)))) (mvT hZ (hw _ (List.mem_of_getElem? (i := 65) rfl))) (mvT hZ (hw _ (List.mem_of_getElem? (i := 64) rfl))) (by decide) (backOf (W := 0) (rm_isl1 l Z a0 hw [] a1 cs h0 n0 O0 S0_ hcs y112) hZ (hw _ (List.mem_of_getElem? (i := 66) rfl)) (hw _ (List.mem_of_getElem? (i := 3) rfl)) (by decide) (by decide)) q115a q115c (g := (mkF m 1 #[rv a1, iv (Int32.ofNat i1)] [(.ref a1)])) rfl (by rw [hml]; rfl) (Steps.refl _) (argsL := []) (rest := []) (lenOf pd_14 rfl) rfl (by show 2 * 0 + _ ≤ _; exact Nat.le_of_eq rfl) (hb hby d12_1) (fun _ _ => ⟨rfl, e0, (by decide : 0 + 0 ≤ _), (by decide : 0 + 0 ≤ _)⟩)
  dsimp only [Pt.U, Pt.locs, Pt.cells, Pt.slots] at X115 l115 y115 z115 st115 hQ115
  subst y115 z115
  obtain ⟨rfl, M115, e115⟩ := hQ115
  have N115 : Fr n0 L115 := by rw [l115]; exact Fr.app N0 M115
  have g116 : Go p e below T115 (mkF m 4 #[rv a1, iv (Int32.ofNat i1)] [(.int (0 : Int32))]) A0 := fun t kont => g114 t (st115.trans kont)
  have g117 : Go p e below T115 (mkF m 17 #[rv a1, iv (Int32.ofNat i1)] [(.ref a1)]) A0 := by
    intro t kont
    refine g116 t ?_
    refine XS.ifYes X115.here hx rfl (pc0 := 4) (pc' := 16) rfl (hb hby d12_4) rfl ((if0 _ _).trans (teq (by decide : (0 : Int32) = (0 : Int32))).1) (by decide) (by decide) ?_
    refine XS.aloadN X115.here hx rfl (hb hby d12_16) rfl rfl ?_
    exact kont
  obtain ⟨T118, X118, e118, st118⟩ := getF X115 hx hZ hown (host := "") (Or.inl (hw _ (List.mem_of_getElem? (i := 21) rfl))) Via.refl e115 F2_ (g := (mkF m 17 #[rv a1, iv (Int32.ofNat i1)] [(.ref a1)])) rfl rfl (hb hby d12_17)
  have g119 : Go p e below T118 (mkF m 20 #[rv a1, iv (Int32.ofNat i1)] [(.ref v1)]) A0 := fun t kont => g117 t (st118 t kont)
  have g120 : Go p e below T118 (mkF m 21 #[rv a1, iv (Int32.ofNat i1)] [(.int (Int32.ofNat i1)), (.ref v1)]) A0 := by
    intro t kont
    refine g119 t ?_
    refine XS.iloadN X118.here hx rfl (hb hby d12_20) rfl ?_
    exact kont
  obtain ⟨_, _, ⟨T121, L121, k121, n121⟩, -, X121, ⟨Lc121, hQ121, l121, y121, z121⟩, st121⟩ := Jvm.LawKit.callS X118 hx (y := (⟨"java/lang/StringUTF16", "charAt", "([BI)C"⟩ : MethodName)) hown (mvT hZ (hw _ (List.mem_of_getElem? (i := 98) rfl))) (mvT hZ (hw _ (List.mem_of_getElem? (i := 99) rfl))) (mvT hZ (hw _ (List.mem_of_getElem? (i := 35) rfl))) (mvT hZ (hw _ (List.mem_of_getElem? (i := 100) rfl))) (by decide) (backOf (W := 0) (rm_uchG l Z a0 hw [] v1 i1 kv fm ls h0 n0 O0 y113 hB hi hch S10_ hfm S12_ S13_ S14_) hZ (hw _ (List.mem_of_getElem? (i := 100) rfl)) (hw _ (List.mem_of_getElem? (i := 35) rfl)) (by decide) (by decide)) (g := (mkF m 21 #[rv a1, iv (Int32.ofNat i1)] [(.int (Int32.ofNat i1)), (.ref v1)])) rfl (by rw [hml]; rfl) (argsL := [(.ref v1), (.int (Int32.ofNat i1))]) (rest := []) (lenOf pd_7 rfl) rfl (by show 2 * 0 + _ ≤ _; exact Nat.le_of_eq rfl) (hb hby d12_21) (fun _ _ => ⟨rfl, e118, (by decide : 0 + 0 ≤ _), (by decide : 0 + 0 ≤ _)⟩)
  dsimp only [Pt.U, Pt.locs, Pt.cells, Pt.slots] at X121 l121 y121 z121 st121 hQ121
  subst y121 z121
  obtain ⟨rfl, M121, e121⟩ := hQ121
  have N121 : Fr n0 L121 := by rw [l121]; exact Fr.app N115 M121
  have g122 : Go p e below T121 (mkF m 24 #[rv a1, iv (Int32.ofNat i1)] [(.int (ls.getD i1 0))]) A0 := fun t kont => g120 t (st121 t kont)
  obtain ⟨fs, hr, hrun, hended, hW, hsame⟩ := X121.leave (v := some (.int (ls.getD i1 0))) (fun h => by rw [Bd.returns] at h; cases h)
  refine ⟨_, _, g122 _ (retN X121 hx (t := .char) Bd.returns (by simp) (hb hby d12_24) (by rw [r_ch]; exact hr)), hrun, hended, _, _, rfl, ?_, ⟨_, rfl⟩, hW, hsame.mono (by decide) (by decide)⟩
  show Q_chaG Z a1 v1 kv cd z1 vs ls cs i1 fm h0 n0 _ T121.heap _
  rw [e121]
  exact ⟨rfl, N121, rfl⟩
theorem d5_8 : decode jdk_42_method_55_code 8 = .ok (.iconst 1, 1) := by decide +kernel
theorem d5_9 : decode jdk_42_method_55_code 9 = .ok (.goto 4, 3) := by decide +kernel
theorem ef_isE0 (m : MethodId) (x0 : Addr)  : entryFrame m #[(.ref x0)] 1 = mkF m 0 #[.val (.ref x0)] [] := by first | (simp [entryFrame, mkF, argsToLocals, Value.category]; done) | rfl
def Q_isE0 (Z : State) (a1 : Addr) (b1 : Addr) (kb : ClassId) (vs1 : List Value) (h0 : Heap) (n0 : Nat) (v : Option Value) (h : Heap) (L : List Loc) : Prop := v = some (.int (1 : Int32)) ∧ Fr n0 L ∧ h = h0
set_option maxRecDepth 65536 in
set_option maxHeartbeats 40000000 in
theorem rm_isE0 (l : Launch) (Z : State) (a0 : Array Value) (hw : ∀ d ∈ tables_1, d.before a0 Z = true) (ws : List Jvm.Cond) (a1 : Addr) (b1 : Addr) (kb : ClassId) (vs1 : List Value) (h0 : Heap) (n0 : Nat) (O0 : Old Z n0 h0) (F0_ : Fld Z h0 a1 "java/lang/String" "value" "[B" (.ref b1)) (A1_ : Arv Z h0 b1 kb .byte (0 : Int32) vs1 (.int (0 : Int32))) :
    MetFree l (⟨"java/lang/String", "isEmpty", "()Z"⟩ : MethodName) (head1 (Jvm.Cond.code (⟨"java/lang/String", "isEmpty", "()Z"⟩ : MethodName) jdk_42_method_55_code 1 (some .boolean) :: ws) ({ frames := 0, cells := 0, slots := 0, locals := 0 } : Room)) (fun a U => a = #[(.ref a1)] ∧ Z.Warmed39 U.vm ∧ U.heap = h0) (fun _ _ _ _ _ => True) (fun _ U o U' => ∃ v L, o = .returned v ∧ Q_isE0 Z a1 b1 kb vs1 h0 n0 v U'.heap L ∧ FrameEnd U o U' L ({ frames := 0, cells := 0, slots := 0, locals := 0 } : Room).cells ({ frames := 0, cells := 0, slots := 0, locals := 0 } : Room).slots) := by
  refine MetFree.of_bodySF (plainFor_of_name pn_java_lang_String) hisR ?_
  intro p e s m args below meth c s₁ Bd hml0 hP hK
  obtain ⟨rfl, hZ, hh⟩ := hP
  have hx := Bd.exec
  have hby := Bd.bytes
  have hml : c.maxLocals = 1 := hml0
  have hown : s.vm.findClass "java/lang/String" = some m.cls := findClass_of_methodNamed Bd.named
  have hnm := (name_of_methodNamed Bd.named Bd.method).1
  have X0 : Stand p l e ({ frames := 0, cells := 0, slots := 0, locals := 0 } : Room) s m #[(.ref a1)] below meth c s₁ [] 0 0 := Stand.of_body Bd
  have e0 : s₁.heap = h0 := by rw [← hh, Bd.state]; rfl
  have N0 := Fr.nil n0
  have g0 : Go p e below s₁ (mkF m 0 #[rv a1] []) (s₁.setTop (entryFrame m #[(.ref a1)] 1)) := fun t kont => castTop (ef_isE0 m a1 ) kont
  generalize s₁.setTop (entryFrame m #[(.ref a1)] 1) = A0 at g0 ⊢
  have g101 : Go p e below s₁ (mkF m 1 #[rv a1] [(.ref a1)]) A0 := by
    intro t kont
    refine g0 t ?_
    refine XS.aloadN X0.here hx rfl (hb hby d5_0) rfl rfl ?_
    exact kont
  obtain ⟨T102, X102, e102, st102⟩ := getF X0 hx hZ hown (host := "") (Or.inl (hw _ (List.mem_of_getElem? (i := 21) rfl))) Via.refl e0 F0_ (g := (mkF m 1 #[rv a1] [(.ref a1)])) rfl rfl (hb hby d5_1)
  have g103 : Go p e below T102 (mkF m 4 #[rv a1] [(.ref b1)]) A0 := fun t kont => g101 t (st102 t kont)
  have zz104 := A1_
  obtain ⟨cl104, Ar104, -, S104, M104, -, -⟩ := zz104
  have g105 : Go p e below T102 (mkF m 5 #[rv a1] [(.int (0 : Int32))]) A0 := by
    intro t kont
    refine g103 t ?_
    refine X102.arraylength hx (by rw [e102]; exact Ar104.1) (State.isArrayOf_alike hZ.alike Ar104.2.1) (g := (mkF m 4 #[rv a1] [(.ref b1)])) rfl rfl (hb hby d5_4) _ ?_
    rw [len_of S104 M104]
    exact kont
  have g106 : Go p e below T102 (mkF m 13 #[rv a1] [(.int (1 : Int32))]) A0 := by
    intro t kont
    refine g105 t ?_
    refine XS.ifNo X102.here hx rfl (hb hby d5_5) rfl ((if0 _ _).trans (teq (by decide : (0 : Int32) = (0 : Int32))).2) ?_
    refine XS.iconst X102.here hx rfl (hb hby d5_8) ?_
    refine XS.goto X102.here hx rfl (pc0 := 9) (pc' := 13) rfl (hb hby d5_9) (by decide) (by decide) ?_
    exact kont
  obtain ⟨fs, hr, hrun, hended, hW, hsame⟩ := X102.leave (v := some (.int (1 : Int32))) (fun h => by rw [Bd.returns] at h; cases h)
  refine ⟨_, _, g106 _ (retN X102 hx (t := .boolean) Bd.returns (by simp) (hb hby d5_13) hr), hrun, hended, _, _, rfl, ?_, ⟨_, rfl⟩, hW, hsame.mono (by decide) (by decide)⟩
  show Q_isE0 Z a1 b1 kb vs1 h0 n0 _ T102.heap _
  rw [e102]
  exact ⟨rfl, N0, rfl⟩
theorem d4_0 : decode prog_8_method_9_code 0 = .ok (.aload_n 0, 1) := by decide +kernel
theorem d4_1 : decode prog_8_method_9_code 1 = .ok (.invokevirtual 75, 3) := by decide +kernel
theorem d4_4 : decode prog_8_method_9_code 4 = .ok (.ifCond .ne 32, 3) := by decide +kernel
theorem d4_36 : decode prog_8_method_9_code 36 = .ok (.iconst 0, 1) := by decide +kernel
theorem d4_37 : decode prog_8_method_9_code 37 = .ok (.ireturn, 1) := by decide +kernel
theorem pn_com_example_clear_fault_clearfault_Fault : plainName "com/example/clear_fault/clearfault/Fault" = true := by first | (simp [plainName, overriddenIn]; done) | decide +kernel
theorem ef_isV0 (m : MethodId) (x0 : Addr)  : entryFrame m #[(.ref x0)] 3 = mkF m 0 #[.val (.ref x0), .unset, .unset] [] := by first | (simp [entryFrame, mkF, argsToLocals, Value.category]; done) | rfl
def Q_isV0 (Z : State) (a1 : Addr) (v1 : Addr) (kv : ClassId) (vs1 : List Value) (h0 : Heap) (n0 : Nat) (v : Option Value) (h : Heap) (L : List Loc) : Prop := v = some (.int (0 : Int32)) ∧ Fr n0 L ∧ h = h0
set_option maxRecDepth 65536 in
set_option maxHeartbeats 40000000 in
theorem rm_isV0 (l : Launch) (Z : State) (a0 : Array Value) (hw : ∀ d ∈ tables_1, d.before a0 Z = true) (ws : List Jvm.Cond) (a1 : Addr) (v1 : Addr) (kv : ClassId) (vs1 : List Value) (h0 : Heap) (n0 : Nat) (O0 : Old Z n0 h0) (E0_ : Exa Z h0 a1 "java/lang/String") (F1_ : Fld Z h0 a1 "java/lang/String" "value" "[B" (.ref v1)) (A2_ : Arv Z h0 v1 kv .byte (0 : Int32) vs1 (.int (0 : Int32))) :
    MetFree l (⟨"com/example/clear_fault/clearfault/Fault", "isValidCode", "(Ljava/lang/String;)Z"⟩ : MethodName) (head1 (Jvm.Cond.code (⟨"com/example/clear_fault/clearfault/Fault", "isValidCode", "(Ljava/lang/String;)Z"⟩ : MethodName) prog_8_method_9_code 3 (some .boolean) :: ws) ({ frames := 1, cells := 0, slots := 0, locals := 12 } : Room)) (fun a U => a = #[(.ref a1)] ∧ Z.Warmed39 U.vm ∧ U.heap = h0) (fun _ _ _ _ _ => True) (fun _ U o U' => ∃ v L, o = .returned v ∧ Q_isV0 Z a1 v1 kv vs1 h0 n0 v U'.heap L ∧ FrameEnd U o U' L ({ frames := 1, cells := 0, slots := 0, locals := 12 } : Room).cells ({ frames := 1, cells := 0, slots := 0, locals := 12 } : Room).slots) := by
  refine MetFree.of_bodySF (plainFor_of_name pn_com_example_clear_fault_clearfault_Fault) hisR ?_
  intro p e s m args below meth c s₁ Bd hml0 hP hK
  obtain ⟨rfl, hZ, hh⟩ := hP
  have hx := Bd.exec
  have hby := Bd.bytes
  have hml : c.maxLocals = 3 := hml0
  have hown : s.vm.findClass "com/example/clear_fault/clearfault/Fault" = some m.cls := findClass_of_methodNamed Bd.named
  have hnm := (name_of_methodNamed Bd.named Bd.method).1
  have X0 : Stand p l e ({ frames := 1, cells := 0, slots := 0, locals := 12 } : Room) s m #[(.ref a1)] below meth c s₁ [] 0 0 := Stand.of_body Bd
  have e0 : s₁.heap = h0 := by rw [← hh, Bd.state]; rfl
  have N0 := Fr.nil n0
  have g0 : Go p e below s₁ (mkF m 0 #[rv a1, .unset, .unset] []) (s₁.setTop (entryFrame m #[(.ref a1)] 3)) := fun t kont => castTop (ef_isV0 m a1 ) kont
  generalize s₁.setTop (entryFrame m #[(.ref a1)] 3) = A0 at g0 ⊢
  have g101 : Go p e below s₁ (mkF m 1 #[rv a1, .unset, .unset] [(.ref a1)]) A0 := by
    intro t kont
    refine g0 t ?_
    refine XS.aloadN X0.here hx rfl (hb hby d4_0) rfl rfl ?_
    exact kont
  obtain ⟨cq102, kq102, q102a, q102b, q102c⟩ := isOf hZ e0 E0_
  obtain ⟨_, _, ⟨T102, L102, k102, n102⟩, -, X102, ⟨Lc102, hQ102, l102, y102, z102⟩, st102⟩ := X0.virtualBack hx (y := (⟨"java/lang/String", "isEmpty", "()Z"⟩ : MethodName)) (z := (⟨"java/lang/String", "isEmpty", "()Z"⟩ : MethodName)) hown (mvT hZ (hw _ (List.mem_of_getElem? (i := 27) rfl))) (mvT hZ (hw _ (List.mem_of_getElem? (i := 28) rfl))) (notFace_of_selects (args := #[]) (mvT hZ (hw _ (List.mem_of_getElem? (i := 30) rfl)))) (mvT hZ (hw _ (List.mem_of_getElem? (i := 30) rfl))) (mvT hZ (hw _ (List.mem_of_getElem? (i := 29) rfl))) (by decide) (backOf (W := 0) (rm_isE0 l Z a0 hw [] a1 v1 kv vs1 h0 n0 O0 F1_ A2_) hZ (hw _ (List.mem_of_getElem? (i := 31) rfl)) (hw _ (List.mem_of_getElem? (i := 3) rfl)) (by decide) (by decide)) q102a q102c (g := (mkF m 1 #[rv a1, .unset, .unset] [(.ref a1)])) rfl (by rw [hml]; rfl) (Steps.refl _) (argsL := []) (rest := []) (lenOf pd_14 rfl) rfl (by show 2 * 0 + _ ≤ _; exact Nat.le_of_eq rfl) (hb hby d4_1) (fun _ _ => ⟨rfl, e0, (by decide : 0 + 0 ≤ _), (by decide : 0 + 0 ≤ _)⟩)
  dsimp only [Pt.U, Pt.locs, Pt.cells, Pt.slots] at X102 l102 y102 z102 st102 hQ102
  subst y102 z102
  obtain ⟨rfl, M102, e102⟩ := hQ102
  have N102 : Fr n0 L102 := by rw [l102]; exact Fr.app N0 M102
  have g103 : Go p e below T102 (mkF m 4 #[rv a1, .unset, .unset] [(.int (1 : Int32))]) A0 := fun t kont => g101 t (st102.trans kont)
  have g104 : Go p e below T102 (mkF m 37 #[rv a1, .unset, .unset] [(.int (0 : Int32))]) A0 := by
    intro t kont
    refine g103 t ?_
    refine XS.ifYes X102.here hx rfl (pc0 := 4) (pc' := 36) rfl (hb hby d4_4) rfl ((if0 _ _).trans (feq (by decide : ¬ ((1 : Int32) = (0 : Int32)))).2) (by decide) (by decide) ?_
    refine XS.iconst X102.here hx rfl (hb hby d4_36) ?_
    exact kont
  obtain ⟨fs, hr, hrun, hended, hW, hsame⟩ := X102.leave (v := some (.int (0 : Int32))) (fun h => by rw [Bd.returns] at h; cases h)
  refine ⟨_, _, g104 _ (retN X102 hx (t := .boolean) Bd.returns (by simp) (hb hby d4_37) hr), hrun, hended, _, _, rfl, ?_, ⟨_, rfl⟩, hW, hsame.mono (by decide) (by decide)⟩
  show Q_isV0 Z a1 v1 kv vs1 h0 n0 _ T102.heap _
  rw [e102]
  exact ⟨rfl, N102, rfl⟩
theorem d4_54 : decode prog_8_method_9_code 54 = .ok (.iload_n 2, 1) := by decide +kernel
theorem d4_55 : decode prog_8_method_9_code 55 = .ok (.bipush 97, 2) := by decide +kernel
theorem d4_57 : decode prog_8_method_9_code 57 = .ok (.if_icmp .lt 9, 3) := by decide +kernel
theorem d4_66 : decode prog_8_method_9_code 66 = .ok (.iload_n 2, 1) := by decide +kernel
theorem d4_67 : decode prog_8_method_9_code 67 = .ok (.bipush 48, 2) := by decide +kernel
theorem d4_69 : decode prog_8_method_9_code 69 = .ok (.if_icmp .lt 9, 3) := by decide +kernel
theorem d4_72 : decode prog_8_method_9_code 72 = .ok (.iload_n 2, 1) := by decide +kernel
theorem d4_73 : decode prog_8_method_9_code 73 = .ok (.bipush 57, 2) := by decide +kernel
theorem d4_75 : decode prog_8_method_9_code 75 = .ok (.if_icmp .le 11, 3) := by decide +kernel
theorem d4_78 : decode prog_8_method_9_code 78 = .ok (.iload_n 2, 1) := by decide +kernel
theorem d4_79 : decode prog_8_method_9_code 79 = .ok (.bipush 95, 2) := by decide +kernel
theorem d4_81 : decode prog_8_method_9_code 81 = .ok (.if_icmp .eq 5, 3) := by decide +kernel
theorem d4_60 : decode prog_8_method_9_code 60 = .ok (.iload_n 2, 1) := by decide +kernel
theorem d4_61 : decode prog_8_method_9_code 61 = .ok (.bipush 122, 2) := by decide +kernel
theorem d4_63 : decode prog_8_method_9_code 63 = .ok (.if_icmp .le 23, 3) := by decide +kernel
set_option maxRecDepth 65536 in
set_option maxHeartbeats 40000000 in
theorem pz_good {p : Program} {l : Launch} {e : Env} {R : Room} {s : State} {m : MethodId} {args : Array Value} {below : List Frame} {meth : Method} {c : Code} {T0 : State} {locs : List Loc} {cells slots : Nat} (X0 : Stand p l e R s m args below meth c T0 locs cells slots) (hx : p.tables.exec = Jvm.exec) (hby : c.code = prog_8_method_9_code) (a1 : Addr) (i1 : Int32) (ch : Int32) (htl : own_tl ch) :
    Go p e below T0 (mkF m 86 #[rv a1, iv i1, iv ch] []) (T0.setTop (mkF m 54 #[rv a1, iv i1, iv ch] [])) := by
  have g0 : Go p e below T0 (mkF m 54 #[rv a1, iv i1, iv ch] []) (T0.setTop (mkF m 54 #[rv a1, iv i1, iv ch] [])) := fun t kont => kont
  generalize T0.setTop (mkF m 54 #[rv a1, iv i1, iv ch] []) = A0 at g0 ⊢
  have qt := htl
  unfold own_tl at qt
  have g102 : Go p e below T0 (mkF m 57 #[rv a1, iv i1, iv ch] [(.int (97 : Int32)), (.int ch)]) A0 := by
    intro t kont
    refine g0 t ?_
    refine XS.iloadN X0.here hx rfl (hb hby d4_54) rfl ?_
    refine XS.bipush X0.here hx rfl (hb hby d4_55) ?_
    exact kont
  by_cases c101 : ch < (97 : Int32)
  ·
    have q103 : ch.toInt < 97 := Int32.lt_iff_toInt_lt.mp c101
    have g105 : Go p e below T0 (mkF m 75 #[rv a1, iv i1, iv ch] [(.int (57 : Int32)), (.int ch)]) A0 := by
      intro t kont
      refine g102 t ?_
      refine XS.icmpYes X0.here hx rfl (pc0 := 57) (pc' := 66) rfl (hb hby d4_57) rfl (tlt c101).1 (by decide) (by decide) ?_
      refine XS.iloadN X0.here hx rfl (hb hby d4_66) rfl ?_
      refine XS.bipush X0.here hx rfl (hb hby d4_67) ?_
      refine XS.icmpNo X0.here hx rfl (hb hby d4_69) rfl (flt (fun z => absurd (show ch.toInt < 48 from Int32.lt_iff_toInt_lt.mp z) (by omega) : ¬ (ch < (48 : Int32)))).1 ?_
      refine XS.iloadN X0.here hx rfl (hb hby d4_72) rfl ?_
      refine XS.bipush X0.here hx rfl (hb hby d4_73) ?_
      exact kont
    by_cases c104 : (57 : Int32) < ch
    ·
      have q106 : 57 < ch.toInt := Int32.lt_iff_toInt_lt.mp c104
      have g107 : Go p e below T0 (mkF m 86 #[rv a1, iv i1, iv ch] []) A0 := by
        intro t kont
        refine g105 t ?_
        refine XS.icmpNo X0.here hx rfl (hb hby d4_75) rfl (tlt c104).2.2.2 ?_
        refine XS.iloadN X0.here hx rfl (hb hby d4_78) rfl ?_
        refine XS.bipush X0.here hx rfl (hb hby d4_79) ?_
        refine XS.icmpYes X0.here hx rfl (pc0 := 81) (pc' := 86) rfl (hb hby d4_81) rfl (teq (Int32.toInt_inj.mp (show ch.toInt = 95 by omega) : ch = (95 : Int32))).1 (by decide) (by decide) ?_
        exact kont
      exact g107
    have q108 : ¬ (57 < ch.toInt) := fun z => c104 (Int32.lt_iff_toInt_lt.mpr z)
    have g109 : Go p e below T0 (mkF m 86 #[rv a1, iv i1, iv ch] []) A0 := by
      intro t kont
      refine g105 t ?_
      refine XS.icmpYes X0.here hx rfl (pc0 := 75) (pc' := 86) rfl (hb hby d4_75) rfl (flt c104).2.2.2 (by decide) (by decide) ?_
      exact kont
    exact g109
  have q110 : ¬ (ch.toInt < 97) := fun z => c101 (Int32.lt_iff_toInt_lt.mpr z)
  have g112 : Go p e below T0 (mkF m 63 #[rv a1, iv i1, iv ch] [(.int (122 : Int32)), (.int ch)]) A0 := by
    intro t kont
    refine g102 t ?_
    refine XS.icmpNo X0.here hx rfl (hb hby d4_57) rfl (flt c101).1 ?_
    refine XS.iloadN X0.here hx rfl (hb hby d4_60) rfl ?_
    refine XS.bipush X0.here hx rfl (hb hby d4_61) ?_
    exact kont
  by_cases c111 : (122 : Int32) < ch
  ·
    have q113 : 122 < ch.toInt := Int32.lt_iff_toInt_lt.mp c111
    have g115 : Go p e below T0 (mkF m 75 #[rv a1, iv i1, iv ch] [(.int (57 : Int32)), (.int ch)]) A0 := by
      intro t kont
      refine g112 t ?_
      refine XS.icmpNo X0.here hx rfl (hb hby d4_63) rfl (tlt c111).2.2.2 ?_
      refine XS.iloadN X0.here hx rfl (hb hby d4_66) rfl ?_
      refine XS.bipush X0.here hx rfl (hb hby d4_67) ?_
      refine XS.icmpNo X0.here hx rfl (hb hby d4_69) rfl (flt (fun z => absurd (show ch.toInt < 48 from Int32.lt_iff_toInt_lt.mp z) (by omega) : ¬ (ch < (48 : Int32)))).1 ?_
      refine XS.iloadN X0.here hx rfl (hb hby d4_72) rfl ?_
      refine XS.bipush X0.here hx rfl (hb hby d4_73) ?_
      exact kont
    by_cases c114 : (57 : Int32) < ch
    ·
      have q116 : 57 < ch.toInt := Int32.lt_iff_toInt_lt.mp c114
      have g117 : Go p e below T0 (mkF m 86 #[rv a1, iv i1, iv ch] []) A0 := by
        intro t kont
        refine g115 t ?_
        refine XS.icmpNo X0.here hx rfl (hb hby d4_75) rfl (tlt c114).2.2.2 ?_
        refine XS.iloadN X0.here hx rfl (hb hby d4_78) rfl ?_
        refine XS.bipush X0.here hx rfl (hb hby d4_79) ?_
        refine XS.icmpYes X0.here hx rfl (pc0 := 81) (pc' := 86) rfl (hb hby d4_81) rfl (teq (Int32.toInt_inj.mp (show ch.toInt = 95 by omega) : ch = (95 : Int32))).1 (by decide) (by decide) ?_
        exact kont
      exact g117
    have q118 : ¬ (57 < ch.toInt) := fun z => c114 (Int32.lt_iff_toInt_lt.mpr z)
    have g119 : Go p e below T0 (mkF m 86 #[rv a1, iv i1, iv ch] []) A0 := by
      intro t kont
      refine g115 t ?_
      refine XS.icmpYes X0.here hx rfl (pc0 := 75) (pc' := 86) rfl (hb hby d4_75) rfl (flt c114).2.2.2 (by decide) (by decide) ?_
      exact kont
    exact g119
  have q120 : ¬ (122 < ch.toInt) := fun z => c111 (Int32.lt_iff_toInt_lt.mpr z)
  have g121 : Go p e below T0 (mkF m 86 #[rv a1, iv i1, iv ch] []) A0 := by
    intro t kont
    refine g112 t ?_
    refine XS.icmpYes X0.here hx rfl (pc0 := 63) (pc' := 86) rfl (hb hby d4_63) rfl (flt c111).2.2.2 (by decide) (by decide) ?_
    exact kont
  exact g121
set_option maxRecDepth 65536 in
set_option maxHeartbeats 40000000 in
theorem pz_bad {p : Program} {l : Launch} {e : Env} {R : Room} {s : State} {m : MethodId} {args : Array Value} {below : List Frame} {meth : Method} {c : Code} {T0 : State} {locs : List Loc} {cells slots : Nat} (X0 : Stand p l e R s m args below meth c T0 locs cells slots) (hx : p.tables.exec = Jvm.exec) (hby : c.code = prog_8_method_9_code) (a1 : Addr) (i1 : Int32) (ch : Int32) (htl : ¬ (own_tl ch)) :
    Go p e below T0 (mkF m 84 #[rv a1, iv i1, iv ch] []) (T0.setTop (mkF m 54 #[rv a1, iv i1, iv ch] [])) := by
  have g0 : Go p e below T0 (mkF m 54 #[rv a1, iv i1, iv ch] []) (T0.setTop (mkF m 54 #[rv a1, iv i1, iv ch] [])) := fun t kont => kont
  generalize T0.setTop (mkF m 54 #[rv a1, iv i1, iv ch] []) = A0 at g0 ⊢
  have qt := htl
  unfold own_tl at qt
  have g102 : Go p e below T0 (mkF m 57 #[rv a1, iv i1, iv ch] [(.int (97 : Int32)), (.int ch)]) A0 := by
    intro t kont
    refine g0 t ?_
    refine XS.iloadN X0.here hx rfl (hb hby d4_54) rfl ?_
    refine XS.bipush X0.here hx rfl (hb hby d4_55) ?_
    exact kont
  by_cases c101 : ch < (97 : Int32)
  ·
    have q103 : ch.toInt < 97 := Int32.lt_iff_toInt_lt.mp c101
    have g105 : Go p e below T0 (mkF m 69 #[rv a1, iv i1, iv ch] [(.int (48 : Int32)), (.int ch)]) A0 := by
      intro t kont
      refine g102 t ?_
      refine XS.icmpYes X0.here hx rfl (pc0 := 57) (pc' := 66) rfl (hb hby d4_57) rfl (tlt c101).1 (by decide) (by decide) ?_
      refine XS.iloadN X0.here hx rfl (hb hby d4_66) rfl ?_
      refine XS.bipush X0.here hx rfl (hb hby d4_67) ?_
      exact kont
    by_cases c104 : ch < (48 : Int32)
    ·
      have q106 : ch.toInt < 48 := Int32.lt_iff_toInt_lt.mp c104
      have g107 : Go p e below T0 (mkF m 84 #[rv a1, iv i1, iv ch] []) A0 := by
        intro t kont
        refine g105 t ?_
        refine XS.icmpYes X0.here hx rfl (pc0 := 69) (pc' := 78) rfl (hb hby d4_69) rfl (tlt c104).1 (by decide) (by decide) ?_
        refine XS.iloadN X0.here hx rfl (hb hby d4_78) rfl ?_
        refine XS.bipush X0.here hx rfl (hb hby d4_79) ?_
        refine XS.icmpNo X0.here hx rfl (hb hby d4_81) rfl (feq (fun z => absurd (show ch.toInt = 95 from congrArg Int32.toInt z) (by omega) : ¬ (ch = (95 : Int32)))).1 ?_
        exact kont
      exact g107
    have q108 : ¬ (ch.toInt < 48) := fun z => c104 (Int32.lt_iff_toInt_lt.mpr z)
    have g109 : Go p e below T0 (mkF m 84 #[rv a1, iv i1, iv ch] []) A0 := by
      intro t kont
      refine g105 t ?_
      refine XS.icmpNo X0.here hx rfl (hb hby d4_69) rfl (flt c104).1 ?_
      refine XS.iloadN X0.here hx rfl (hb hby d4_72) rfl ?_
      refine XS.bipush X0.here hx rfl (hb hby d4_73) ?_
      refine XS.icmpNo X0.here hx rfl (hb hby d4_75) rfl (tlt (Int32.lt_iff_toInt_lt.mpr (show 57 < ch.toInt by omega) : (57 : Int32) < ch)).2.2.2 ?_
      refine XS.iloadN X0.here hx rfl (hb hby d4_78) rfl ?_
      refine XS.bipush X0.here hx rfl (hb hby d4_79) ?_
      refine XS.icmpNo X0.here hx rfl (hb hby d4_81) rfl (feq (fun z => absurd (show ch.toInt = 95 from congrArg Int32.toInt z) (by omega) : ¬ (ch = (95 : Int32)))).1 ?_
      exact kont
    exact g109
  have q110 : ¬ (ch.toInt < 97) := fun z => c101 (Int32.lt_iff_toInt_lt.mpr z)
  have g112 : Go p e below T0 (mkF m 69 #[rv a1, iv i1, iv ch] [(.int (48 : Int32)), (.int ch)]) A0 := by
    intro t kont
    refine g102 t ?_
    refine XS.icmpNo X0.here hx rfl (hb hby d4_57) rfl (flt c101).1 ?_
    refine XS.iloadN X0.here hx rfl (hb hby d4_60) rfl ?_
    refine XS.bipush X0.here hx rfl (hb hby d4_61) ?_
    refine XS.icmpNo X0.here hx rfl (hb hby d4_63) rfl (tlt (Int32.lt_iff_toInt_lt.mpr (show 122 < ch.toInt by omega) : (122 : Int32) < ch)).2.2.2 ?_
    refine XS.iloadN X0.here hx rfl (hb hby d4_66) rfl ?_
    refine XS.bipush X0.here hx rfl (hb hby d4_67) ?_
    exact kont
  by_cases c111 : ch < (48 : Int32)
  ·
    have q113 : ch.toInt < 48 := Int32.lt_iff_toInt_lt.mp c111
    have g114 : Go p e below T0 (mkF m 84 #[rv a1, iv i1, iv ch] []) A0 := by
      intro t kont
      refine g112 t ?_
      refine XS.icmpYes X0.here hx rfl (pc0 := 69) (pc' := 78) rfl (hb hby d4_69) rfl (tlt c111).1 (by decide) (by decide) ?_
      refine XS.iloadN X0.here hx rfl (hb hby d4_78) rfl ?_
      refine XS.bipush X0.here hx rfl (hb hby d4_79) ?_
      refine XS.icmpNo X0.here hx rfl (hb hby d4_81) rfl (feq (fun z => absurd (show ch.toInt = 95 from congrArg Int32.toInt z) (by omega) : ¬ (ch = (95 : Int32)))).1 ?_
      exact kont
    exact g114
  have q115 : ¬ (ch.toInt < 48) := fun z => c111 (Int32.lt_iff_toInt_lt.mpr z)
  have g116 : Go p e below T0 (mkF m 84 #[rv a1, iv i1, iv ch] []) A0 := by
    intro t kont
    refine g112 t ?_
    refine XS.icmpNo X0.here hx rfl (hb hby d4_69) rfl (flt c111).1 ?_
    refine XS.iloadN X0.here hx rfl (hb hby d4_72) rfl ?_
    refine XS.bipush X0.here hx rfl (hb hby d4_73) ?_
    refine XS.icmpNo X0.here hx rfl (hb hby d4_75) rfl (tlt (Int32.lt_iff_toInt_lt.mpr (show 57 < ch.toInt by omega) : (57 : Int32) < ch)).2.2.2 ?_
    refine XS.iloadN X0.here hx rfl (hb hby d4_78) rfl ?_
    refine XS.bipush X0.here hx rfl (hb hby d4_79) ?_
    refine XS.icmpNo X0.here hx rfl (hb hby d4_81) rfl (feq (fun z => absurd (show ch.toInt = 95 from congrArg Int32.toInt z) (by omega) : ¬ (ch = (95 : Int32)))).1 ?_
    exact kont
  exact g116
theorem d4_7 : decode prog_8_method_9_code 7 = .ok (.aload_n 0, 1) := by decide +kernel
theorem d4_8 : decode prog_8_method_9_code 8 = .ok (.invokevirtual 81, 3) := by decide +kernel
theorem pd_15 : parseMethodDescriptor "()I" = some ⟨[], some .int⟩ := by decide +kernel
theorem d4_11 : decode prog_8_method_9_code 11 = .ok (.bipush 64, 2) := by decide +kernel
theorem d4_13 : decode prog_8_method_9_code 13 = .ok (.if_icmp .gt 23, 3) := by decide +kernel
theorem d4_16 : decode prog_8_method_9_code 16 = .ok (.aload_n 0, 1) := by decide +kernel
theorem d4_17 : decode prog_8_method_9_code 17 = .ok (.iconst 0, 1) := by decide +kernel
theorem d4_18 : decode prog_8_method_9_code 18 = .ok (.invokevirtual 84, 3) := by decide +kernel
theorem pd_16 : parseMethodDescriptor "(I)C" = some ⟨[.int], some .char⟩ := by decide +kernel
theorem d4_21 : decode prog_8_method_9_code 21 = .ok (.bipush 97, 2) := by decide +kernel
theorem d4_23 : decode prog_8_method_9_code 23 = .ok (.if_icmp .lt 13, 3) := by decide +kernel
theorem d4_26 : decode prog_8_method_9_code 26 = .ok (.aload_n 0, 1) := by decide +kernel
theorem d4_27 : decode prog_8_method_9_code 27 = .ok (.iconst 0, 1) := by decide +kernel
theorem d4_28 : decode prog_8_method_9_code 28 = .ok (.invokevirtual 84, 3) := by decide +kernel
theorem d4_31 : decode prog_8_method_9_code 31 = .ok (.bipush 122, 2) := by decide +kernel
theorem d4_33 : decode prog_8_method_9_code 33 = .ok (.if_icmp .le 5, 3) := by decide +kernel
theorem d4_38 : decode prog_8_method_9_code 38 = .ok (.iconst 1, 1) := by decide +kernel
theorem d4_39 : decode prog_8_method_9_code 39 = .ok (.istore_n 1, 1) := by decide +kernel
theorem d4_40 : decode prog_8_method_9_code 40 = .ok (.iload_n 1, 1) := by decide +kernel
theorem d4_41 : decode prog_8_method_9_code 41 = .ok (.aload_n 0, 1) := by decide +kernel
theorem d4_42 : decode prog_8_method_9_code 42 = .ok (.invokevirtual 81, 3) := by decide +kernel
theorem d4_45 : decode prog_8_method_9_code 45 = .ok (.if_icmp .ge 47, 3) := by decide +kernel
theorem d4_48 : decode prog_8_method_9_code 48 = .ok (.aload_n 0, 1) := by decide +kernel
theorem d4_49 : decode prog_8_method_9_code 49 = .ok (.iload_n 1, 1) := by decide +kernel
theorem d4_50 : decode prog_8_method_9_code 50 = .ok (.invokevirtual 84, 3) := by decide +kernel
theorem d4_53 : decode prog_8_method_9_code 53 = .ok (.istore_n 2, 1) := by decide +kernel
theorem d4_86 : decode prog_8_method_9_code 86 = .ok (.iinc 1 1, 3) := by decide +kernel
theorem d4_89 : decode prog_8_method_9_code 89 = .ok (.goto (-49), 3) := by decide +kernel
theorem d4_92 : decode prog_8_method_9_code 92 = .ok (.iconst 1, 1) := by decide +kernel
theorem d4_93 : decode prog_8_method_9_code 93 = .ok (.ireturn, 1) := by decide +kernel
theorem d4_84 : decode prog_8_method_9_code 84 = .ok (.iconst 0, 1) := by decide +kernel
theorem d4_85 : decode prog_8_method_9_code 85 = .ok (.ireturn, 1) := by decide +kernel
theorem ef_isV (m : MethodId) (x0 : Addr)  : entryFrame m #[(.ref x0)] 3 = mkF m 0 #[.val (.ref x0), .unset, .unset] [] := by first | (simp [entryFrame, mkF, argsToLocals, Value.category]; done) | rfl
def Q_isV (Z : State) (a1 : Addr) (v1 : Addr) (kv : ClassId) (cs : Int32) (fm : Value) (cd : Int32) (z1 : Int32) (vs : List Value) (ls : List Int32) (h0 : Heap) (n0 : Nat) (v : Option Value) (h : Heap) (L : List Loc) : Prop := ∃ (rr : Int32), v = some (.int rr) ∧ Fr n0 L ∧ h = h0 ∧ (rr = (0 : Int32) ∨ rr = (1 : Int32)) ∧ (rr = (1 : Int32) ↔ own_valid ls)
set_option maxRecDepth 65536 in
set_option maxHeartbeats 40000000 in
theorem rm_isV (l : Launch) (Z : State) (a0 : Array Value) (hw : ∀ d ∈ tables_1, d.before a0 Z = true) (ws : List Jvm.Cond) (a1 : Addr) (v1 : Addr) (kv : ClassId) (cs : Int32) (fm : Value) (cd : Int32) (z1 : Int32) (vs : List Value) (ls : List Int32) (h0 : Heap) (n0 : Nat) (O0 : Old Z n0 h0) (S0_ : Sta Z Z.heap "java/lang/String" "COMPACT_STRINGS" "Z" (.int cs)) (hcs : ¬ (cs = (0 : Int32))) (E2_ : Exa Z h0 a1 "java/lang/String") (F3_ : Fld Z h0 a1 "java/lang/String" "value" "[B" (.ref v1)) (F4_ : Fld Z h0 a1 "java/lang/String" "coder" "B" (.int cd)) (A5_ : Arv Z h0 v1 kv .byte z1 vs (.int (0 : Int32))) (hcod : own_cod ls cd z1 vs) (hB : ls.length ≤ 65) (hn0 : 0 < ls.length) (hch : own_chars ls) (S10_ : Sta Z Z.heap "jdk/internal/util/Preconditions" "SIOOBE_FORMATTER" "Ljava/util/function/BiFunction;" fm) (hfm : fm.isRef = true) (S12_ : Sta Z Z.heap "java/lang/StringUTF16" "$assertionsDisabled" "Z" (.int (1 : Int32))) (S13_ : Sta Z Z.heap "java/lang/StringUTF16" "HI_BYTE_SHIFT" "I" (.int (0 : Int32))) (S14_ : Sta Z Z.heap "java/lang/StringUTF16" "LO_BYTE_SHIFT" "I" (.int (8 : Int32))) :
    MetFree l (⟨"com/example/clear_fault/clearfault/Fault", "isValidCode", "(Ljava/lang/String;)Z"⟩ : MethodName) (head1 (Jvm.Cond.code (⟨"com/example/clear_fault/clearfault/Fault", "isValidCode", "(Ljava/lang/String;)Z"⟩ : MethodName) prog_8_method_9_code 3 (some .boolean) :: ws) ({ frames := 5, cells := 0, slots := 0, locals := 66 } : Room)) (fun a U => a = #[(.ref a1)] ∧ Z.Warmed39 U.vm ∧ U.heap = h0) (fun _ _ _ _ _ => True) (fun _ U o U' => ∃ v L, o = .returned v ∧ Q_isV Z a1 v1 kv cs fm cd z1 vs ls h0 n0 v U'.heap L ∧ FrameEnd U o U' L ({ frames := 5, cells := 0, slots := 0, locals := 66 } : Room).cells ({ frames := 5, cells := 0, slots := 0, locals := 66 } : Room).slots) := by
  refine MetFree.of_bodySF (plainFor_of_name pn_com_example_clear_fault_clearfault_Fault) hisR ?_
  intro p e s m args below meth c s₁ Bd hml0 hP hK
  obtain ⟨rfl, hZ, hh⟩ := hP
  have hx := Bd.exec
  have hby := Bd.bytes
  have hml : c.maxLocals = 3 := hml0
  have hown : s.vm.findClass "com/example/clear_fault/clearfault/Fault" = some m.cls := findClass_of_methodNamed Bd.named
  have hnm := (name_of_methodNamed Bd.named Bd.method).1
  have X0 : Stand p l e ({ frames := 5, cells := 0, slots := 0, locals := 66 } : Room) s m #[(.ref a1)] below meth c s₁ [] 0 0 := Stand.of_body Bd
  have e0 : s₁.heap = h0 := by rw [← hh, Bd.state]; rfl
  have N0 := Fr.nil n0
  have g0 : Go p e below s₁ (mkF m 0 #[rv a1, .unset, .unset] []) (s₁.setTop (entryFrame m #[(.ref a1)] 3)) := fun t kont => castTop (ef_isV m a1 ) kont
  generalize s₁.setTop (entryFrame m #[(.ref a1)] 3) = A0 at g0 ⊢
  have g101 : Go p e below s₁ (mkF m 1 #[rv a1, .unset, .unset] [(.ref a1)]) A0 := by
    intro t kont
    refine g0 t ?_
    refine XS.aloadN X0.here hx rfl (hb hby d4_0) rfl rfl ?_
    exact kont
  obtain ⟨cq102, kq102, q102a, q102b, q102c⟩ := isOf hZ e0 E2_
  obtain ⟨_, _, ⟨T102, L102, k102, n102⟩, -, X102, ⟨Lc102, hQ102, l102, y102, z102⟩, st102⟩ := X0.virtualBack hx (y := (⟨"java/lang/String", "isEmpty", "()Z"⟩ : MethodName)) (z := (⟨"java/lang/String", "isEmpty", "()Z"⟩ : MethodName)) hown (mvT hZ (hw _ (List.mem_of_getElem? (i := 27) rfl))) (mvT hZ (hw _ (List.mem_of_getElem? (i := 28) rfl))) (notFace_of_selects (args := #[]) (mvT hZ (hw _ (List.mem_of_getElem? (i := 30) rfl)))) (mvT hZ (hw _ (List.mem_of_getElem? (i := 30) rfl))) (mvT hZ (hw _ (List.mem_of_getElem? (i := 29) rfl))) (by decide) (backOf (W := 0) (rm_isE l Z a0 hw [] a1 v1 kv z1 vs h0 n0 O0 F3_ A5_ (own_codz hcod hn0 (by omega))) hZ (hw _ (List.mem_of_getElem? (i := 31) rfl)) (hw _ (List.mem_of_getElem? (i := 3) rfl)) (by decide) (by decide)) q102a q102c (g := (mkF m 1 #[rv a1, .unset, .unset] [(.ref a1)])) rfl (by rw [hml]; rfl) (Steps.refl _) (argsL := []) (rest := []) (lenOf pd_14 rfl) rfl (by show 2 * 0 + _ ≤ _; exact Nat.le_of_eq rfl) (hb hby d4_1) (fun _ _ => ⟨rfl, e0, (by decide : 0 + 0 ≤ _), (by decide : 0 + 0 ≤ _)⟩)
  dsimp only [Pt.U, Pt.locs, Pt.cells, Pt.slots] at X102 l102 y102 z102 st102 hQ102
  subst y102 z102
  obtain ⟨rfl, M102, e102⟩ := hQ102
  have N102 : Fr n0 L102 := by rw [l102]; exact Fr.app N0 M102
  have g103 : Go p e below T102 (mkF m 4 #[rv a1, .unset, .unset] [(.int (0 : Int32))]) A0 := fun t kont => g101 t (st102.trans kont)
  have g104 : Go p e below T102 (mkF m 8 #[rv a1, .unset, .unset] [(.ref a1)]) A0 := by
    intro t kont
    refine g103 t ?_
    refine XS.ifNo X102.here hx rfl (hb hby d4_4) rfl ((if0 _ _).trans (teq (by decide : (0 : Int32) = (0 : Int32))).2) ?_
    refine XS.aloadN X102.here hx rfl (hb hby d4_7) rfl rfl ?_
    exact kont
  obtain ⟨cq105, kq105, q105a, q105b, q105c⟩ := isOf hZ e102 E2_
  obtain ⟨_, _, ⟨T105, L105, k105, n105⟩, -, X105, ⟨Lc105, hQ105, l105, y105, z105⟩, st105⟩ := X102.virtualBack hx (y := (⟨"java/lang/String", "length", "()I"⟩ : MethodName)) (z := (⟨"java/lang/String", "length", "()I"⟩ : MethodName)) hown (mvT hZ (hw _ (List.mem_of_getElem? (i := 43) rfl))) (mvT hZ (hw _ (List.mem_of_getElem? (i := 44) rfl))) (notFace_of_selects (args := #[]) (mvT hZ (hw _ (List.mem_of_getElem? (i := 46) rfl)))) (mvT hZ (hw _ (List.mem_of_getElem? (i := 46) rfl))) (mvT hZ (hw _ (List.mem_of_getElem? (i := 45) rfl))) (by decide) (backOf (W := 0) (rm_lenG l Z a0 hw [] a1 v1 kv cd z1 vs ls cs h0 n0 O0 S0_ hcs F3_ F4_ E2_ A5_ hcod hB) hZ (hw _ (List.mem_of_getElem? (i := 47) rfl)) (hw _ (List.mem_of_getElem? (i := 3) rfl)) (by decide) (by decide)) q105a q105c (g := (mkF m 8 #[rv a1, .unset, .unset] [(.ref a1)])) rfl (by rw [hml]; rfl) (Steps.refl _) (argsL := []) (rest := []) (lenOf pd_15 rfl) rfl (by show 2 * 0 + _ ≤ _; exact Nat.le_of_eq rfl) (hb hby d4_8) (fun _ _ => ⟨rfl, e102, (by decide : 0 + 0 ≤ _), (by decide : 0 + 0 ≤ _)⟩)
  dsimp only [Pt.U, Pt.locs, Pt.cells, Pt.slots] at X105 l105 y105 z105 st105 hQ105
  subst y105 z105
  obtain ⟨rfl, M105, e105⟩ := hQ105
  have N105 : Fr n0 L105 := by rw [l105]; exact Fr.app N102 M105
  have g106 : Go p e below T105 (mkF m 11 #[rv a1, .unset, .unset] [(.int (Int32.ofNat ls.length))]) A0 := fun t kont => g104 t (st105.trans kont)
  have g108 : Go p e below T105 (mkF m 13 #[rv a1, .unset, .unset] [(.int (64 : Int32)), (.int (Int32.ofNat ls.length))]) A0 := by
    intro t kont
    refine g106 t ?_
    refine XS.bipush X105.here hx rfl (hb hby d4_11) ?_
    exact kont
  by_cases c107 : 64 < ls.length
  ·
    have g109 : Go p e below T105 (mkF m 37 #[rv a1, .unset, .unset] [(.int (0 : Int32))]) A0 := by
      intro t kont
      refine g108 t ?_
      refine XS.icmpYes X105.here hx rfl (pc0 := 13) (pc' := 36) rfl (hb hby d4_13) rfl (tlt (own_lt (a := 64) c107 (by omega) : (64 : Int32) < (Int32.ofNat ls.length))).2.2.1 (by decide) (by decide) ?_
      refine XS.iconst X105.here hx rfl (hb hby d4_36) ?_
      exact kont
    obtain ⟨fs, hr, hrun, hended, hW, hsame⟩ := X105.leave (v := some (.int (0 : Int32))) (fun h => by rw [Bd.returns] at h; cases h)
    refine ⟨_, _, g109 _ (retN X105 hx (t := .boolean) Bd.returns (by simp) (hb hby d4_37) hr), hrun, hended, _, _, rfl, ?_, ⟨_, rfl⟩, hW, hsame.mono (by decide) (by decide)⟩
    show Q_isV Z a1 v1 kv cs fm cd z1 vs ls h0 n0 _ T105.heap _
    rw [e105]
    exact ⟨(0 : Int32), rfl, N105, rfl, Or.inl rfl, iff_of_false (by decide) (fun q => absurd q.1 (by omega))⟩
  have g110 : Go p e below T105 (mkF m 18 #[rv a1, .unset, .unset] [(.int (0 : Int32)), (.ref a1)]) A0 := by
    intro t kont
    refine g108 t ?_
    refine XS.icmpNo X105.here hx rfl (hb hby d4_13) rfl (flt (own_nlt (b := ls.length) (a := 64) (by omega) (by omega) : ¬ ((64 : Int32) < (Int32.ofNat ls.length)))).2.2.1 ?_
    refine XS.aloadN X105.here hx rfl (hb hby d4_16) rfl rfl ?_
    refine XS.iconst X105.here hx rfl (hb hby d4_17) ?_
    exact kont
  obtain ⟨cq111, kq111, q111a, q111b, q111c⟩ := isOf hZ e105 E2_
  obtain ⟨_, _, ⟨T111, L111, k111, n111⟩, -, X111, ⟨Lc111, hQ111, l111, y111, z111⟩, st111⟩ := X105.virtualBack hx (y := (⟨"java/lang/String", "charAt", "(I)C"⟩ : MethodName)) (z := (⟨"java/lang/String", "charAt", "(I)C"⟩ : MethodName)) hown (mvT hZ (hw _ (List.mem_of_getElem? (i := 57) rfl))) (mvT hZ (hw _ (List.mem_of_getElem? (i := 58) rfl))) (notFace_of_selects (args := #[]) (mvT hZ (hw _ (List.mem_of_getElem? (i := 60) rfl)))) (mvT hZ (hw _ (List.mem_of_getElem? (i := 60) rfl))) (mvT hZ (hw _ (List.mem_of_getElem? (i := 59) rfl))) (by decide) (backOf (W := 0) (rm_chaG l Z a0 hw [] a1 v1 kv cd z1 vs ls cs 0 fm h0 n0 O0 S0_ hcs F3_ F4_ E2_ A5_ hcod hB (by omega) hch S10_ hfm S12_ S13_ S14_) hZ (hw _ (List.mem_of_getElem? (i := 61) rfl)) (hw _ (List.mem_of_getElem? (i := 3) rfl)) (by decide) (by decide)) q111a q111c (g := (mkF m 18 #[rv a1, .unset, .unset] [(.int (0 : Int32)), (.ref a1)])) rfl (by rw [hml]; rfl) (Steps.refl _) (argsL := [(.int (0 : Int32))]) (rest := []) (lenOf pd_16 rfl) rfl (by show 2 * 0 + _ ≤ _; exact Nat.le_of_eq rfl) (hb hby d4_18) (fun _ _ => ⟨rfl, e105, (by decide : 0 + 0 ≤ _), (by decide : 0 + 0 ≤ _)⟩)
  dsimp only [Pt.U, Pt.locs, Pt.cells, Pt.slots] at X111 l111 y111 z111 st111 hQ111
  subst y111 z111
  obtain ⟨rfl, M111, e111⟩ := hQ111
  have N111 : Fr n0 L111 := by rw [l111]; exact Fr.app N105 M111
  have g112 : Go p e below T111 (mkF m 21 #[rv a1, .unset, .unset] [(.int (ls.getD 0 0))]) A0 := fun t kont => g110 t (st111.trans kont)
  obtain ⟨cz, e_cz⟩ : ∃ z, z = (ls.getD 0 0) := ⟨_, rfl⟩
  have g113 : Go p e below T111 (mkF m 21 #[rv a1, .unset, .unset] [(.int cz)]) A0 := by rw [e_cz]; exact g112
  have g115 : Go p e below T111 (mkF m 23 #[rv a1, .unset, .unset] [(.int (97 : Int32)), (.int cz)]) A0 := by
    intro t kont
    refine g113 t ?_
    refine XS.bipush X111.here hx rfl (hb hby d4_21) ?_
    exact kont
  by_cases c114 : cz < (97 : Int32)
  ·
    have q116 : cz.toInt < 97 := Int32.lt_iff_toInt_lt.mp c114
    have g117 : Go p e below T111 (mkF m 37 #[rv a1, .unset, .unset] [(.int (0 : Int32))]) A0 := by
      intro t kont
      refine g115 t ?_
      refine XS.icmpYes X111.here hx rfl (pc0 := 23) (pc' := 36) rfl (hb hby d4_23) rfl (tlt c114).1 (by decide) (by decide) ?_
      refine XS.iconst X111.here hx rfl (hb hby d4_36) ?_
      exact kont
    obtain ⟨fs, hr, hrun, hended, hW, hsame⟩ := X111.leave (v := some (.int (0 : Int32))) (fun h => by rw [Bd.returns] at h; cases h)
    refine ⟨_, _, g117 _ (retN X111 hx (t := .boolean) Bd.returns (by simp) (hb hby d4_37) hr), hrun, hended, _, _, rfl, ?_, ⟨_, rfl⟩, hW, hsame.mono (by decide) (by decide)⟩
    show Q_isV Z a1 v1 kv cs fm cd z1 vs ls h0 n0 _ T111.heap _
    rw [e111]
    exact ⟨(0 : Int32), rfl, N111, rfl, Or.inl rfl, iff_of_false (by decide) (fun q => by have z := q.2.1; unfold own_lw at z; rw [← e_cz] at z; omega)⟩
  have q118 : ¬ (cz.toInt < 97) := fun z => c114 (Int32.lt_iff_toInt_lt.mpr z)
  have g119 : Go p e below T111 (mkF m 28 #[rv a1, .unset, .unset] [(.int (0 : Int32)), (.ref a1)]) A0 := by
    intro t kont
    refine g115 t ?_
    refine XS.icmpNo X111.here hx rfl (hb hby d4_23) rfl (flt c114).1 ?_
    refine XS.aloadN X111.here hx rfl (hb hby d4_26) rfl rfl ?_
    refine XS.iconst X111.here hx rfl (hb hby d4_27) ?_
    exact kont
  obtain ⟨cq120, kq120, q120a, q120b, q120c⟩ := isOf hZ e111 E2_
  obtain ⟨_, _, ⟨T120, L120, k120, n120⟩, -, X120, ⟨Lc120, hQ120, l120, y120, z120⟩, st120⟩ := X111.virtualBack hx (y := (⟨"java/lang/String", "charAt", "(I)C"⟩ : MethodName)) (z := (⟨"java/lang/String", "charAt", "(I)C"⟩ : MethodName)) hown (mvT hZ (hw _ (List.mem_of_getElem? (i := 57) rfl))) (mvT hZ (hw _ (List.mem_of_getElem? (i := 58) rfl))) (notFace_of_selects (args := #[]) (mvT hZ (hw _ (List.mem_of_getElem? (i := 60) rfl)))) (mvT hZ (hw _ (List.mem_of_getElem? (i := 60) rfl))) (mvT hZ (hw _ (List.mem_of_getElem? (i := 59) rfl))) (by decide) (backOf (W := 0) (rm_chaG l Z a0 hw [] a1 v1 kv cd z1 vs ls cs 0 fm h0 n0 O0 S0_ hcs F3_ F4_ E2_ A5_ hcod hB (by omega) hch S10_ hfm S12_ S13_ S14_) hZ (hw _ (List.mem_of_getElem? (i := 61) rfl)) (hw _ (List.mem_of_getElem? (i := 3) rfl)) (by decide) (by decide)) q120a q120c (g := (mkF m 28 #[rv a1, .unset, .unset] [(.int (0 : Int32)), (.ref a1)])) rfl (by rw [hml]; rfl) (Steps.refl _) (argsL := [(.int (0 : Int32))]) (rest := []) (lenOf pd_16 rfl) rfl (by show 2 * 0 + _ ≤ _; exact Nat.le_of_eq rfl) (hb hby d4_28) (fun _ _ => ⟨rfl, e111, (by decide : 0 + 0 ≤ _), (by decide : 0 + 0 ≤ _)⟩)
  dsimp only [Pt.U, Pt.locs, Pt.cells, Pt.slots] at X120 l120 y120 z120 st120 hQ120
  subst y120 z120
  obtain ⟨rfl, M120, e120⟩ := hQ120
  have N120 : Fr n0 L120 := by rw [l120]; exact Fr.app N111 M120
  have g121 : Go p e below T120 (mkF m 31 #[rv a1, .unset, .unset] [(.int (ls.getD 0 0))]) A0 := fun t kont => g119 t (st120.trans kont)
  have g122 : Go p e below T120 (mkF m 31 #[rv a1, .unset, .unset] [(.int cz)]) A0 := by rw [← e_cz.symm]; exact g121
  have g124 : Go p e below T120 (mkF m 33 #[rv a1, .unset, .unset] [(.int (122 : Int32)), (.int cz)]) A0 := by
    intro t kont
    refine g122 t ?_
    refine XS.bipush X120.here hx rfl (hb hby d4_31) ?_
    exact kont
  by_cases c123 : (122 : Int32) < cz
  ·
    have q125 : 122 < cz.toInt := Int32.lt_iff_toInt_lt.mp c123
    have g126 : Go p e below T120 (mkF m 37 #[rv a1, .unset, .unset] [(.int (0 : Int32))]) A0 := by
      intro t kont
      refine g124 t ?_
      refine XS.icmpNo X120.here hx rfl (hb hby d4_33) rfl (tlt c123).2.2.2 ?_
      refine XS.iconst X120.here hx rfl (hb hby d4_36) ?_
      exact kont
    obtain ⟨fs, hr, hrun, hended, hW, hsame⟩ := X120.leave (v := some (.int (0 : Int32))) (fun h => by rw [Bd.returns] at h; cases h)
    refine ⟨_, _, g126 _ (retN X120 hx (t := .boolean) Bd.returns (by simp) (hb hby d4_37) hr), hrun, hended, _, _, rfl, ?_, ⟨_, rfl⟩, hW, hsame.mono (by decide) (by decide)⟩
    show Q_isV Z a1 v1 kv cs fm cd z1 vs ls h0 n0 _ T120.heap _
    rw [e120]
    exact ⟨(0 : Int32), rfl, N120, rfl, Or.inl rfl, iff_of_false (by decide) (fun q => by have z := q.2.1; unfold own_lw at z; rw [← e_cz] at z; omega)⟩
  have q127 : ¬ (122 < cz.toInt) := fun z => c123 (Int32.lt_iff_toInt_lt.mpr z)
  have g129 : Go p e below T120 (mkF m 40 #[rv a1, iv (1 : Int32), .unset] []) A0 := by
    intro t kont
    refine g124 t ?_
    refine XS.icmpYes X120.here hx rfl (pc0 := 33) (pc' := 38) rfl (hb hby d4_33) rfl (flt c123).2.2.2 (by decide) (by decide) ?_
    refine XS.iconst X120.here hx rfl (hb hby d4_38) ?_
    refine XS.istoreN X120.here hx rfl (hb hby d4_39) rfl (l' := #[rv a1, iv (1 : Int32), .unset]) rfl ?_
    exact kont
  by_cases c128 : ∀ i, i + 1 < ls.length → own_tl (ls.getD (i + 1) 0)
  ·
    have hall := c128
    obtain ⟨mm, hmm⟩ : ∃ z, z = ls.length - 1 := ⟨_, rfl⟩
    have hm3 : ∀ i, i < mm → own_tl (ls.getD (i + 1) 0) := fun i hi => hall i (by omega)
    have hmn : mm + 1 = ls.length := by omega
    have loop130 : ∀ k : Nat, k ≤ mm → ∃ (T130 : State) (lc130 : List Loc) (sl2 : Slot), Stand p l e ({ frames := 5, cells := 0, slots := 0, locals := 66 } : Room) s m #[(.ref a1)] below meth c T130 lc130 0 0 ∧ T130.heap = h0 ∧ Fr n0 lc130 ∧ One sl2 ∧ Go p e below T130 (mkF m 40 #[rv a1, iv (Int32.ofNat (k + 1)), sl2] []) A0 := by
      intro k
      induction k with
      | zero =>
        intro _
        exact ⟨_, _, .unset, X120, e120, N120, One.u, g129⟩
      | succ k ih =>
        intro hk_k
        obtain ⟨T131, lc131, sl2, X131, e131, N131, One_sl2, g131⟩ := ih (Nat.le_of_succ_le hk_k)
        have g132 : Go p e below T131 (mkF m 42 #[rv a1, iv (Int32.ofNat (k + 1)), sl2] [(.ref a1), (.int (Int32.ofNat (k + 1)))]) A0 := by
          intro t kont
          refine g131 t ?_
          refine XS.iloadN X131.here hx rfl (hb hby d4_40) rfl ?_
          refine XS.aloadN X131.here hx rfl (hb hby d4_41) rfl rfl ?_
          exact kont
        obtain ⟨cq133, kq133, q133a, q133b, q133c⟩ := isOf hZ e131 E2_
        obtain ⟨_, _, ⟨T133, L133, k133, n133⟩, -, X133, ⟨Lc133, hQ133, l133, y133, z133⟩, st133⟩ := X131.virtualBack hx (y := (⟨"java/lang/String", "length", "()I"⟩ : MethodName)) (z := (⟨"java/lang/String", "length", "()I"⟩ : MethodName)) hown (mvT hZ (hw _ (List.mem_of_getElem? (i := 43) rfl))) (mvT hZ (hw _ (List.mem_of_getElem? (i := 44) rfl))) (notFace_of_selects (args := #[]) (mvT hZ (hw _ (List.mem_of_getElem? (i := 46) rfl)))) (mvT hZ (hw _ (List.mem_of_getElem? (i := 46) rfl))) (mvT hZ (hw _ (List.mem_of_getElem? (i := 45) rfl))) (by decide) (backOf (W := 1) (rm_lenG l Z a0 hw [] a1 v1 kv cd z1 vs ls cs h0 n0 O0 S0_ hcs F3_ F4_ E2_ A5_ hcod hB) hZ (hw _ (List.mem_of_getElem? (i := 47) rfl)) (hw _ (List.mem_of_getElem? (i := 3) rfl)) (by decide) (by decide)) q133a q133c (g := (mkF m 42 #[rv a1, iv (Int32.ofNat (k + 1)), sl2] [(.ref a1), (.int (Int32.ofNat (k + 1)))])) rfl (by rw [hml]; rfl) (Steps.refl _) (argsL := []) (rest := [(.int (Int32.ofNat (k + 1)))]) (lenOf pd_15 rfl) rfl (by show 2 * 0 + _ ≤ _; exact Nat.le_of_eq rfl) (hb hby d4_42) (fun _ _ => ⟨rfl, e131, (by decide : 0 + 0 ≤ _), (by decide : 0 + 0 ≤ _)⟩)
        dsimp only [Pt.U, Pt.locs, Pt.cells, Pt.slots] at X133 l133 y133 z133 st133 hQ133
        subst y133 z133
        obtain ⟨rfl, M133, e133⟩ := hQ133
        have N133 : Fr n0 L133 := by rw [l133]; exact Fr.app N131 M133
        have g134 : Go p e below T133 (mkF m 45 #[rv a1, iv (Int32.ofNat (k + 1)), sl2] [(.int (Int32.ofNat ls.length)), (.int (Int32.ofNat (k + 1)))]) A0 := fun t kont => g132 t (st133.trans kont)
        have g135 : Go p e below T133 (mkF m 50 #[rv a1, iv (Int32.ofNat (k + 1)), sl2] [(.int (Int32.ofNat (k + 1))), (.ref a1)]) A0 := by
          intro t kont
          refine g134 t ?_
          refine XS.icmpNo X133.here hx rfl (hb hby d4_45) rfl (tlt (own_lt (by omega) (by omega) : (Int32.ofNat (k + 1)) < (Int32.ofNat ls.length))).2.1 ?_
          refine XS.aloadN X133.here hx rfl (hb hby d4_48) rfl rfl ?_
          refine XS.iloadN X133.here hx rfl (hb hby d4_49) rfl ?_
          exact kont
        obtain ⟨cq136, kq136, q136a, q136b, q136c⟩ := isOf hZ e133 E2_
        obtain ⟨_, _, ⟨T136, L136, k136, n136⟩, -, X136, ⟨Lc136, hQ136, l136, y136, z136⟩, st136⟩ := X133.virtualBack hx (y := (⟨"java/lang/String", "charAt", "(I)C"⟩ : MethodName)) (z := (⟨"java/lang/String", "charAt", "(I)C"⟩ : MethodName)) hown (mvT hZ (hw _ (List.mem_of_getElem? (i := 57) rfl))) (mvT hZ (hw _ (List.mem_of_getElem? (i := 58) rfl))) (notFace_of_selects (args := #[]) (mvT hZ (hw _ (List.mem_of_getElem? (i := 60) rfl)))) (mvT hZ (hw _ (List.mem_of_getElem? (i := 60) rfl))) (mvT hZ (hw _ (List.mem_of_getElem? (i := 59) rfl))) (by decide) (backOf (W := 0) (rm_chaG l Z a0 hw [] a1 v1 kv cd z1 vs ls cs (k + 1) fm h0 n0 O0 S0_ hcs F3_ F4_ E2_ A5_ hcod hB (by omega) hch S10_ hfm S12_ S13_ S14_) hZ (hw _ (List.mem_of_getElem? (i := 61) rfl)) (hw _ (List.mem_of_getElem? (i := 3) rfl)) (by decide) (by decide)) q136a q136c (g := (mkF m 50 #[rv a1, iv (Int32.ofNat (k + 1)), sl2] [(.int (Int32.ofNat (k + 1))), (.ref a1)])) rfl (by rw [hml]; rfl) (Steps.refl _) (argsL := [(.int (Int32.ofNat (k + 1)))]) (rest := []) (lenOf pd_16 rfl) rfl (by show 2 * 0 + _ ≤ _; exact Nat.le_of_eq rfl) (hb hby d4_50) (fun _ _ => ⟨rfl, e133, (by decide : 0 + 0 ≤ _), (by decide : 0 + 0 ≤ _)⟩)
        dsimp only [Pt.U, Pt.locs, Pt.cells, Pt.slots] at X136 l136 y136 z136 st136 hQ136
        subst y136 z136
        obtain ⟨rfl, M136, e136⟩ := hQ136
        have N136 : Fr n0 L136 := by rw [l136]; exact Fr.app N133 M136
        have g137 : Go p e below T136 (mkF m 53 #[rv a1, iv (Int32.ofNat (k + 1)), sl2] [(.int (ls.getD (k + 1) 0))]) A0 := fun t kont => g135 t (st136.trans kont)
        have g138 : Go p e below T136 (mkF m 54 #[rv a1, iv (Int32.ofNat (k + 1)), iv (ls.getD (k + 1) 0)] []) A0 := by
          intro t kont
          refine g137 t ?_
          refine XS.istoreN X136.here hx rfl (hb hby d4_53) rfl (l' := #[rv a1, iv (Int32.ofNat (k + 1)), iv (ls.getD (k + 1) 0)]) (XS.store1 (o := sl2) rfl One_sl2 rfl) ?_
          exact kont
        have gp139 := pz_good X136 hx hby a1 (Int32.ofNat (k + 1)) (ls.getD (k + 1) 0) (hm3 k (by omega))
        have g140 : Go p e below T136 (mkF m 86 #[rv a1, iv (Int32.ofNat (k + 1)), iv (ls.getD (k + 1) 0)] []) A0 := fun t kont => g138 t (gp139 t kont)
        have g141 : Go p e below T136 (mkF m 40 #[rv a1, iv ((Int32.ofNat (k + 1)) + (1 : Int32)), iv (ls.getD (k + 1) 0)] []) A0 := by
          intro t kont
          refine g140 t ?_
          refine XS.iinc X136.here hx rfl (hb hby d4_86) rfl (l' := #[rv a1, iv ((Int32.ofNat (k + 1)) + (1 : Int32)), iv (ls.getD (k + 1) 0)]) rfl ?_
          refine XS.goto X136.here hx rfl (pc0 := 89) (pc' := 40) rfl (hb hby d4_89) (by decide) (by decide) ?_
          exact kont
        have g142 : Go p e below T136 (mkF m 40 #[rv a1, iv (Int32.ofNat ((k + 1) + 1)), iv (ls.getD (k + 1) 0)] []) A0 := by rw [← own_succ (k + 1)]; exact g141
        exact ⟨_, _, (iv (ls.getD (k + 1) 0)), X136, e136, N136, (One.val rfl), g142⟩
    obtain ⟨T143, lc143, sl2, X143, e143, N143, One_sl2, g143⟩ := loop130 mm (Nat.le_refl _)
    have g144 : Go p e below T143 (mkF m 42 #[rv a1, iv (Int32.ofNat (mm + 1)), sl2] [(.ref a1), (.int (Int32.ofNat (mm + 1)))]) A0 := by
      intro t kont
      refine g143 t ?_
      refine XS.iloadN X143.here hx rfl (hb hby d4_40) rfl ?_
      refine XS.aloadN X143.here hx rfl (hb hby d4_41) rfl rfl ?_
      exact kont
    obtain ⟨cq145, kq145, q145a, q145b, q145c⟩ := isOf hZ e143 E2_
    obtain ⟨_, _, ⟨T145, L145, k145, n145⟩, -, X145, ⟨Lc145, hQ145, l145, y145, z145⟩, st145⟩ := X143.virtualBack hx (y := (⟨"java/lang/String", "length", "()I"⟩ : MethodName)) (z := (⟨"java/lang/String", "length", "()I"⟩ : MethodName)) hown (mvT hZ (hw _ (List.mem_of_getElem? (i := 43) rfl))) (mvT hZ (hw _ (List.mem_of_getElem? (i := 44) rfl))) (notFace_of_selects (args := #[]) (mvT hZ (hw _ (List.mem_of_getElem? (i := 46) rfl)))) (mvT hZ (hw _ (List.mem_of_getElem? (i := 46) rfl))) (mvT hZ (hw _ (List.mem_of_getElem? (i := 45) rfl))) (by decide) (backOf (W := 1) (rm_lenG l Z a0 hw [] a1 v1 kv cd z1 vs ls cs h0 n0 O0 S0_ hcs F3_ F4_ E2_ A5_ hcod hB) hZ (hw _ (List.mem_of_getElem? (i := 47) rfl)) (hw _ (List.mem_of_getElem? (i := 3) rfl)) (by decide) (by decide)) q145a q145c (g := (mkF m 42 #[rv a1, iv (Int32.ofNat (mm + 1)), sl2] [(.ref a1), (.int (Int32.ofNat (mm + 1)))])) rfl (by rw [hml]; rfl) (Steps.refl _) (argsL := []) (rest := [(.int (Int32.ofNat (mm + 1)))]) (lenOf pd_15 rfl) rfl (by show 2 * 0 + _ ≤ _; exact Nat.le_of_eq rfl) (hb hby d4_42) (fun _ _ => ⟨rfl, e143, (by decide : 0 + 0 ≤ _), (by decide : 0 + 0 ≤ _)⟩)
    dsimp only [Pt.U, Pt.locs, Pt.cells, Pt.slots] at X145 l145 y145 z145 st145 hQ145
    subst y145 z145
    obtain ⟨rfl, M145, e145⟩ := hQ145
    have N145 : Fr n0 L145 := by rw [l145]; exact Fr.app N143 M145
    have g146 : Go p e below T145 (mkF m 45 #[rv a1, iv (Int32.ofNat (mm + 1)), sl2] [(.int (Int32.ofNat ls.length)), (.int (Int32.ofNat (mm + 1)))]) A0 := fun t kont => g144 t (st145.trans kont)
    have g147 : Go p e below T145 (mkF m 93 #[rv a1, iv (Int32.ofNat (mm + 1)), sl2] [(.int (1 : Int32))]) A0 := by
      intro t kont
      refine g146 t ?_
      refine XS.icmpYes X145.here hx rfl (pc0 := 45) (pc' := 92) rfl (hb hby d4_45) rfl (flt (own_nlt (by omega) (by omega) : ¬ ((Int32.ofNat (mm + 1)) < (Int32.ofNat ls.length)))).2.1 (by decide) (by decide) ?_
      refine XS.iconst X145.here hx rfl (hb hby d4_92) ?_
      exact kont
    obtain ⟨fs, hr, hrun, hended, hW, hsame⟩ := X145.leave (v := some (.int (1 : Int32))) (fun h => by rw [Bd.returns] at h; cases h)
    refine ⟨_, _, g147 _ (retN X145 hx (t := .boolean) Bd.returns (by simp) (hb hby d4_93) hr), hrun, hended, _, _, rfl, ?_, ⟨_, rfl⟩, hW, hsame.mono (by decide) (by decide)⟩
    show Q_isV Z a1 v1 kv cs fm cd z1 vs ls h0 n0 _ T145.heap _
    rw [e145]
    exact ⟨(1 : Int32), rfl, N145, rfl, Or.inr rfl, iff_of_true rfl ⟨by omega, (by unfold own_lw; rw [← e_cz]; omega), hall⟩⟩
  obtain ⟨mm, hm1, hm2', hm3'⟩ := own_first (fun i => ¬ own_tl (ls.getD (i + 1) 0)) (ls.length - 1) (fun z => c128 (fun i hi => Classical.byContradiction (z i (by omega))))
  have hm2 : ¬ own_tl (ls.getD (mm + 1) 0) := hm2'
  have hm1 : mm + 1 < ls.length := by omega
  have hm3 : ∀ i, i < mm → own_tl (ls.getD (i + 1) 0) := fun i hi => Classical.byContradiction (hm3' i hi)
  have loop148 : ∀ k : Nat, k ≤ mm → ∃ (T148 : State) (lc148 : List Loc) (sl2 : Slot), Stand p l e ({ frames := 5, cells := 0, slots := 0, locals := 66 } : Room) s m #[(.ref a1)] below meth c T148 lc148 0 0 ∧ T148.heap = h0 ∧ Fr n0 lc148 ∧ One sl2 ∧ Go p e below T148 (mkF m 40 #[rv a1, iv (Int32.ofNat (k + 1)), sl2] []) A0 := by
    intro k
    induction k with
    | zero =>
      intro _
      exact ⟨_, _, .unset, X120, e120, N120, One.u, g129⟩
    | succ k ih =>
      intro hk_k
      obtain ⟨T149, lc149, sl2, X149, e149, N149, One_sl2, g149⟩ := ih (Nat.le_of_succ_le hk_k)
      have g150 : Go p e below T149 (mkF m 42 #[rv a1, iv (Int32.ofNat (k + 1)), sl2] [(.ref a1), (.int (Int32.ofNat (k + 1)))]) A0 := by
        intro t kont
        refine g149 t ?_
        refine XS.iloadN X149.here hx rfl (hb hby d4_40) rfl ?_
        refine XS.aloadN X149.here hx rfl (hb hby d4_41) rfl rfl ?_
        exact kont
      obtain ⟨cq151, kq151, q151a, q151b, q151c⟩ := isOf hZ e149 E2_
      obtain ⟨_, _, ⟨T151, L151, k151, n151⟩, -, X151, ⟨Lc151, hQ151, l151, y151, z151⟩, st151⟩ := X149.virtualBack hx (y := (⟨"java/lang/String", "length", "()I"⟩ : MethodName)) (z := (⟨"java/lang/String", "length", "()I"⟩ : MethodName)) hown (mvT hZ (hw _ (List.mem_of_getElem? (i := 43) rfl))) (mvT hZ (hw _ (List.mem_of_getElem? (i := 44) rfl))) (notFace_of_selects (args := #[]) (mvT hZ (hw _ (List.mem_of_getElem? (i := 46) rfl)))) (mvT hZ (hw _ (List.mem_of_getElem? (i := 46) rfl))) (mvT hZ (hw _ (List.mem_of_getElem? (i := 45) rfl))) (by decide) (backOf (W := 1) (rm_lenG l Z a0 hw [] a1 v1 kv cd z1 vs ls cs h0 n0 O0 S0_ hcs F3_ F4_ E2_ A5_ hcod hB) hZ (hw _ (List.mem_of_getElem? (i := 47) rfl)) (hw _ (List.mem_of_getElem? (i := 3) rfl)) (by decide) (by decide)) q151a q151c (g := (mkF m 42 #[rv a1, iv (Int32.ofNat (k + 1)), sl2] [(.ref a1), (.int (Int32.ofNat (k + 1)))])) rfl (by rw [hml]; rfl) (Steps.refl _) (argsL := []) (rest := [(.int (Int32.ofNat (k + 1)))]) (lenOf pd_15 rfl) rfl (by show 2 * 0 + _ ≤ _; exact Nat.le_of_eq rfl) (hb hby d4_42) (fun _ _ => ⟨rfl, e149, (by decide : 0 + 0 ≤ _), (by decide : 0 + 0 ≤ _)⟩)
      dsimp only [Pt.U, Pt.locs, Pt.cells, Pt.slots] at X151 l151 y151 z151 st151 hQ151
      subst y151 z151
      obtain ⟨rfl, M151, e151⟩ := hQ151
      have N151 : Fr n0 L151 := by rw [l151]; exact Fr.app N149 M151
      have g152 : Go p e below T151 (mkF m 45 #[rv a1, iv (Int32.ofNat (k + 1)), sl2] [(.int (Int32.ofNat ls.length)), (.int (Int32.ofNat (k + 1)))]) A0 := fun t kont => g150 t (st151.trans kont)
      have g153 : Go p e below T151 (mkF m 50 #[rv a1, iv (Int32.ofNat (k + 1)), sl2] [(.int (Int32.ofNat (k + 1))), (.ref a1)]) A0 := by
        intro t kont
        refine g152 t ?_
        refine XS.icmpNo X151.here hx rfl (hb hby d4_45) rfl (tlt (own_lt (by omega) (by omega) : (Int32.ofNat (k + 1)) < (Int32.ofNat ls.length))).2.1 ?_
        refine XS.aloadN X151.here hx rfl (hb hby d4_48) rfl rfl ?_
        refine XS.iloadN X151.here hx rfl (hb hby d4_49) rfl ?_
        exact kont
      obtain ⟨cq154, kq154, q154a, q154b, q154c⟩ := isOf hZ e151 E2_
      obtain ⟨_, _, ⟨T154, L154, k154, n154⟩, -, X154, ⟨Lc154, hQ154, l154, y154, z154⟩, st154⟩ := X151.virtualBack hx (y := (⟨"java/lang/String", "charAt", "(I)C"⟩ : MethodName)) (z := (⟨"java/lang/String", "charAt", "(I)C"⟩ : MethodName)) hown (mvT hZ (hw _ (List.mem_of_getElem? (i := 57) rfl))) (mvT hZ (hw _ (List.mem_of_getElem? (i := 58) rfl))) (notFace_of_selects (args := #[]) (mvT hZ (hw _ (List.mem_of_getElem? (i := 60) rfl)))) (mvT hZ (hw _ (List.mem_of_getElem? (i := 60) rfl))) (mvT hZ (hw _ (List.mem_of_getElem? (i := 59) rfl))) (by decide) (backOf (W := 0) (rm_chaG l Z a0 hw [] a1 v1 kv cd z1 vs ls cs (k + 1) fm h0 n0 O0 S0_ hcs F3_ F4_ E2_ A5_ hcod hB (by omega) hch S10_ hfm S12_ S13_ S14_) hZ (hw _ (List.mem_of_getElem? (i := 61) rfl)) (hw _ (List.mem_of_getElem? (i := 3) rfl)) (by decide) (by decide)) q154a q154c (g := (mkF m 50 #[rv a1, iv (Int32.ofNat (k + 1)), sl2] [(.int (Int32.ofNat (k + 1))), (.ref a1)])) rfl (by rw [hml]; rfl) (Steps.refl _) (argsL := [(.int (Int32.ofNat (k + 1)))]) (rest := []) (lenOf pd_16 rfl) rfl (by show 2 * 0 + _ ≤ _; exact Nat.le_of_eq rfl) (hb hby d4_50) (fun _ _ => ⟨rfl, e151, (by decide : 0 + 0 ≤ _), (by decide : 0 + 0 ≤ _)⟩)
      dsimp only [Pt.U, Pt.locs, Pt.cells, Pt.slots] at X154 l154 y154 z154 st154 hQ154
      subst y154 z154
      obtain ⟨rfl, M154, e154⟩ := hQ154
      have N154 : Fr n0 L154 := by rw [l154]; exact Fr.app N151 M154
      have g155 : Go p e below T154 (mkF m 53 #[rv a1, iv (Int32.ofNat (k + 1)), sl2] [(.int (ls.getD (k + 1) 0))]) A0 := fun t kont => g153 t (st154.trans kont)
      have g156 : Go p e below T154 (mkF m 54 #[rv a1, iv (Int32.ofNat (k + 1)), iv (ls.getD (k + 1) 0)] []) A0 := by
        intro t kont
        refine g155 t ?_
        refine XS.istoreN X154.here hx rfl (hb hby d4_53) rfl (l' := #[rv a1, iv (Int32.ofNat (k + 1)), iv (ls.getD (k + 1) 0)]) (XS.store1 (o := sl2) rfl One_sl2 rfl) ?_
        exact kont
      have gp157 := pz_good X154 hx hby a1 (Int32.ofNat (k + 1)) (ls.getD (k + 1) 0) (hm3 k (by omega))
      have g158 : Go p e below T154 (mkF m 86 #[rv a1, iv (Int32.ofNat (k + 1)), iv (ls.getD (k + 1) 0)] []) A0 := fun t kont => g156 t (gp157 t kont)
      have g159 : Go p e below T154 (mkF m 40 #[rv a1, iv ((Int32.ofNat (k + 1)) + (1 : Int32)), iv (ls.getD (k + 1) 0)] []) A0 := by
        intro t kont
        refine g158 t ?_
        refine XS.iinc X154.here hx rfl (hb hby d4_86) rfl (l' := #[rv a1, iv ((Int32.ofNat (k + 1)) + (1 : Int32)), iv (ls.getD (k + 1) 0)]) rfl ?_
        refine XS.goto X154.here hx rfl (pc0 := 89) (pc' := 40) rfl (hb hby d4_89) (by decide) (by decide) ?_
        exact kont
      have g160 : Go p e below T154 (mkF m 40 #[rv a1, iv (Int32.ofNat ((k + 1) + 1)), iv (ls.getD (k + 1) 0)] []) A0 := by rw [← own_succ (k + 1)]; exact g159
      exact ⟨_, _, (iv (ls.getD (k + 1) 0)), X154, e154, N154, (One.val rfl), g160⟩
  obtain ⟨T161, lc161, sl2, X161, e161, N161, One_sl2, g161⟩ := loop148 mm (Nat.le_refl _)
  have g162 : Go p e below T161 (mkF m 42 #[rv a1, iv (Int32.ofNat (mm + 1)), sl2] [(.ref a1), (.int (Int32.ofNat (mm + 1)))]) A0 := by
    intro t kont
    refine g161 t ?_
    refine XS.iloadN X161.here hx rfl (hb hby d4_40) rfl ?_
    refine XS.aloadN X161.here hx rfl (hb hby d4_41) rfl rfl ?_
    exact kont
  obtain ⟨cq163, kq163, q163a, q163b, q163c⟩ := isOf hZ e161 E2_
  obtain ⟨_, _, ⟨T163, L163, k163, n163⟩, -, X163, ⟨Lc163, hQ163, l163, y163, z163⟩, st163⟩ := X161.virtualBack hx (y := (⟨"java/lang/String", "length", "()I"⟩ : MethodName)) (z := (⟨"java/lang/String", "length", "()I"⟩ : MethodName)) hown (mvT hZ (hw _ (List.mem_of_getElem? (i := 43) rfl))) (mvT hZ (hw _ (List.mem_of_getElem? (i := 44) rfl))) (notFace_of_selects (args := #[]) (mvT hZ (hw _ (List.mem_of_getElem? (i := 46) rfl)))) (mvT hZ (hw _ (List.mem_of_getElem? (i := 46) rfl))) (mvT hZ (hw _ (List.mem_of_getElem? (i := 45) rfl))) (by decide) (backOf (W := 1) (rm_lenG l Z a0 hw [] a1 v1 kv cd z1 vs ls cs h0 n0 O0 S0_ hcs F3_ F4_ E2_ A5_ hcod hB) hZ (hw _ (List.mem_of_getElem? (i := 47) rfl)) (hw _ (List.mem_of_getElem? (i := 3) rfl)) (by decide) (by decide)) q163a q163c (g := (mkF m 42 #[rv a1, iv (Int32.ofNat (mm + 1)), sl2] [(.ref a1), (.int (Int32.ofNat (mm + 1)))])) rfl (by rw [hml]; rfl) (Steps.refl _) (argsL := []) (rest := [(.int (Int32.ofNat (mm + 1)))]) (lenOf pd_15 rfl) rfl (by show 2 * 0 + _ ≤ _; exact Nat.le_of_eq rfl) (hb hby d4_42) (fun _ _ => ⟨rfl, e161, (by decide : 0 + 0 ≤ _), (by decide : 0 + 0 ≤ _)⟩)
  dsimp only [Pt.U, Pt.locs, Pt.cells, Pt.slots] at X163 l163 y163 z163 st163 hQ163
  subst y163 z163
  obtain ⟨rfl, M163, e163⟩ := hQ163
  have N163 : Fr n0 L163 := by rw [l163]; exact Fr.app N161 M163
  have g164 : Go p e below T163 (mkF m 45 #[rv a1, iv (Int32.ofNat (mm + 1)), sl2] [(.int (Int32.ofNat ls.length)), (.int (Int32.ofNat (mm + 1)))]) A0 := fun t kont => g162 t (st163.trans kont)
  have g165 : Go p e below T163 (mkF m 50 #[rv a1, iv (Int32.ofNat (mm + 1)), sl2] [(.int (Int32.ofNat (mm + 1))), (.ref a1)]) A0 := by
    intro t kont
    refine g164 t ?_
    refine XS.icmpNo X163.here hx rfl (hb hby d4_45) rfl (tlt (own_lt (by omega) (by omega) : (Int32.ofNat (mm + 1)) < (Int32.ofNat ls.length))).2.1 ?_
    refine XS.aloadN X163.here hx rfl (hb hby d4_48) rfl rfl ?_
    refine XS.iloadN X163.here hx rfl (hb hby d4_49) rfl ?_
    exact kont
  obtain ⟨cq166, kq166, q166a, q166b, q166c⟩ := isOf hZ e163 E2_
  obtain ⟨_, _, ⟨T166, L166, k166, n166⟩, -, X166, ⟨Lc166, hQ166, l166, y166, z166⟩, st166⟩ := X163.virtualBack hx (y := (⟨"java/lang/String", "charAt", "(I)C"⟩ : MethodName)) (z := (⟨"java/lang/String", "charAt", "(I)C"⟩ : MethodName)) hown (mvT hZ (hw _ (List.mem_of_getElem? (i := 57) rfl))) (mvT hZ (hw _ (List.mem_of_getElem? (i := 58) rfl))) (notFace_of_selects (args := #[]) (mvT hZ (hw _ (List.mem_of_getElem? (i := 60) rfl)))) (mvT hZ (hw _ (List.mem_of_getElem? (i := 60) rfl))) (mvT hZ (hw _ (List.mem_of_getElem? (i := 59) rfl))) (by decide) (backOf (W := 0) (rm_chaG l Z a0 hw [] a1 v1 kv cd z1 vs ls cs (mm + 1) fm h0 n0 O0 S0_ hcs F3_ F4_ E2_ A5_ hcod hB (by omega) hch S10_ hfm S12_ S13_ S14_) hZ (hw _ (List.mem_of_getElem? (i := 61) rfl)) (hw _ (List.mem_of_getElem? (i := 3) rfl)) (by decide) (by decide)) q166a q166c (g := (mkF m 50 #[rv a1, iv (Int32.ofNat (mm + 1)), sl2] [(.int (Int32.ofNat (mm + 1))), (.ref a1)])) rfl (by rw [hml]; rfl) (Steps.refl _) (argsL := [(.int (Int32.ofNat (mm + 1)))]) (rest := []) (lenOf pd_16 rfl) rfl (by show 2 * 0 + _ ≤ _; exact Nat.le_of_eq rfl) (hb hby d4_50) (fun _ _ => ⟨rfl, e163, (by decide : 0 + 0 ≤ _), (by decide : 0 + 0 ≤ _)⟩)
  dsimp only [Pt.U, Pt.locs, Pt.cells, Pt.slots] at X166 l166 y166 z166 st166 hQ166
  subst y166 z166
  obtain ⟨rfl, M166, e166⟩ := hQ166
  have N166 : Fr n0 L166 := by rw [l166]; exact Fr.app N163 M166
  have g167 : Go p e below T166 (mkF m 53 #[rv a1, iv (Int32.ofNat (mm + 1)), sl2] [(.int (ls.getD (mm + 1) 0))]) A0 := fun t kont => g165 t (st166.trans kont)
  have g168 : Go p e below T166 (mkF m 54 #[rv a1, iv (Int32.ofNat (mm + 1)), iv (ls.getD (mm + 1) 0)] []) A0 := by
    intro t kont
    refine g167 t ?_
    refine XS.istoreN X166.here hx rfl (hb hby d4_53) rfl (l' := #[rv a1, iv (Int32.ofNat (mm + 1)), iv (ls.getD (mm + 1) 0)]) (XS.store1 (o := sl2) rfl One_sl2 rfl) ?_
    exact kont
  have gp169 := pz_bad X166 hx hby a1 (Int32.ofNat (mm + 1)) (ls.getD (mm + 1) 0) hm2
  have g170 : Go p e below T166 (mkF m 84 #[rv a1, iv (Int32.ofNat (mm + 1)), iv (ls.getD (mm + 1) 0)] []) A0 := fun t kont => g168 t (gp169 t kont)
  have g171 : Go p e below T166 (mkF m 85 #[rv a1, iv (Int32.ofNat (mm + 1)), iv (ls.getD (mm + 1) 0)] [(.int (0 : Int32))]) A0 := by
    intro t kont
    refine g170 t ?_
    refine XS.iconst X166.here hx rfl (hb hby d4_84) ?_
    exact kont
  obtain ⟨fs, hr, hrun, hended, hW, hsame⟩ := X166.leave (v := some (.int (0 : Int32))) (fun h => by rw [Bd.returns] at h; cases h)
  refine ⟨_, _, g171 _ (retN X166 hx (t := .boolean) Bd.returns (by simp) (hb hby d4_85) hr), hrun, hended, _, _, rfl, ?_, ⟨_, rfl⟩, hW, hsame.mono (by decide) (by decide)⟩
  show Q_isV Z a1 v1 kv cs fm cd z1 vs ls h0 n0 _ T166.heap _
  rw [e166]
  exact ⟨(0 : Int32), rfl, N166, rfl, Or.inl rfl, iff_of_false (by decide) (fun q => hm2 (q.2.2 mm hm1))⟩
theorem pd_17 : parseMethodDescriptor "([C)V" = some ⟨[(.array .char)], none⟩ := by decide +kernel
theorem pd_18 : parseMethodDescriptor "(Ljava/lang/String;)Z" = some ⟨[(.object "java/lang/String")], some .boolean⟩ := by decide +kernel
theorem ef_law (m : MethodId) (x0 : Int32) (x1 : Int32) (x2 : Int32) (x3 : Int32) (x4 : Int32)  : entryFrame m #[(.int x0), (.int x1), (.int x2), (.int x3), (.int x4)] maxLocals = mkF m 0 #[.val (.int x0), .val (.int x1), .val (.int x2), .val (.int x3), .val (.int x4), .unset, .unset, .unset, .unset, .unset, .unset, .unset, .unset] [] := by first | (simp [entryFrame, mkF, argsToLocals, Value.category, maxLocals]; done) | rfl
def Q_law (Z : State) (p0 : Int32) (p1 : Int32) (p2 : Int32) (p3 : Int32) (p4 : Int32) (i_COMPACT_STRINGS : Int32) (v_SIOOBE_FORMATTER : Value) (h0 : Heap) (n0 : Nat) (v : Option Value) (h : Heap) (L : List Loc) : Prop := v = some (.int (1 : Int32)) ∧ Fr n0 L
set_option maxRecDepth 65536 in
set_option maxHeartbeats 40000000 in
theorem rm_law (l : Launch) (Z : State) (a0 : Array Value) (hw : ∀ d ∈ tables_1, d.before a0 Z = true) (ws : List Jvm.Cond) (p0 : Int32) (p1 : Int32) (p2 : Int32) (p3 : Int32) (p4 : Int32) (i_COMPACT_STRINGS : Int32) (v_SIOOBE_FORMATTER : Value) (h0 : Heap) (n0 : Nat) (O0 : Old Z n0 h0) (S0_ : Sta Z Z.heap "java/lang/String" "COMPACT_STRINGS" "Z" (.int i_COMPACT_STRINGS)) (hcs : ¬ (i_COMPACT_STRINGS = (0 : Int32))) (S2_ : Sta Z Z.heap "jdk/internal/util/Preconditions" "SIOOBE_FORMATTER" "Ljava/util/function/BiFunction;" v_SIOOBE_FORMATTER) (hfm : v_SIOOBE_FORMATTER.isRef = true) (S4_ : Sta Z Z.heap "java/lang/StringUTF16" "$assertionsDisabled" "Z" (.int (1 : Int32))) (S5_ : Sta Z Z.heap "java/lang/StringUTF16" "HI_BYTE_SHIFT" "I" (.int (0 : Int32))) (S6_ : Sta Z Z.heap "java/lang/StringUTF16" "LO_BYTE_SHIFT" "I" (.int (8 : Int32))) :
    MetFree l x (head1 (Jvm.Cond.code x code maxLocals ret :: ws) room_1) (fun a U => a = #[(.int p0), (.int p1), (.int p2), (.int p3), (.int p4)] ∧ Z.Warmed39 U.vm ∧ U.heap = h0 ∧ CHv Z consts_1 U.vm h0) (fun _ _ _ _ _ => True) (fun _ U o U' => ∃ v L, o = .returned v ∧ Q_law Z p0 p1 p2 p3 p4 i_COMPACT_STRINGS v_SIOOBE_FORMATTER h0 n0 v U'.heap L ∧ CHr Z consts_1 U.vm U.heap U'.vm U'.heap ∧ ReturnedEndW U o U' L room_1.cells room_1.slots) := by
  refine MetFree.of_bodySF (plainFor_of_name pn_com_example_clear_fault_clearfault_FaultIsValidCodePinLaw) hisR ?_
  intro p e s m args below meth c s₁ Bd hml0 hP hK
  obtain ⟨rfl, hZ, hh, hC0⟩ := hP
  have hx := Bd.exec
  have hby := Bd.bytes
  have hml : c.maxLocals = 13 := hml0
  have hown : s.vm.findClass "com/example/clear_fault/clearfault/FaultIsValidCodePinLaw" = some m.cls := findClass_of_methodNamed Bd.named
  have hnm := (name_of_methodNamed Bd.named Bd.method).1
  have X0 : Stand p l e room_1 (s.setVm s.vm) m #[(.int p0), (.int p1), (.int p2), (.int p3), (.int p4)] below meth c s₁ [] 0 0 := Stand.of_body Bd
  have e0 : s₁.heap = h0 := by rw [← hh, Bd.state]; rfl
  have N0 := Fr.nil n0
  have hS : s.Since s.vm 0 := (State.WarmedH.refl s).since 0
  have hk : 0 ≤ h0.size := Nat.zero_le _
  have hZ : Z.Warmed39 (s.setVm s.vm).vm := hZ
  have hown : (s.setVm s.vm).vm.findClass "com/example/clear_fault/clearfault/FaultIsValidCodePinLaw" = some m.cls := hown
  have R0 : CHr Z consts_1 s.vm h0 s.vm h0 := CHr.refl hC0
  have g0 : Go p e below s₁ (mkF m 0 #[iv p0, iv p1, iv p2, iv p3, iv p4, .unset, .unset, .unset, .unset, .unset, .unset, .unset, .unset] []) (s₁.setTop (entryFrame m #[(.int p0), (.int p1), (.int p2), (.int p3), (.int p4)] maxLocals)) := fun t kont => castTop (ef_law m p0 p1 p2 p3 p4 ) kont
  generalize s₁.setTop (entryFrame m #[(.int p0), (.int p1), (.int p2), (.int p3), (.int p4)] maxLocals) = A0 at g0 ⊢
  have g101 : Go p e below s₁ (mkF m 5 #[iv p0, iv p1, iv p2, iv p3, iv p4, .unset, .unset, .unset, .unset, .unset, .unset, .unset, .unset] [(.int ((p0 &&& (65535 : Int32)).toUInt32.toUInt16.toUInt32.toInt32))]) A0 := by
    intro t kont
    refine g0 t ?_
    refine XS.iloadN X0.here hx rfl (hb hby at_0) rfl ?_
    refine X0.ldcInt hx hown (mvT hZ (hw _ (List.mem_of_getElem? (i := 0) rfl))) (g := (mkF m 1 #[iv p0, iv p1, iv p2, iv p3, iv p4, .unset, .unset, .unset, .unset, .unset, .unset, .unset, .unset] [(.int p0)])) rfl (hb hby at_1) _ ?_
    refine XS.iand X0.here hx rfl (hb hby at_3) rfl ?_
    refine XS.i2c X0.here hx rfl (hb hby at_4) rfl ?_
    exact kont
  obtain ⟨ca, e_ca⟩ : ∃ z, z = ((p0 &&& (65535 : Int32)).toUInt32.toUInt16.toUInt32.toInt32) := ⟨_, rfl⟩
  have g102 : Go p e below s₁ (mkF m 5 #[iv p0, iv p1, iv p2, iv p3, iv p4, .unset, .unset, .unset, .unset, .unset, .unset, .unset, .unset] [(.int ca)]) A0 := by rw [e_ca]; exact g101
  have z_ca : ¬ (ca < (0 : Int32)) := by rw [e_ca]; exact own_i2c0 _
  have b_ca : ¬ ((65535 : Int32) < ca) := by rw [e_ca]; exact own_i2c1 _
  have r_ca : nar .char ca = ca := own_narid z_ca b_ca
  have g103 : Go p e below s₁ (mkF m 12 #[iv p0, iv p1, iv p2, iv p3, iv p4, iv ca, .unset, .unset, .unset, .unset, .unset, .unset, .unset] [(.int ((p1 &&& (65535 : Int32)).toUInt32.toUInt16.toUInt32.toInt32))]) A0 := by
    intro t kont
    refine g102 t ?_
    refine XS.istore X0.here hx rfl (hb hby at_5) rfl (l' := #[iv p0, iv p1, iv p2, iv p3, iv p4, iv ca, .unset, .unset, .unset, .unset, .unset, .unset, .unset]) rfl ?_
    refine XS.iloadN X0.here hx rfl (hb hby at_7) rfl ?_
    refine X0.ldcInt hx hown (mvT hZ (hw _ (List.mem_of_getElem? (i := 0) rfl))) (g := (mkF m 8 #[iv p0, iv p1, iv p2, iv p3, iv p4, iv ca, .unset, .unset, .unset, .unset, .unset, .unset, .unset] [(.int p1)])) rfl (hb hby at_8) _ ?_
    refine XS.iand X0.here hx rfl (hb hby at_10) rfl ?_
    refine XS.i2c X0.here hx rfl (hb hby at_11) rfl ?_
    exact kont
  obtain ⟨cb, e_cb⟩ : ∃ z, z = ((p1 &&& (65535 : Int32)).toUInt32.toUInt16.toUInt32.toInt32) := ⟨_, rfl⟩
  have g104 : Go p e below s₁ (mkF m 12 #[iv p0, iv p1, iv p2, iv p3, iv p4, iv ca, .unset, .unset, .unset, .unset, .unset, .unset, .unset] [(.int cb)]) A0 := by rw [e_cb]; exact g103
  have z_cb : ¬ (cb < (0 : Int32)) := by rw [e_cb]; exact own_i2c0 _
  have b_cb : ¬ ((65535 : Int32) < cb) := by rw [e_cb]; exact own_i2c1 _
  have r_cb : nar .char cb = cb := own_narid z_cb b_cb
  have g105 : Go p e below s₁ (mkF m 19 #[iv p0, iv p1, iv p2, iv p3, iv p4, iv ca, iv cb, .unset, .unset, .unset, .unset, .unset, .unset] [(.int ((p2 &&& (65535 : Int32)).toUInt32.toUInt16.toUInt32.toInt32))]) A0 := by
    intro t kont
    refine g104 t ?_
    refine XS.istore X0.here hx rfl (hb hby at_12) rfl (l' := #[iv p0, iv p1, iv p2, iv p3, iv p4, iv ca, iv cb, .unset, .unset, .unset, .unset, .unset, .unset]) rfl ?_
    refine XS.iloadN X0.here hx rfl (hb hby at_14) rfl ?_
    refine X0.ldcInt hx hown (mvT hZ (hw _ (List.mem_of_getElem? (i := 0) rfl))) (g := (mkF m 15 #[iv p0, iv p1, iv p2, iv p3, iv p4, iv ca, iv cb, .unset, .unset, .unset, .unset, .unset, .unset] [(.int p2)])) rfl (hb hby at_15) _ ?_
    refine XS.iand X0.here hx rfl (hb hby at_17) rfl ?_
    refine XS.i2c X0.here hx rfl (hb hby at_18) rfl ?_
    exact kont
  obtain ⟨cc, e_cc⟩ : ∃ z, z = ((p2 &&& (65535 : Int32)).toUInt32.toUInt16.toUInt32.toInt32) := ⟨_, rfl⟩
  have g106 : Go p e below s₁ (mkF m 19 #[iv p0, iv p1, iv p2, iv p3, iv p4, iv ca, iv cb, .unset, .unset, .unset, .unset, .unset, .unset] [(.int cc)]) A0 := by rw [e_cc]; exact g105
  have z_cc : ¬ (cc < (0 : Int32)) := by rw [e_cc]; exact own_i2c0 _
  have b_cc : ¬ ((65535 : Int32) < cc) := by rw [e_cc]; exact own_i2c1 _
  have r_cc : nar .char cc = cc := own_narid z_cc b_cc
  have g107 : Go p e below s₁ (mkF m 26 #[iv p0, iv p1, iv p2, iv p3, iv p4, iv ca, iv cb, iv cc, .unset, .unset, .unset, .unset, .unset] [(.int ((p3 &&& (65535 : Int32)).toUInt32.toUInt16.toUInt32.toInt32))]) A0 := by
    intro t kont
    refine g106 t ?_
    refine XS.istore X0.here hx rfl (hb hby at_19) rfl (l' := #[iv p0, iv p1, iv p2, iv p3, iv p4, iv ca, iv cb, iv cc, .unset, .unset, .unset, .unset, .unset]) rfl ?_
    refine XS.iloadN X0.here hx rfl (hb hby at_21) rfl ?_
    refine X0.ldcInt hx hown (mvT hZ (hw _ (List.mem_of_getElem? (i := 0) rfl))) (g := (mkF m 22 #[iv p0, iv p1, iv p2, iv p3, iv p4, iv ca, iv cb, iv cc, .unset, .unset, .unset, .unset, .unset] [(.int p3)])) rfl (hb hby at_22) _ ?_
    refine XS.iand X0.here hx rfl (hb hby at_24) rfl ?_
    refine XS.i2c X0.here hx rfl (hb hby at_25) rfl ?_
    exact kont
  obtain ⟨cd_, e_cd_⟩ : ∃ z, z = ((p3 &&& (65535 : Int32)).toUInt32.toUInt16.toUInt32.toInt32) := ⟨_, rfl⟩
  have g108 : Go p e below s₁ (mkF m 26 #[iv p0, iv p1, iv p2, iv p3, iv p4, iv ca, iv cb, iv cc, .unset, .unset, .unset, .unset, .unset] [(.int cd_)]) A0 := by rw [e_cd_]; exact g107
  have z_cd_ : ¬ (cd_ < (0 : Int32)) := by rw [e_cd_]; exact own_i2c0 _
  have b_cd_ : ¬ ((65535 : Int32) < cd_) := by rw [e_cd_]; exact own_i2c1 _
  have r_cd_ : nar .char cd_ = cd_ := own_narid z_cd_ b_cd_
  have g109 : Go p e below s₁ (mkF m 37 #[iv p0, iv p1, iv p2, iv p3, iv p4, iv ca, iv cb, iv cc, iv cd_, iv (95 : Int32), .unset, .unset, .unset] [(.int (p4 &&& (7 : Int32)))]) A0 := by
    intro t kont
    refine g108 t ?_
    refine XS.istore X0.here hx rfl (hb hby at_26) rfl (l' := #[iv p0, iv p1, iv p2, iv p3, iv p4, iv ca, iv cb, iv cc, iv cd_, .unset, .unset, .unset, .unset]) rfl ?_
    refine XS.bipush X0.here hx rfl (hb hby at_28) ?_
    refine XS.istore X0.here hx rfl (hb hby at_30) rfl (l' := #[iv p0, iv p1, iv p2, iv p3, iv p4, iv ca, iv cb, iv cc, iv cd_, iv (95 : Int32), .unset, .unset, .unset]) rfl ?_
    refine XS.iload X0.here hx rfl (hb hby at_32) rfl ?_
    refine XS.bipush X0.here hx rfl (hb hby at_34) ?_
    refine XS.iand X0.here hx rfl (hb hby at_36) rfl ?_
    exact kont
  obtain ⟨sel, e_sel⟩ : ∃ z, z = (p4 &&& (7 : Int32)) := ⟨_, rfl⟩
  have g110 : Go p e below s₁ (mkF m 37 #[iv p0, iv p1, iv p2, iv p3, iv p4, iv ca, iv cb, iv cc, iv cd_, iv (95 : Int32), .unset, .unset, .unset] [(.int sel)]) A0 := by rw [e_sel]; exact g109
  have g112 : Go p e below s₁ (mkF m 41 #[iv p0, iv p1, iv p2, iv p3, iv p4, iv ca, iv cb, iv cc, iv cd_, iv (95 : Int32), iv sel, .unset, .unset] [(.int sel)]) A0 := by
    intro t kont
    refine g110 t ?_
    refine XS.istore X0.here hx rfl (hb hby at_37) rfl (l' := #[iv p0, iv p1, iv p2, iv p3, iv p4, iv ca, iv cb, iv cc, iv cd_, iv (95 : Int32), iv sel, .unset, .unset]) rfl ?_
    refine XS.iload X0.here hx rfl (hb hby at_39) rfl ?_
    exact kont
  by_cases c111 : sel = (0 : Int32)
  ·
    subst c111
    have g113 : Go p e below s₁ (mkF m 44 #[iv p0, iv p1, iv p2, iv p3, iv p4, iv ca, iv cb, iv cc, iv cd_, iv (95 : Int32), iv (0 : Int32), .unset, .unset] []) A0 := by
      intro t kont
      refine g112 t ?_
      refine XS.ifNo X0.here hx rfl (hb hby at_41) rfl ((if0 _ _).trans (teq (rfl : (0 : Int32) = (0 : Int32))).2) ?_
      exact kont
    obtain ⟨T114, h114, X114, e114, E114, A114, D114, -, st114⟩ := newO X0 hx hZ hown (hw _ (List.mem_of_getElem? (i := 1) rfl)) (hw _ (List.mem_of_getElem? (i := 2) rfl)) (hw _ (List.mem_of_getElem? (i := 3) rfl)) e0 (g := (mkF m 44 #[iv p0, iv p1, iv p2, iv p3, iv p4, iv ca, iv cb, iv cc, iv cd_, iv (95 : Int32), iv (0 : Int32), .unset, .unset] [])) rfl (hb hby at_44) (by decide) (by decide)
    obtain ⟨b114, gb114⟩ : ∃ z, z = h0.size := ⟨_, rfl⟩
    rw [← gb114] at A114 D114 st114
    have R115 : CHr Z consts_1 s.vm h0 s.vm h114 := R0.trans (CHr.ext E114 R0.1)
    have O116 := O0.ext E114
    have y117 : Fld Z h114 b114 "java/lang/String" "value" "[B" .null := D114 (Or.inr (hw _ (List.mem_of_getElem? (i := 17) rfl))) (ty := (.array .byte)) (by decide)
    have y118 : Fld Z h114 b114 "java/lang/String" "coder" "B" (.int (0 : Int32)) := D114 (Or.inr (hw _ (List.mem_of_getElem? (i := 18) rfl))) (ty := .byte) (by decide)
    have g119 : Go p e below T114 (mkF m 47 #[iv p0, iv p1, iv p2, iv p3, iv p4, iv ca, iv cb, iv cc, iv cd_, iv (95 : Int32), iv (0 : Int32), .unset, .unset] [(.ref b114)]) A0 := fun t kont => g113 t (st114 t kont)
    have g120 : Go p e below T114 (mkF m 49 #[iv p0, iv p1, iv p2, iv p3, iv p4, iv ca, iv cb, iv cc, iv cd_, iv (95 : Int32), iv (0 : Int32), .unset, .unset] [(.int (0 : Int32)), (.ref b114), (.ref b114)]) A0 := by
      intro t kont
      refine g119 t ?_
      refine XS.dup X114.here hx rfl (hb hby at_47) rfl rfl ?_
      refine XS.iconst X114.here hx rfl (hb hby at_48) ?_
      exact kont
    obtain ⟨T121, h121, k121, X121, e121, E121, A121, F121, st121⟩ := newPE X114 hx hZ (hw _ (List.mem_of_getElem? (i := 4) rfl)) e114 (g := (mkF m 49 #[iv p0, iv p1, iv p2, iv p3, iv p4, iv ca, iv cb, iv cc, iv cd_, iv (95 : Int32), iv (0 : Int32), .unset, .unset] [(.int (0 : Int32)), (.ref b114), (.ref b114)])) rfl (hb hby at_49) rfl (by decide) (cap := 0) (by decide) (by decide) (by decide) (by decide) (ad := "[C") (by decide)
    obtain ⟨b121, gb121⟩ : ∃ z, z = h114.size := ⟨_, rfl⟩
    rw [← gb121] at A121 F121 st121
    have R122 : CHr Z consts_1 s.vm h0 s.vm h121 := R115.trans (CHr.ext E121 R115.1)
    have O123 := O116.ext E121
    have y124 : Arv Z h121 b121 k121 .char (0 : Int32) [] (.int (0 : Int32)) := Arv.new A121 (by decide)
    have g125 : Go p e below T121 (mkF m 51 #[iv p0, iv p1, iv p2, iv p3, iv p4, iv ca, iv cb, iv cc, iv cd_, iv (95 : Int32), iv (0 : Int32), .unset, .unset] [(.ref b121), (.ref b114), (.ref b114)]) A0 := fun t kont => g120 t (st121 t kont)
    have y127 : Fld Z h121 b114 "java/lang/String" "value" "[B" .null := (y117.ext E121)
    have y128 : Fld Z h121 b114 "java/lang/String" "coder" "B" (.int (0 : Int32)) := (y118.ext E121)
    have y129 : Exa Z h121 b114 "java/lang/String" := (A114.ext E121)
    have ge130 : n0 ≤ b114 := Nat.le_trans (own_old_le O0) (Nat.le_of_eq gb114.symm)
    obtain ⟨_, _, ⟨T126, L126, k126, n126⟩, -, X126, hS126, hg126, ⟨Lc126, hQ126, l126, y126, z126, C126⟩, st126⟩ := X121.specialBackS hx (y := (⟨"java/lang/String", "<init>", "([C)V"⟩ : MethodName)) rfl hown (mvT hZ (hw _ (List.mem_of_getElem? (i := 5) rfl))) (mvT hZ (hw _ (List.mem_of_getElem? (i := 6) rfl))) (mvT hZ (hw _ (List.mem_of_getElem? (i := 7) rfl))) (by decide) (backOfSH (W := 1) (rm_sIni0 l Z a0 hw [] b114 b121 k121 h121 n0 O123 y127 y128 y129 ge130 y124) hZ (hw _ (List.mem_of_getElem? (i := 7) rfl)) (hw _ (List.mem_of_getElem? (i := 3) rfl)) (by decide) (by decide) (own_EW hw) R122.1) (g := (mkF m 51 #[iv p0, iv p1, iv p2, iv p3, iv p4, iv ca, iv cb, iv cc, iv cd_, iv (95 : Int32), iv (0 : Int32), .unset, .unset] [(.ref b121), (.ref b114), (.ref b114)])) rfl (by rw [hml]; rfl) (Steps.refl _) (a := b114) (argsL := [(.ref b121)]) (rest := [(.ref b114)]) (lenOf pd_17 rfl) rfl (by show 2 * 0 + _ ≤ _; exact Nat.le_of_eq rfl) (hb hby at_51) (fun _ _ => ⟨rfl, e121, (by decide : 2 + 4 ≤ _), (by decide : 4 + 8 ≤ _)⟩)
    dsimp only [Pt.U, Pt.locs, Pt.cells, Pt.slots] at X126 l126 y126 z126 st126 hQ126 hS126 hg126 C126
    subst y126 z126
    obtain ⟨X126, hS, hZ, hown⟩ := rebS hS (n1 := T121.heap.size) (by rw [e121]; exact (Nat.le_trans hk (Nat.le_trans E114.1 E121.1))) X126 hS126 hg126 hZ hown
    obtain ⟨r131, r132, rfl, M126, K126, y133, y134, y135, y136⟩ := hQ126
    have N126 : Fr n0 L126 := by rw [l126]; exact Fr.app N0 M126
    have R137 : CHr Z consts_1 s.vm h0 T126.vm T126.heap := R122.trans C126
    have O138 := O123.keep K126 (allS ge130 all0)
    have g139 : Go p e below T126 (mkF m 54 #[iv p0, iv p1, iv p2, iv p3, iv p4, iv ca, iv cb, iv cc, iv cd_, iv (95 : Int32), iv (0 : Int32), .unset, .unset] [(.ref b114)]) A0 := fun t kont => g125 t (st126.trans kont)
    have g140 : Go p e below T126 (mkF m 1144 #[iv p0, iv p1, iv p2, iv p3, iv p4, iv ca, iv cb, iv cc, iv cd_, iv (95 : Int32), iv (0 : Int32), rv b114, iv (0 : Int32)] [(.ref b114)]) A0 := by
      intro t kont
      refine g139 t ?_
      refine XS.astore X126.here hx rfl (hb hby at_54) rfl rfl (l' := #[iv p0, iv p1, iv p2, iv p3, iv p4, iv ca, iv cb, iv cc, iv cd_, iv (95 : Int32), iv (0 : Int32), rv b114, .unset]) rfl ?_
      refine XS.iconst X126.here hx rfl (hb hby at_56) ?_
      refine XS.istore X126.here hx rfl (hb hby at_57) rfl (l' := #[iv p0, iv p1, iv p2, iv p3, iv p4, iv ca, iv cb, iv cc, iv cd_, iv (95 : Int32), iv (0 : Int32), rv b114, iv (0 : Int32)]) rfl ?_
      refine XS.goto X126.here hx rfl (pc0 := 59) (pc' := 1142) rfl (hb hby at_59) (by decide) (by decide) ?_
      refine XS.aload X126.here hx rfl (hb hby at_1142) rfl rfl ?_
      exact kont
    obtain ⟨_, _, ⟨T141, L141, k141, n141⟩, -, X141, ⟨Lc141, hQ141, l141, y141, z141⟩, st141⟩ := Jvm.LawKit.callS X126 hx (y := (⟨"com/example/clear_fault/clearfault/Fault", "isValidCode", "(Ljava/lang/String;)Z"⟩ : MethodName)) hown (mvT hZ (hw _ (List.mem_of_getElem? (i := 23) rfl))) (mvT hZ (hw _ (List.mem_of_getElem? (i := 24) rfl))) (mvT hZ (hw _ (List.mem_of_getElem? (i := 25) rfl))) (mvT hZ (hw _ (List.mem_of_getElem? (i := 26) rfl))) (by decide) (backOf (W := 0) (rm_isV0 l Z a0 hw [] b114 r131 r132 [] T126.heap n0 O138 y133 y135 y136) hZ (hw _ (List.mem_of_getElem? (i := 26) rfl)) (hw _ (List.mem_of_getElem? (i := 25) rfl)) (by decide) (by decide)) (g := (mkF m 1144 #[iv p0, iv p1, iv p2, iv p3, iv p4, iv ca, iv cb, iv cc, iv cd_, iv (95 : Int32), iv (0 : Int32), rv b114, iv (0 : Int32)] [(.ref b114)])) rfl (by rw [hml]; rfl) (argsL := [(.ref b114)]) (rest := []) (lenOf pd_18 rfl) rfl (by show 2 * 0 + _ ≤ _; exact Nat.le_of_eq rfl) (hb hby at_1144) (fun _ _ => ⟨rfl, rfl, (by decide : 6 + 0 ≤ _), (by decide : 12 + 0 ≤ _)⟩)
    dsimp only [Pt.U, Pt.locs, Pt.cells, Pt.slots] at X141 l141 y141 z141 st141 hQ141
    subst y141 z141
    obtain ⟨rfl, M141, e141⟩ := hQ141
    have N141 : Fr n0 L141 := by rw [l141]; exact Fr.app N126 M141
    have g142 : Go p e below T141 (mkF m 1147 #[iv p0, iv p1, iv p2, iv p3, iv p4, iv ca, iv cb, iv cc, iv cd_, iv (95 : Int32), iv (0 : Int32), rv b114, iv (0 : Int32)] [(.int (0 : Int32))]) A0 := fun t kont => g140 t (st141 t kont)
    have g143 : Go p e below T141 (mkF m 1157 #[iv p0, iv p1, iv p2, iv p3, iv p4, iv ca, iv cb, iv cc, iv cd_, iv (95 : Int32), iv (0 : Int32), rv b114, iv (0 : Int32)] [(.int (1 : Int32))]) A0 := by
      intro t kont
      refine g142 t ?_
      refine XS.iload X141.here hx rfl (hb hby at_1147) rfl ?_
      refine XS.icmpNo X141.here hx rfl (hb hby at_1149) rfl (teq (by decide : (0 : Int32) = (0 : Int32))).2 ?_
      refine XS.iconst X141.here hx rfl (hb hby at_1152) ?_
      refine XS.goto X141.here hx rfl (pc0 := 1153) (pc' := 1157) rfl (hb hby at_1153) (by decide) (by decide) ?_
      exact kont
    obtain ⟨fs, hr, hrun, hended, hRW⟩ := X141.leaveW hS (by rw [e141]; exact (Nat.le_refl _)) (v := some (.int (1 : Int32))) (fun h => by rw [Bd.returns] at h; cases h)
    refine ⟨_, _, g143 _ (retN X141 hx (t := .boolean) Bd.returns (by simp) (hb hby at_1157) hr), hrun, hended, _, _, rfl, ?_, ?_, hRW.1, hRW.2.1, hRW.2.2.1, hRW.2.2.2.mono (by decide) (by decide)⟩
    ·
      show Q_law Z p0 p1 p2 p3 p4 i_COMPACT_STRINGS v_SIOOBE_FORMATTER h0 n0 _ T141.heap _
      rw [e141]
      exact ⟨rfl, N141⟩
    ·
      rw [hh]
      show CHr Z consts_1 s.vm h0 T141.vm T141.heap
      rw [e141]
      exact R137.trans (CHv.at X141 hZ (own_EW hw) R137.1)
  have g145 : Go p e below s₁ (mkF m 65 #[iv p0, iv p1, iv p2, iv p3, iv p4, iv ca, iv cb, iv cc, iv cd_, iv (95 : Int32), iv sel, .unset, .unset] [(.int (1 : Int32)), (.int sel)]) A0 := by
    intro t kont
    refine g112 t ?_
    refine XS.ifYes X0.here hx rfl (pc0 := 41) (pc' := 62) rfl (hb hby at_41) rfl ((if0 _ _).trans (feq c111).2) (by decide) (by decide) ?_
    refine XS.iload X0.here hx rfl (hb hby at_62) rfl ?_
    refine XS.iconst X0.here hx rfl (hb hby at_64) ?_
    exact kont
  by_cases c144 : sel = (1 : Int32)
  ·
    subst c144
    have g146 : Go p e below s₁ (mkF m 68 #[iv p0, iv p1, iv p2, iv p3, iv p4, iv ca, iv cb, iv cc, iv cd_, iv (95 : Int32), iv (1 : Int32), .unset, .unset] []) A0 := by
      intro t kont
      refine g145 t ?_
      refine XS.icmpNo X0.here hx rfl (hb hby at_65) rfl (teq (rfl : (1 : Int32) = (1 : Int32))).2 ?_
      exact kont
    obtain ⟨T147, h147, X147, e147, E147, A147, D147, -, st147⟩ := newO X0 hx hZ hown (hw _ (List.mem_of_getElem? (i := 1) rfl)) (hw _ (List.mem_of_getElem? (i := 2) rfl)) (hw _ (List.mem_of_getElem? (i := 3) rfl)) e0 (g := (mkF m 68 #[iv p0, iv p1, iv p2, iv p3, iv p4, iv ca, iv cb, iv cc, iv cd_, iv (95 : Int32), iv (1 : Int32), .unset, .unset] [])) rfl (hb hby at_68) (by decide) (by decide)
    obtain ⟨b147, gb147⟩ : ∃ z, z = h0.size := ⟨_, rfl⟩
    rw [← gb147] at A147 D147 st147
    have R148 : CHr Z consts_1 s.vm h0 s.vm h147 := R0.trans (CHr.ext E147 R0.1)
    have O149 := O0.ext E147
    have y150 : Fld Z h147 b147 "java/lang/String" "value" "[B" .null := D147 (Or.inr (hw _ (List.mem_of_getElem? (i := 17) rfl))) (ty := (.array .byte)) (by decide)
    have y151 : Fld Z h147 b147 "java/lang/String" "coder" "B" (.int (0 : Int32)) := D147 (Or.inr (hw _ (List.mem_of_getElem? (i := 18) rfl))) (ty := .byte) (by decide)
    have g152 : Go p e below T147 (mkF m 71 #[iv p0, iv p1, iv p2, iv p3, iv p4, iv ca, iv cb, iv cc, iv cd_, iv (95 : Int32), iv (1 : Int32), .unset, .unset] [(.ref b147)]) A0 := fun t kont => g146 t (st147 t kont)
    have g153 : Go p e below T147 (mkF m 73 #[iv p0, iv p1, iv p2, iv p3, iv p4, iv ca, iv cb, iv cc, iv cd_, iv (95 : Int32), iv (1 : Int32), .unset, .unset] [(.int (1 : Int32)), (.ref b147), (.ref b147)]) A0 := by
      intro t kont
      refine g152 t ?_
      refine XS.dup X147.here hx rfl (hb hby at_71) rfl rfl ?_
      refine XS.iconst X147.here hx rfl (hb hby at_72) ?_
      exact kont
    obtain ⟨T154, h154, k154, X154, e154, E154, A154, F154, st154⟩ := newPE X147 hx hZ (hw _ (List.mem_of_getElem? (i := 4) rfl)) e147 (g := (mkF m 73 #[iv p0, iv p1, iv p2, iv p3, iv p4, iv ca, iv cb, iv cc, iv cd_, iv (95 : Int32), iv (1 : Int32), .unset, .unset] [(.int (1 : Int32)), (.ref b147), (.ref b147)])) rfl (hb hby at_73) rfl (by decide) (cap := 1) (by decide) (by decide) (by decide) (by decide) (ad := "[C") (by decide)
    obtain ⟨b154, gb154⟩ : ∃ z, z = h147.size := ⟨_, rfl⟩
    rw [← gb154] at A154 F154 st154
    have R155 : CHr Z consts_1 s.vm h0 s.vm h154 := R148.trans (CHr.ext E154 R148.1)
    have O156 := O149.ext E154
    have y157 : Arv Z h154 b154 k154 .char (1 : Int32) [(.int (0 : Int32))] (.int (0 : Int32)) := (Arv.new A154 (by decide)).pad (pad_rep [] (.int (0 : Int32)) 1)
    have g158 : Go p e below T154 (mkF m 75 #[iv p0, iv p1, iv p2, iv p3, iv p4, iv ca, iv cb, iv cc, iv cd_, iv (95 : Int32), iv (1 : Int32), .unset, .unset] [(.ref b154), (.ref b147), (.ref b147)]) A0 := fun t kont => g153 t (st154 t kont)
    have g159 : Go p e below T154 (mkF m 79 #[iv p0, iv p1, iv p2, iv p3, iv p4, iv ca, iv cb, iv cc, iv cd_, iv (95 : Int32), iv (1 : Int32), .unset, .unset] [(.int ca), (.int (0 : Int32)), (.ref b154), (.ref b154), (.ref b147), (.ref b147)]) A0 := by
      intro t kont
      refine g158 t ?_
      refine XS.dup X154.here hx rfl (hb hby at_75) rfl rfl ?_
      refine XS.iconst X154.here hx rfl (hb hby at_76) ?_
      refine XS.iload X154.here hx rfl (hb hby at_77) rfl ?_
      exact kont
    have ge161 : n0 ≤ b154 := Nat.le_trans (own_old_le O149) (Nat.le_of_eq gb154.symm)
    have zz160 := y157
    obtain ⟨cl160, Ar160, q160, S160, M160, H160, G160⟩ := zz160
    have in160 : ¬ ((0 : Int32) < 0 ∨ cl160.slots.size ≤ ((0 : Int32)).toNatClampNeg) := inb_of S160 ⟨by decide, by decide⟩
    obtain ⟨T160, h160, X160, e160, W160, st160⟩ := stC X154 hx hZ e154 Ar160 (j := (0 : Int32)) in160 (g := (mkF m 79 #[iv p0, iv p1, iv p2, iv p3, iv p4, iv ca, iv cb, iv cc, iv cd_, iv (95 : Int32), iv (1 : Int32), .unset, .unset] [(.int ca), (.int (0 : Int32)), (.ref b154), (.ref b154), (.ref b147), (.ref b147)])) rfl rfl (hb hby at_79)
    rw [show nar .char ca = ca from r_ca] at W160
    have R162 : CHr Z consts_1 s.vm h0 s.vm h160 := R155.trans (CHr.wr W160 (Safe.ext E154 R148.1 (Safe.new (Nat.le_of_eq gb154.symm))) R155.1)
    have O163 := O156.wr W160 ge161
    have y164 : Arv Z h160 b154 k154 .char (1 : Int32) [(.int ca)] (.int (0 : Int32)) := Arv.set Ar160 q160 S160 M160 H160 G160 (own_ft_char (z := ca) r_ca) W160 0 rfl (Nat.le_of_ble_eq_true rfl)
    have N160 := Fr.snoc X160 N0 ge161
    have g165 : Go p e below T160 (mkF m 80 #[iv p0, iv p1, iv p2, iv p3, iv p4, iv ca, iv cb, iv cc, iv cd_, iv (95 : Int32), iv (1 : Int32), .unset, .unset] [(.ref b154), (.ref b147), (.ref b147)]) A0 := fun t kont => g159 t (st160 t kont)
    have y167 : Fld Z h160 b147 "java/lang/String" "value" "[B" .null := ((y150.ext E154).other W160 (Or.inl (Nat.ne_of_lt (Nat.lt_of_lt_of_le A147.lt (Nat.le_of_eq gb154.symm)))))
    have y168 : Fld Z h160 b147 "java/lang/String" "coder" "B" (.int (0 : Int32)) := ((y151.ext E154).other W160 (Or.inl (Nat.ne_of_lt (Nat.lt_of_lt_of_le A147.lt (Nat.le_of_eq gb154.symm)))))
    have y169 : Exa Z h160 b147 "java/lang/String" := ((A147.ext E154).wr W160)
    have ge170 : n0 ≤ b147 := Nat.le_trans (own_old_le O0) (Nat.le_of_eq gb147.symm)
    obtain ⟨_, _, ⟨T166, L166, k166, n166⟩, -, X166, ⟨Lc166, hQ166, l166, y166, z166⟩, st166⟩ := X160.specialBack hx (y := (⟨"java/lang/String", "<init>", "([C)V"⟩ : MethodName)) rfl hown (mvT hZ (hw _ (List.mem_of_getElem? (i := 5) rfl))) (mvT hZ (hw _ (List.mem_of_getElem? (i := 6) rfl))) (mvT hZ (hw _ (List.mem_of_getElem? (i := 7) rfl))) (by decide) (backOf (W := 1) (rm_sIniG l Z a0 hw [] b147 b154 k154 [ca] i_COMPACT_STRINGS h160 n0 O163 y167 y168 y169 ge170 y164 (by simp) (by simp) ((own_ccons ⟨z_ca, b_ca⟩ own_cnil)) S0_ hcs S4_ S5_ S6_) hZ (hw _ (List.mem_of_getElem? (i := 7) rfl)) (hw _ (List.mem_of_getElem? (i := 3) rfl)) (by decide) (by decide)) (g := (mkF m 80 #[iv p0, iv p1, iv p2, iv p3, iv p4, iv ca, iv cb, iv cc, iv cd_, iv (95 : Int32), iv (1 : Int32), .unset, .unset] [(.ref b154), (.ref b147), (.ref b147)])) rfl (by rw [hml]; rfl) (Steps.refl _) (a := b147) (argsL := [(.ref b154)]) (rest := [(.ref b147)]) (lenOf pd_17 rfl) rfl (by show 2 * 0 + _ ≤ _; exact Nat.le_of_eq rfl) (hb hby at_80) (fun _ _ => ⟨rfl, e160, (by decide : 2 + 2 ≤ _), (by decide : 5 + 195 ≤ _)⟩)
    dsimp only [Pt.U, Pt.locs, Pt.cells, Pt.slots] at X166 l166 y166 z166 st166 hQ166
    subst y166 z166
    obtain ⟨r171, r172, r173, r174, r175, rfl, M166, K166, y176, y177, y178, y179, y180, y181⟩ := hQ166
    have N166 : Fr n0 L166 := by rw [l166]; exact Fr.app N160 M166
    have sf183 : Safe Z consts_1 s.vm h160 b147 := (Safe.wr W160 (Safe.ext E154 R148.1 (Safe.new (Nat.le_of_eq gb154.symm))) R155.1 (Safe.ext E154 R148.1 (Safe.ext E147 R0.1 (Safe.new (Nat.le_of_eq gb147.symm)))))
    have R182 : CHr Z consts_1 s.vm h0 s.vm T166.heap := R162.trans (CHr.keep K166 (sfS sf183 sf0) R162.1)
    have O184 := O163.keep K166 (allS ge170 all0)
    have g185 : Go p e below T166 (mkF m 83 #[iv p0, iv p1, iv p2, iv p3, iv p4, iv ca, iv cb, iv cc, iv cd_, iv (95 : Int32), iv (1 : Int32), .unset, .unset] [(.ref b147)]) A0 := fun t kont => g165 t (st166.trans kont)
    have g186 : Go p e below T166 (mkF m 85 #[iv p0, iv p1, iv p2, iv p3, iv p4, iv ca, iv cb, iv cc, iv cd_, iv (95 : Int32), iv (1 : Int32), rv b147, .unset] []) A0 := by
      intro t kont
      refine g185 t ?_
      refine XS.astore X166.here hx rfl (hb hby at_83) rfl rfl (l' := #[iv p0, iv p1, iv p2, iv p3, iv p4, iv ca, iv cb, iv cc, iv cd_, iv (95 : Int32), iv (1 : Int32), rv b147, .unset]) rfl ?_
      exact kont
    obtain ⟨ex, T187, lc187, X187, e187, N187, g187, j194, j195⟩ : ∃ ex : Int32, ∃ (T187 : State) (lc187 : List Loc), Stand p l e room_1 (s.setVm s.vm) m #[(.int p0), (.int p1), (.int p2), (.int p3), (.int p4)] below meth c T187 lc187 4 200 ∧ T187.heap = T166.heap ∧ Fr n0 lc187 ∧ Go p e below T187 (mkF m 90 #[iv p0, iv p1, iv p2, iv p3, iv p4, iv ca, iv cb, iv cc, iv cd_, iv (95 : Int32), iv (1 : Int32), rv b147, .unset] [(.int ex)]) A0 ∧ (ex = (0 : Int32) ∨ ex = (1 : Int32)) ∧ (ex = (1 : Int32) ↔ (own_lw ca)) := by
      have g188 : Go p e below T166 (mkF m 87 #[iv p0, iv p1, iv p2, iv p3, iv p4, iv ca, iv cb, iv cc, iv cd_, iv (95 : Int32), iv (1 : Int32), rv b147, .unset] [(.int ca)]) A0 := by
        intro t kont
        refine g186 t ?_
        refine XS.iload X166.here hx rfl (hb hby at_85) rfl ?_
        exact kont
      obtain ⟨_, _, ⟨T189, L189, k189, n189⟩, -, X189, ⟨Lc189, hQ189, l189, y189, z189⟩, st189⟩ := Jvm.LawKit.callS X166 hx (y := (⟨"com/example/clear_fault/clearfault/FaultIsValidCodePinLaw", "lower", "(C)Z"⟩ : MethodName)) hown (mvT hZ (hw _ (List.mem_of_getElem? (i := 53) rfl))) (mvT hZ (hw _ (List.mem_of_getElem? (i := 54) rfl))) (mvT hZ (hw _ (List.mem_of_getElem? (i := 55) rfl))) (mvT hZ (hw _ (List.mem_of_getElem? (i := 56) rfl))) (by decide) (backOf (W := 0) (rm_low l Z a0 hw [] ca T166.heap n0 O184 ) hZ (hw _ (List.mem_of_getElem? (i := 56) rfl)) (hw _ (List.mem_of_getElem? (i := 55) rfl)) (by decide) (by decide)) (g := (mkF m 87 #[iv p0, iv p1, iv p2, iv p3, iv p4, iv ca, iv cb, iv cc, iv cd_, iv (95 : Int32), iv (1 : Int32), rv b147, .unset] [(.int ca)])) rfl (by rw [hml]; rfl) (argsL := [(.int ca)]) (rest := []) (lenOf pd_0 rfl) rfl (by show 2 * 0 + _ ≤ _; exact Nat.le_of_eq rfl) (hb hby at_87) (fun _ _ => ⟨rfl, rfl, (by decide : 4 + 0 ≤ _), (by decide : 200 + 0 ≤ _)⟩)
      dsimp only [Pt.U, Pt.locs, Pt.cells, Pt.slots] at X189 l189 y189 z189 st189 hQ189
      subst y189 z189
      obtain ⟨r190, rfl, M189, e189, y191, y192⟩ := hQ189
      have N189 : Fr n0 L189 := by rw [l189]; exact Fr.app N166 M189
      have g193 : Go p e below T189 (mkF m 90 #[iv p0, iv p1, iv p2, iv p3, iv p4, iv ca, iv cb, iv cc, iv cd_, iv (95 : Int32), iv (1 : Int32), rv b147, .unset] [(.int r190)]) A0 := fun t kont => g188 t (st189 t kont)
      exact ⟨r190, _, _, X189, e189, N189, g193, (y191), (y192)⟩
    have g196 : Go p e below T187 (mkF m 1144 #[iv p0, iv p1, iv p2, iv p3, iv p4, iv ca, iv cb, iv cc, iv cd_, iv (95 : Int32), iv (1 : Int32), rv b147, iv ex] [(.ref b147)]) A0 := by
      intro t kont
      refine g187 t ?_
      refine XS.istore X187.here hx rfl (hb hby at_90) rfl (l' := #[iv p0, iv p1, iv p2, iv p3, iv p4, iv ca, iv cb, iv cc, iv cd_, iv (95 : Int32), iv (1 : Int32), rv b147, iv ex]) rfl ?_
      refine XS.goto X187.here hx rfl (pc0 := 92) (pc' := 1142) rfl (hb hby at_92) (by decide) (by decide) ?_
      refine XS.aload X187.here hx rfl (hb hby at_1142) rfl rfl ?_
      exact kont
    obtain ⟨_, _, ⟨T197, L197, k197, n197⟩, -, X197, ⟨Lc197, hQ197, l197, y197, z197⟩, st197⟩ := Jvm.LawKit.callS X187 hx (y := (⟨"com/example/clear_fault/clearfault/Fault", "isValidCode", "(Ljava/lang/String;)Z"⟩ : MethodName)) hown (mvT hZ (hw _ (List.mem_of_getElem? (i := 23) rfl))) (mvT hZ (hw _ (List.mem_of_getElem? (i := 24) rfl))) (mvT hZ (hw _ (List.mem_of_getElem? (i := 25) rfl))) (mvT hZ (hw _ (List.mem_of_getElem? (i := 26) rfl))) (by decide) (backOf (W := 0) (rm_isV l Z a0 hw [] b147 r171 r172 i_COMPACT_STRINGS v_SIOOBE_FORMATTER r173 r174 r175 [ca] T166.heap n0 O184 S0_ hcs y176 y178 y177 y180 y181 (by simp) (by simp) ((own_ccons ⟨z_ca, b_ca⟩ own_cnil)) S2_ hfm S4_ S5_ S6_) hZ (hw _ (List.mem_of_getElem? (i := 26) rfl)) (hw _ (List.mem_of_getElem? (i := 25) rfl)) (by decide) (by decide)) (g := (mkF m 1144 #[iv p0, iv p1, iv p2, iv p3, iv p4, iv ca, iv cb, iv cc, iv cd_, iv (95 : Int32), iv (1 : Int32), rv b147, iv ex] [(.ref b147)])) rfl (by rw [hml]; rfl) (argsL := [(.ref b147)]) (rest := []) (lenOf pd_18 rfl) rfl (by show 2 * 0 + _ ≤ _; exact Nat.le_of_eq rfl) (hb hby at_1144) (fun _ _ => ⟨rfl, e187, (by decide : 4 + 0 ≤ _), (by decide : 200 + 0 ≤ _)⟩)
    dsimp only [Pt.U, Pt.locs, Pt.cells, Pt.slots] at X197 l197 y197 z197 st197 hQ197
    subst y197 z197
    obtain ⟨r198, rfl, M197, e197, y199, y200⟩ := hQ197
    have N197 : Fr n0 L197 := by rw [l197]; exact Fr.app N187 M197
    have g201 : Go p e below T197 (mkF m 1147 #[iv p0, iv p1, iv p2, iv p3, iv p4, iv ca, iv cb, iv cc, iv cd_, iv (95 : Int32), iv (1 : Int32), rv b147, iv ex] [(.int r198)]) A0 := fun t kont => g196 t (st197 t kont)
    have g202 : Go p e below T197 (mkF m 1157 #[iv p0, iv p1, iv p2, iv p3, iv p4, iv ca, iv cb, iv cc, iv cd_, iv (95 : Int32), iv (1 : Int32), rv b147, iv ex] [(.int (1 : Int32))]) A0 := by
      intro t kont
      refine g201 t ?_
      refine XS.iload X197.here hx rfl (hb hby at_1147) rfl ?_
      refine XS.icmpNo X197.here hx rfl (hb hby at_1149) rfl (teq (own_eqb y199 (y200.trans ((by rw [own_valid_cons]; simp [own_allt]) : own_valid [ca] ↔ (own_lw ca))) j194 j195 : r198 = ex)).2 ?_
      refine XS.iconst X197.here hx rfl (hb hby at_1152) ?_
      refine XS.goto X197.here hx rfl (pc0 := 1153) (pc' := 1157) rfl (hb hby at_1153) (by decide) (by decide) ?_
      exact kont
    obtain ⟨fs, hr, hrun, hended, hRW⟩ := X197.leaveW hS (by rw [e197]; exact (Nat.le_trans hk (Nat.le_trans (Nat.le_trans (Nat.le_trans E147.1 E154.1) (Keep.of_wr W160).1) K166.1))) (v := some (.int (1 : Int32))) (fun h => by rw [Bd.returns] at h; cases h)
    refine ⟨_, _, g202 _ (retN X197 hx (t := .boolean) Bd.returns (by simp) (hb hby at_1157) hr), hrun, hended, _, _, rfl, ?_, ?_, hRW.1, hRW.2.1, hRW.2.2.1, hRW.2.2.2.mono (by decide) (by decide)⟩
    ·
      show Q_law Z p0 p1 p2 p3 p4 i_COMPACT_STRINGS v_SIOOBE_FORMATTER h0 n0 _ T197.heap _
      rw [e197]
      exact ⟨rfl, N197⟩
    ·
      rw [hh]
      show CHr Z consts_1 s.vm h0 T197.vm T197.heap
      rw [e197]
      exact R182.trans (CHv.at X197 hZ (own_EW hw) R182.1)
  have g204 : Go p e below s₁ (mkF m 98 #[iv p0, iv p1, iv p2, iv p3, iv p4, iv ca, iv cb, iv cc, iv cd_, iv (95 : Int32), iv sel, .unset, .unset] [(.int (2 : Int32)), (.int sel)]) A0 := by
    intro t kont
    refine g145 t ?_
    refine XS.icmpYes X0.here hx rfl (pc0 := 65) (pc' := 95) rfl (hb hby at_65) rfl (feq c144).2 (by decide) (by decide) ?_
    refine XS.iload X0.here hx rfl (hb hby at_95) rfl ?_
    refine XS.iconst X0.here hx rfl (hb hby at_97) ?_
    exact kont
  by_cases c203 : sel = (2 : Int32)
  ·
    subst c203
    have g205 : Go p e below s₁ (mkF m 101 #[iv p0, iv p1, iv p2, iv p3, iv p4, iv ca, iv cb, iv cc, iv cd_, iv (95 : Int32), iv (2 : Int32), .unset, .unset] []) A0 := by
      intro t kont
      refine g204 t ?_
      refine XS.icmpNo X0.here hx rfl (hb hby at_98) rfl (teq (rfl : (2 : Int32) = (2 : Int32))).2 ?_
      exact kont
    obtain ⟨T206, h206, X206, e206, E206, A206, D206, -, st206⟩ := newO X0 hx hZ hown (hw _ (List.mem_of_getElem? (i := 1) rfl)) (hw _ (List.mem_of_getElem? (i := 2) rfl)) (hw _ (List.mem_of_getElem? (i := 3) rfl)) e0 (g := (mkF m 101 #[iv p0, iv p1, iv p2, iv p3, iv p4, iv ca, iv cb, iv cc, iv cd_, iv (95 : Int32), iv (2 : Int32), .unset, .unset] [])) rfl (hb hby at_101) (by decide) (by decide)
    obtain ⟨b206, gb206⟩ : ∃ z, z = h0.size := ⟨_, rfl⟩
    rw [← gb206] at A206 D206 st206
    have R207 : CHr Z consts_1 s.vm h0 s.vm h206 := R0.trans (CHr.ext E206 R0.1)
    have O208 := O0.ext E206
    have y209 : Fld Z h206 b206 "java/lang/String" "value" "[B" .null := D206 (Or.inr (hw _ (List.mem_of_getElem? (i := 17) rfl))) (ty := (.array .byte)) (by decide)
    have y210 : Fld Z h206 b206 "java/lang/String" "coder" "B" (.int (0 : Int32)) := D206 (Or.inr (hw _ (List.mem_of_getElem? (i := 18) rfl))) (ty := .byte) (by decide)
    have g211 : Go p e below T206 (mkF m 104 #[iv p0, iv p1, iv p2, iv p3, iv p4, iv ca, iv cb, iv cc, iv cd_, iv (95 : Int32), iv (2 : Int32), .unset, .unset] [(.ref b206)]) A0 := fun t kont => g205 t (st206 t kont)
    have g212 : Go p e below T206 (mkF m 106 #[iv p0, iv p1, iv p2, iv p3, iv p4, iv ca, iv cb, iv cc, iv cd_, iv (95 : Int32), iv (2 : Int32), .unset, .unset] [(.int (2 : Int32)), (.ref b206), (.ref b206)]) A0 := by
      intro t kont
      refine g211 t ?_
      refine XS.dup X206.here hx rfl (hb hby at_104) rfl rfl ?_
      refine XS.iconst X206.here hx rfl (hb hby at_105) ?_
      exact kont
    obtain ⟨T213, h213, k213, X213, e213, E213, A213, F213, st213⟩ := newPE X206 hx hZ (hw _ (List.mem_of_getElem? (i := 4) rfl)) e206 (g := (mkF m 106 #[iv p0, iv p1, iv p2, iv p3, iv p4, iv ca, iv cb, iv cc, iv cd_, iv (95 : Int32), iv (2 : Int32), .unset, .unset] [(.int (2 : Int32)), (.ref b206), (.ref b206)])) rfl (hb hby at_106) rfl (by decide) (cap := 2) (by decide) (by decide) (by decide) (by decide) (ad := "[C") (by decide)
    obtain ⟨b213, gb213⟩ : ∃ z, z = h206.size := ⟨_, rfl⟩
    rw [← gb213] at A213 F213 st213
    have R214 : CHr Z consts_1 s.vm h0 s.vm h213 := R207.trans (CHr.ext E213 R207.1)
    have O215 := O208.ext E213
    have y216 : Arv Z h213 b213 k213 .char (2 : Int32) [(.int (0 : Int32)), (.int (0 : Int32))] (.int (0 : Int32)) := (Arv.new A213 (by decide)).pad (pad_rep [] (.int (0 : Int32)) 2)
    have g217 : Go p e below T213 (mkF m 108 #[iv p0, iv p1, iv p2, iv p3, iv p4, iv ca, iv cb, iv cc, iv cd_, iv (95 : Int32), iv (2 : Int32), .unset, .unset] [(.ref b213), (.ref b206), (.ref b206)]) A0 := fun t kont => g212 t (st213 t kont)
    have g218 : Go p e below T213 (mkF m 112 #[iv p0, iv p1, iv p2, iv p3, iv p4, iv ca, iv cb, iv cc, iv cd_, iv (95 : Int32), iv (2 : Int32), .unset, .unset] [(.int ca), (.int (0 : Int32)), (.ref b213), (.ref b213), (.ref b206), (.ref b206)]) A0 := by
      intro t kont
      refine g217 t ?_
      refine XS.dup X213.here hx rfl (hb hby at_108) rfl rfl ?_
      refine XS.iconst X213.here hx rfl (hb hby at_109) ?_
      refine XS.iload X213.here hx rfl (hb hby at_110) rfl ?_
      exact kont
    have ge220 : n0 ≤ b213 := Nat.le_trans (own_old_le O208) (Nat.le_of_eq gb213.symm)
    have zz219 := y216
    obtain ⟨cl219, Ar219, q219, S219, M219, H219, G219⟩ := zz219
    have in219 : ¬ ((0 : Int32) < 0 ∨ cl219.slots.size ≤ ((0 : Int32)).toNatClampNeg) := inb_of S219 ⟨by decide, by decide⟩
    obtain ⟨T219, h219, X219, e219, W219, st219⟩ := stC X213 hx hZ e213 Ar219 (j := (0 : Int32)) in219 (g := (mkF m 112 #[iv p0, iv p1, iv p2, iv p3, iv p4, iv ca, iv cb, iv cc, iv cd_, iv (95 : Int32), iv (2 : Int32), .unset, .unset] [(.int ca), (.int (0 : Int32)), (.ref b213), (.ref b213), (.ref b206), (.ref b206)])) rfl rfl (hb hby at_112)
    rw [show nar .char ca = ca from r_ca] at W219
    have R221 : CHr Z consts_1 s.vm h0 s.vm h219 := R214.trans (CHr.wr W219 (Safe.ext E213 R207.1 (Safe.new (Nat.le_of_eq gb213.symm))) R214.1)
    have O222 := O215.wr W219 ge220
    have y223 : Arv Z h219 b213 k213 .char (2 : Int32) [(.int ca), (.int (0 : Int32))] (.int (0 : Int32)) := Arv.set Ar219 q219 S219 M219 H219 G219 (own_ft_char (z := ca) r_ca) W219 0 rfl (Nat.le_of_ble_eq_true rfl)
    have N219 := Fr.snoc X219 N0 ge220
    have g224 : Go p e below T219 (mkF m 113 #[iv p0, iv p1, iv p2, iv p3, iv p4, iv ca, iv cb, iv cc, iv cd_, iv (95 : Int32), iv (2 : Int32), .unset, .unset] [(.ref b213), (.ref b206), (.ref b206)]) A0 := fun t kont => g218 t (st219 t kont)
    have g225 : Go p e below T219 (mkF m 117 #[iv p0, iv p1, iv p2, iv p3, iv p4, iv ca, iv cb, iv cc, iv cd_, iv (95 : Int32), iv (2 : Int32), .unset, .unset] [(.int cb), (.int (1 : Int32)), (.ref b213), (.ref b213), (.ref b206), (.ref b206)]) A0 := by
      intro t kont
      refine g224 t ?_
      refine XS.dup X219.here hx rfl (hb hby at_113) rfl rfl ?_
      refine XS.iconst X219.here hx rfl (hb hby at_114) ?_
      refine XS.iload X219.here hx rfl (hb hby at_115) rfl ?_
      exact kont
    have zz226 := y223
    obtain ⟨cl226, Ar226, q226, S226, M226, H226, G226⟩ := zz226
    have in226 : ¬ ((1 : Int32) < 0 ∨ cl226.slots.size ≤ ((1 : Int32)).toNatClampNeg) := inb_of S226 ⟨by decide, by decide⟩
    obtain ⟨T226, h226, X226, e226, W226, st226⟩ := stC X219 hx hZ e219 Ar226 (j := (1 : Int32)) in226 (g := (mkF m 117 #[iv p0, iv p1, iv p2, iv p3, iv p4, iv ca, iv cb, iv cc, iv cd_, iv (95 : Int32), iv (2 : Int32), .unset, .unset] [(.int cb), (.int (1 : Int32)), (.ref b213), (.ref b213), (.ref b206), (.ref b206)])) rfl rfl (hb hby at_117)
    rw [show nar .char cb = cb from r_cb] at W226
    have sf228 : Safe Z consts_1 s.vm h219 b213 := (Safe.wr W219 (Safe.ext E213 R207.1 (Safe.new (Nat.le_of_eq gb213.symm))) R214.1 (Safe.ext E213 R207.1 (Safe.new (Nat.le_of_eq gb213.symm))))
    have R227 : CHr Z consts_1 s.vm h0 s.vm h226 := R221.trans (CHr.wr W226 sf228 R221.1)
    have O229 := O222.wr W226 ge220
    have y230 : Arv Z h226 b213 k213 .char (2 : Int32) [(.int ca), (.int cb)] (.int (0 : Int32)) := Arv.set Ar226 q226 S226 M226 H226 G226 (own_ft_char (z := cb) r_cb) W226 1 rfl (Nat.le_of_ble_eq_true rfl)
    have N226 := Fr.snoc X226 N219 ge220
    have g231 : Go p e below T226 (mkF m 118 #[iv p0, iv p1, iv p2, iv p3, iv p4, iv ca, iv cb, iv cc, iv cd_, iv (95 : Int32), iv (2 : Int32), .unset, .unset] [(.ref b213), (.ref b206), (.ref b206)]) A0 := fun t kont => g225 t (st226 t kont)
    have y233 : Fld Z h226 b206 "java/lang/String" "value" "[B" .null := (((y209.ext E213).other W219 (Or.inl (Nat.ne_of_lt (Nat.lt_of_lt_of_le A206.lt (Nat.le_of_eq gb213.symm))))).other W226 (Or.inl (Nat.ne_of_lt (Nat.lt_of_lt_of_le A206.lt (Nat.le_of_eq gb213.symm)))))
    have y234 : Fld Z h226 b206 "java/lang/String" "coder" "B" (.int (0 : Int32)) := (((y210.ext E213).other W219 (Or.inl (Nat.ne_of_lt (Nat.lt_of_lt_of_le A206.lt (Nat.le_of_eq gb213.symm))))).other W226 (Or.inl (Nat.ne_of_lt (Nat.lt_of_lt_of_le A206.lt (Nat.le_of_eq gb213.symm)))))
    have y235 : Exa Z h226 b206 "java/lang/String" := (((A206.ext E213).wr W219).wr W226)
    have ge236 : n0 ≤ b206 := Nat.le_trans (own_old_le O0) (Nat.le_of_eq gb206.symm)
    obtain ⟨_, _, ⟨T232, L232, k232, n232⟩, -, X232, ⟨Lc232, hQ232, l232, y232, z232⟩, st232⟩ := X226.specialBack hx (y := (⟨"java/lang/String", "<init>", "([C)V"⟩ : MethodName)) rfl hown (mvT hZ (hw _ (List.mem_of_getElem? (i := 5) rfl))) (mvT hZ (hw _ (List.mem_of_getElem? (i := 6) rfl))) (mvT hZ (hw _ (List.mem_of_getElem? (i := 7) rfl))) (by decide) (backOf (W := 1) (rm_sIniG l Z a0 hw [] b206 b213 k213 [ca, cb] i_COMPACT_STRINGS h226 n0 O229 y233 y234 y235 ge236 y230 (by simp) (by simp) ((own_ccons ⟨z_ca, b_ca⟩ (own_ccons ⟨z_cb, b_cb⟩ own_cnil))) S0_ hcs S4_ S5_ S6_) hZ (hw _ (List.mem_of_getElem? (i := 7) rfl)) (hw _ (List.mem_of_getElem? (i := 3) rfl)) (by decide) (by decide)) (g := (mkF m 118 #[iv p0, iv p1, iv p2, iv p3, iv p4, iv ca, iv cb, iv cc, iv cd_, iv (95 : Int32), iv (2 : Int32), .unset, .unset] [(.ref b213), (.ref b206), (.ref b206)])) rfl (by rw [hml]; rfl) (Steps.refl _) (a := b206) (argsL := [(.ref b213)]) (rest := [(.ref b206)]) (lenOf pd_17 rfl) rfl (by show 2 * 0 + _ ≤ _; exact Nat.le_of_eq rfl) (hb hby at_118) (fun _ _ => ⟨rfl, e226, (by decide : 2 + 2 ≤ _), (by decide : 6 + 195 ≤ _)⟩)
    dsimp only [Pt.U, Pt.locs, Pt.cells, Pt.slots] at X232 l232 y232 z232 st232 hQ232
    subst y232 z232
    obtain ⟨r237, r238, r239, r240, r241, rfl, M232, K232, y242, y243, y244, y245, y246, y247⟩ := hQ232
    have N232 : Fr n0 L232 := by rw [l232]; exact Fr.app N226 M232
    have sf249 : Safe Z consts_1 s.vm h226 b206 := (Safe.wr W226 sf228 R221.1 (Safe.wr W219 (Safe.ext E213 R207.1 (Safe.new (Nat.le_of_eq gb213.symm))) R214.1 (Safe.ext E213 R207.1 (Safe.ext E206 R0.1 (Safe.new (Nat.le_of_eq gb206.symm))))))
    have R248 : CHr Z consts_1 s.vm h0 s.vm T232.heap := R227.trans (CHr.keep K232 (sfS sf249 sf0) R227.1)
    have O250 := O229.keep K232 (allS ge236 all0)
    have g251 : Go p e below T232 (mkF m 121 #[iv p0, iv p1, iv p2, iv p3, iv p4, iv ca, iv cb, iv cc, iv cd_, iv (95 : Int32), iv (2 : Int32), .unset, .unset] [(.ref b206)]) A0 := fun t kont => g231 t (st232.trans kont)
    have g252 : Go p e below T232 (mkF m 123 #[iv p0, iv p1, iv p2, iv p3, iv p4, iv ca, iv cb, iv cc, iv cd_, iv (95 : Int32), iv (2 : Int32), rv b206, .unset] []) A0 := by
      intro t kont
      refine g251 t ?_
      refine XS.astore X232.here hx rfl (hb hby at_121) rfl rfl (l' := #[iv p0, iv p1, iv p2, iv p3, iv p4, iv ca, iv cb, iv cc, iv cd_, iv (95 : Int32), iv (2 : Int32), rv b206, .unset]) rfl ?_
      exact kont
    obtain ⟨ex, T253, lc253, X253, e253, N253, g253, j271, j272⟩ : ∃ ex : Int32, ∃ (T253 : State) (lc253 : List Loc), Stand p l e room_1 (s.setVm s.vm) m #[(.int p0), (.int p1), (.int p2), (.int p3), (.int p4)] below meth c T253 lc253 4 201 ∧ T253.heap = T232.heap ∧ Fr n0 lc253 ∧ Go p e below T253 (mkF m 144 #[iv p0, iv p1, iv p2, iv p3, iv p4, iv ca, iv cb, iv cc, iv cd_, iv (95 : Int32), iv (2 : Int32), rv b206, .unset] [(.int ex)]) A0 ∧ (ex = (0 : Int32) ∨ ex = (1 : Int32)) ∧ (ex = (1 : Int32) ↔ (own_lw ca ∧ own_tl cb)) := by
      have g254 : Go p e below T232 (mkF m 125 #[iv p0, iv p1, iv p2, iv p3, iv p4, iv ca, iv cb, iv cc, iv cd_, iv (95 : Int32), iv (2 : Int32), rv b206, .unset] [(.int ca)]) A0 := by
        intro t kont
        refine g252 t ?_
        refine XS.iload X232.here hx rfl (hb hby at_123) rfl ?_
        exact kont
      obtain ⟨_, _, ⟨T255, L255, k255, n255⟩, -, X255, ⟨Lc255, hQ255, l255, y255, z255⟩, st255⟩ := Jvm.LawKit.callS X232 hx (y := (⟨"com/example/clear_fault/clearfault/FaultIsValidCodePinLaw", "lower", "(C)Z"⟩ : MethodName)) hown (mvT hZ (hw _ (List.mem_of_getElem? (i := 53) rfl))) (mvT hZ (hw _ (List.mem_of_getElem? (i := 54) rfl))) (mvT hZ (hw _ (List.mem_of_getElem? (i := 55) rfl))) (mvT hZ (hw _ (List.mem_of_getElem? (i := 56) rfl))) (by decide) (backOf (W := 0) (rm_low l Z a0 hw [] ca T232.heap n0 O250 ) hZ (hw _ (List.mem_of_getElem? (i := 56) rfl)) (hw _ (List.mem_of_getElem? (i := 55) rfl)) (by decide) (by decide)) (g := (mkF m 125 #[iv p0, iv p1, iv p2, iv p3, iv p4, iv ca, iv cb, iv cc, iv cd_, iv (95 : Int32), iv (2 : Int32), rv b206, .unset] [(.int ca)])) rfl (by rw [hml]; rfl) (argsL := [(.int ca)]) (rest := []) (lenOf pd_0 rfl) rfl (by show 2 * 0 + _ ≤ _; exact Nat.le_of_eq rfl) (hb hby at_125) (fun _ _ => ⟨rfl, rfl, (by decide : 4 + 0 ≤ _), (by decide : 201 + 0 ≤ _)⟩)
      dsimp only [Pt.U, Pt.locs, Pt.cells, Pt.slots] at X255 l255 y255 z255 st255 hQ255
      subst y255 z255
      obtain ⟨r256, rfl, M255, e255, y257, y258⟩ := hQ255
      have N255 : Fr n0 L255 := by rw [l255]; exact Fr.app N232 M255
      have g259 : Go p e below T255 (mkF m 128 #[iv p0, iv p1, iv p2, iv p3, iv p4, iv ca, iv cb, iv cc, iv cd_, iv (95 : Int32), iv (2 : Int32), rv b206, .unset] [(.int r256)]) A0 := fun t kont => g254 t (st255 t kont)
      by_cases c260 : r256 = (0 : Int32)
      ·
        have g261 : Go p e below T255 (mkF m 144 #[iv p0, iv p1, iv p2, iv p3, iv p4, iv ca, iv cb, iv cc, iv cd_, iv (95 : Int32), iv (2 : Int32), rv b206, .unset] [(.int (0 : Int32))]) A0 := by
          intro t kont
          refine g259 t ?_
          refine XS.ifYes X255.here hx rfl (pc0 := 128) (pc' := 143) rfl (hb hby at_128) rfl ((if0 _ _).trans (teq c260).1) (by decide) (by decide) ?_
          refine XS.iconst X255.here hx rfl (hb hby at_143) ?_
          exact kont
        exact ⟨(0 : Int32), _, _, X255, e255, N255, g261, (Or.inl rfl), (iff_of_false (by decide) (fun q => own_b0 y258 c260 q.1))⟩
      have g262 : Go p e below T255 (mkF m 133 #[iv p0, iv p1, iv p2, iv p3, iv p4, iv ca, iv cb, iv cc, iv cd_, iv (95 : Int32), iv (2 : Int32), rv b206, .unset] [(.int cb)]) A0 := by
        intro t kont
        refine g259 t ?_
        refine XS.ifNo X255.here hx rfl (hb hby at_128) rfl ((if0 _ _).trans (feq c260).1) ?_
        refine XS.iload X255.here hx rfl (hb hby at_131) rfl ?_
        exact kont
      obtain ⟨_, _, ⟨T263, L263, k263, n263⟩, -, X263, ⟨Lc263, hQ263, l263, y263, z263⟩, st263⟩ := Jvm.LawKit.callS X255 hx (y := (⟨"com/example/clear_fault/clearfault/FaultIsValidCodePinLaw", "tail", "(C)Z"⟩ : MethodName)) hown (mvT hZ (hw _ (List.mem_of_getElem? (i := 108) rfl))) (mvT hZ (hw _ (List.mem_of_getElem? (i := 109) rfl))) (mvT hZ (hw _ (List.mem_of_getElem? (i := 55) rfl))) (mvT hZ (hw _ (List.mem_of_getElem? (i := 110) rfl))) (by decide) (backOf (W := 0) (rm_tail l Z a0 hw [] cb T232.heap n0 O250 ) hZ (hw _ (List.mem_of_getElem? (i := 110) rfl)) (hw _ (List.mem_of_getElem? (i := 55) rfl)) (by decide) (by decide)) (g := (mkF m 133 #[iv p0, iv p1, iv p2, iv p3, iv p4, iv ca, iv cb, iv cc, iv cd_, iv (95 : Int32), iv (2 : Int32), rv b206, .unset] [(.int cb)])) rfl (by rw [hml]; rfl) (argsL := [(.int cb)]) (rest := []) (lenOf pd_0 rfl) rfl (by show 2 * 0 + _ ≤ _; exact Nat.le_of_eq rfl) (hb hby at_133) (fun _ _ => ⟨rfl, e255, (by decide : 4 + 0 ≤ _), (by decide : 201 + 0 ≤ _)⟩)
      dsimp only [Pt.U, Pt.locs, Pt.cells, Pt.slots] at X263 l263 y263 z263 st263 hQ263
      subst y263 z263
      obtain ⟨r264, rfl, M263, e263, y265, y266⟩ := hQ263
      have N263 : Fr n0 L263 := by rw [l263]; exact Fr.app N255 M263
      have g267 : Go p e below T263 (mkF m 136 #[iv p0, iv p1, iv p2, iv p3, iv p4, iv ca, iv cb, iv cc, iv cd_, iv (95 : Int32), iv (2 : Int32), rv b206, .unset] [(.int r264)]) A0 := fun t kont => g262 t (st263 t kont)
      by_cases c268 : r264 = (0 : Int32)
      ·
        have g269 : Go p e below T263 (mkF m 144 #[iv p0, iv p1, iv p2, iv p3, iv p4, iv ca, iv cb, iv cc, iv cd_, iv (95 : Int32), iv (2 : Int32), rv b206, .unset] [(.int (0 : Int32))]) A0 := by
          intro t kont
          refine g267 t ?_
          refine XS.ifYes X263.here hx rfl (pc0 := 136) (pc' := 143) rfl (hb hby at_136) rfl ((if0 _ _).trans (teq c268).1) (by decide) (by decide) ?_
          refine XS.iconst X263.here hx rfl (hb hby at_143) ?_
          exact kont
        exact ⟨(0 : Int32), _, _, X263, e263, N263, g269, (Or.inl rfl), (iff_of_false (by decide) (fun q => own_b0 y266 c268 q.2))⟩
      have g270 : Go p e below T263 (mkF m 144 #[iv p0, iv p1, iv p2, iv p3, iv p4, iv ca, iv cb, iv cc, iv cd_, iv (95 : Int32), iv (2 : Int32), rv b206, .unset] [(.int (1 : Int32))]) A0 := by
        intro t kont
        refine g267 t ?_
        refine XS.ifNo X263.here hx rfl (hb hby at_136) rfl ((if0 _ _).trans (feq c268).1) ?_
        refine XS.iconst X263.here hx rfl (hb hby at_139) ?_
        refine XS.goto X263.here hx rfl (pc0 := 140) (pc' := 144) rfl (hb hby at_140) (by decide) (by decide) ?_
        exact kont
      exact ⟨(1 : Int32), _, _, X263, e263, N263, g270, (Or.inr rfl), (iff_of_true rfl ⟨own_b1 y257 y258 c260, own_b1 y265 y266 c268⟩)⟩
    have g273 : Go p e below T253 (mkF m 1144 #[iv p0, iv p1, iv p2, iv p3, iv p4, iv ca, iv cb, iv cc, iv cd_, iv (95 : Int32), iv (2 : Int32), rv b206, iv ex] [(.ref b206)]) A0 := by
      intro t kont
      refine g253 t ?_
      refine XS.istore X253.here hx rfl (hb hby at_144) rfl (l' := #[iv p0, iv p1, iv p2, iv p3, iv p4, iv ca, iv cb, iv cc, iv cd_, iv (95 : Int32), iv (2 : Int32), rv b206, iv ex]) rfl ?_
      refine XS.goto X253.here hx rfl (pc0 := 146) (pc' := 1142) rfl (hb hby at_146) (by decide) (by decide) ?_
      refine XS.aload X253.here hx rfl (hb hby at_1142) rfl rfl ?_
      exact kont
    obtain ⟨_, _, ⟨T274, L274, k274, n274⟩, -, X274, ⟨Lc274, hQ274, l274, y274, z274⟩, st274⟩ := Jvm.LawKit.callS X253 hx (y := (⟨"com/example/clear_fault/clearfault/Fault", "isValidCode", "(Ljava/lang/String;)Z"⟩ : MethodName)) hown (mvT hZ (hw _ (List.mem_of_getElem? (i := 23) rfl))) (mvT hZ (hw _ (List.mem_of_getElem? (i := 24) rfl))) (mvT hZ (hw _ (List.mem_of_getElem? (i := 25) rfl))) (mvT hZ (hw _ (List.mem_of_getElem? (i := 26) rfl))) (by decide) (backOf (W := 0) (rm_isV l Z a0 hw [] b206 r237 r238 i_COMPACT_STRINGS v_SIOOBE_FORMATTER r239 r240 r241 [ca, cb] T232.heap n0 O250 S0_ hcs y242 y244 y243 y246 y247 (by simp) (by simp) ((own_ccons ⟨z_ca, b_ca⟩ (own_ccons ⟨z_cb, b_cb⟩ own_cnil))) S2_ hfm S4_ S5_ S6_) hZ (hw _ (List.mem_of_getElem? (i := 26) rfl)) (hw _ (List.mem_of_getElem? (i := 25) rfl)) (by decide) (by decide)) (g := (mkF m 1144 #[iv p0, iv p1, iv p2, iv p3, iv p4, iv ca, iv cb, iv cc, iv cd_, iv (95 : Int32), iv (2 : Int32), rv b206, iv ex] [(.ref b206)])) rfl (by rw [hml]; rfl) (argsL := [(.ref b206)]) (rest := []) (lenOf pd_18 rfl) rfl (by show 2 * 0 + _ ≤ _; exact Nat.le_of_eq rfl) (hb hby at_1144) (fun _ _ => ⟨rfl, e253, (by decide : 4 + 0 ≤ _), (by decide : 201 + 0 ≤ _)⟩)
    dsimp only [Pt.U, Pt.locs, Pt.cells, Pt.slots] at X274 l274 y274 z274 st274 hQ274
    subst y274 z274
    obtain ⟨r275, rfl, M274, e274, y276, y277⟩ := hQ274
    have N274 : Fr n0 L274 := by rw [l274]; exact Fr.app N253 M274
    have g278 : Go p e below T274 (mkF m 1147 #[iv p0, iv p1, iv p2, iv p3, iv p4, iv ca, iv cb, iv cc, iv cd_, iv (95 : Int32), iv (2 : Int32), rv b206, iv ex] [(.int r275)]) A0 := fun t kont => g273 t (st274 t kont)
    have g279 : Go p e below T274 (mkF m 1157 #[iv p0, iv p1, iv p2, iv p3, iv p4, iv ca, iv cb, iv cc, iv cd_, iv (95 : Int32), iv (2 : Int32), rv b206, iv ex] [(.int (1 : Int32))]) A0 := by
      intro t kont
      refine g278 t ?_
      refine XS.iload X274.here hx rfl (hb hby at_1147) rfl ?_
      refine XS.icmpNo X274.here hx rfl (hb hby at_1149) rfl (teq (own_eqb y276 (y277.trans ((by rw [own_valid_cons]; simp [own_allt]) : own_valid [ca, cb] ↔ (own_lw ca ∧ own_tl cb))) j271 j272 : r275 = ex)).2 ?_
      refine XS.iconst X274.here hx rfl (hb hby at_1152) ?_
      refine XS.goto X274.here hx rfl (pc0 := 1153) (pc' := 1157) rfl (hb hby at_1153) (by decide) (by decide) ?_
      exact kont
    obtain ⟨fs, hr, hrun, hended, hRW⟩ := X274.leaveW hS (by rw [e274]; exact (Nat.le_trans hk (Nat.le_trans (Nat.le_trans (Nat.le_trans (Nat.le_trans E206.1 E213.1) (Keep.of_wr W219).1) (Keep.of_wr W226).1) K232.1))) (v := some (.int (1 : Int32))) (fun h => by rw [Bd.returns] at h; cases h)
    refine ⟨_, _, g279 _ (retN X274 hx (t := .boolean) Bd.returns (by simp) (hb hby at_1157) hr), hrun, hended, _, _, rfl, ?_, ?_, hRW.1, hRW.2.1, hRW.2.2.1, hRW.2.2.2.mono (by decide) (by decide)⟩
    ·
      show Q_law Z p0 p1 p2 p3 p4 i_COMPACT_STRINGS v_SIOOBE_FORMATTER h0 n0 _ T274.heap _
      rw [e274]
      exact ⟨rfl, N274⟩
    ·
      rw [hh]
      show CHr Z consts_1 s.vm h0 T274.vm T274.heap
      rw [e274]
      exact R248.trans (CHv.at X274 hZ (own_EW hw) R248.1)
  have g281 : Go p e below s₁ (mkF m 152 #[iv p0, iv p1, iv p2, iv p3, iv p4, iv ca, iv cb, iv cc, iv cd_, iv (95 : Int32), iv sel, .unset, .unset] [(.int (3 : Int32)), (.int sel)]) A0 := by
    intro t kont
    refine g204 t ?_
    refine XS.icmpYes X0.here hx rfl (pc0 := 98) (pc' := 149) rfl (hb hby at_98) rfl (feq c203).2 (by decide) (by decide) ?_
    refine XS.iload X0.here hx rfl (hb hby at_149) rfl ?_
    refine XS.iconst X0.here hx rfl (hb hby at_151) ?_
    exact kont
  by_cases c280 : sel = (3 : Int32)
  ·
    subst c280
    have g282 : Go p e below s₁ (mkF m 155 #[iv p0, iv p1, iv p2, iv p3, iv p4, iv ca, iv cb, iv cc, iv cd_, iv (95 : Int32), iv (3 : Int32), .unset, .unset] []) A0 := by
      intro t kont
      refine g281 t ?_
      refine XS.icmpNo X0.here hx rfl (hb hby at_152) rfl (teq (rfl : (3 : Int32) = (3 : Int32))).2 ?_
      exact kont
    obtain ⟨T283, h283, X283, e283, E283, A283, D283, -, st283⟩ := newO X0 hx hZ hown (hw _ (List.mem_of_getElem? (i := 1) rfl)) (hw _ (List.mem_of_getElem? (i := 2) rfl)) (hw _ (List.mem_of_getElem? (i := 3) rfl)) e0 (g := (mkF m 155 #[iv p0, iv p1, iv p2, iv p3, iv p4, iv ca, iv cb, iv cc, iv cd_, iv (95 : Int32), iv (3 : Int32), .unset, .unset] [])) rfl (hb hby at_155) (by decide) (by decide)
    obtain ⟨b283, gb283⟩ : ∃ z, z = h0.size := ⟨_, rfl⟩
    rw [← gb283] at A283 D283 st283
    have R284 : CHr Z consts_1 s.vm h0 s.vm h283 := R0.trans (CHr.ext E283 R0.1)
    have O285 := O0.ext E283
    have y286 : Fld Z h283 b283 "java/lang/String" "value" "[B" .null := D283 (Or.inr (hw _ (List.mem_of_getElem? (i := 17) rfl))) (ty := (.array .byte)) (by decide)
    have y287 : Fld Z h283 b283 "java/lang/String" "coder" "B" (.int (0 : Int32)) := D283 (Or.inr (hw _ (List.mem_of_getElem? (i := 18) rfl))) (ty := .byte) (by decide)
    have g288 : Go p e below T283 (mkF m 158 #[iv p0, iv p1, iv p2, iv p3, iv p4, iv ca, iv cb, iv cc, iv cd_, iv (95 : Int32), iv (3 : Int32), .unset, .unset] [(.ref b283)]) A0 := fun t kont => g282 t (st283 t kont)
    have g289 : Go p e below T283 (mkF m 160 #[iv p0, iv p1, iv p2, iv p3, iv p4, iv ca, iv cb, iv cc, iv cd_, iv (95 : Int32), iv (3 : Int32), .unset, .unset] [(.int (3 : Int32)), (.ref b283), (.ref b283)]) A0 := by
      intro t kont
      refine g288 t ?_
      refine XS.dup X283.here hx rfl (hb hby at_158) rfl rfl ?_
      refine XS.iconst X283.here hx rfl (hb hby at_159) ?_
      exact kont
    obtain ⟨T290, h290, k290, X290, e290, E290, A290, F290, st290⟩ := newPE X283 hx hZ (hw _ (List.mem_of_getElem? (i := 4) rfl)) e283 (g := (mkF m 160 #[iv p0, iv p1, iv p2, iv p3, iv p4, iv ca, iv cb, iv cc, iv cd_, iv (95 : Int32), iv (3 : Int32), .unset, .unset] [(.int (3 : Int32)), (.ref b283), (.ref b283)])) rfl (hb hby at_160) rfl (by decide) (cap := 3) (by decide) (by decide) (by decide) (by decide) (ad := "[C") (by decide)
    obtain ⟨b290, gb290⟩ : ∃ z, z = h283.size := ⟨_, rfl⟩
    rw [← gb290] at A290 F290 st290
    have R291 : CHr Z consts_1 s.vm h0 s.vm h290 := R284.trans (CHr.ext E290 R284.1)
    have O292 := O285.ext E290
    have y293 : Arv Z h290 b290 k290 .char (3 : Int32) [(.int (0 : Int32)), (.int (0 : Int32)), (.int (0 : Int32))] (.int (0 : Int32)) := (Arv.new A290 (by decide)).pad (pad_rep [] (.int (0 : Int32)) 3)
    have g294 : Go p e below T290 (mkF m 162 #[iv p0, iv p1, iv p2, iv p3, iv p4, iv ca, iv cb, iv cc, iv cd_, iv (95 : Int32), iv (3 : Int32), .unset, .unset] [(.ref b290), (.ref b283), (.ref b283)]) A0 := fun t kont => g289 t (st290 t kont)
    have g295 : Go p e below T290 (mkF m 166 #[iv p0, iv p1, iv p2, iv p3, iv p4, iv ca, iv cb, iv cc, iv cd_, iv (95 : Int32), iv (3 : Int32), .unset, .unset] [(.int ca), (.int (0 : Int32)), (.ref b290), (.ref b290), (.ref b283), (.ref b283)]) A0 := by
      intro t kont
      refine g294 t ?_
      refine XS.dup X290.here hx rfl (hb hby at_162) rfl rfl ?_
      refine XS.iconst X290.here hx rfl (hb hby at_163) ?_
      refine XS.iload X290.here hx rfl (hb hby at_164) rfl ?_
      exact kont
    have ge297 : n0 ≤ b290 := Nat.le_trans (own_old_le O285) (Nat.le_of_eq gb290.symm)
    have zz296 := y293
    obtain ⟨cl296, Ar296, q296, S296, M296, H296, G296⟩ := zz296
    have in296 : ¬ ((0 : Int32) < 0 ∨ cl296.slots.size ≤ ((0 : Int32)).toNatClampNeg) := inb_of S296 ⟨by decide, by decide⟩
    obtain ⟨T296, h296, X296, e296, W296, st296⟩ := stC X290 hx hZ e290 Ar296 (j := (0 : Int32)) in296 (g := (mkF m 166 #[iv p0, iv p1, iv p2, iv p3, iv p4, iv ca, iv cb, iv cc, iv cd_, iv (95 : Int32), iv (3 : Int32), .unset, .unset] [(.int ca), (.int (0 : Int32)), (.ref b290), (.ref b290), (.ref b283), (.ref b283)])) rfl rfl (hb hby at_166)
    rw [show nar .char ca = ca from r_ca] at W296
    have R298 : CHr Z consts_1 s.vm h0 s.vm h296 := R291.trans (CHr.wr W296 (Safe.ext E290 R284.1 (Safe.new (Nat.le_of_eq gb290.symm))) R291.1)
    have O299 := O292.wr W296 ge297
    have y300 : Arv Z h296 b290 k290 .char (3 : Int32) [(.int ca), (.int (0 : Int32)), (.int (0 : Int32))] (.int (0 : Int32)) := Arv.set Ar296 q296 S296 M296 H296 G296 (own_ft_char (z := ca) r_ca) W296 0 rfl (Nat.le_of_ble_eq_true rfl)
    have N296 := Fr.snoc X296 N0 ge297
    have g301 : Go p e below T296 (mkF m 167 #[iv p0, iv p1, iv p2, iv p3, iv p4, iv ca, iv cb, iv cc, iv cd_, iv (95 : Int32), iv (3 : Int32), .unset, .unset] [(.ref b290), (.ref b283), (.ref b283)]) A0 := fun t kont => g295 t (st296 t kont)
    have g302 : Go p e below T296 (mkF m 171 #[iv p0, iv p1, iv p2, iv p3, iv p4, iv ca, iv cb, iv cc, iv cd_, iv (95 : Int32), iv (3 : Int32), .unset, .unset] [(.int cb), (.int (1 : Int32)), (.ref b290), (.ref b290), (.ref b283), (.ref b283)]) A0 := by
      intro t kont
      refine g301 t ?_
      refine XS.dup X296.here hx rfl (hb hby at_167) rfl rfl ?_
      refine XS.iconst X296.here hx rfl (hb hby at_168) ?_
      refine XS.iload X296.here hx rfl (hb hby at_169) rfl ?_
      exact kont
    have zz303 := y300
    obtain ⟨cl303, Ar303, q303, S303, M303, H303, G303⟩ := zz303
    have in303 : ¬ ((1 : Int32) < 0 ∨ cl303.slots.size ≤ ((1 : Int32)).toNatClampNeg) := inb_of S303 ⟨by decide, by decide⟩
    obtain ⟨T303, h303, X303, e303, W303, st303⟩ := stC X296 hx hZ e296 Ar303 (j := (1 : Int32)) in303 (g := (mkF m 171 #[iv p0, iv p1, iv p2, iv p3, iv p4, iv ca, iv cb, iv cc, iv cd_, iv (95 : Int32), iv (3 : Int32), .unset, .unset] [(.int cb), (.int (1 : Int32)), (.ref b290), (.ref b290), (.ref b283), (.ref b283)])) rfl rfl (hb hby at_171)
    rw [show nar .char cb = cb from r_cb] at W303
    have sf305 : Safe Z consts_1 s.vm h296 b290 := (Safe.wr W296 (Safe.ext E290 R284.1 (Safe.new (Nat.le_of_eq gb290.symm))) R291.1 (Safe.ext E290 R284.1 (Safe.new (Nat.le_of_eq gb290.symm))))
    have R304 : CHr Z consts_1 s.vm h0 s.vm h303 := R298.trans (CHr.wr W303 sf305 R298.1)
    have O306 := O299.wr W303 ge297
    have y307 : Arv Z h303 b290 k290 .char (3 : Int32) [(.int ca), (.int cb), (.int (0 : Int32))] (.int (0 : Int32)) := Arv.set Ar303 q303 S303 M303 H303 G303 (own_ft_char (z := cb) r_cb) W303 1 rfl (Nat.le_of_ble_eq_true rfl)
    have N303 := Fr.snoc X303 N296 ge297
    have g308 : Go p e below T303 (mkF m 172 #[iv p0, iv p1, iv p2, iv p3, iv p4, iv ca, iv cb, iv cc, iv cd_, iv (95 : Int32), iv (3 : Int32), .unset, .unset] [(.ref b290), (.ref b283), (.ref b283)]) A0 := fun t kont => g302 t (st303 t kont)
    have g309 : Go p e below T303 (mkF m 176 #[iv p0, iv p1, iv p2, iv p3, iv p4, iv ca, iv cb, iv cc, iv cd_, iv (95 : Int32), iv (3 : Int32), .unset, .unset] [(.int cc), (.int (2 : Int32)), (.ref b290), (.ref b290), (.ref b283), (.ref b283)]) A0 := by
      intro t kont
      refine g308 t ?_
      refine XS.dup X303.here hx rfl (hb hby at_172) rfl rfl ?_
      refine XS.iconst X303.here hx rfl (hb hby at_173) ?_
      refine XS.iload X303.here hx rfl (hb hby at_174) rfl ?_
      exact kont
    have zz310 := y307
    obtain ⟨cl310, Ar310, q310, S310, M310, H310, G310⟩ := zz310
    have in310 : ¬ ((2 : Int32) < 0 ∨ cl310.slots.size ≤ ((2 : Int32)).toNatClampNeg) := inb_of S310 ⟨by decide, by decide⟩
    obtain ⟨T310, h310, X310, e310, W310, st310⟩ := stC X303 hx hZ e303 Ar310 (j := (2 : Int32)) in310 (g := (mkF m 176 #[iv p0, iv p1, iv p2, iv p3, iv p4, iv ca, iv cb, iv cc, iv cd_, iv (95 : Int32), iv (3 : Int32), .unset, .unset] [(.int cc), (.int (2 : Int32)), (.ref b290), (.ref b290), (.ref b283), (.ref b283)])) rfl rfl (hb hby at_176)
    rw [show nar .char cc = cc from r_cc] at W310
    have sf312 : Safe Z consts_1 s.vm h303 b290 := (Safe.wr W303 sf305 R298.1 sf305)
    have R311 : CHr Z consts_1 s.vm h0 s.vm h310 := R304.trans (CHr.wr W310 sf312 R304.1)
    have O313 := O306.wr W310 ge297
    have y314 : Arv Z h310 b290 k290 .char (3 : Int32) [(.int ca), (.int cb), (.int cc)] (.int (0 : Int32)) := Arv.set Ar310 q310 S310 M310 H310 G310 (own_ft_char (z := cc) r_cc) W310 2 rfl (Nat.le_of_ble_eq_true rfl)
    have N310 := Fr.snoc X310 N303 ge297
    have g315 : Go p e below T310 (mkF m 177 #[iv p0, iv p1, iv p2, iv p3, iv p4, iv ca, iv cb, iv cc, iv cd_, iv (95 : Int32), iv (3 : Int32), .unset, .unset] [(.ref b290), (.ref b283), (.ref b283)]) A0 := fun t kont => g309 t (st310 t kont)
    have y317 : Fld Z h310 b283 "java/lang/String" "value" "[B" .null := ((((y286.ext E290).other W296 (Or.inl (Nat.ne_of_lt (Nat.lt_of_lt_of_le A283.lt (Nat.le_of_eq gb290.symm))))).other W303 (Or.inl (Nat.ne_of_lt (Nat.lt_of_lt_of_le A283.lt (Nat.le_of_eq gb290.symm))))).other W310 (Or.inl (Nat.ne_of_lt (Nat.lt_of_lt_of_le A283.lt (Nat.le_of_eq gb290.symm)))))
    have y318 : Fld Z h310 b283 "java/lang/String" "coder" "B" (.int (0 : Int32)) := ((((y287.ext E290).other W296 (Or.inl (Nat.ne_of_lt (Nat.lt_of_lt_of_le A283.lt (Nat.le_of_eq gb290.symm))))).other W303 (Or.inl (Nat.ne_of_lt (Nat.lt_of_lt_of_le A283.lt (Nat.le_of_eq gb290.symm))))).other W310 (Or.inl (Nat.ne_of_lt (Nat.lt_of_lt_of_le A283.lt (Nat.le_of_eq gb290.symm)))))
    have y319 : Exa Z h310 b283 "java/lang/String" := ((((A283.ext E290).wr W296).wr W303).wr W310)
    have ge320 : n0 ≤ b283 := Nat.le_trans (own_old_le O0) (Nat.le_of_eq gb283.symm)
    obtain ⟨_, _, ⟨T316, L316, k316, n316⟩, -, X316, ⟨Lc316, hQ316, l316, y316, z316⟩, st316⟩ := X310.specialBack hx (y := (⟨"java/lang/String", "<init>", "([C)V"⟩ : MethodName)) rfl hown (mvT hZ (hw _ (List.mem_of_getElem? (i := 5) rfl))) (mvT hZ (hw _ (List.mem_of_getElem? (i := 6) rfl))) (mvT hZ (hw _ (List.mem_of_getElem? (i := 7) rfl))) (by decide) (backOf (W := 1) (rm_sIniG l Z a0 hw [] b283 b290 k290 [ca, cb, cc] i_COMPACT_STRINGS h310 n0 O313 y317 y318 y319 ge320 y314 (by simp) (by simp) ((own_ccons ⟨z_ca, b_ca⟩ (own_ccons ⟨z_cb, b_cb⟩ (own_ccons ⟨z_cc, b_cc⟩ own_cnil)))) S0_ hcs S4_ S5_ S6_) hZ (hw _ (List.mem_of_getElem? (i := 7) rfl)) (hw _ (List.mem_of_getElem? (i := 3) rfl)) (by decide) (by decide)) (g := (mkF m 177 #[iv p0, iv p1, iv p2, iv p3, iv p4, iv ca, iv cb, iv cc, iv cd_, iv (95 : Int32), iv (3 : Int32), .unset, .unset] [(.ref b290), (.ref b283), (.ref b283)])) rfl (by rw [hml]; rfl) (Steps.refl _) (a := b283) (argsL := [(.ref b290)]) (rest := [(.ref b283)]) (lenOf pd_17 rfl) rfl (by show 2 * 0 + _ ≤ _; exact Nat.le_of_eq rfl) (hb hby at_177) (fun _ _ => ⟨rfl, e310, (by decide : 2 + 2 ≤ _), (by decide : 7 + 195 ≤ _)⟩)
    dsimp only [Pt.U, Pt.locs, Pt.cells, Pt.slots] at X316 l316 y316 z316 st316 hQ316
    subst y316 z316
    obtain ⟨r321, r322, r323, r324, r325, rfl, M316, K316, y326, y327, y328, y329, y330, y331⟩ := hQ316
    have N316 : Fr n0 L316 := by rw [l316]; exact Fr.app N310 M316
    have sf333 : Safe Z consts_1 s.vm h310 b283 := (Safe.wr W310 sf312 R304.1 (Safe.wr W303 sf305 R298.1 (Safe.wr W296 (Safe.ext E290 R284.1 (Safe.new (Nat.le_of_eq gb290.symm))) R291.1 (Safe.ext E290 R284.1 (Safe.ext E283 R0.1 (Safe.new (Nat.le_of_eq gb283.symm)))))))
    have R332 : CHr Z consts_1 s.vm h0 s.vm T316.heap := R311.trans (CHr.keep K316 (sfS sf333 sf0) R311.1)
    have O334 := O313.keep K316 (allS ge320 all0)
    have g335 : Go p e below T316 (mkF m 180 #[iv p0, iv p1, iv p2, iv p3, iv p4, iv ca, iv cb, iv cc, iv cd_, iv (95 : Int32), iv (3 : Int32), .unset, .unset] [(.ref b283)]) A0 := fun t kont => g315 t (st316.trans kont)
    have g336 : Go p e below T316 (mkF m 182 #[iv p0, iv p1, iv p2, iv p3, iv p4, iv ca, iv cb, iv cc, iv cd_, iv (95 : Int32), iv (3 : Int32), rv b283, .unset] []) A0 := by
      intro t kont
      refine g335 t ?_
      refine XS.astore X316.here hx rfl (hb hby at_180) rfl rfl (l' := #[iv p0, iv p1, iv p2, iv p3, iv p4, iv ca, iv cb, iv cc, iv cd_, iv (95 : Int32), iv (3 : Int32), rv b283, .unset]) rfl ?_
      exact kont
    obtain ⟨ex, T337, lc337, X337, e337, N337, g337, j363, j364⟩ : ∃ ex : Int32, ∃ (T337 : State) (lc337 : List Loc), Stand p l e room_1 (s.setVm s.vm) m #[(.int p0), (.int p1), (.int p2), (.int p3), (.int p4)] below meth c T337 lc337 4 202 ∧ T337.heap = T316.heap ∧ Fr n0 lc337 ∧ Go p e below T337 (mkF m 211 #[iv p0, iv p1, iv p2, iv p3, iv p4, iv ca, iv cb, iv cc, iv cd_, iv (95 : Int32), iv (3 : Int32), rv b283, .unset] [(.int ex)]) A0 ∧ (ex = (0 : Int32) ∨ ex = (1 : Int32)) ∧ (ex = (1 : Int32) ↔ (own_lw ca ∧ own_tl cb ∧ own_tl cc)) := by
      have g338 : Go p e below T316 (mkF m 184 #[iv p0, iv p1, iv p2, iv p3, iv p4, iv ca, iv cb, iv cc, iv cd_, iv (95 : Int32), iv (3 : Int32), rv b283, .unset] [(.int ca)]) A0 := by
        intro t kont
        refine g336 t ?_
        refine XS.iload X316.here hx rfl (hb hby at_182) rfl ?_
        exact kont
      obtain ⟨_, _, ⟨T339, L339, k339, n339⟩, -, X339, ⟨Lc339, hQ339, l339, y339, z339⟩, st339⟩ := Jvm.LawKit.callS X316 hx (y := (⟨"com/example/clear_fault/clearfault/FaultIsValidCodePinLaw", "lower", "(C)Z"⟩ : MethodName)) hown (mvT hZ (hw _ (List.mem_of_getElem? (i := 53) rfl))) (mvT hZ (hw _ (List.mem_of_getElem? (i := 54) rfl))) (mvT hZ (hw _ (List.mem_of_getElem? (i := 55) rfl))) (mvT hZ (hw _ (List.mem_of_getElem? (i := 56) rfl))) (by decide) (backOf (W := 0) (rm_low l Z a0 hw [] ca T316.heap n0 O334 ) hZ (hw _ (List.mem_of_getElem? (i := 56) rfl)) (hw _ (List.mem_of_getElem? (i := 55) rfl)) (by decide) (by decide)) (g := (mkF m 184 #[iv p0, iv p1, iv p2, iv p3, iv p4, iv ca, iv cb, iv cc, iv cd_, iv (95 : Int32), iv (3 : Int32), rv b283, .unset] [(.int ca)])) rfl (by rw [hml]; rfl) (argsL := [(.int ca)]) (rest := []) (lenOf pd_0 rfl) rfl (by show 2 * 0 + _ ≤ _; exact Nat.le_of_eq rfl) (hb hby at_184) (fun _ _ => ⟨rfl, rfl, (by decide : 4 + 0 ≤ _), (by decide : 202 + 0 ≤ _)⟩)
      dsimp only [Pt.U, Pt.locs, Pt.cells, Pt.slots] at X339 l339 y339 z339 st339 hQ339
      subst y339 z339
      obtain ⟨r340, rfl, M339, e339, y341, y342⟩ := hQ339
      have N339 : Fr n0 L339 := by rw [l339]; exact Fr.app N316 M339
      have g343 : Go p e below T339 (mkF m 187 #[iv p0, iv p1, iv p2, iv p3, iv p4, iv ca, iv cb, iv cc, iv cd_, iv (95 : Int32), iv (3 : Int32), rv b283, .unset] [(.int r340)]) A0 := fun t kont => g338 t (st339 t kont)
      by_cases c344 : r340 = (0 : Int32)
      ·
        have g345 : Go p e below T339 (mkF m 211 #[iv p0, iv p1, iv p2, iv p3, iv p4, iv ca, iv cb, iv cc, iv cd_, iv (95 : Int32), iv (3 : Int32), rv b283, .unset] [(.int (0 : Int32))]) A0 := by
          intro t kont
          refine g343 t ?_
          refine XS.ifYes X339.here hx rfl (pc0 := 187) (pc' := 210) rfl (hb hby at_187) rfl ((if0 _ _).trans (teq c344).1) (by decide) (by decide) ?_
          refine XS.iconst X339.here hx rfl (hb hby at_210) ?_
          exact kont
        exact ⟨(0 : Int32), _, _, X339, e339, N339, g345, (Or.inl rfl), (iff_of_false (by decide) (fun q => own_b0 y342 c344 q.1))⟩
      have g346 : Go p e below T339 (mkF m 192 #[iv p0, iv p1, iv p2, iv p3, iv p4, iv ca, iv cb, iv cc, iv cd_, iv (95 : Int32), iv (3 : Int32), rv b283, .unset] [(.int cb)]) A0 := by
        intro t kont
        refine g343 t ?_
        refine XS.ifNo X339.here hx rfl (hb hby at_187) rfl ((if0 _ _).trans (feq c344).1) ?_
        refine XS.iload X339.here hx rfl (hb hby at_190) rfl ?_
        exact kont
      obtain ⟨_, _, ⟨T347, L347, k347, n347⟩, -, X347, ⟨Lc347, hQ347, l347, y347, z347⟩, st347⟩ := Jvm.LawKit.callS X339 hx (y := (⟨"com/example/clear_fault/clearfault/FaultIsValidCodePinLaw", "tail", "(C)Z"⟩ : MethodName)) hown (mvT hZ (hw _ (List.mem_of_getElem? (i := 108) rfl))) (mvT hZ (hw _ (List.mem_of_getElem? (i := 109) rfl))) (mvT hZ (hw _ (List.mem_of_getElem? (i := 55) rfl))) (mvT hZ (hw _ (List.mem_of_getElem? (i := 110) rfl))) (by decide) (backOf (W := 0) (rm_tail l Z a0 hw [] cb T316.heap n0 O334 ) hZ (hw _ (List.mem_of_getElem? (i := 110) rfl)) (hw _ (List.mem_of_getElem? (i := 55) rfl)) (by decide) (by decide)) (g := (mkF m 192 #[iv p0, iv p1, iv p2, iv p3, iv p4, iv ca, iv cb, iv cc, iv cd_, iv (95 : Int32), iv (3 : Int32), rv b283, .unset] [(.int cb)])) rfl (by rw [hml]; rfl) (argsL := [(.int cb)]) (rest := []) (lenOf pd_0 rfl) rfl (by show 2 * 0 + _ ≤ _; exact Nat.le_of_eq rfl) (hb hby at_192) (fun _ _ => ⟨rfl, e339, (by decide : 4 + 0 ≤ _), (by decide : 202 + 0 ≤ _)⟩)
      dsimp only [Pt.U, Pt.locs, Pt.cells, Pt.slots] at X347 l347 y347 z347 st347 hQ347
      subst y347 z347
      obtain ⟨r348, rfl, M347, e347, y349, y350⟩ := hQ347
      have N347 : Fr n0 L347 := by rw [l347]; exact Fr.app N339 M347
      have g351 : Go p e below T347 (mkF m 195 #[iv p0, iv p1, iv p2, iv p3, iv p4, iv ca, iv cb, iv cc, iv cd_, iv (95 : Int32), iv (3 : Int32), rv b283, .unset] [(.int r348)]) A0 := fun t kont => g346 t (st347 t kont)
      by_cases c352 : r348 = (0 : Int32)
      ·
        have g353 : Go p e below T347 (mkF m 211 #[iv p0, iv p1, iv p2, iv p3, iv p4, iv ca, iv cb, iv cc, iv cd_, iv (95 : Int32), iv (3 : Int32), rv b283, .unset] [(.int (0 : Int32))]) A0 := by
          intro t kont
          refine g351 t ?_
          refine XS.ifYes X347.here hx rfl (pc0 := 195) (pc' := 210) rfl (hb hby at_195) rfl ((if0 _ _).trans (teq c352).1) (by decide) (by decide) ?_
          refine XS.iconst X347.here hx rfl (hb hby at_210) ?_
          exact kont
        exact ⟨(0 : Int32), _, _, X347, e347, N347, g353, (Or.inl rfl), (iff_of_false (by decide) (fun q => own_b0 y350 c352 q.2.1))⟩
      have g354 : Go p e below T347 (mkF m 200 #[iv p0, iv p1, iv p2, iv p3, iv p4, iv ca, iv cb, iv cc, iv cd_, iv (95 : Int32), iv (3 : Int32), rv b283, .unset] [(.int cc)]) A0 := by
        intro t kont
        refine g351 t ?_
        refine XS.ifNo X347.here hx rfl (hb hby at_195) rfl ((if0 _ _).trans (feq c352).1) ?_
        refine XS.iload X347.here hx rfl (hb hby at_198) rfl ?_
        exact kont
      obtain ⟨_, _, ⟨T355, L355, k355, n355⟩, -, X355, ⟨Lc355, hQ355, l355, y355, z355⟩, st355⟩ := Jvm.LawKit.callS X347 hx (y := (⟨"com/example/clear_fault/clearfault/FaultIsValidCodePinLaw", "tail", "(C)Z"⟩ : MethodName)) hown (mvT hZ (hw _ (List.mem_of_getElem? (i := 108) rfl))) (mvT hZ (hw _ (List.mem_of_getElem? (i := 109) rfl))) (mvT hZ (hw _ (List.mem_of_getElem? (i := 55) rfl))) (mvT hZ (hw _ (List.mem_of_getElem? (i := 110) rfl))) (by decide) (backOf (W := 0) (rm_tail l Z a0 hw [] cc T316.heap n0 O334 ) hZ (hw _ (List.mem_of_getElem? (i := 110) rfl)) (hw _ (List.mem_of_getElem? (i := 55) rfl)) (by decide) (by decide)) (g := (mkF m 200 #[iv p0, iv p1, iv p2, iv p3, iv p4, iv ca, iv cb, iv cc, iv cd_, iv (95 : Int32), iv (3 : Int32), rv b283, .unset] [(.int cc)])) rfl (by rw [hml]; rfl) (argsL := [(.int cc)]) (rest := []) (lenOf pd_0 rfl) rfl (by show 2 * 0 + _ ≤ _; exact Nat.le_of_eq rfl) (hb hby at_200) (fun _ _ => ⟨rfl, e347, (by decide : 4 + 0 ≤ _), (by decide : 202 + 0 ≤ _)⟩)
      dsimp only [Pt.U, Pt.locs, Pt.cells, Pt.slots] at X355 l355 y355 z355 st355 hQ355
      subst y355 z355
      obtain ⟨r356, rfl, M355, e355, y357, y358⟩ := hQ355
      have N355 : Fr n0 L355 := by rw [l355]; exact Fr.app N347 M355
      have g359 : Go p e below T355 (mkF m 203 #[iv p0, iv p1, iv p2, iv p3, iv p4, iv ca, iv cb, iv cc, iv cd_, iv (95 : Int32), iv (3 : Int32), rv b283, .unset] [(.int r356)]) A0 := fun t kont => g354 t (st355 t kont)
      by_cases c360 : r356 = (0 : Int32)
      ·
        have g361 : Go p e below T355 (mkF m 211 #[iv p0, iv p1, iv p2, iv p3, iv p4, iv ca, iv cb, iv cc, iv cd_, iv (95 : Int32), iv (3 : Int32), rv b283, .unset] [(.int (0 : Int32))]) A0 := by
          intro t kont
          refine g359 t ?_
          refine XS.ifYes X355.here hx rfl (pc0 := 203) (pc' := 210) rfl (hb hby at_203) rfl ((if0 _ _).trans (teq c360).1) (by decide) (by decide) ?_
          refine XS.iconst X355.here hx rfl (hb hby at_210) ?_
          exact kont
        exact ⟨(0 : Int32), _, _, X355, e355, N355, g361, (Or.inl rfl), (iff_of_false (by decide) (fun q => own_b0 y358 c360 q.2.2))⟩
      have g362 : Go p e below T355 (mkF m 211 #[iv p0, iv p1, iv p2, iv p3, iv p4, iv ca, iv cb, iv cc, iv cd_, iv (95 : Int32), iv (3 : Int32), rv b283, .unset] [(.int (1 : Int32))]) A0 := by
        intro t kont
        refine g359 t ?_
        refine XS.ifNo X355.here hx rfl (hb hby at_203) rfl ((if0 _ _).trans (feq c360).1) ?_
        refine XS.iconst X355.here hx rfl (hb hby at_206) ?_
        refine XS.goto X355.here hx rfl (pc0 := 207) (pc' := 211) rfl (hb hby at_207) (by decide) (by decide) ?_
        exact kont
      exact ⟨(1 : Int32), _, _, X355, e355, N355, g362, (Or.inr rfl), (iff_of_true rfl ⟨own_b1 y341 y342 c344, own_b1 y349 y350 c352, own_b1 y357 y358 c360⟩)⟩
    have g365 : Go p e below T337 (mkF m 1144 #[iv p0, iv p1, iv p2, iv p3, iv p4, iv ca, iv cb, iv cc, iv cd_, iv (95 : Int32), iv (3 : Int32), rv b283, iv ex] [(.ref b283)]) A0 := by
      intro t kont
      refine g337 t ?_
      refine XS.istore X337.here hx rfl (hb hby at_211) rfl (l' := #[iv p0, iv p1, iv p2, iv p3, iv p4, iv ca, iv cb, iv cc, iv cd_, iv (95 : Int32), iv (3 : Int32), rv b283, iv ex]) rfl ?_
      refine XS.goto X337.here hx rfl (pc0 := 213) (pc' := 1142) rfl (hb hby at_213) (by decide) (by decide) ?_
      refine XS.aload X337.here hx rfl (hb hby at_1142) rfl rfl ?_
      exact kont
    obtain ⟨_, _, ⟨T366, L366, k366, n366⟩, -, X366, ⟨Lc366, hQ366, l366, y366, z366⟩, st366⟩ := Jvm.LawKit.callS X337 hx (y := (⟨"com/example/clear_fault/clearfault/Fault", "isValidCode", "(Ljava/lang/String;)Z"⟩ : MethodName)) hown (mvT hZ (hw _ (List.mem_of_getElem? (i := 23) rfl))) (mvT hZ (hw _ (List.mem_of_getElem? (i := 24) rfl))) (mvT hZ (hw _ (List.mem_of_getElem? (i := 25) rfl))) (mvT hZ (hw _ (List.mem_of_getElem? (i := 26) rfl))) (by decide) (backOf (W := 0) (rm_isV l Z a0 hw [] b283 r321 r322 i_COMPACT_STRINGS v_SIOOBE_FORMATTER r323 r324 r325 [ca, cb, cc] T316.heap n0 O334 S0_ hcs y326 y328 y327 y330 y331 (by simp) (by simp) ((own_ccons ⟨z_ca, b_ca⟩ (own_ccons ⟨z_cb, b_cb⟩ (own_ccons ⟨z_cc, b_cc⟩ own_cnil)))) S2_ hfm S4_ S5_ S6_) hZ (hw _ (List.mem_of_getElem? (i := 26) rfl)) (hw _ (List.mem_of_getElem? (i := 25) rfl)) (by decide) (by decide)) (g := (mkF m 1144 #[iv p0, iv p1, iv p2, iv p3, iv p4, iv ca, iv cb, iv cc, iv cd_, iv (95 : Int32), iv (3 : Int32), rv b283, iv ex] [(.ref b283)])) rfl (by rw [hml]; rfl) (argsL := [(.ref b283)]) (rest := []) (lenOf pd_18 rfl) rfl (by show 2 * 0 + _ ≤ _; exact Nat.le_of_eq rfl) (hb hby at_1144) (fun _ _ => ⟨rfl, e337, (by decide : 4 + 0 ≤ _), (by decide : 202 + 0 ≤ _)⟩)
    dsimp only [Pt.U, Pt.locs, Pt.cells, Pt.slots] at X366 l366 y366 z366 st366 hQ366
    subst y366 z366
    obtain ⟨r367, rfl, M366, e366, y368, y369⟩ := hQ366
    have N366 : Fr n0 L366 := by rw [l366]; exact Fr.app N337 M366
    have g370 : Go p e below T366 (mkF m 1147 #[iv p0, iv p1, iv p2, iv p3, iv p4, iv ca, iv cb, iv cc, iv cd_, iv (95 : Int32), iv (3 : Int32), rv b283, iv ex] [(.int r367)]) A0 := fun t kont => g365 t (st366 t kont)
    have g371 : Go p e below T366 (mkF m 1157 #[iv p0, iv p1, iv p2, iv p3, iv p4, iv ca, iv cb, iv cc, iv cd_, iv (95 : Int32), iv (3 : Int32), rv b283, iv ex] [(.int (1 : Int32))]) A0 := by
      intro t kont
      refine g370 t ?_
      refine XS.iload X366.here hx rfl (hb hby at_1147) rfl ?_
      refine XS.icmpNo X366.here hx rfl (hb hby at_1149) rfl (teq (own_eqb y368 (y369.trans ((by rw [own_valid_cons]; simp [own_allt]) : own_valid [ca, cb, cc] ↔ (own_lw ca ∧ own_tl cb ∧ own_tl cc))) j363 j364 : r367 = ex)).2 ?_
      refine XS.iconst X366.here hx rfl (hb hby at_1152) ?_
      refine XS.goto X366.here hx rfl (pc0 := 1153) (pc' := 1157) rfl (hb hby at_1153) (by decide) (by decide) ?_
      exact kont
    obtain ⟨fs, hr, hrun, hended, hRW⟩ := X366.leaveW hS (by rw [e366]; exact (Nat.le_trans hk (Nat.le_trans (Nat.le_trans (Nat.le_trans (Nat.le_trans (Nat.le_trans E283.1 E290.1) (Keep.of_wr W296).1) (Keep.of_wr W303).1) (Keep.of_wr W310).1) K316.1))) (v := some (.int (1 : Int32))) (fun h => by rw [Bd.returns] at h; cases h)
    refine ⟨_, _, g371 _ (retN X366 hx (t := .boolean) Bd.returns (by simp) (hb hby at_1157) hr), hrun, hended, _, _, rfl, ?_, ?_, hRW.1, hRW.2.1, hRW.2.2.1, hRW.2.2.2.mono (by decide) (by decide)⟩
    ·
      show Q_law Z p0 p1 p2 p3 p4 i_COMPACT_STRINGS v_SIOOBE_FORMATTER h0 n0 _ T366.heap _
      rw [e366]
      exact ⟨rfl, N366⟩
    ·
      rw [hh]
      show CHr Z consts_1 s.vm h0 T366.vm T366.heap
      rw [e366]
      exact R332.trans (CHv.at X366 hZ (own_EW hw) R332.1)
  have g373 : Go p e below s₁ (mkF m 219 #[iv p0, iv p1, iv p2, iv p3, iv p4, iv ca, iv cb, iv cc, iv cd_, iv (95 : Int32), iv sel, .unset, .unset] [(.int (4 : Int32)), (.int sel)]) A0 := by
    intro t kont
    refine g281 t ?_
    refine XS.icmpYes X0.here hx rfl (pc0 := 152) (pc' := 216) rfl (hb hby at_152) rfl (feq c280).2 (by decide) (by decide) ?_
    refine XS.iload X0.here hx rfl (hb hby at_216) rfl ?_
    refine XS.iconst X0.here hx rfl (hb hby at_218) ?_
    exact kont
  by_cases c372 : sel = (4 : Int32)
  ·
    subst c372
    have g374 : Go p e below s₁ (mkF m 222 #[iv p0, iv p1, iv p2, iv p3, iv p4, iv ca, iv cb, iv cc, iv cd_, iv (95 : Int32), iv (4 : Int32), .unset, .unset] []) A0 := by
      intro t kont
      refine g373 t ?_
      refine XS.icmpNo X0.here hx rfl (hb hby at_219) rfl (teq (rfl : (4 : Int32) = (4 : Int32))).2 ?_
      exact kont
    obtain ⟨T375, h375, X375, e375, E375, A375, D375, -, st375⟩ := newO X0 hx hZ hown (hw _ (List.mem_of_getElem? (i := 1) rfl)) (hw _ (List.mem_of_getElem? (i := 2) rfl)) (hw _ (List.mem_of_getElem? (i := 3) rfl)) e0 (g := (mkF m 222 #[iv p0, iv p1, iv p2, iv p3, iv p4, iv ca, iv cb, iv cc, iv cd_, iv (95 : Int32), iv (4 : Int32), .unset, .unset] [])) rfl (hb hby at_222) (by decide) (by decide)
    obtain ⟨b375, gb375⟩ : ∃ z, z = h0.size := ⟨_, rfl⟩
    rw [← gb375] at A375 D375 st375
    have R376 : CHr Z consts_1 s.vm h0 s.vm h375 := R0.trans (CHr.ext E375 R0.1)
    have O377 := O0.ext E375
    have y378 : Fld Z h375 b375 "java/lang/String" "value" "[B" .null := D375 (Or.inr (hw _ (List.mem_of_getElem? (i := 17) rfl))) (ty := (.array .byte)) (by decide)
    have y379 : Fld Z h375 b375 "java/lang/String" "coder" "B" (.int (0 : Int32)) := D375 (Or.inr (hw _ (List.mem_of_getElem? (i := 18) rfl))) (ty := .byte) (by decide)
    have g380 : Go p e below T375 (mkF m 225 #[iv p0, iv p1, iv p2, iv p3, iv p4, iv ca, iv cb, iv cc, iv cd_, iv (95 : Int32), iv (4 : Int32), .unset, .unset] [(.ref b375)]) A0 := fun t kont => g374 t (st375 t kont)
    have g381 : Go p e below T375 (mkF m 227 #[iv p0, iv p1, iv p2, iv p3, iv p4, iv ca, iv cb, iv cc, iv cd_, iv (95 : Int32), iv (4 : Int32), .unset, .unset] [(.int (4 : Int32)), (.ref b375), (.ref b375)]) A0 := by
      intro t kont
      refine g380 t ?_
      refine XS.dup X375.here hx rfl (hb hby at_225) rfl rfl ?_
      refine XS.iconst X375.here hx rfl (hb hby at_226) ?_
      exact kont
    obtain ⟨T382, h382, k382, X382, e382, E382, A382, F382, st382⟩ := newPE X375 hx hZ (hw _ (List.mem_of_getElem? (i := 4) rfl)) e375 (g := (mkF m 227 #[iv p0, iv p1, iv p2, iv p3, iv p4, iv ca, iv cb, iv cc, iv cd_, iv (95 : Int32), iv (4 : Int32), .unset, .unset] [(.int (4 : Int32)), (.ref b375), (.ref b375)])) rfl (hb hby at_227) rfl (by decide) (cap := 4) (by decide) (by decide) (by decide) (by decide) (ad := "[C") (by decide)
    obtain ⟨b382, gb382⟩ : ∃ z, z = h375.size := ⟨_, rfl⟩
    rw [← gb382] at A382 F382 st382
    have R383 : CHr Z consts_1 s.vm h0 s.vm h382 := R376.trans (CHr.ext E382 R376.1)
    have O384 := O377.ext E382
    have y385 : Arv Z h382 b382 k382 .char (4 : Int32) [(.int (0 : Int32)), (.int (0 : Int32)), (.int (0 : Int32)), (.int (0 : Int32))] (.int (0 : Int32)) := (Arv.new A382 (by decide)).pad (pad_rep [] (.int (0 : Int32)) 4)
    have g386 : Go p e below T382 (mkF m 229 #[iv p0, iv p1, iv p2, iv p3, iv p4, iv ca, iv cb, iv cc, iv cd_, iv (95 : Int32), iv (4 : Int32), .unset, .unset] [(.ref b382), (.ref b375), (.ref b375)]) A0 := fun t kont => g381 t (st382 t kont)
    have g387 : Go p e below T382 (mkF m 233 #[iv p0, iv p1, iv p2, iv p3, iv p4, iv ca, iv cb, iv cc, iv cd_, iv (95 : Int32), iv (4 : Int32), .unset, .unset] [(.int ca), (.int (0 : Int32)), (.ref b382), (.ref b382), (.ref b375), (.ref b375)]) A0 := by
      intro t kont
      refine g386 t ?_
      refine XS.dup X382.here hx rfl (hb hby at_229) rfl rfl ?_
      refine XS.iconst X382.here hx rfl (hb hby at_230) ?_
      refine XS.iload X382.here hx rfl (hb hby at_231) rfl ?_
      exact kont
    have ge389 : n0 ≤ b382 := Nat.le_trans (own_old_le O377) (Nat.le_of_eq gb382.symm)
    have zz388 := y385
    obtain ⟨cl388, Ar388, q388, S388, M388, H388, G388⟩ := zz388
    have in388 : ¬ ((0 : Int32) < 0 ∨ cl388.slots.size ≤ ((0 : Int32)).toNatClampNeg) := inb_of S388 ⟨by decide, by decide⟩
    obtain ⟨T388, h388, X388, e388, W388, st388⟩ := stC X382 hx hZ e382 Ar388 (j := (0 : Int32)) in388 (g := (mkF m 233 #[iv p0, iv p1, iv p2, iv p3, iv p4, iv ca, iv cb, iv cc, iv cd_, iv (95 : Int32), iv (4 : Int32), .unset, .unset] [(.int ca), (.int (0 : Int32)), (.ref b382), (.ref b382), (.ref b375), (.ref b375)])) rfl rfl (hb hby at_233)
    rw [show nar .char ca = ca from r_ca] at W388
    have R390 : CHr Z consts_1 s.vm h0 s.vm h388 := R383.trans (CHr.wr W388 (Safe.ext E382 R376.1 (Safe.new (Nat.le_of_eq gb382.symm))) R383.1)
    have O391 := O384.wr W388 ge389
    have y392 : Arv Z h388 b382 k382 .char (4 : Int32) [(.int ca), (.int (0 : Int32)), (.int (0 : Int32)), (.int (0 : Int32))] (.int (0 : Int32)) := Arv.set Ar388 q388 S388 M388 H388 G388 (own_ft_char (z := ca) r_ca) W388 0 rfl (Nat.le_of_ble_eq_true rfl)
    have N388 := Fr.snoc X388 N0 ge389
    have g393 : Go p e below T388 (mkF m 234 #[iv p0, iv p1, iv p2, iv p3, iv p4, iv ca, iv cb, iv cc, iv cd_, iv (95 : Int32), iv (4 : Int32), .unset, .unset] [(.ref b382), (.ref b375), (.ref b375)]) A0 := fun t kont => g387 t (st388 t kont)
    have g394 : Go p e below T388 (mkF m 238 #[iv p0, iv p1, iv p2, iv p3, iv p4, iv ca, iv cb, iv cc, iv cd_, iv (95 : Int32), iv (4 : Int32), .unset, .unset] [(.int cb), (.int (1 : Int32)), (.ref b382), (.ref b382), (.ref b375), (.ref b375)]) A0 := by
      intro t kont
      refine g393 t ?_
      refine XS.dup X388.here hx rfl (hb hby at_234) rfl rfl ?_
      refine XS.iconst X388.here hx rfl (hb hby at_235) ?_
      refine XS.iload X388.here hx rfl (hb hby at_236) rfl ?_
      exact kont
    have zz395 := y392
    obtain ⟨cl395, Ar395, q395, S395, M395, H395, G395⟩ := zz395
    have in395 : ¬ ((1 : Int32) < 0 ∨ cl395.slots.size ≤ ((1 : Int32)).toNatClampNeg) := inb_of S395 ⟨by decide, by decide⟩
    obtain ⟨T395, h395, X395, e395, W395, st395⟩ := stC X388 hx hZ e388 Ar395 (j := (1 : Int32)) in395 (g := (mkF m 238 #[iv p0, iv p1, iv p2, iv p3, iv p4, iv ca, iv cb, iv cc, iv cd_, iv (95 : Int32), iv (4 : Int32), .unset, .unset] [(.int cb), (.int (1 : Int32)), (.ref b382), (.ref b382), (.ref b375), (.ref b375)])) rfl rfl (hb hby at_238)
    rw [show nar .char cb = cb from r_cb] at W395
    have sf397 : Safe Z consts_1 s.vm h388 b382 := (Safe.wr W388 (Safe.ext E382 R376.1 (Safe.new (Nat.le_of_eq gb382.symm))) R383.1 (Safe.ext E382 R376.1 (Safe.new (Nat.le_of_eq gb382.symm))))
    have R396 : CHr Z consts_1 s.vm h0 s.vm h395 := R390.trans (CHr.wr W395 sf397 R390.1)
    have O398 := O391.wr W395 ge389
    have y399 : Arv Z h395 b382 k382 .char (4 : Int32) [(.int ca), (.int cb), (.int (0 : Int32)), (.int (0 : Int32))] (.int (0 : Int32)) := Arv.set Ar395 q395 S395 M395 H395 G395 (own_ft_char (z := cb) r_cb) W395 1 rfl (Nat.le_of_ble_eq_true rfl)
    have N395 := Fr.snoc X395 N388 ge389
    have g400 : Go p e below T395 (mkF m 239 #[iv p0, iv p1, iv p2, iv p3, iv p4, iv ca, iv cb, iv cc, iv cd_, iv (95 : Int32), iv (4 : Int32), .unset, .unset] [(.ref b382), (.ref b375), (.ref b375)]) A0 := fun t kont => g394 t (st395 t kont)
    have g401 : Go p e below T395 (mkF m 243 #[iv p0, iv p1, iv p2, iv p3, iv p4, iv ca, iv cb, iv cc, iv cd_, iv (95 : Int32), iv (4 : Int32), .unset, .unset] [(.int cc), (.int (2 : Int32)), (.ref b382), (.ref b382), (.ref b375), (.ref b375)]) A0 := by
      intro t kont
      refine g400 t ?_
      refine XS.dup X395.here hx rfl (hb hby at_239) rfl rfl ?_
      refine XS.iconst X395.here hx rfl (hb hby at_240) ?_
      refine XS.iload X395.here hx rfl (hb hby at_241) rfl ?_
      exact kont
    have zz402 := y399
    obtain ⟨cl402, Ar402, q402, S402, M402, H402, G402⟩ := zz402
    have in402 : ¬ ((2 : Int32) < 0 ∨ cl402.slots.size ≤ ((2 : Int32)).toNatClampNeg) := inb_of S402 ⟨by decide, by decide⟩
    obtain ⟨T402, h402, X402, e402, W402, st402⟩ := stC X395 hx hZ e395 Ar402 (j := (2 : Int32)) in402 (g := (mkF m 243 #[iv p0, iv p1, iv p2, iv p3, iv p4, iv ca, iv cb, iv cc, iv cd_, iv (95 : Int32), iv (4 : Int32), .unset, .unset] [(.int cc), (.int (2 : Int32)), (.ref b382), (.ref b382), (.ref b375), (.ref b375)])) rfl rfl (hb hby at_243)
    rw [show nar .char cc = cc from r_cc] at W402
    have sf404 : Safe Z consts_1 s.vm h395 b382 := (Safe.wr W395 sf397 R390.1 sf397)
    have R403 : CHr Z consts_1 s.vm h0 s.vm h402 := R396.trans (CHr.wr W402 sf404 R396.1)
    have O405 := O398.wr W402 ge389
    have y406 : Arv Z h402 b382 k382 .char (4 : Int32) [(.int ca), (.int cb), (.int cc), (.int (0 : Int32))] (.int (0 : Int32)) := Arv.set Ar402 q402 S402 M402 H402 G402 (own_ft_char (z := cc) r_cc) W402 2 rfl (Nat.le_of_ble_eq_true rfl)
    have N402 := Fr.snoc X402 N395 ge389
    have g407 : Go p e below T402 (mkF m 244 #[iv p0, iv p1, iv p2, iv p3, iv p4, iv ca, iv cb, iv cc, iv cd_, iv (95 : Int32), iv (4 : Int32), .unset, .unset] [(.ref b382), (.ref b375), (.ref b375)]) A0 := fun t kont => g401 t (st402 t kont)
    have g408 : Go p e below T402 (mkF m 248 #[iv p0, iv p1, iv p2, iv p3, iv p4, iv ca, iv cb, iv cc, iv cd_, iv (95 : Int32), iv (4 : Int32), .unset, .unset] [(.int cd_), (.int (3 : Int32)), (.ref b382), (.ref b382), (.ref b375), (.ref b375)]) A0 := by
      intro t kont
      refine g407 t ?_
      refine XS.dup X402.here hx rfl (hb hby at_244) rfl rfl ?_
      refine XS.iconst X402.here hx rfl (hb hby at_245) ?_
      refine XS.iload X402.here hx rfl (hb hby at_246) rfl ?_
      exact kont
    have zz409 := y406
    obtain ⟨cl409, Ar409, q409, S409, M409, H409, G409⟩ := zz409
    have in409 : ¬ ((3 : Int32) < 0 ∨ cl409.slots.size ≤ ((3 : Int32)).toNatClampNeg) := inb_of S409 ⟨by decide, by decide⟩
    obtain ⟨T409, h409, X409, e409, W409, st409⟩ := stC X402 hx hZ e402 Ar409 (j := (3 : Int32)) in409 (g := (mkF m 248 #[iv p0, iv p1, iv p2, iv p3, iv p4, iv ca, iv cb, iv cc, iv cd_, iv (95 : Int32), iv (4 : Int32), .unset, .unset] [(.int cd_), (.int (3 : Int32)), (.ref b382), (.ref b382), (.ref b375), (.ref b375)])) rfl rfl (hb hby at_248)
    rw [show nar .char cd_ = cd_ from r_cd_] at W409
    have sf411 : Safe Z consts_1 s.vm h402 b382 := (Safe.wr W402 sf404 R396.1 sf404)
    have R410 : CHr Z consts_1 s.vm h0 s.vm h409 := R403.trans (CHr.wr W409 sf411 R403.1)
    have O412 := O405.wr W409 ge389
    have y413 : Arv Z h409 b382 k382 .char (4 : Int32) [(.int ca), (.int cb), (.int cc), (.int cd_)] (.int (0 : Int32)) := Arv.set Ar409 q409 S409 M409 H409 G409 (own_ft_char (z := cd_) r_cd_) W409 3 rfl (Nat.le_of_ble_eq_true rfl)
    have N409 := Fr.snoc X409 N402 ge389
    have g414 : Go p e below T409 (mkF m 249 #[iv p0, iv p1, iv p2, iv p3, iv p4, iv ca, iv cb, iv cc, iv cd_, iv (95 : Int32), iv (4 : Int32), .unset, .unset] [(.ref b382), (.ref b375), (.ref b375)]) A0 := fun t kont => g408 t (st409 t kont)
    have y416 : Fld Z h409 b375 "java/lang/String" "value" "[B" .null := (((((y378.ext E382).other W388 (Or.inl (Nat.ne_of_lt (Nat.lt_of_lt_of_le A375.lt (Nat.le_of_eq gb382.symm))))).other W395 (Or.inl (Nat.ne_of_lt (Nat.lt_of_lt_of_le A375.lt (Nat.le_of_eq gb382.symm))))).other W402 (Or.inl (Nat.ne_of_lt (Nat.lt_of_lt_of_le A375.lt (Nat.le_of_eq gb382.symm))))).other W409 (Or.inl (Nat.ne_of_lt (Nat.lt_of_lt_of_le A375.lt (Nat.le_of_eq gb382.symm)))))
    have y417 : Fld Z h409 b375 "java/lang/String" "coder" "B" (.int (0 : Int32)) := (((((y379.ext E382).other W388 (Or.inl (Nat.ne_of_lt (Nat.lt_of_lt_of_le A375.lt (Nat.le_of_eq gb382.symm))))).other W395 (Or.inl (Nat.ne_of_lt (Nat.lt_of_lt_of_le A375.lt (Nat.le_of_eq gb382.symm))))).other W402 (Or.inl (Nat.ne_of_lt (Nat.lt_of_lt_of_le A375.lt (Nat.le_of_eq gb382.symm))))).other W409 (Or.inl (Nat.ne_of_lt (Nat.lt_of_lt_of_le A375.lt (Nat.le_of_eq gb382.symm)))))
    have y418 : Exa Z h409 b375 "java/lang/String" := (((((A375.ext E382).wr W388).wr W395).wr W402).wr W409)
    have ge419 : n0 ≤ b375 := Nat.le_trans (own_old_le O0) (Nat.le_of_eq gb375.symm)
    obtain ⟨_, _, ⟨T415, L415, k415, n415⟩, -, X415, ⟨Lc415, hQ415, l415, y415, z415⟩, st415⟩ := X409.specialBack hx (y := (⟨"java/lang/String", "<init>", "([C)V"⟩ : MethodName)) rfl hown (mvT hZ (hw _ (List.mem_of_getElem? (i := 5) rfl))) (mvT hZ (hw _ (List.mem_of_getElem? (i := 6) rfl))) (mvT hZ (hw _ (List.mem_of_getElem? (i := 7) rfl))) (by decide) (backOf (W := 1) (rm_sIniG l Z a0 hw [] b375 b382 k382 [ca, cb, cc, cd_] i_COMPACT_STRINGS h409 n0 O412 y416 y417 y418 ge419 y413 (by simp) (by simp) ((own_ccons ⟨z_ca, b_ca⟩ (own_ccons ⟨z_cb, b_cb⟩ (own_ccons ⟨z_cc, b_cc⟩ (own_ccons ⟨z_cd_, b_cd_⟩ own_cnil))))) S0_ hcs S4_ S5_ S6_) hZ (hw _ (List.mem_of_getElem? (i := 7) rfl)) (hw _ (List.mem_of_getElem? (i := 3) rfl)) (by decide) (by decide)) (g := (mkF m 249 #[iv p0, iv p1, iv p2, iv p3, iv p4, iv ca, iv cb, iv cc, iv cd_, iv (95 : Int32), iv (4 : Int32), .unset, .unset] [(.ref b382), (.ref b375), (.ref b375)])) rfl (by rw [hml]; rfl) (Steps.refl _) (a := b375) (argsL := [(.ref b382)]) (rest := [(.ref b375)]) (lenOf pd_17 rfl) rfl (by show 2 * 0 + _ ≤ _; exact Nat.le_of_eq rfl) (hb hby at_249) (fun _ _ => ⟨rfl, e409, (by decide : 2 + 2 ≤ _), (by decide : 8 + 195 ≤ _)⟩)
    dsimp only [Pt.U, Pt.locs, Pt.cells, Pt.slots] at X415 l415 y415 z415 st415 hQ415
    subst y415 z415
    obtain ⟨r420, r421, r422, r423, r424, rfl, M415, K415, y425, y426, y427, y428, y429, y430⟩ := hQ415
    have N415 : Fr n0 L415 := by rw [l415]; exact Fr.app N409 M415
    have sf432 : Safe Z consts_1 s.vm h409 b375 := (Safe.wr W409 sf411 R403.1 (Safe.wr W402 sf404 R396.1 (Safe.wr W395 sf397 R390.1 (Safe.wr W388 (Safe.ext E382 R376.1 (Safe.new (Nat.le_of_eq gb382.symm))) R383.1 (Safe.ext E382 R376.1 (Safe.ext E375 R0.1 (Safe.new (Nat.le_of_eq gb375.symm))))))))
    have R431 : CHr Z consts_1 s.vm h0 s.vm T415.heap := R410.trans (CHr.keep K415 (sfS sf432 sf0) R410.1)
    have O433 := O412.keep K415 (allS ge419 all0)
    have g434 : Go p e below T415 (mkF m 252 #[iv p0, iv p1, iv p2, iv p3, iv p4, iv ca, iv cb, iv cc, iv cd_, iv (95 : Int32), iv (4 : Int32), .unset, .unset] [(.ref b375)]) A0 := fun t kont => g414 t (st415.trans kont)
    have g435 : Go p e below T415 (mkF m 254 #[iv p0, iv p1, iv p2, iv p3, iv p4, iv ca, iv cb, iv cc, iv cd_, iv (95 : Int32), iv (4 : Int32), rv b375, .unset] []) A0 := by
      intro t kont
      refine g434 t ?_
      refine XS.astore X415.here hx rfl (hb hby at_252) rfl rfl (l' := #[iv p0, iv p1, iv p2, iv p3, iv p4, iv ca, iv cb, iv cc, iv cd_, iv (95 : Int32), iv (4 : Int32), rv b375, .unset]) rfl ?_
      exact kont
    obtain ⟨ex, T436, lc436, X436, e436, N436, g436, j470, j471⟩ : ∃ ex : Int32, ∃ (T436 : State) (lc436 : List Loc), Stand p l e room_1 (s.setVm s.vm) m #[(.int p0), (.int p1), (.int p2), (.int p3), (.int p4)] below meth c T436 lc436 4 203 ∧ T436.heap = T415.heap ∧ Fr n0 lc436 ∧ Go p e below T436 (mkF m 291 #[iv p0, iv p1, iv p2, iv p3, iv p4, iv ca, iv cb, iv cc, iv cd_, iv (95 : Int32), iv (4 : Int32), rv b375, .unset] [(.int ex)]) A0 ∧ (ex = (0 : Int32) ∨ ex = (1 : Int32)) ∧ (ex = (1 : Int32) ↔ (own_lw ca ∧ own_tl cb ∧ own_tl cc ∧ own_tl cd_)) := by
      have g437 : Go p e below T415 (mkF m 256 #[iv p0, iv p1, iv p2, iv p3, iv p4, iv ca, iv cb, iv cc, iv cd_, iv (95 : Int32), iv (4 : Int32), rv b375, .unset] [(.int ca)]) A0 := by
        intro t kont
        refine g435 t ?_
        refine XS.iload X415.here hx rfl (hb hby at_254) rfl ?_
        exact kont
      obtain ⟨_, _, ⟨T438, L438, k438, n438⟩, -, X438, ⟨Lc438, hQ438, l438, y438, z438⟩, st438⟩ := Jvm.LawKit.callS X415 hx (y := (⟨"com/example/clear_fault/clearfault/FaultIsValidCodePinLaw", "lower", "(C)Z"⟩ : MethodName)) hown (mvT hZ (hw _ (List.mem_of_getElem? (i := 53) rfl))) (mvT hZ (hw _ (List.mem_of_getElem? (i := 54) rfl))) (mvT hZ (hw _ (List.mem_of_getElem? (i := 55) rfl))) (mvT hZ (hw _ (List.mem_of_getElem? (i := 56) rfl))) (by decide) (backOf (W := 0) (rm_low l Z a0 hw [] ca T415.heap n0 O433 ) hZ (hw _ (List.mem_of_getElem? (i := 56) rfl)) (hw _ (List.mem_of_getElem? (i := 55) rfl)) (by decide) (by decide)) (g := (mkF m 256 #[iv p0, iv p1, iv p2, iv p3, iv p4, iv ca, iv cb, iv cc, iv cd_, iv (95 : Int32), iv (4 : Int32), rv b375, .unset] [(.int ca)])) rfl (by rw [hml]; rfl) (argsL := [(.int ca)]) (rest := []) (lenOf pd_0 rfl) rfl (by show 2 * 0 + _ ≤ _; exact Nat.le_of_eq rfl) (hb hby at_256) (fun _ _ => ⟨rfl, rfl, (by decide : 4 + 0 ≤ _), (by decide : 203 + 0 ≤ _)⟩)
      dsimp only [Pt.U, Pt.locs, Pt.cells, Pt.slots] at X438 l438 y438 z438 st438 hQ438
      subst y438 z438
      obtain ⟨r439, rfl, M438, e438, y440, y441⟩ := hQ438
      have N438 : Fr n0 L438 := by rw [l438]; exact Fr.app N415 M438
      have g442 : Go p e below T438 (mkF m 259 #[iv p0, iv p1, iv p2, iv p3, iv p4, iv ca, iv cb, iv cc, iv cd_, iv (95 : Int32), iv (4 : Int32), rv b375, .unset] [(.int r439)]) A0 := fun t kont => g437 t (st438 t kont)
      by_cases c443 : r439 = (0 : Int32)
      ·
        have g444 : Go p e below T438 (mkF m 291 #[iv p0, iv p1, iv p2, iv p3, iv p4, iv ca, iv cb, iv cc, iv cd_, iv (95 : Int32), iv (4 : Int32), rv b375, .unset] [(.int (0 : Int32))]) A0 := by
          intro t kont
          refine g442 t ?_
          refine XS.ifYes X438.here hx rfl (pc0 := 259) (pc' := 290) rfl (hb hby at_259) rfl ((if0 _ _).trans (teq c443).1) (by decide) (by decide) ?_
          refine XS.iconst X438.here hx rfl (hb hby at_290) ?_
          exact kont
        exact ⟨(0 : Int32), _, _, X438, e438, N438, g444, (Or.inl rfl), (iff_of_false (by decide) (fun q => own_b0 y441 c443 q.1))⟩
      have g445 : Go p e below T438 (mkF m 264 #[iv p0, iv p1, iv p2, iv p3, iv p4, iv ca, iv cb, iv cc, iv cd_, iv (95 : Int32), iv (4 : Int32), rv b375, .unset] [(.int cb)]) A0 := by
        intro t kont
        refine g442 t ?_
        refine XS.ifNo X438.here hx rfl (hb hby at_259) rfl ((if0 _ _).trans (feq c443).1) ?_
        refine XS.iload X438.here hx rfl (hb hby at_262) rfl ?_
        exact kont
      obtain ⟨_, _, ⟨T446, L446, k446, n446⟩, -, X446, ⟨Lc446, hQ446, l446, y446, z446⟩, st446⟩ := Jvm.LawKit.callS X438 hx (y := (⟨"com/example/clear_fault/clearfault/FaultIsValidCodePinLaw", "tail", "(C)Z"⟩ : MethodName)) hown (mvT hZ (hw _ (List.mem_of_getElem? (i := 108) rfl))) (mvT hZ (hw _ (List.mem_of_getElem? (i := 109) rfl))) (mvT hZ (hw _ (List.mem_of_getElem? (i := 55) rfl))) (mvT hZ (hw _ (List.mem_of_getElem? (i := 110) rfl))) (by decide) (backOf (W := 0) (rm_tail l Z a0 hw [] cb T415.heap n0 O433 ) hZ (hw _ (List.mem_of_getElem? (i := 110) rfl)) (hw _ (List.mem_of_getElem? (i := 55) rfl)) (by decide) (by decide)) (g := (mkF m 264 #[iv p0, iv p1, iv p2, iv p3, iv p4, iv ca, iv cb, iv cc, iv cd_, iv (95 : Int32), iv (4 : Int32), rv b375, .unset] [(.int cb)])) rfl (by rw [hml]; rfl) (argsL := [(.int cb)]) (rest := []) (lenOf pd_0 rfl) rfl (by show 2 * 0 + _ ≤ _; exact Nat.le_of_eq rfl) (hb hby at_264) (fun _ _ => ⟨rfl, e438, (by decide : 4 + 0 ≤ _), (by decide : 203 + 0 ≤ _)⟩)
      dsimp only [Pt.U, Pt.locs, Pt.cells, Pt.slots] at X446 l446 y446 z446 st446 hQ446
      subst y446 z446
      obtain ⟨r447, rfl, M446, e446, y448, y449⟩ := hQ446
      have N446 : Fr n0 L446 := by rw [l446]; exact Fr.app N438 M446
      have g450 : Go p e below T446 (mkF m 267 #[iv p0, iv p1, iv p2, iv p3, iv p4, iv ca, iv cb, iv cc, iv cd_, iv (95 : Int32), iv (4 : Int32), rv b375, .unset] [(.int r447)]) A0 := fun t kont => g445 t (st446 t kont)
      by_cases c451 : r447 = (0 : Int32)
      ·
        have g452 : Go p e below T446 (mkF m 291 #[iv p0, iv p1, iv p2, iv p3, iv p4, iv ca, iv cb, iv cc, iv cd_, iv (95 : Int32), iv (4 : Int32), rv b375, .unset] [(.int (0 : Int32))]) A0 := by
          intro t kont
          refine g450 t ?_
          refine XS.ifYes X446.here hx rfl (pc0 := 267) (pc' := 290) rfl (hb hby at_267) rfl ((if0 _ _).trans (teq c451).1) (by decide) (by decide) ?_
          refine XS.iconst X446.here hx rfl (hb hby at_290) ?_
          exact kont
        exact ⟨(0 : Int32), _, _, X446, e446, N446, g452, (Or.inl rfl), (iff_of_false (by decide) (fun q => own_b0 y449 c451 q.2.1))⟩
      have g453 : Go p e below T446 (mkF m 272 #[iv p0, iv p1, iv p2, iv p3, iv p4, iv ca, iv cb, iv cc, iv cd_, iv (95 : Int32), iv (4 : Int32), rv b375, .unset] [(.int cc)]) A0 := by
        intro t kont
        refine g450 t ?_
        refine XS.ifNo X446.here hx rfl (hb hby at_267) rfl ((if0 _ _).trans (feq c451).1) ?_
        refine XS.iload X446.here hx rfl (hb hby at_270) rfl ?_
        exact kont
      obtain ⟨_, _, ⟨T454, L454, k454, n454⟩, -, X454, ⟨Lc454, hQ454, l454, y454, z454⟩, st454⟩ := Jvm.LawKit.callS X446 hx (y := (⟨"com/example/clear_fault/clearfault/FaultIsValidCodePinLaw", "tail", "(C)Z"⟩ : MethodName)) hown (mvT hZ (hw _ (List.mem_of_getElem? (i := 108) rfl))) (mvT hZ (hw _ (List.mem_of_getElem? (i := 109) rfl))) (mvT hZ (hw _ (List.mem_of_getElem? (i := 55) rfl))) (mvT hZ (hw _ (List.mem_of_getElem? (i := 110) rfl))) (by decide) (backOf (W := 0) (rm_tail l Z a0 hw [] cc T415.heap n0 O433 ) hZ (hw _ (List.mem_of_getElem? (i := 110) rfl)) (hw _ (List.mem_of_getElem? (i := 55) rfl)) (by decide) (by decide)) (g := (mkF m 272 #[iv p0, iv p1, iv p2, iv p3, iv p4, iv ca, iv cb, iv cc, iv cd_, iv (95 : Int32), iv (4 : Int32), rv b375, .unset] [(.int cc)])) rfl (by rw [hml]; rfl) (argsL := [(.int cc)]) (rest := []) (lenOf pd_0 rfl) rfl (by show 2 * 0 + _ ≤ _; exact Nat.le_of_eq rfl) (hb hby at_272) (fun _ _ => ⟨rfl, e446, (by decide : 4 + 0 ≤ _), (by decide : 203 + 0 ≤ _)⟩)
      dsimp only [Pt.U, Pt.locs, Pt.cells, Pt.slots] at X454 l454 y454 z454 st454 hQ454
      subst y454 z454
      obtain ⟨r455, rfl, M454, e454, y456, y457⟩ := hQ454
      have N454 : Fr n0 L454 := by rw [l454]; exact Fr.app N446 M454
      have g458 : Go p e below T454 (mkF m 275 #[iv p0, iv p1, iv p2, iv p3, iv p4, iv ca, iv cb, iv cc, iv cd_, iv (95 : Int32), iv (4 : Int32), rv b375, .unset] [(.int r455)]) A0 := fun t kont => g453 t (st454 t kont)
      by_cases c459 : r455 = (0 : Int32)
      ·
        have g460 : Go p e below T454 (mkF m 291 #[iv p0, iv p1, iv p2, iv p3, iv p4, iv ca, iv cb, iv cc, iv cd_, iv (95 : Int32), iv (4 : Int32), rv b375, .unset] [(.int (0 : Int32))]) A0 := by
          intro t kont
          refine g458 t ?_
          refine XS.ifYes X454.here hx rfl (pc0 := 275) (pc' := 290) rfl (hb hby at_275) rfl ((if0 _ _).trans (teq c459).1) (by decide) (by decide) ?_
          refine XS.iconst X454.here hx rfl (hb hby at_290) ?_
          exact kont
        exact ⟨(0 : Int32), _, _, X454, e454, N454, g460, (Or.inl rfl), (iff_of_false (by decide) (fun q => own_b0 y457 c459 q.2.2.1))⟩
      have g461 : Go p e below T454 (mkF m 280 #[iv p0, iv p1, iv p2, iv p3, iv p4, iv ca, iv cb, iv cc, iv cd_, iv (95 : Int32), iv (4 : Int32), rv b375, .unset] [(.int cd_)]) A0 := by
        intro t kont
        refine g458 t ?_
        refine XS.ifNo X454.here hx rfl (hb hby at_275) rfl ((if0 _ _).trans (feq c459).1) ?_
        refine XS.iload X454.here hx rfl (hb hby at_278) rfl ?_
        exact kont
      obtain ⟨_, _, ⟨T462, L462, k462, n462⟩, -, X462, ⟨Lc462, hQ462, l462, y462, z462⟩, st462⟩ := Jvm.LawKit.callS X454 hx (y := (⟨"com/example/clear_fault/clearfault/FaultIsValidCodePinLaw", "tail", "(C)Z"⟩ : MethodName)) hown (mvT hZ (hw _ (List.mem_of_getElem? (i := 108) rfl))) (mvT hZ (hw _ (List.mem_of_getElem? (i := 109) rfl))) (mvT hZ (hw _ (List.mem_of_getElem? (i := 55) rfl))) (mvT hZ (hw _ (List.mem_of_getElem? (i := 110) rfl))) (by decide) (backOf (W := 0) (rm_tail l Z a0 hw [] cd_ T415.heap n0 O433 ) hZ (hw _ (List.mem_of_getElem? (i := 110) rfl)) (hw _ (List.mem_of_getElem? (i := 55) rfl)) (by decide) (by decide)) (g := (mkF m 280 #[iv p0, iv p1, iv p2, iv p3, iv p4, iv ca, iv cb, iv cc, iv cd_, iv (95 : Int32), iv (4 : Int32), rv b375, .unset] [(.int cd_)])) rfl (by rw [hml]; rfl) (argsL := [(.int cd_)]) (rest := []) (lenOf pd_0 rfl) rfl (by show 2 * 0 + _ ≤ _; exact Nat.le_of_eq rfl) (hb hby at_280) (fun _ _ => ⟨rfl, e454, (by decide : 4 + 0 ≤ _), (by decide : 203 + 0 ≤ _)⟩)
      dsimp only [Pt.U, Pt.locs, Pt.cells, Pt.slots] at X462 l462 y462 z462 st462 hQ462
      subst y462 z462
      obtain ⟨r463, rfl, M462, e462, y464, y465⟩ := hQ462
      have N462 : Fr n0 L462 := by rw [l462]; exact Fr.app N454 M462
      have g466 : Go p e below T462 (mkF m 283 #[iv p0, iv p1, iv p2, iv p3, iv p4, iv ca, iv cb, iv cc, iv cd_, iv (95 : Int32), iv (4 : Int32), rv b375, .unset] [(.int r463)]) A0 := fun t kont => g461 t (st462 t kont)
      by_cases c467 : r463 = (0 : Int32)
      ·
        have g468 : Go p e below T462 (mkF m 291 #[iv p0, iv p1, iv p2, iv p3, iv p4, iv ca, iv cb, iv cc, iv cd_, iv (95 : Int32), iv (4 : Int32), rv b375, .unset] [(.int (0 : Int32))]) A0 := by
          intro t kont
          refine g466 t ?_
          refine XS.ifYes X462.here hx rfl (pc0 := 283) (pc' := 290) rfl (hb hby at_283) rfl ((if0 _ _).trans (teq c467).1) (by decide) (by decide) ?_
          refine XS.iconst X462.here hx rfl (hb hby at_290) ?_
          exact kont
        exact ⟨(0 : Int32), _, _, X462, e462, N462, g468, (Or.inl rfl), (iff_of_false (by decide) (fun q => own_b0 y465 c467 q.2.2.2))⟩
      have g469 : Go p e below T462 (mkF m 291 #[iv p0, iv p1, iv p2, iv p3, iv p4, iv ca, iv cb, iv cc, iv cd_, iv (95 : Int32), iv (4 : Int32), rv b375, .unset] [(.int (1 : Int32))]) A0 := by
        intro t kont
        refine g466 t ?_
        refine XS.ifNo X462.here hx rfl (hb hby at_283) rfl ((if0 _ _).trans (feq c467).1) ?_
        refine XS.iconst X462.here hx rfl (hb hby at_286) ?_
        refine XS.goto X462.here hx rfl (pc0 := 287) (pc' := 291) rfl (hb hby at_287) (by decide) (by decide) ?_
        exact kont
      exact ⟨(1 : Int32), _, _, X462, e462, N462, g469, (Or.inr rfl), (iff_of_true rfl ⟨own_b1 y440 y441 c443, own_b1 y448 y449 c451, own_b1 y456 y457 c459, own_b1 y464 y465 c467⟩)⟩
    have g472 : Go p e below T436 (mkF m 1144 #[iv p0, iv p1, iv p2, iv p3, iv p4, iv ca, iv cb, iv cc, iv cd_, iv (95 : Int32), iv (4 : Int32), rv b375, iv ex] [(.ref b375)]) A0 := by
      intro t kont
      refine g436 t ?_
      refine XS.istore X436.here hx rfl (hb hby at_291) rfl (l' := #[iv p0, iv p1, iv p2, iv p3, iv p4, iv ca, iv cb, iv cc, iv cd_, iv (95 : Int32), iv (4 : Int32), rv b375, iv ex]) rfl ?_
      refine XS.goto X436.here hx rfl (pc0 := 293) (pc' := 1142) rfl (hb hby at_293) (by decide) (by decide) ?_
      refine XS.aload X436.here hx rfl (hb hby at_1142) rfl rfl ?_
      exact kont
    obtain ⟨_, _, ⟨T473, L473, k473, n473⟩, -, X473, ⟨Lc473, hQ473, l473, y473, z473⟩, st473⟩ := Jvm.LawKit.callS X436 hx (y := (⟨"com/example/clear_fault/clearfault/Fault", "isValidCode", "(Ljava/lang/String;)Z"⟩ : MethodName)) hown (mvT hZ (hw _ (List.mem_of_getElem? (i := 23) rfl))) (mvT hZ (hw _ (List.mem_of_getElem? (i := 24) rfl))) (mvT hZ (hw _ (List.mem_of_getElem? (i := 25) rfl))) (mvT hZ (hw _ (List.mem_of_getElem? (i := 26) rfl))) (by decide) (backOf (W := 0) (rm_isV l Z a0 hw [] b375 r420 r421 i_COMPACT_STRINGS v_SIOOBE_FORMATTER r422 r423 r424 [ca, cb, cc, cd_] T415.heap n0 O433 S0_ hcs y425 y427 y426 y429 y430 (by simp) (by simp) ((own_ccons ⟨z_ca, b_ca⟩ (own_ccons ⟨z_cb, b_cb⟩ (own_ccons ⟨z_cc, b_cc⟩ (own_ccons ⟨z_cd_, b_cd_⟩ own_cnil))))) S2_ hfm S4_ S5_ S6_) hZ (hw _ (List.mem_of_getElem? (i := 26) rfl)) (hw _ (List.mem_of_getElem? (i := 25) rfl)) (by decide) (by decide)) (g := (mkF m 1144 #[iv p0, iv p1, iv p2, iv p3, iv p4, iv ca, iv cb, iv cc, iv cd_, iv (95 : Int32), iv (4 : Int32), rv b375, iv ex] [(.ref b375)])) rfl (by rw [hml]; rfl) (argsL := [(.ref b375)]) (rest := []) (lenOf pd_18 rfl) rfl (by show 2 * 0 + _ ≤ _; exact Nat.le_of_eq rfl) (hb hby at_1144) (fun _ _ => ⟨rfl, e436, (by decide : 4 + 0 ≤ _), (by decide : 203 + 0 ≤ _)⟩)
    dsimp only [Pt.U, Pt.locs, Pt.cells, Pt.slots] at X473 l473 y473 z473 st473 hQ473
    subst y473 z473
    obtain ⟨r474, rfl, M473, e473, y475, y476⟩ := hQ473
    have N473 : Fr n0 L473 := by rw [l473]; exact Fr.app N436 M473
    have g477 : Go p e below T473 (mkF m 1147 #[iv p0, iv p1, iv p2, iv p3, iv p4, iv ca, iv cb, iv cc, iv cd_, iv (95 : Int32), iv (4 : Int32), rv b375, iv ex] [(.int r474)]) A0 := fun t kont => g472 t (st473 t kont)
    have g478 : Go p e below T473 (mkF m 1157 #[iv p0, iv p1, iv p2, iv p3, iv p4, iv ca, iv cb, iv cc, iv cd_, iv (95 : Int32), iv (4 : Int32), rv b375, iv ex] [(.int (1 : Int32))]) A0 := by
      intro t kont
      refine g477 t ?_
      refine XS.iload X473.here hx rfl (hb hby at_1147) rfl ?_
      refine XS.icmpNo X473.here hx rfl (hb hby at_1149) rfl (teq (own_eqb y475 (y476.trans ((by rw [own_valid_cons]; simp [own_allt]) : own_valid [ca, cb, cc, cd_] ↔ (own_lw ca ∧ own_tl cb ∧ own_tl cc ∧ own_tl cd_))) j470 j471 : r474 = ex)).2 ?_
      refine XS.iconst X473.here hx rfl (hb hby at_1152) ?_
      refine XS.goto X473.here hx rfl (pc0 := 1153) (pc' := 1157) rfl (hb hby at_1153) (by decide) (by decide) ?_
      exact kont
    obtain ⟨fs, hr, hrun, hended, hRW⟩ := X473.leaveW hS (by rw [e473]; exact (Nat.le_trans hk (Nat.le_trans (Nat.le_trans (Nat.le_trans (Nat.le_trans (Nat.le_trans (Nat.le_trans E375.1 E382.1) (Keep.of_wr W388).1) (Keep.of_wr W395).1) (Keep.of_wr W402).1) (Keep.of_wr W409).1) K415.1))) (v := some (.int (1 : Int32))) (fun h => by rw [Bd.returns] at h; cases h)
    refine ⟨_, _, g478 _ (retN X473 hx (t := .boolean) Bd.returns (by simp) (hb hby at_1157) hr), hrun, hended, _, _, rfl, ?_, ?_, hRW.1, hRW.2.1, hRW.2.2.1, hRW.2.2.2.mono (by decide) (by decide)⟩
    ·
      show Q_law Z p0 p1 p2 p3 p4 i_COMPACT_STRINGS v_SIOOBE_FORMATTER h0 n0 _ T473.heap _
      rw [e473]
      exact ⟨rfl, N473⟩
    ·
      rw [hh]
      show CHr Z consts_1 s.vm h0 T473.vm T473.heap
      rw [e473]
      exact R431.trans (CHv.at X473 hZ (own_EW hw) R431.1)
  have g480 : Go p e below s₁ (mkF m 296 #[iv p0, iv p1, iv p2, iv p3, iv p4, iv ca, iv cb, iv cc, iv cd_, iv (95 : Int32), iv sel, .unset, .unset] []) A0 := by
    intro t kont
    refine g373 t ?_
    refine XS.icmpYes X0.here hx rfl (pc0 := 219) (pc' := 296) rfl (hb hby at_219) rfl (feq c372).2 (by decide) (by decide) ?_
    exact kont
  by_cases c479 : sel = (5 : Int32) ∨ sel = (6 : Int32)
  ·
    obtain ⟨T481, lc481, X481, e481, N481, g481⟩ : ∃ (T481 : State) (lc481 : List Loc), Stand p l e room_1 (s.setVm s.vm) m #[(.int p0), (.int p1), (.int p2), (.int p3), (.int p4)] below meth c T481 lc481 0 0 ∧ T481.heap = h0 ∧ Fr n0 lc481 ∧ Go p e below T481 (mkF m 309 #[iv p0, iv p1, iv p2, iv p3, iv p4, iv ca, iv cb, iv cc, iv cd_, iv (95 : Int32), iv sel, .unset, .unset] []) A0 := by
      have g483 : Go p e below s₁ (mkF m 299 #[iv p0, iv p1, iv p2, iv p3, iv p4, iv ca, iv cb, iv cc, iv cd_, iv (95 : Int32), iv sel, .unset, .unset] [(.int (5 : Int32)), (.int sel)]) A0 := by
        intro t kont
        refine g480 t ?_
        refine XS.iload X0.here hx rfl (hb hby at_296) rfl ?_
        refine XS.iconst X0.here hx rfl (hb hby at_298) ?_
        exact kont
      by_cases c482 : sel = (5 : Int32)
      ·
        have g484 : Go p e below s₁ (mkF m 309 #[iv p0, iv p1, iv p2, iv p3, iv p4, iv ca, iv cb, iv cc, iv cd_, iv (95 : Int32), iv sel, .unset, .unset] []) A0 := by
          intro t kont
          refine g483 t ?_
          refine XS.icmpYes X0.here hx rfl (pc0 := 299) (pc' := 309) rfl (hb hby at_299) rfl (teq c482).1 (by decide) (by decide) ?_
          exact kont
        exact ⟨_, _, X0, e0, N0, g484⟩
      have g485 : Go p e below s₁ (mkF m 309 #[iv p0, iv p1, iv p2, iv p3, iv p4, iv ca, iv cb, iv cc, iv cd_, iv (95 : Int32), iv sel, .unset, .unset] []) A0 := by
        intro t kont
        refine g483 t ?_
        refine XS.icmpNo X0.here hx rfl (hb hby at_299) rfl (feq c482).1 ?_
        refine XS.iload X0.here hx rfl (hb hby at_302) rfl ?_
        refine XS.bipush X0.here hx rfl (hb hby at_304) ?_
        refine XS.icmpNo X0.here hx rfl (hb hby at_306) rfl (teq (c479.resolve_left c482 : sel = (6 : Int32))).2 ?_
        exact kont
      exact ⟨_, _, X0, e0, N0, g485⟩
    obtain ⟨T486, h486, X486, e486, E486, A486, D486, -, st486⟩ := newO X481 hx hZ hown (hw _ (List.mem_of_getElem? (i := 1) rfl)) (hw _ (List.mem_of_getElem? (i := 2) rfl)) (hw _ (List.mem_of_getElem? (i := 3) rfl)) e481 (g := (mkF m 309 #[iv p0, iv p1, iv p2, iv p3, iv p4, iv ca, iv cb, iv cc, iv cd_, iv (95 : Int32), iv sel, .unset, .unset] [])) rfl (hb hby at_309) (by decide) (by decide)
    obtain ⟨b486, gb486⟩ : ∃ z, z = h0.size := ⟨_, rfl⟩
    rw [← gb486] at A486 D486 st486
    have R487 : CHr Z consts_1 s.vm h0 s.vm h486 := R0.trans (CHr.ext E486 R0.1)
    have O488 := O0.ext E486
    have y489 : Fld Z h486 b486 "java/lang/String" "value" "[B" .null := D486 (Or.inr (hw _ (List.mem_of_getElem? (i := 17) rfl))) (ty := (.array .byte)) (by decide)
    have y490 : Fld Z h486 b486 "java/lang/String" "coder" "B" (.int (0 : Int32)) := D486 (Or.inr (hw _ (List.mem_of_getElem? (i := 18) rfl))) (ty := .byte) (by decide)
    have g491 : Go p e below T486 (mkF m 312 #[iv p0, iv p1, iv p2, iv p3, iv p4, iv ca, iv cb, iv cc, iv cd_, iv (95 : Int32), iv sel, .unset, .unset] [(.ref b486)]) A0 := fun t kont => g481 t (st486 t kont)
    have g492 : Go p e below T486 (mkF m 315 #[iv p0, iv p1, iv p2, iv p3, iv p4, iv ca, iv cb, iv cc, iv cd_, iv (95 : Int32), iv sel, .unset, .unset] [(.int (64 : Int32)), (.ref b486), (.ref b486)]) A0 := by
      intro t kont
      refine g491 t ?_
      refine XS.dup X486.here hx rfl (hb hby at_312) rfl rfl ?_
      refine XS.bipush X486.here hx rfl (hb hby at_313) ?_
      exact kont
    obtain ⟨T493, h493, k493, X493, e493, E493, A493, F493, st493⟩ := newPE X486 hx hZ (hw _ (List.mem_of_getElem? (i := 4) rfl)) e486 (g := (mkF m 315 #[iv p0, iv p1, iv p2, iv p3, iv p4, iv ca, iv cb, iv cc, iv cd_, iv (95 : Int32), iv sel, .unset, .unset] [(.int (64 : Int32)), (.ref b486), (.ref b486)])) rfl (hb hby at_315) rfl (by decide) (cap := 64) (by decide) (by decide) (by decide) (by decide) (ad := "[C") (by decide)
    obtain ⟨b493, gb493⟩ : ∃ z, z = h486.size := ⟨_, rfl⟩
    rw [← gb493] at A493 F493 st493
    have R494 : CHr Z consts_1 s.vm h0 s.vm h493 := R487.trans (CHr.ext E493 R487.1)
    have O495 := O488.ext E493
    have y496 : Arv Z h493 b493 k493 .char (64 : Int32) (List.replicate 64 (.int (0 : Int32))) (.int (0 : Int32)) := (Arv.new A493 (by decide)).pad (pad_rep [] (.int (0 : Int32)) 64)
    obtain ⟨Ls497, hLs497⟩ : ∃ z : List Value, z = (List.replicate 64 (.int (0 : Int32))) := ⟨_, rfl⟩
    rw [← hLs497] at y496
    have lLs497 : Ls497.length = 64 := by rw [hLs497, List.length_replicate]
    have g498 : Go p e below T493 (mkF m 317 #[iv p0, iv p1, iv p2, iv p3, iv p4, iv ca, iv cb, iv cc, iv cd_, iv (95 : Int32), iv sel, .unset, .unset] [(.ref b493), (.ref b486), (.ref b486)]) A0 := fun t kont => g492 t (st493 t kont)
    have g499 : Go p e below T493 (mkF m 321 #[iv p0, iv p1, iv p2, iv p3, iv p4, iv ca, iv cb, iv cc, iv cd_, iv (95 : Int32), iv sel, .unset, .unset] [(.int ca), (.int (0 : Int32)), (.ref b493), (.ref b493), (.ref b486), (.ref b486)]) A0 := by
      intro t kont
      refine g498 t ?_
      refine XS.dup X493.here hx rfl (hb hby at_317) rfl rfl ?_
      refine XS.iconst X493.here hx rfl (hb hby at_318) ?_
      refine XS.iload X493.here hx rfl (hb hby at_319) rfl ?_
      exact kont
    have ge501 : n0 ≤ b493 := Nat.le_trans (own_old_le O488) (Nat.le_of_eq gb493.symm)
    have zz500 := y496
    obtain ⟨cl500, Ar500, q500, S500, M500, H500, G500⟩ := zz500
    have in500 : ¬ ((0 : Int32) < 0 ∨ cl500.slots.size ≤ ((0 : Int32)).toNatClampNeg) := inb_of S500 ⟨by decide, by decide⟩
    obtain ⟨T500, h500, X500, e500, W500, st500⟩ := stC X493 hx hZ e493 Ar500 (j := (0 : Int32)) in500 (g := (mkF m 321 #[iv p0, iv p1, iv p2, iv p3, iv p4, iv ca, iv cb, iv cc, iv cd_, iv (95 : Int32), iv sel, .unset, .unset] [(.int ca), (.int (0 : Int32)), (.ref b493), (.ref b493), (.ref b486), (.ref b486)])) rfl rfl (hb hby at_321)
    rw [show nar .char ca = ca from r_ca] at W500
    have R502 : CHr Z consts_1 s.vm h0 s.vm h500 := R494.trans (CHr.wr W500 (Safe.ext E493 R487.1 (Safe.new (Nat.le_of_eq gb493.symm))) R494.1)
    have O503 := O495.wr W500 ge501
    have y504 : Arv Z h500 b493 k493 .char (64 : Int32) (Ls497.set 0 (.int ca)) (.int (0 : Int32)) := Arv.set Ar500 q500 S500 M500 H500 G500 (own_ft_char (z := ca) r_ca) W500 0 rfl (by rw [lLs497]; decide)
    obtain ⟨Ls505, hLs505⟩ : ∃ z : List Value, z = (Ls497.set 0 (.int ca)) := ⟨_, rfl⟩
    rw [← hLs505] at y504
    have lLs505 : Ls505.length = 64 := by rw [hLs505, List.length_set, lLs497]
    have N500 := Fr.snoc X500 N481 ge501
    have g506 : Go p e below T500 (mkF m 322 #[iv p0, iv p1, iv p2, iv p3, iv p4, iv ca, iv cb, iv cc, iv cd_, iv (95 : Int32), iv sel, .unset, .unset] [(.ref b493), (.ref b486), (.ref b486)]) A0 := fun t kont => g499 t (st500 t kont)
    have g507 : Go p e below T500 (mkF m 326 #[iv p0, iv p1, iv p2, iv p3, iv p4, iv ca, iv cb, iv cc, iv cd_, iv (95 : Int32), iv sel, .unset, .unset] [(.int cb), (.int (1 : Int32)), (.ref b493), (.ref b493), (.ref b486), (.ref b486)]) A0 := by
      intro t kont
      refine g506 t ?_
      refine XS.dup X500.here hx rfl (hb hby at_322) rfl rfl ?_
      refine XS.iconst X500.here hx rfl (hb hby at_323) ?_
      refine XS.iload X500.here hx rfl (hb hby at_324) rfl ?_
      exact kont
    have zz508 := y504
    obtain ⟨cl508, Ar508, q508, S508, M508, H508, G508⟩ := zz508
    have in508 : ¬ ((1 : Int32) < 0 ∨ cl508.slots.size ≤ ((1 : Int32)).toNatClampNeg) := inb_of S508 ⟨by decide, by decide⟩
    obtain ⟨T508, h508, X508, e508, W508, st508⟩ := stC X500 hx hZ e500 Ar508 (j := (1 : Int32)) in508 (g := (mkF m 326 #[iv p0, iv p1, iv p2, iv p3, iv p4, iv ca, iv cb, iv cc, iv cd_, iv (95 : Int32), iv sel, .unset, .unset] [(.int cb), (.int (1 : Int32)), (.ref b493), (.ref b493), (.ref b486), (.ref b486)])) rfl rfl (hb hby at_326)
    rw [show nar .char cb = cb from r_cb] at W508
    have sf510 : Safe Z consts_1 s.vm h500 b493 := (Safe.wr W500 (Safe.ext E493 R487.1 (Safe.new (Nat.le_of_eq gb493.symm))) R494.1 (Safe.ext E493 R487.1 (Safe.new (Nat.le_of_eq gb493.symm))))
    have R509 : CHr Z consts_1 s.vm h0 s.vm h508 := R502.trans (CHr.wr W508 sf510 R502.1)
    have O511 := O503.wr W508 ge501
    have y512 : Arv Z h508 b493 k493 .char (64 : Int32) (Ls505.set 1 (.int cb)) (.int (0 : Int32)) := Arv.set Ar508 q508 S508 M508 H508 G508 (own_ft_char (z := cb) r_cb) W508 1 rfl (by rw [lLs505]; decide)
    obtain ⟨Ls513, hLs513⟩ : ∃ z : List Value, z = (Ls505.set 1 (.int cb)) := ⟨_, rfl⟩
    rw [← hLs513] at y512
    have lLs513 : Ls513.length = 64 := by rw [hLs513, List.length_set, lLs505]
    have N508 := Fr.snoc X508 N500 ge501
    have g514 : Go p e below T508 (mkF m 327 #[iv p0, iv p1, iv p2, iv p3, iv p4, iv ca, iv cb, iv cc, iv cd_, iv (95 : Int32), iv sel, .unset, .unset] [(.ref b493), (.ref b486), (.ref b486)]) A0 := fun t kont => g507 t (st508 t kont)
    have g515 : Go p e below T508 (mkF m 331 #[iv p0, iv p1, iv p2, iv p3, iv p4, iv ca, iv cb, iv cc, iv cd_, iv (95 : Int32), iv sel, .unset, .unset] [(.int (95 : Int32)), (.int (2 : Int32)), (.ref b493), (.ref b493), (.ref b486), (.ref b486)]) A0 := by
      intro t kont
      refine g514 t ?_
      refine XS.dup X508.here hx rfl (hb hby at_327) rfl rfl ?_
      refine XS.iconst X508.here hx rfl (hb hby at_328) ?_
      refine XS.iload X508.here hx rfl (hb hby at_329) rfl ?_
      exact kont
    have zz516 := y512
    obtain ⟨cl516, Ar516, q516, S516, M516, H516, G516⟩ := zz516
    have in516 : ¬ ((2 : Int32) < 0 ∨ cl516.slots.size ≤ ((2 : Int32)).toNatClampNeg) := inb_of S516 ⟨by decide, by decide⟩
    obtain ⟨T516, h516, X516, e516, W516, st516⟩ := stC X508 hx hZ e508 Ar516 (j := (2 : Int32)) in516 (g := (mkF m 331 #[iv p0, iv p1, iv p2, iv p3, iv p4, iv ca, iv cb, iv cc, iv cd_, iv (95 : Int32), iv sel, .unset, .unset] [(.int (95 : Int32)), (.int (2 : Int32)), (.ref b493), (.ref b493), (.ref b486), (.ref b486)])) rfl rfl (hb hby at_331)
    rw [show nar .char (95 : Int32) = (95 : Int32) from (by decide : nar .char (95 : Int32) = (95 : Int32))] at W516
    have sf518 : Safe Z consts_1 s.vm h508 b493 := (Safe.wr W508 sf510 R502.1 sf510)
    have R517 : CHr Z consts_1 s.vm h0 s.vm h516 := R509.trans (CHr.wr W516 sf518 R509.1)
    have O519 := O511.wr W516 ge501
    have y520 : Arv Z h516 b493 k493 .char (64 : Int32) (Ls513.set 2 (.int (95 : Int32))) (.int (0 : Int32)) := Arv.set Ar516 q516 S516 M516 H516 G516 (own_ft_char (z := (95 : Int32)) (by decide : nar .char (95 : Int32) = (95 : Int32))) W516 2 rfl (by rw [lLs513]; decide)
    obtain ⟨Ls521, hLs521⟩ : ∃ z : List Value, z = (Ls513.set 2 (.int (95 : Int32))) := ⟨_, rfl⟩
    rw [← hLs521] at y520
    have lLs521 : Ls521.length = 64 := by rw [hLs521, List.length_set, lLs513]
    have N516 := Fr.snoc X516 N508 ge501
    have g522 : Go p e below T516 (mkF m 332 #[iv p0, iv p1, iv p2, iv p3, iv p4, iv ca, iv cb, iv cc, iv cd_, iv (95 : Int32), iv sel, .unset, .unset] [(.ref b493), (.ref b486), (.ref b486)]) A0 := fun t kont => g515 t (st516 t kont)
    have g523 : Go p e below T516 (mkF m 336 #[iv p0, iv p1, iv p2, iv p3, iv p4, iv ca, iv cb, iv cc, iv cd_, iv (95 : Int32), iv sel, .unset, .unset] [(.int (95 : Int32)), (.int (3 : Int32)), (.ref b493), (.ref b493), (.ref b486), (.ref b486)]) A0 := by
      intro t kont
      refine g522 t ?_
      refine XS.dup X516.here hx rfl (hb hby at_332) rfl rfl ?_
      refine XS.iconst X516.here hx rfl (hb hby at_333) ?_
      refine XS.iload X516.here hx rfl (hb hby at_334) rfl ?_
      exact kont
    have zz524 := y520
    obtain ⟨cl524, Ar524, q524, S524, M524, H524, G524⟩ := zz524
    have in524 : ¬ ((3 : Int32) < 0 ∨ cl524.slots.size ≤ ((3 : Int32)).toNatClampNeg) := inb_of S524 ⟨by decide, by decide⟩
    obtain ⟨T524, h524, X524, e524, W524, st524⟩ := stC X516 hx hZ e516 Ar524 (j := (3 : Int32)) in524 (g := (mkF m 336 #[iv p0, iv p1, iv p2, iv p3, iv p4, iv ca, iv cb, iv cc, iv cd_, iv (95 : Int32), iv sel, .unset, .unset] [(.int (95 : Int32)), (.int (3 : Int32)), (.ref b493), (.ref b493), (.ref b486), (.ref b486)])) rfl rfl (hb hby at_336)
    rw [show nar .char (95 : Int32) = (95 : Int32) from (by decide : nar .char (95 : Int32) = (95 : Int32))] at W524
    have sf526 : Safe Z consts_1 s.vm h516 b493 := (Safe.wr W516 sf518 R509.1 sf518)
    have R525 : CHr Z consts_1 s.vm h0 s.vm h524 := R517.trans (CHr.wr W524 sf526 R517.1)
    have O527 := O519.wr W524 ge501
    have y528 : Arv Z h524 b493 k493 .char (64 : Int32) (Ls521.set 3 (.int (95 : Int32))) (.int (0 : Int32)) := Arv.set Ar524 q524 S524 M524 H524 G524 (own_ft_char (z := (95 : Int32)) (by decide : nar .char (95 : Int32) = (95 : Int32))) W524 3 rfl (by rw [lLs521]; decide)
    obtain ⟨Ls529, hLs529⟩ : ∃ z : List Value, z = (Ls521.set 3 (.int (95 : Int32))) := ⟨_, rfl⟩
    rw [← hLs529] at y528
    have lLs529 : Ls529.length = 64 := by rw [hLs529, List.length_set, lLs521]
    have N524 := Fr.snoc X524 N516 ge501
    have g530 : Go p e below T524 (mkF m 337 #[iv p0, iv p1, iv p2, iv p3, iv p4, iv ca, iv cb, iv cc, iv cd_, iv (95 : Int32), iv sel, .unset, .unset] [(.ref b493), (.ref b486), (.ref b486)]) A0 := fun t kont => g523 t (st524 t kont)
    have g531 : Go p e below T524 (mkF m 341 #[iv p0, iv p1, iv p2, iv p3, iv p4, iv ca, iv cb, iv cc, iv cd_, iv (95 : Int32), iv sel, .unset, .unset] [(.int (95 : Int32)), (.int (4 : Int32)), (.ref b493), (.ref b493), (.ref b486), (.ref b486)]) A0 := by
      intro t kont
      refine g530 t ?_
      refine XS.dup X524.here hx rfl (hb hby at_337) rfl rfl ?_
      refine XS.iconst X524.here hx rfl (hb hby at_338) ?_
      refine XS.iload X524.here hx rfl (hb hby at_339) rfl ?_
      exact kont
    have zz532 := y528
    obtain ⟨cl532, Ar532, q532, S532, M532, H532, G532⟩ := zz532
    have in532 : ¬ ((4 : Int32) < 0 ∨ cl532.slots.size ≤ ((4 : Int32)).toNatClampNeg) := inb_of S532 ⟨by decide, by decide⟩
    obtain ⟨T532, h532, X532, e532, W532, st532⟩ := stC X524 hx hZ e524 Ar532 (j := (4 : Int32)) in532 (g := (mkF m 341 #[iv p0, iv p1, iv p2, iv p3, iv p4, iv ca, iv cb, iv cc, iv cd_, iv (95 : Int32), iv sel, .unset, .unset] [(.int (95 : Int32)), (.int (4 : Int32)), (.ref b493), (.ref b493), (.ref b486), (.ref b486)])) rfl rfl (hb hby at_341)
    rw [show nar .char (95 : Int32) = (95 : Int32) from (by decide : nar .char (95 : Int32) = (95 : Int32))] at W532
    have sf534 : Safe Z consts_1 s.vm h524 b493 := (Safe.wr W524 sf526 R517.1 sf526)
    have R533 : CHr Z consts_1 s.vm h0 s.vm h532 := R525.trans (CHr.wr W532 sf534 R525.1)
    have O535 := O527.wr W532 ge501
    have y536 : Arv Z h532 b493 k493 .char (64 : Int32) (Ls529.set 4 (.int (95 : Int32))) (.int (0 : Int32)) := Arv.set Ar532 q532 S532 M532 H532 G532 (own_ft_char (z := (95 : Int32)) (by decide : nar .char (95 : Int32) = (95 : Int32))) W532 4 rfl (by rw [lLs529]; decide)
    obtain ⟨Ls537, hLs537⟩ : ∃ z : List Value, z = (Ls529.set 4 (.int (95 : Int32))) := ⟨_, rfl⟩
    rw [← hLs537] at y536
    have lLs537 : Ls537.length = 64 := by rw [hLs537, List.length_set, lLs529]
    have N532 := Fr.snoc X532 N524 ge501
    have g538 : Go p e below T532 (mkF m 342 #[iv p0, iv p1, iv p2, iv p3, iv p4, iv ca, iv cb, iv cc, iv cd_, iv (95 : Int32), iv sel, .unset, .unset] [(.ref b493), (.ref b486), (.ref b486)]) A0 := fun t kont => g531 t (st532 t kont)
    have g539 : Go p e below T532 (mkF m 346 #[iv p0, iv p1, iv p2, iv p3, iv p4, iv ca, iv cb, iv cc, iv cd_, iv (95 : Int32), iv sel, .unset, .unset] [(.int (95 : Int32)), (.int (5 : Int32)), (.ref b493), (.ref b493), (.ref b486), (.ref b486)]) A0 := by
      intro t kont
      refine g538 t ?_
      refine XS.dup X532.here hx rfl (hb hby at_342) rfl rfl ?_
      refine XS.iconst X532.here hx rfl (hb hby at_343) ?_
      refine XS.iload X532.here hx rfl (hb hby at_344) rfl ?_
      exact kont
    have zz540 := y536
    obtain ⟨cl540, Ar540, q540, S540, M540, H540, G540⟩ := zz540
    have in540 : ¬ ((5 : Int32) < 0 ∨ cl540.slots.size ≤ ((5 : Int32)).toNatClampNeg) := inb_of S540 ⟨by decide, by decide⟩
    obtain ⟨T540, h540, X540, e540, W540, st540⟩ := stC X532 hx hZ e532 Ar540 (j := (5 : Int32)) in540 (g := (mkF m 346 #[iv p0, iv p1, iv p2, iv p3, iv p4, iv ca, iv cb, iv cc, iv cd_, iv (95 : Int32), iv sel, .unset, .unset] [(.int (95 : Int32)), (.int (5 : Int32)), (.ref b493), (.ref b493), (.ref b486), (.ref b486)])) rfl rfl (hb hby at_346)
    rw [show nar .char (95 : Int32) = (95 : Int32) from (by decide : nar .char (95 : Int32) = (95 : Int32))] at W540
    have sf542 : Safe Z consts_1 s.vm h532 b493 := (Safe.wr W532 sf534 R525.1 sf534)
    have R541 : CHr Z consts_1 s.vm h0 s.vm h540 := R533.trans (CHr.wr W540 sf542 R533.1)
    have O543 := O535.wr W540 ge501
    have y544 : Arv Z h540 b493 k493 .char (64 : Int32) (Ls537.set 5 (.int (95 : Int32))) (.int (0 : Int32)) := Arv.set Ar540 q540 S540 M540 H540 G540 (own_ft_char (z := (95 : Int32)) (by decide : nar .char (95 : Int32) = (95 : Int32))) W540 5 rfl (by rw [lLs537]; decide)
    obtain ⟨Ls545, hLs545⟩ : ∃ z : List Value, z = (Ls537.set 5 (.int (95 : Int32))) := ⟨_, rfl⟩
    rw [← hLs545] at y544
    have lLs545 : Ls545.length = 64 := by rw [hLs545, List.length_set, lLs537]
    have N540 := Fr.snoc X540 N532 ge501
    have g546 : Go p e below T540 (mkF m 347 #[iv p0, iv p1, iv p2, iv p3, iv p4, iv ca, iv cb, iv cc, iv cd_, iv (95 : Int32), iv sel, .unset, .unset] [(.ref b493), (.ref b486), (.ref b486)]) A0 := fun t kont => g539 t (st540 t kont)
    have g547 : Go p e below T540 (mkF m 352 #[iv p0, iv p1, iv p2, iv p3, iv p4, iv ca, iv cb, iv cc, iv cd_, iv (95 : Int32), iv sel, .unset, .unset] [(.int (95 : Int32)), (.int (6 : Int32)), (.ref b493), (.ref b493), (.ref b486), (.ref b486)]) A0 := by
      intro t kont
      refine g546 t ?_
      refine XS.dup X540.here hx rfl (hb hby at_347) rfl rfl ?_
      refine XS.bipush X540.here hx rfl (hb hby at_348) ?_
      refine XS.iload X540.here hx rfl (hb hby at_350) rfl ?_
      exact kont
    have zz548 := y544
    obtain ⟨cl548, Ar548, q548, S548, M548, H548, G548⟩ := zz548
    have in548 : ¬ ((6 : Int32) < 0 ∨ cl548.slots.size ≤ ((6 : Int32)).toNatClampNeg) := inb_of S548 ⟨by decide, by decide⟩
    obtain ⟨T548, h548, X548, e548, W548, st548⟩ := stC X540 hx hZ e540 Ar548 (j := (6 : Int32)) in548 (g := (mkF m 352 #[iv p0, iv p1, iv p2, iv p3, iv p4, iv ca, iv cb, iv cc, iv cd_, iv (95 : Int32), iv sel, .unset, .unset] [(.int (95 : Int32)), (.int (6 : Int32)), (.ref b493), (.ref b493), (.ref b486), (.ref b486)])) rfl rfl (hb hby at_352)
    rw [show nar .char (95 : Int32) = (95 : Int32) from (by decide : nar .char (95 : Int32) = (95 : Int32))] at W548
    have sf550 : Safe Z consts_1 s.vm h540 b493 := (Safe.wr W540 sf542 R533.1 sf542)
    have R549 : CHr Z consts_1 s.vm h0 s.vm h548 := R541.trans (CHr.wr W548 sf550 R541.1)
    have O551 := O543.wr W548 ge501
    have y552 : Arv Z h548 b493 k493 .char (64 : Int32) (Ls545.set 6 (.int (95 : Int32))) (.int (0 : Int32)) := Arv.set Ar548 q548 S548 M548 H548 G548 (own_ft_char (z := (95 : Int32)) (by decide : nar .char (95 : Int32) = (95 : Int32))) W548 6 rfl (by rw [lLs545]; decide)
    obtain ⟨Ls553, hLs553⟩ : ∃ z : List Value, z = (Ls545.set 6 (.int (95 : Int32))) := ⟨_, rfl⟩
    rw [← hLs553] at y552
    have lLs553 : Ls553.length = 64 := by rw [hLs553, List.length_set, lLs545]
    have N548 := Fr.snoc X548 N540 ge501
    have g554 : Go p e below T548 (mkF m 353 #[iv p0, iv p1, iv p2, iv p3, iv p4, iv ca, iv cb, iv cc, iv cd_, iv (95 : Int32), iv sel, .unset, .unset] [(.ref b493), (.ref b486), (.ref b486)]) A0 := fun t kont => g547 t (st548 t kont)
    have g555 : Go p e below T548 (mkF m 358 #[iv p0, iv p1, iv p2, iv p3, iv p4, iv ca, iv cb, iv cc, iv cd_, iv (95 : Int32), iv sel, .unset, .unset] [(.int (95 : Int32)), (.int (7 : Int32)), (.ref b493), (.ref b493), (.ref b486), (.ref b486)]) A0 := by
      intro t kont
      refine g554 t ?_
      refine XS.dup X548.here hx rfl (hb hby at_353) rfl rfl ?_
      refine XS.bipush X548.here hx rfl (hb hby at_354) ?_
      refine XS.iload X548.here hx rfl (hb hby at_356) rfl ?_
      exact kont
    have zz556 := y552
    obtain ⟨cl556, Ar556, q556, S556, M556, H556, G556⟩ := zz556
    have in556 : ¬ ((7 : Int32) < 0 ∨ cl556.slots.size ≤ ((7 : Int32)).toNatClampNeg) := inb_of S556 ⟨by decide, by decide⟩
    obtain ⟨T556, h556, X556, e556, W556, st556⟩ := stC X548 hx hZ e548 Ar556 (j := (7 : Int32)) in556 (g := (mkF m 358 #[iv p0, iv p1, iv p2, iv p3, iv p4, iv ca, iv cb, iv cc, iv cd_, iv (95 : Int32), iv sel, .unset, .unset] [(.int (95 : Int32)), (.int (7 : Int32)), (.ref b493), (.ref b493), (.ref b486), (.ref b486)])) rfl rfl (hb hby at_358)
    rw [show nar .char (95 : Int32) = (95 : Int32) from (by decide : nar .char (95 : Int32) = (95 : Int32))] at W556
    have sf558 : Safe Z consts_1 s.vm h548 b493 := (Safe.wr W548 sf550 R541.1 sf550)
    have R557 : CHr Z consts_1 s.vm h0 s.vm h556 := R549.trans (CHr.wr W556 sf558 R549.1)
    have O559 := O551.wr W556 ge501
    have y560 : Arv Z h556 b493 k493 .char (64 : Int32) (Ls553.set 7 (.int (95 : Int32))) (.int (0 : Int32)) := Arv.set Ar556 q556 S556 M556 H556 G556 (own_ft_char (z := (95 : Int32)) (by decide : nar .char (95 : Int32) = (95 : Int32))) W556 7 rfl (by rw [lLs553]; decide)
    obtain ⟨Ls561, hLs561⟩ : ∃ z : List Value, z = (Ls553.set 7 (.int (95 : Int32))) := ⟨_, rfl⟩
    rw [← hLs561] at y560
    have lLs561 : Ls561.length = 64 := by rw [hLs561, List.length_set, lLs553]
    have N556 := Fr.snoc X556 N548 ge501
    have g562 : Go p e below T556 (mkF m 359 #[iv p0, iv p1, iv p2, iv p3, iv p4, iv ca, iv cb, iv cc, iv cd_, iv (95 : Int32), iv sel, .unset, .unset] [(.ref b493), (.ref b486), (.ref b486)]) A0 := fun t kont => g555 t (st556 t kont)
    have g563 : Go p e below T556 (mkF m 364 #[iv p0, iv p1, iv p2, iv p3, iv p4, iv ca, iv cb, iv cc, iv cd_, iv (95 : Int32), iv sel, .unset, .unset] [(.int (95 : Int32)), (.int (8 : Int32)), (.ref b493), (.ref b493), (.ref b486), (.ref b486)]) A0 := by
      intro t kont
      refine g562 t ?_
      refine XS.dup X556.here hx rfl (hb hby at_359) rfl rfl ?_
      refine XS.bipush X556.here hx rfl (hb hby at_360) ?_
      refine XS.iload X556.here hx rfl (hb hby at_362) rfl ?_
      exact kont
    have zz564 := y560
    obtain ⟨cl564, Ar564, q564, S564, M564, H564, G564⟩ := zz564
    have in564 : ¬ ((8 : Int32) < 0 ∨ cl564.slots.size ≤ ((8 : Int32)).toNatClampNeg) := inb_of S564 ⟨by decide, by decide⟩
    obtain ⟨T564, h564, X564, e564, W564, st564⟩ := stC X556 hx hZ e556 Ar564 (j := (8 : Int32)) in564 (g := (mkF m 364 #[iv p0, iv p1, iv p2, iv p3, iv p4, iv ca, iv cb, iv cc, iv cd_, iv (95 : Int32), iv sel, .unset, .unset] [(.int (95 : Int32)), (.int (8 : Int32)), (.ref b493), (.ref b493), (.ref b486), (.ref b486)])) rfl rfl (hb hby at_364)
    rw [show nar .char (95 : Int32) = (95 : Int32) from (by decide : nar .char (95 : Int32) = (95 : Int32))] at W564
    have sf566 : Safe Z consts_1 s.vm h556 b493 := (Safe.wr W556 sf558 R549.1 sf558)
    have R565 : CHr Z consts_1 s.vm h0 s.vm h564 := R557.trans (CHr.wr W564 sf566 R557.1)
    have O567 := O559.wr W564 ge501
    have y568 : Arv Z h564 b493 k493 .char (64 : Int32) (Ls561.set 8 (.int (95 : Int32))) (.int (0 : Int32)) := Arv.set Ar564 q564 S564 M564 H564 G564 (own_ft_char (z := (95 : Int32)) (by decide : nar .char (95 : Int32) = (95 : Int32))) W564 8 rfl (by rw [lLs561]; decide)
    obtain ⟨Ls569, hLs569⟩ : ∃ z : List Value, z = (Ls561.set 8 (.int (95 : Int32))) := ⟨_, rfl⟩
    rw [← hLs569] at y568
    have lLs569 : Ls569.length = 64 := by rw [hLs569, List.length_set, lLs561]
    have N564 := Fr.snoc X564 N556 ge501
    have g570 : Go p e below T564 (mkF m 365 #[iv p0, iv p1, iv p2, iv p3, iv p4, iv ca, iv cb, iv cc, iv cd_, iv (95 : Int32), iv sel, .unset, .unset] [(.ref b493), (.ref b486), (.ref b486)]) A0 := fun t kont => g563 t (st564 t kont)
    have g571 : Go p e below T564 (mkF m 370 #[iv p0, iv p1, iv p2, iv p3, iv p4, iv ca, iv cb, iv cc, iv cd_, iv (95 : Int32), iv sel, .unset, .unset] [(.int (95 : Int32)), (.int (9 : Int32)), (.ref b493), (.ref b493), (.ref b486), (.ref b486)]) A0 := by
      intro t kont
      refine g570 t ?_
      refine XS.dup X564.here hx rfl (hb hby at_365) rfl rfl ?_
      refine XS.bipush X564.here hx rfl (hb hby at_366) ?_
      refine XS.iload X564.here hx rfl (hb hby at_368) rfl ?_
      exact kont
    have zz572 := y568
    obtain ⟨cl572, Ar572, q572, S572, M572, H572, G572⟩ := zz572
    have in572 : ¬ ((9 : Int32) < 0 ∨ cl572.slots.size ≤ ((9 : Int32)).toNatClampNeg) := inb_of S572 ⟨by decide, by decide⟩
    obtain ⟨T572, h572, X572, e572, W572, st572⟩ := stC X564 hx hZ e564 Ar572 (j := (9 : Int32)) in572 (g := (mkF m 370 #[iv p0, iv p1, iv p2, iv p3, iv p4, iv ca, iv cb, iv cc, iv cd_, iv (95 : Int32), iv sel, .unset, .unset] [(.int (95 : Int32)), (.int (9 : Int32)), (.ref b493), (.ref b493), (.ref b486), (.ref b486)])) rfl rfl (hb hby at_370)
    rw [show nar .char (95 : Int32) = (95 : Int32) from (by decide : nar .char (95 : Int32) = (95 : Int32))] at W572
    have sf574 : Safe Z consts_1 s.vm h564 b493 := (Safe.wr W564 sf566 R557.1 sf566)
    have R573 : CHr Z consts_1 s.vm h0 s.vm h572 := R565.trans (CHr.wr W572 sf574 R565.1)
    have O575 := O567.wr W572 ge501
    have y576 : Arv Z h572 b493 k493 .char (64 : Int32) (Ls569.set 9 (.int (95 : Int32))) (.int (0 : Int32)) := Arv.set Ar572 q572 S572 M572 H572 G572 (own_ft_char (z := (95 : Int32)) (by decide : nar .char (95 : Int32) = (95 : Int32))) W572 9 rfl (by rw [lLs569]; decide)
    obtain ⟨Ls577, hLs577⟩ : ∃ z : List Value, z = (Ls569.set 9 (.int (95 : Int32))) := ⟨_, rfl⟩
    rw [← hLs577] at y576
    have lLs577 : Ls577.length = 64 := by rw [hLs577, List.length_set, lLs569]
    have N572 := Fr.snoc X572 N564 ge501
    have g578 : Go p e below T572 (mkF m 371 #[iv p0, iv p1, iv p2, iv p3, iv p4, iv ca, iv cb, iv cc, iv cd_, iv (95 : Int32), iv sel, .unset, .unset] [(.ref b493), (.ref b486), (.ref b486)]) A0 := fun t kont => g571 t (st572 t kont)
    have g579 : Go p e below T572 (mkF m 376 #[iv p0, iv p1, iv p2, iv p3, iv p4, iv ca, iv cb, iv cc, iv cd_, iv (95 : Int32), iv sel, .unset, .unset] [(.int (95 : Int32)), (.int (10 : Int32)), (.ref b493), (.ref b493), (.ref b486), (.ref b486)]) A0 := by
      intro t kont
      refine g578 t ?_
      refine XS.dup X572.here hx rfl (hb hby at_371) rfl rfl ?_
      refine XS.bipush X572.here hx rfl (hb hby at_372) ?_
      refine XS.iload X572.here hx rfl (hb hby at_374) rfl ?_
      exact kont
    have zz580 := y576
    obtain ⟨cl580, Ar580, q580, S580, M580, H580, G580⟩ := zz580
    have in580 : ¬ ((10 : Int32) < 0 ∨ cl580.slots.size ≤ ((10 : Int32)).toNatClampNeg) := inb_of S580 ⟨by decide, by decide⟩
    obtain ⟨T580, h580, X580, e580, W580, st580⟩ := stC X572 hx hZ e572 Ar580 (j := (10 : Int32)) in580 (g := (mkF m 376 #[iv p0, iv p1, iv p2, iv p3, iv p4, iv ca, iv cb, iv cc, iv cd_, iv (95 : Int32), iv sel, .unset, .unset] [(.int (95 : Int32)), (.int (10 : Int32)), (.ref b493), (.ref b493), (.ref b486), (.ref b486)])) rfl rfl (hb hby at_376)
    rw [show nar .char (95 : Int32) = (95 : Int32) from (by decide : nar .char (95 : Int32) = (95 : Int32))] at W580
    have sf582 : Safe Z consts_1 s.vm h572 b493 := (Safe.wr W572 sf574 R565.1 sf574)
    have R581 : CHr Z consts_1 s.vm h0 s.vm h580 := R573.trans (CHr.wr W580 sf582 R573.1)
    have O583 := O575.wr W580 ge501
    have y584 : Arv Z h580 b493 k493 .char (64 : Int32) (Ls577.set 10 (.int (95 : Int32))) (.int (0 : Int32)) := Arv.set Ar580 q580 S580 M580 H580 G580 (own_ft_char (z := (95 : Int32)) (by decide : nar .char (95 : Int32) = (95 : Int32))) W580 10 rfl (by rw [lLs577]; decide)
    obtain ⟨Ls585, hLs585⟩ : ∃ z : List Value, z = (Ls577.set 10 (.int (95 : Int32))) := ⟨_, rfl⟩
    rw [← hLs585] at y584
    have lLs585 : Ls585.length = 64 := by rw [hLs585, List.length_set, lLs577]
    have N580 := Fr.snoc X580 N572 ge501
    have g586 : Go p e below T580 (mkF m 377 #[iv p0, iv p1, iv p2, iv p3, iv p4, iv ca, iv cb, iv cc, iv cd_, iv (95 : Int32), iv sel, .unset, .unset] [(.ref b493), (.ref b486), (.ref b486)]) A0 := fun t kont => g579 t (st580 t kont)
    have g587 : Go p e below T580 (mkF m 382 #[iv p0, iv p1, iv p2, iv p3, iv p4, iv ca, iv cb, iv cc, iv cd_, iv (95 : Int32), iv sel, .unset, .unset] [(.int (95 : Int32)), (.int (11 : Int32)), (.ref b493), (.ref b493), (.ref b486), (.ref b486)]) A0 := by
      intro t kont
      refine g586 t ?_
      refine XS.dup X580.here hx rfl (hb hby at_377) rfl rfl ?_
      refine XS.bipush X580.here hx rfl (hb hby at_378) ?_
      refine XS.iload X580.here hx rfl (hb hby at_380) rfl ?_
      exact kont
    have zz588 := y584
    obtain ⟨cl588, Ar588, q588, S588, M588, H588, G588⟩ := zz588
    have in588 : ¬ ((11 : Int32) < 0 ∨ cl588.slots.size ≤ ((11 : Int32)).toNatClampNeg) := inb_of S588 ⟨by decide, by decide⟩
    obtain ⟨T588, h588, X588, e588, W588, st588⟩ := stC X580 hx hZ e580 Ar588 (j := (11 : Int32)) in588 (g := (mkF m 382 #[iv p0, iv p1, iv p2, iv p3, iv p4, iv ca, iv cb, iv cc, iv cd_, iv (95 : Int32), iv sel, .unset, .unset] [(.int (95 : Int32)), (.int (11 : Int32)), (.ref b493), (.ref b493), (.ref b486), (.ref b486)])) rfl rfl (hb hby at_382)
    rw [show nar .char (95 : Int32) = (95 : Int32) from (by decide : nar .char (95 : Int32) = (95 : Int32))] at W588
    have sf590 : Safe Z consts_1 s.vm h580 b493 := (Safe.wr W580 sf582 R573.1 sf582)
    have R589 : CHr Z consts_1 s.vm h0 s.vm h588 := R581.trans (CHr.wr W588 sf590 R581.1)
    have O591 := O583.wr W588 ge501
    have y592 : Arv Z h588 b493 k493 .char (64 : Int32) (Ls585.set 11 (.int (95 : Int32))) (.int (0 : Int32)) := Arv.set Ar588 q588 S588 M588 H588 G588 (own_ft_char (z := (95 : Int32)) (by decide : nar .char (95 : Int32) = (95 : Int32))) W588 11 rfl (by rw [lLs585]; decide)
    obtain ⟨Ls593, hLs593⟩ : ∃ z : List Value, z = (Ls585.set 11 (.int (95 : Int32))) := ⟨_, rfl⟩
    rw [← hLs593] at y592
    have lLs593 : Ls593.length = 64 := by rw [hLs593, List.length_set, lLs585]
    have N588 := Fr.snoc X588 N580 ge501
    have g594 : Go p e below T588 (mkF m 383 #[iv p0, iv p1, iv p2, iv p3, iv p4, iv ca, iv cb, iv cc, iv cd_, iv (95 : Int32), iv sel, .unset, .unset] [(.ref b493), (.ref b486), (.ref b486)]) A0 := fun t kont => g587 t (st588 t kont)
    have g595 : Go p e below T588 (mkF m 388 #[iv p0, iv p1, iv p2, iv p3, iv p4, iv ca, iv cb, iv cc, iv cd_, iv (95 : Int32), iv sel, .unset, .unset] [(.int (95 : Int32)), (.int (12 : Int32)), (.ref b493), (.ref b493), (.ref b486), (.ref b486)]) A0 := by
      intro t kont
      refine g594 t ?_
      refine XS.dup X588.here hx rfl (hb hby at_383) rfl rfl ?_
      refine XS.bipush X588.here hx rfl (hb hby at_384) ?_
      refine XS.iload X588.here hx rfl (hb hby at_386) rfl ?_
      exact kont
    have zz596 := y592
    obtain ⟨cl596, Ar596, q596, S596, M596, H596, G596⟩ := zz596
    have in596 : ¬ ((12 : Int32) < 0 ∨ cl596.slots.size ≤ ((12 : Int32)).toNatClampNeg) := inb_of S596 ⟨by decide, by decide⟩
    obtain ⟨T596, h596, X596, e596, W596, st596⟩ := stC X588 hx hZ e588 Ar596 (j := (12 : Int32)) in596 (g := (mkF m 388 #[iv p0, iv p1, iv p2, iv p3, iv p4, iv ca, iv cb, iv cc, iv cd_, iv (95 : Int32), iv sel, .unset, .unset] [(.int (95 : Int32)), (.int (12 : Int32)), (.ref b493), (.ref b493), (.ref b486), (.ref b486)])) rfl rfl (hb hby at_388)
    rw [show nar .char (95 : Int32) = (95 : Int32) from (by decide : nar .char (95 : Int32) = (95 : Int32))] at W596
    have sf598 : Safe Z consts_1 s.vm h588 b493 := (Safe.wr W588 sf590 R581.1 sf590)
    have R597 : CHr Z consts_1 s.vm h0 s.vm h596 := R589.trans (CHr.wr W596 sf598 R589.1)
    have O599 := O591.wr W596 ge501
    have y600 : Arv Z h596 b493 k493 .char (64 : Int32) (Ls593.set 12 (.int (95 : Int32))) (.int (0 : Int32)) := Arv.set Ar596 q596 S596 M596 H596 G596 (own_ft_char (z := (95 : Int32)) (by decide : nar .char (95 : Int32) = (95 : Int32))) W596 12 rfl (by rw [lLs593]; decide)
    obtain ⟨Ls601, hLs601⟩ : ∃ z : List Value, z = (Ls593.set 12 (.int (95 : Int32))) := ⟨_, rfl⟩
    rw [← hLs601] at y600
    have lLs601 : Ls601.length = 64 := by rw [hLs601, List.length_set, lLs593]
    have N596 := Fr.snoc X596 N588 ge501
    have g602 : Go p e below T596 (mkF m 389 #[iv p0, iv p1, iv p2, iv p3, iv p4, iv ca, iv cb, iv cc, iv cd_, iv (95 : Int32), iv sel, .unset, .unset] [(.ref b493), (.ref b486), (.ref b486)]) A0 := fun t kont => g595 t (st596 t kont)
    have g603 : Go p e below T596 (mkF m 394 #[iv p0, iv p1, iv p2, iv p3, iv p4, iv ca, iv cb, iv cc, iv cd_, iv (95 : Int32), iv sel, .unset, .unset] [(.int (95 : Int32)), (.int (13 : Int32)), (.ref b493), (.ref b493), (.ref b486), (.ref b486)]) A0 := by
      intro t kont
      refine g602 t ?_
      refine XS.dup X596.here hx rfl (hb hby at_389) rfl rfl ?_
      refine XS.bipush X596.here hx rfl (hb hby at_390) ?_
      refine XS.iload X596.here hx rfl (hb hby at_392) rfl ?_
      exact kont
    have zz604 := y600
    obtain ⟨cl604, Ar604, q604, S604, M604, H604, G604⟩ := zz604
    have in604 : ¬ ((13 : Int32) < 0 ∨ cl604.slots.size ≤ ((13 : Int32)).toNatClampNeg) := inb_of S604 ⟨by decide, by decide⟩
    obtain ⟨T604, h604, X604, e604, W604, st604⟩ := stC X596 hx hZ e596 Ar604 (j := (13 : Int32)) in604 (g := (mkF m 394 #[iv p0, iv p1, iv p2, iv p3, iv p4, iv ca, iv cb, iv cc, iv cd_, iv (95 : Int32), iv sel, .unset, .unset] [(.int (95 : Int32)), (.int (13 : Int32)), (.ref b493), (.ref b493), (.ref b486), (.ref b486)])) rfl rfl (hb hby at_394)
    rw [show nar .char (95 : Int32) = (95 : Int32) from (by decide : nar .char (95 : Int32) = (95 : Int32))] at W604
    have sf606 : Safe Z consts_1 s.vm h596 b493 := (Safe.wr W596 sf598 R589.1 sf598)
    have R605 : CHr Z consts_1 s.vm h0 s.vm h604 := R597.trans (CHr.wr W604 sf606 R597.1)
    have O607 := O599.wr W604 ge501
    have y608 : Arv Z h604 b493 k493 .char (64 : Int32) (Ls601.set 13 (.int (95 : Int32))) (.int (0 : Int32)) := Arv.set Ar604 q604 S604 M604 H604 G604 (own_ft_char (z := (95 : Int32)) (by decide : nar .char (95 : Int32) = (95 : Int32))) W604 13 rfl (by rw [lLs601]; decide)
    obtain ⟨Ls609, hLs609⟩ : ∃ z : List Value, z = (Ls601.set 13 (.int (95 : Int32))) := ⟨_, rfl⟩
    rw [← hLs609] at y608
    have lLs609 : Ls609.length = 64 := by rw [hLs609, List.length_set, lLs601]
    have N604 := Fr.snoc X604 N596 ge501
    have g610 : Go p e below T604 (mkF m 395 #[iv p0, iv p1, iv p2, iv p3, iv p4, iv ca, iv cb, iv cc, iv cd_, iv (95 : Int32), iv sel, .unset, .unset] [(.ref b493), (.ref b486), (.ref b486)]) A0 := fun t kont => g603 t (st604 t kont)
    have g611 : Go p e below T604 (mkF m 400 #[iv p0, iv p1, iv p2, iv p3, iv p4, iv ca, iv cb, iv cc, iv cd_, iv (95 : Int32), iv sel, .unset, .unset] [(.int (95 : Int32)), (.int (14 : Int32)), (.ref b493), (.ref b493), (.ref b486), (.ref b486)]) A0 := by
      intro t kont
      refine g610 t ?_
      refine XS.dup X604.here hx rfl (hb hby at_395) rfl rfl ?_
      refine XS.bipush X604.here hx rfl (hb hby at_396) ?_
      refine XS.iload X604.here hx rfl (hb hby at_398) rfl ?_
      exact kont
    have zz612 := y608
    obtain ⟨cl612, Ar612, q612, S612, M612, H612, G612⟩ := zz612
    have in612 : ¬ ((14 : Int32) < 0 ∨ cl612.slots.size ≤ ((14 : Int32)).toNatClampNeg) := inb_of S612 ⟨by decide, by decide⟩
    obtain ⟨T612, h612, X612, e612, W612, st612⟩ := stC X604 hx hZ e604 Ar612 (j := (14 : Int32)) in612 (g := (mkF m 400 #[iv p0, iv p1, iv p2, iv p3, iv p4, iv ca, iv cb, iv cc, iv cd_, iv (95 : Int32), iv sel, .unset, .unset] [(.int (95 : Int32)), (.int (14 : Int32)), (.ref b493), (.ref b493), (.ref b486), (.ref b486)])) rfl rfl (hb hby at_400)
    rw [show nar .char (95 : Int32) = (95 : Int32) from (by decide : nar .char (95 : Int32) = (95 : Int32))] at W612
    have sf614 : Safe Z consts_1 s.vm h604 b493 := (Safe.wr W604 sf606 R597.1 sf606)
    have R613 : CHr Z consts_1 s.vm h0 s.vm h612 := R605.trans (CHr.wr W612 sf614 R605.1)
    have O615 := O607.wr W612 ge501
    have y616 : Arv Z h612 b493 k493 .char (64 : Int32) (Ls609.set 14 (.int (95 : Int32))) (.int (0 : Int32)) := Arv.set Ar612 q612 S612 M612 H612 G612 (own_ft_char (z := (95 : Int32)) (by decide : nar .char (95 : Int32) = (95 : Int32))) W612 14 rfl (by rw [lLs609]; decide)
    obtain ⟨Ls617, hLs617⟩ : ∃ z : List Value, z = (Ls609.set 14 (.int (95 : Int32))) := ⟨_, rfl⟩
    rw [← hLs617] at y616
    have lLs617 : Ls617.length = 64 := by rw [hLs617, List.length_set, lLs609]
    have N612 := Fr.snoc X612 N604 ge501
    have g618 : Go p e below T612 (mkF m 401 #[iv p0, iv p1, iv p2, iv p3, iv p4, iv ca, iv cb, iv cc, iv cd_, iv (95 : Int32), iv sel, .unset, .unset] [(.ref b493), (.ref b486), (.ref b486)]) A0 := fun t kont => g611 t (st612 t kont)
    have g619 : Go p e below T612 (mkF m 406 #[iv p0, iv p1, iv p2, iv p3, iv p4, iv ca, iv cb, iv cc, iv cd_, iv (95 : Int32), iv sel, .unset, .unset] [(.int (95 : Int32)), (.int (15 : Int32)), (.ref b493), (.ref b493), (.ref b486), (.ref b486)]) A0 := by
      intro t kont
      refine g618 t ?_
      refine XS.dup X612.here hx rfl (hb hby at_401) rfl rfl ?_
      refine XS.bipush X612.here hx rfl (hb hby at_402) ?_
      refine XS.iload X612.here hx rfl (hb hby at_404) rfl ?_
      exact kont
    have zz620 := y616
    obtain ⟨cl620, Ar620, q620, S620, M620, H620, G620⟩ := zz620
    have in620 : ¬ ((15 : Int32) < 0 ∨ cl620.slots.size ≤ ((15 : Int32)).toNatClampNeg) := inb_of S620 ⟨by decide, by decide⟩
    obtain ⟨T620, h620, X620, e620, W620, st620⟩ := stC X612 hx hZ e612 Ar620 (j := (15 : Int32)) in620 (g := (mkF m 406 #[iv p0, iv p1, iv p2, iv p3, iv p4, iv ca, iv cb, iv cc, iv cd_, iv (95 : Int32), iv sel, .unset, .unset] [(.int (95 : Int32)), (.int (15 : Int32)), (.ref b493), (.ref b493), (.ref b486), (.ref b486)])) rfl rfl (hb hby at_406)
    rw [show nar .char (95 : Int32) = (95 : Int32) from (by decide : nar .char (95 : Int32) = (95 : Int32))] at W620
    have sf622 : Safe Z consts_1 s.vm h612 b493 := (Safe.wr W612 sf614 R605.1 sf614)
    have R621 : CHr Z consts_1 s.vm h0 s.vm h620 := R613.trans (CHr.wr W620 sf622 R613.1)
    have O623 := O615.wr W620 ge501
    have y624 : Arv Z h620 b493 k493 .char (64 : Int32) (Ls617.set 15 (.int (95 : Int32))) (.int (0 : Int32)) := Arv.set Ar620 q620 S620 M620 H620 G620 (own_ft_char (z := (95 : Int32)) (by decide : nar .char (95 : Int32) = (95 : Int32))) W620 15 rfl (by rw [lLs617]; decide)
    obtain ⟨Ls625, hLs625⟩ : ∃ z : List Value, z = (Ls617.set 15 (.int (95 : Int32))) := ⟨_, rfl⟩
    rw [← hLs625] at y624
    have lLs625 : Ls625.length = 64 := by rw [hLs625, List.length_set, lLs617]
    have N620 := Fr.snoc X620 N612 ge501
    have g626 : Go p e below T620 (mkF m 407 #[iv p0, iv p1, iv p2, iv p3, iv p4, iv ca, iv cb, iv cc, iv cd_, iv (95 : Int32), iv sel, .unset, .unset] [(.ref b493), (.ref b486), (.ref b486)]) A0 := fun t kont => g619 t (st620 t kont)
    have g627 : Go p e below T620 (mkF m 412 #[iv p0, iv p1, iv p2, iv p3, iv p4, iv ca, iv cb, iv cc, iv cd_, iv (95 : Int32), iv sel, .unset, .unset] [(.int (95 : Int32)), (.int (16 : Int32)), (.ref b493), (.ref b493), (.ref b486), (.ref b486)]) A0 := by
      intro t kont
      refine g626 t ?_
      refine XS.dup X620.here hx rfl (hb hby at_407) rfl rfl ?_
      refine XS.bipush X620.here hx rfl (hb hby at_408) ?_
      refine XS.iload X620.here hx rfl (hb hby at_410) rfl ?_
      exact kont
    have zz628 := y624
    obtain ⟨cl628, Ar628, q628, S628, M628, H628, G628⟩ := zz628
    have in628 : ¬ ((16 : Int32) < 0 ∨ cl628.slots.size ≤ ((16 : Int32)).toNatClampNeg) := inb_of S628 ⟨by decide, by decide⟩
    obtain ⟨T628, h628, X628, e628, W628, st628⟩ := stC X620 hx hZ e620 Ar628 (j := (16 : Int32)) in628 (g := (mkF m 412 #[iv p0, iv p1, iv p2, iv p3, iv p4, iv ca, iv cb, iv cc, iv cd_, iv (95 : Int32), iv sel, .unset, .unset] [(.int (95 : Int32)), (.int (16 : Int32)), (.ref b493), (.ref b493), (.ref b486), (.ref b486)])) rfl rfl (hb hby at_412)
    rw [show nar .char (95 : Int32) = (95 : Int32) from (by decide : nar .char (95 : Int32) = (95 : Int32))] at W628
    have sf630 : Safe Z consts_1 s.vm h620 b493 := (Safe.wr W620 sf622 R613.1 sf622)
    have R629 : CHr Z consts_1 s.vm h0 s.vm h628 := R621.trans (CHr.wr W628 sf630 R621.1)
    have O631 := O623.wr W628 ge501
    have y632 : Arv Z h628 b493 k493 .char (64 : Int32) (Ls625.set 16 (.int (95 : Int32))) (.int (0 : Int32)) := Arv.set Ar628 q628 S628 M628 H628 G628 (own_ft_char (z := (95 : Int32)) (by decide : nar .char (95 : Int32) = (95 : Int32))) W628 16 rfl (by rw [lLs625]; decide)
    obtain ⟨Ls633, hLs633⟩ : ∃ z : List Value, z = (Ls625.set 16 (.int (95 : Int32))) := ⟨_, rfl⟩
    rw [← hLs633] at y632
    have lLs633 : Ls633.length = 64 := by rw [hLs633, List.length_set, lLs625]
    have N628 := Fr.snoc X628 N620 ge501
    have g634 : Go p e below T628 (mkF m 413 #[iv p0, iv p1, iv p2, iv p3, iv p4, iv ca, iv cb, iv cc, iv cd_, iv (95 : Int32), iv sel, .unset, .unset] [(.ref b493), (.ref b486), (.ref b486)]) A0 := fun t kont => g627 t (st628 t kont)
    have g635 : Go p e below T628 (mkF m 418 #[iv p0, iv p1, iv p2, iv p3, iv p4, iv ca, iv cb, iv cc, iv cd_, iv (95 : Int32), iv sel, .unset, .unset] [(.int (95 : Int32)), (.int (17 : Int32)), (.ref b493), (.ref b493), (.ref b486), (.ref b486)]) A0 := by
      intro t kont
      refine g634 t ?_
      refine XS.dup X628.here hx rfl (hb hby at_413) rfl rfl ?_
      refine XS.bipush X628.here hx rfl (hb hby at_414) ?_
      refine XS.iload X628.here hx rfl (hb hby at_416) rfl ?_
      exact kont
    have zz636 := y632
    obtain ⟨cl636, Ar636, q636, S636, M636, H636, G636⟩ := zz636
    have in636 : ¬ ((17 : Int32) < 0 ∨ cl636.slots.size ≤ ((17 : Int32)).toNatClampNeg) := inb_of S636 ⟨by decide, by decide⟩
    obtain ⟨T636, h636, X636, e636, W636, st636⟩ := stC X628 hx hZ e628 Ar636 (j := (17 : Int32)) in636 (g := (mkF m 418 #[iv p0, iv p1, iv p2, iv p3, iv p4, iv ca, iv cb, iv cc, iv cd_, iv (95 : Int32), iv sel, .unset, .unset] [(.int (95 : Int32)), (.int (17 : Int32)), (.ref b493), (.ref b493), (.ref b486), (.ref b486)])) rfl rfl (hb hby at_418)
    rw [show nar .char (95 : Int32) = (95 : Int32) from (by decide : nar .char (95 : Int32) = (95 : Int32))] at W636
    have sf638 : Safe Z consts_1 s.vm h628 b493 := (Safe.wr W628 sf630 R621.1 sf630)
    have R637 : CHr Z consts_1 s.vm h0 s.vm h636 := R629.trans (CHr.wr W636 sf638 R629.1)
    have O639 := O631.wr W636 ge501
    have y640 : Arv Z h636 b493 k493 .char (64 : Int32) (Ls633.set 17 (.int (95 : Int32))) (.int (0 : Int32)) := Arv.set Ar636 q636 S636 M636 H636 G636 (own_ft_char (z := (95 : Int32)) (by decide : nar .char (95 : Int32) = (95 : Int32))) W636 17 rfl (by rw [lLs633]; decide)
    obtain ⟨Ls641, hLs641⟩ : ∃ z : List Value, z = (Ls633.set 17 (.int (95 : Int32))) := ⟨_, rfl⟩
    rw [← hLs641] at y640
    have lLs641 : Ls641.length = 64 := by rw [hLs641, List.length_set, lLs633]
    have N636 := Fr.snoc X636 N628 ge501
    have g642 : Go p e below T636 (mkF m 419 #[iv p0, iv p1, iv p2, iv p3, iv p4, iv ca, iv cb, iv cc, iv cd_, iv (95 : Int32), iv sel, .unset, .unset] [(.ref b493), (.ref b486), (.ref b486)]) A0 := fun t kont => g635 t (st636 t kont)
    have g643 : Go p e below T636 (mkF m 424 #[iv p0, iv p1, iv p2, iv p3, iv p4, iv ca, iv cb, iv cc, iv cd_, iv (95 : Int32), iv sel, .unset, .unset] [(.int (95 : Int32)), (.int (18 : Int32)), (.ref b493), (.ref b493), (.ref b486), (.ref b486)]) A0 := by
      intro t kont
      refine g642 t ?_
      refine XS.dup X636.here hx rfl (hb hby at_419) rfl rfl ?_
      refine XS.bipush X636.here hx rfl (hb hby at_420) ?_
      refine XS.iload X636.here hx rfl (hb hby at_422) rfl ?_
      exact kont
    have zz644 := y640
    obtain ⟨cl644, Ar644, q644, S644, M644, H644, G644⟩ := zz644
    have in644 : ¬ ((18 : Int32) < 0 ∨ cl644.slots.size ≤ ((18 : Int32)).toNatClampNeg) := inb_of S644 ⟨by decide, by decide⟩
    obtain ⟨T644, h644, X644, e644, W644, st644⟩ := stC X636 hx hZ e636 Ar644 (j := (18 : Int32)) in644 (g := (mkF m 424 #[iv p0, iv p1, iv p2, iv p3, iv p4, iv ca, iv cb, iv cc, iv cd_, iv (95 : Int32), iv sel, .unset, .unset] [(.int (95 : Int32)), (.int (18 : Int32)), (.ref b493), (.ref b493), (.ref b486), (.ref b486)])) rfl rfl (hb hby at_424)
    rw [show nar .char (95 : Int32) = (95 : Int32) from (by decide : nar .char (95 : Int32) = (95 : Int32))] at W644
    have sf646 : Safe Z consts_1 s.vm h636 b493 := (Safe.wr W636 sf638 R629.1 sf638)
    have R645 : CHr Z consts_1 s.vm h0 s.vm h644 := R637.trans (CHr.wr W644 sf646 R637.1)
    have O647 := O639.wr W644 ge501
    have y648 : Arv Z h644 b493 k493 .char (64 : Int32) (Ls641.set 18 (.int (95 : Int32))) (.int (0 : Int32)) := Arv.set Ar644 q644 S644 M644 H644 G644 (own_ft_char (z := (95 : Int32)) (by decide : nar .char (95 : Int32) = (95 : Int32))) W644 18 rfl (by rw [lLs641]; decide)
    obtain ⟨Ls649, hLs649⟩ : ∃ z : List Value, z = (Ls641.set 18 (.int (95 : Int32))) := ⟨_, rfl⟩
    rw [← hLs649] at y648
    have lLs649 : Ls649.length = 64 := by rw [hLs649, List.length_set, lLs641]
    have N644 := Fr.snoc X644 N636 ge501
    have g650 : Go p e below T644 (mkF m 425 #[iv p0, iv p1, iv p2, iv p3, iv p4, iv ca, iv cb, iv cc, iv cd_, iv (95 : Int32), iv sel, .unset, .unset] [(.ref b493), (.ref b486), (.ref b486)]) A0 := fun t kont => g643 t (st644 t kont)
    have g651 : Go p e below T644 (mkF m 430 #[iv p0, iv p1, iv p2, iv p3, iv p4, iv ca, iv cb, iv cc, iv cd_, iv (95 : Int32), iv sel, .unset, .unset] [(.int (95 : Int32)), (.int (19 : Int32)), (.ref b493), (.ref b493), (.ref b486), (.ref b486)]) A0 := by
      intro t kont
      refine g650 t ?_
      refine XS.dup X644.here hx rfl (hb hby at_425) rfl rfl ?_
      refine XS.bipush X644.here hx rfl (hb hby at_426) ?_
      refine XS.iload X644.here hx rfl (hb hby at_428) rfl ?_
      exact kont
    have zz652 := y648
    obtain ⟨cl652, Ar652, q652, S652, M652, H652, G652⟩ := zz652
    have in652 : ¬ ((19 : Int32) < 0 ∨ cl652.slots.size ≤ ((19 : Int32)).toNatClampNeg) := inb_of S652 ⟨by decide, by decide⟩
    obtain ⟨T652, h652, X652, e652, W652, st652⟩ := stC X644 hx hZ e644 Ar652 (j := (19 : Int32)) in652 (g := (mkF m 430 #[iv p0, iv p1, iv p2, iv p3, iv p4, iv ca, iv cb, iv cc, iv cd_, iv (95 : Int32), iv sel, .unset, .unset] [(.int (95 : Int32)), (.int (19 : Int32)), (.ref b493), (.ref b493), (.ref b486), (.ref b486)])) rfl rfl (hb hby at_430)
    rw [show nar .char (95 : Int32) = (95 : Int32) from (by decide : nar .char (95 : Int32) = (95 : Int32))] at W652
    have sf654 : Safe Z consts_1 s.vm h644 b493 := (Safe.wr W644 sf646 R637.1 sf646)
    have R653 : CHr Z consts_1 s.vm h0 s.vm h652 := R645.trans (CHr.wr W652 sf654 R645.1)
    have O655 := O647.wr W652 ge501
    have y656 : Arv Z h652 b493 k493 .char (64 : Int32) (Ls649.set 19 (.int (95 : Int32))) (.int (0 : Int32)) := Arv.set Ar652 q652 S652 M652 H652 G652 (own_ft_char (z := (95 : Int32)) (by decide : nar .char (95 : Int32) = (95 : Int32))) W652 19 rfl (by rw [lLs649]; decide)
    obtain ⟨Ls657, hLs657⟩ : ∃ z : List Value, z = (Ls649.set 19 (.int (95 : Int32))) := ⟨_, rfl⟩
    rw [← hLs657] at y656
    have lLs657 : Ls657.length = 64 := by rw [hLs657, List.length_set, lLs649]
    have N652 := Fr.snoc X652 N644 ge501
    have g658 : Go p e below T652 (mkF m 431 #[iv p0, iv p1, iv p2, iv p3, iv p4, iv ca, iv cb, iv cc, iv cd_, iv (95 : Int32), iv sel, .unset, .unset] [(.ref b493), (.ref b486), (.ref b486)]) A0 := fun t kont => g651 t (st652 t kont)
    have g659 : Go p e below T652 (mkF m 436 #[iv p0, iv p1, iv p2, iv p3, iv p4, iv ca, iv cb, iv cc, iv cd_, iv (95 : Int32), iv sel, .unset, .unset] [(.int (95 : Int32)), (.int (20 : Int32)), (.ref b493), (.ref b493), (.ref b486), (.ref b486)]) A0 := by
      intro t kont
      refine g658 t ?_
      refine XS.dup X652.here hx rfl (hb hby at_431) rfl rfl ?_
      refine XS.bipush X652.here hx rfl (hb hby at_432) ?_
      refine XS.iload X652.here hx rfl (hb hby at_434) rfl ?_
      exact kont
    have zz660 := y656
    obtain ⟨cl660, Ar660, q660, S660, M660, H660, G660⟩ := zz660
    have in660 : ¬ ((20 : Int32) < 0 ∨ cl660.slots.size ≤ ((20 : Int32)).toNatClampNeg) := inb_of S660 ⟨by decide, by decide⟩
    obtain ⟨T660, h660, X660, e660, W660, st660⟩ := stC X652 hx hZ e652 Ar660 (j := (20 : Int32)) in660 (g := (mkF m 436 #[iv p0, iv p1, iv p2, iv p3, iv p4, iv ca, iv cb, iv cc, iv cd_, iv (95 : Int32), iv sel, .unset, .unset] [(.int (95 : Int32)), (.int (20 : Int32)), (.ref b493), (.ref b493), (.ref b486), (.ref b486)])) rfl rfl (hb hby at_436)
    rw [show nar .char (95 : Int32) = (95 : Int32) from (by decide : nar .char (95 : Int32) = (95 : Int32))] at W660
    have sf662 : Safe Z consts_1 s.vm h652 b493 := (Safe.wr W652 sf654 R645.1 sf654)
    have R661 : CHr Z consts_1 s.vm h0 s.vm h660 := R653.trans (CHr.wr W660 sf662 R653.1)
    have O663 := O655.wr W660 ge501
    have y664 : Arv Z h660 b493 k493 .char (64 : Int32) (Ls657.set 20 (.int (95 : Int32))) (.int (0 : Int32)) := Arv.set Ar660 q660 S660 M660 H660 G660 (own_ft_char (z := (95 : Int32)) (by decide : nar .char (95 : Int32) = (95 : Int32))) W660 20 rfl (by rw [lLs657]; decide)
    obtain ⟨Ls665, hLs665⟩ : ∃ z : List Value, z = (Ls657.set 20 (.int (95 : Int32))) := ⟨_, rfl⟩
    rw [← hLs665] at y664
    have lLs665 : Ls665.length = 64 := by rw [hLs665, List.length_set, lLs657]
    have N660 := Fr.snoc X660 N652 ge501
    have g666 : Go p e below T660 (mkF m 437 #[iv p0, iv p1, iv p2, iv p3, iv p4, iv ca, iv cb, iv cc, iv cd_, iv (95 : Int32), iv sel, .unset, .unset] [(.ref b493), (.ref b486), (.ref b486)]) A0 := fun t kont => g659 t (st660 t kont)
    have g667 : Go p e below T660 (mkF m 442 #[iv p0, iv p1, iv p2, iv p3, iv p4, iv ca, iv cb, iv cc, iv cd_, iv (95 : Int32), iv sel, .unset, .unset] [(.int (95 : Int32)), (.int (21 : Int32)), (.ref b493), (.ref b493), (.ref b486), (.ref b486)]) A0 := by
      intro t kont
      refine g666 t ?_
      refine XS.dup X660.here hx rfl (hb hby at_437) rfl rfl ?_
      refine XS.bipush X660.here hx rfl (hb hby at_438) ?_
      refine XS.iload X660.here hx rfl (hb hby at_440) rfl ?_
      exact kont
    have zz668 := y664
    obtain ⟨cl668, Ar668, q668, S668, M668, H668, G668⟩ := zz668
    have in668 : ¬ ((21 : Int32) < 0 ∨ cl668.slots.size ≤ ((21 : Int32)).toNatClampNeg) := inb_of S668 ⟨by decide, by decide⟩
    obtain ⟨T668, h668, X668, e668, W668, st668⟩ := stC X660 hx hZ e660 Ar668 (j := (21 : Int32)) in668 (g := (mkF m 442 #[iv p0, iv p1, iv p2, iv p3, iv p4, iv ca, iv cb, iv cc, iv cd_, iv (95 : Int32), iv sel, .unset, .unset] [(.int (95 : Int32)), (.int (21 : Int32)), (.ref b493), (.ref b493), (.ref b486), (.ref b486)])) rfl rfl (hb hby at_442)
    rw [show nar .char (95 : Int32) = (95 : Int32) from (by decide : nar .char (95 : Int32) = (95 : Int32))] at W668
    have sf670 : Safe Z consts_1 s.vm h660 b493 := (Safe.wr W660 sf662 R653.1 sf662)
    have R669 : CHr Z consts_1 s.vm h0 s.vm h668 := R661.trans (CHr.wr W668 sf670 R661.1)
    have O671 := O663.wr W668 ge501
    have y672 : Arv Z h668 b493 k493 .char (64 : Int32) (Ls665.set 21 (.int (95 : Int32))) (.int (0 : Int32)) := Arv.set Ar668 q668 S668 M668 H668 G668 (own_ft_char (z := (95 : Int32)) (by decide : nar .char (95 : Int32) = (95 : Int32))) W668 21 rfl (by rw [lLs665]; decide)
    obtain ⟨Ls673, hLs673⟩ : ∃ z : List Value, z = (Ls665.set 21 (.int (95 : Int32))) := ⟨_, rfl⟩
    rw [← hLs673] at y672
    have lLs673 : Ls673.length = 64 := by rw [hLs673, List.length_set, lLs665]
    have N668 := Fr.snoc X668 N660 ge501
    have g674 : Go p e below T668 (mkF m 443 #[iv p0, iv p1, iv p2, iv p3, iv p4, iv ca, iv cb, iv cc, iv cd_, iv (95 : Int32), iv sel, .unset, .unset] [(.ref b493), (.ref b486), (.ref b486)]) A0 := fun t kont => g667 t (st668 t kont)
    have g675 : Go p e below T668 (mkF m 448 #[iv p0, iv p1, iv p2, iv p3, iv p4, iv ca, iv cb, iv cc, iv cd_, iv (95 : Int32), iv sel, .unset, .unset] [(.int (95 : Int32)), (.int (22 : Int32)), (.ref b493), (.ref b493), (.ref b486), (.ref b486)]) A0 := by
      intro t kont
      refine g674 t ?_
      refine XS.dup X668.here hx rfl (hb hby at_443) rfl rfl ?_
      refine XS.bipush X668.here hx rfl (hb hby at_444) ?_
      refine XS.iload X668.here hx rfl (hb hby at_446) rfl ?_
      exact kont
    have zz676 := y672
    obtain ⟨cl676, Ar676, q676, S676, M676, H676, G676⟩ := zz676
    have in676 : ¬ ((22 : Int32) < 0 ∨ cl676.slots.size ≤ ((22 : Int32)).toNatClampNeg) := inb_of S676 ⟨by decide, by decide⟩
    obtain ⟨T676, h676, X676, e676, W676, st676⟩ := stC X668 hx hZ e668 Ar676 (j := (22 : Int32)) in676 (g := (mkF m 448 #[iv p0, iv p1, iv p2, iv p3, iv p4, iv ca, iv cb, iv cc, iv cd_, iv (95 : Int32), iv sel, .unset, .unset] [(.int (95 : Int32)), (.int (22 : Int32)), (.ref b493), (.ref b493), (.ref b486), (.ref b486)])) rfl rfl (hb hby at_448)
    rw [show nar .char (95 : Int32) = (95 : Int32) from (by decide : nar .char (95 : Int32) = (95 : Int32))] at W676
    have sf678 : Safe Z consts_1 s.vm h668 b493 := (Safe.wr W668 sf670 R661.1 sf670)
    have R677 : CHr Z consts_1 s.vm h0 s.vm h676 := R669.trans (CHr.wr W676 sf678 R669.1)
    have O679 := O671.wr W676 ge501
    have y680 : Arv Z h676 b493 k493 .char (64 : Int32) (Ls673.set 22 (.int (95 : Int32))) (.int (0 : Int32)) := Arv.set Ar676 q676 S676 M676 H676 G676 (own_ft_char (z := (95 : Int32)) (by decide : nar .char (95 : Int32) = (95 : Int32))) W676 22 rfl (by rw [lLs673]; decide)
    obtain ⟨Ls681, hLs681⟩ : ∃ z : List Value, z = (Ls673.set 22 (.int (95 : Int32))) := ⟨_, rfl⟩
    rw [← hLs681] at y680
    have lLs681 : Ls681.length = 64 := by rw [hLs681, List.length_set, lLs673]
    have N676 := Fr.snoc X676 N668 ge501
    have g682 : Go p e below T676 (mkF m 449 #[iv p0, iv p1, iv p2, iv p3, iv p4, iv ca, iv cb, iv cc, iv cd_, iv (95 : Int32), iv sel, .unset, .unset] [(.ref b493), (.ref b486), (.ref b486)]) A0 := fun t kont => g675 t (st676 t kont)
    have g683 : Go p e below T676 (mkF m 454 #[iv p0, iv p1, iv p2, iv p3, iv p4, iv ca, iv cb, iv cc, iv cd_, iv (95 : Int32), iv sel, .unset, .unset] [(.int (95 : Int32)), (.int (23 : Int32)), (.ref b493), (.ref b493), (.ref b486), (.ref b486)]) A0 := by
      intro t kont
      refine g682 t ?_
      refine XS.dup X676.here hx rfl (hb hby at_449) rfl rfl ?_
      refine XS.bipush X676.here hx rfl (hb hby at_450) ?_
      refine XS.iload X676.here hx rfl (hb hby at_452) rfl ?_
      exact kont
    have zz684 := y680
    obtain ⟨cl684, Ar684, q684, S684, M684, H684, G684⟩ := zz684
    have in684 : ¬ ((23 : Int32) < 0 ∨ cl684.slots.size ≤ ((23 : Int32)).toNatClampNeg) := inb_of S684 ⟨by decide, by decide⟩
    obtain ⟨T684, h684, X684, e684, W684, st684⟩ := stC X676 hx hZ e676 Ar684 (j := (23 : Int32)) in684 (g := (mkF m 454 #[iv p0, iv p1, iv p2, iv p3, iv p4, iv ca, iv cb, iv cc, iv cd_, iv (95 : Int32), iv sel, .unset, .unset] [(.int (95 : Int32)), (.int (23 : Int32)), (.ref b493), (.ref b493), (.ref b486), (.ref b486)])) rfl rfl (hb hby at_454)
    rw [show nar .char (95 : Int32) = (95 : Int32) from (by decide : nar .char (95 : Int32) = (95 : Int32))] at W684
    have sf686 : Safe Z consts_1 s.vm h676 b493 := (Safe.wr W676 sf678 R669.1 sf678)
    have R685 : CHr Z consts_1 s.vm h0 s.vm h684 := R677.trans (CHr.wr W684 sf686 R677.1)
    have O687 := O679.wr W684 ge501
    have y688 : Arv Z h684 b493 k493 .char (64 : Int32) (Ls681.set 23 (.int (95 : Int32))) (.int (0 : Int32)) := Arv.set Ar684 q684 S684 M684 H684 G684 (own_ft_char (z := (95 : Int32)) (by decide : nar .char (95 : Int32) = (95 : Int32))) W684 23 rfl (by rw [lLs681]; decide)
    obtain ⟨Ls689, hLs689⟩ : ∃ z : List Value, z = (Ls681.set 23 (.int (95 : Int32))) := ⟨_, rfl⟩
    rw [← hLs689] at y688
    have lLs689 : Ls689.length = 64 := by rw [hLs689, List.length_set, lLs681]
    have N684 := Fr.snoc X684 N676 ge501
    have g690 : Go p e below T684 (mkF m 455 #[iv p0, iv p1, iv p2, iv p3, iv p4, iv ca, iv cb, iv cc, iv cd_, iv (95 : Int32), iv sel, .unset, .unset] [(.ref b493), (.ref b486), (.ref b486)]) A0 := fun t kont => g683 t (st684 t kont)
    have g691 : Go p e below T684 (mkF m 460 #[iv p0, iv p1, iv p2, iv p3, iv p4, iv ca, iv cb, iv cc, iv cd_, iv (95 : Int32), iv sel, .unset, .unset] [(.int (95 : Int32)), (.int (24 : Int32)), (.ref b493), (.ref b493), (.ref b486), (.ref b486)]) A0 := by
      intro t kont
      refine g690 t ?_
      refine XS.dup X684.here hx rfl (hb hby at_455) rfl rfl ?_
      refine XS.bipush X684.here hx rfl (hb hby at_456) ?_
      refine XS.iload X684.here hx rfl (hb hby at_458) rfl ?_
      exact kont
    have zz692 := y688
    obtain ⟨cl692, Ar692, q692, S692, M692, H692, G692⟩ := zz692
    have in692 : ¬ ((24 : Int32) < 0 ∨ cl692.slots.size ≤ ((24 : Int32)).toNatClampNeg) := inb_of S692 ⟨by decide, by decide⟩
    obtain ⟨T692, h692, X692, e692, W692, st692⟩ := stC X684 hx hZ e684 Ar692 (j := (24 : Int32)) in692 (g := (mkF m 460 #[iv p0, iv p1, iv p2, iv p3, iv p4, iv ca, iv cb, iv cc, iv cd_, iv (95 : Int32), iv sel, .unset, .unset] [(.int (95 : Int32)), (.int (24 : Int32)), (.ref b493), (.ref b493), (.ref b486), (.ref b486)])) rfl rfl (hb hby at_460)
    rw [show nar .char (95 : Int32) = (95 : Int32) from (by decide : nar .char (95 : Int32) = (95 : Int32))] at W692
    have sf694 : Safe Z consts_1 s.vm h684 b493 := (Safe.wr W684 sf686 R677.1 sf686)
    have R693 : CHr Z consts_1 s.vm h0 s.vm h692 := R685.trans (CHr.wr W692 sf694 R685.1)
    have O695 := O687.wr W692 ge501
    have y696 : Arv Z h692 b493 k493 .char (64 : Int32) (Ls689.set 24 (.int (95 : Int32))) (.int (0 : Int32)) := Arv.set Ar692 q692 S692 M692 H692 G692 (own_ft_char (z := (95 : Int32)) (by decide : nar .char (95 : Int32) = (95 : Int32))) W692 24 rfl (by rw [lLs689]; decide)
    obtain ⟨Ls697, hLs697⟩ : ∃ z : List Value, z = (Ls689.set 24 (.int (95 : Int32))) := ⟨_, rfl⟩
    rw [← hLs697] at y696
    have lLs697 : Ls697.length = 64 := by rw [hLs697, List.length_set, lLs689]
    have N692 := Fr.snoc X692 N684 ge501
    have g698 : Go p e below T692 (mkF m 461 #[iv p0, iv p1, iv p2, iv p3, iv p4, iv ca, iv cb, iv cc, iv cd_, iv (95 : Int32), iv sel, .unset, .unset] [(.ref b493), (.ref b486), (.ref b486)]) A0 := fun t kont => g691 t (st692 t kont)
    have g699 : Go p e below T692 (mkF m 466 #[iv p0, iv p1, iv p2, iv p3, iv p4, iv ca, iv cb, iv cc, iv cd_, iv (95 : Int32), iv sel, .unset, .unset] [(.int (95 : Int32)), (.int (25 : Int32)), (.ref b493), (.ref b493), (.ref b486), (.ref b486)]) A0 := by
      intro t kont
      refine g698 t ?_
      refine XS.dup X692.here hx rfl (hb hby at_461) rfl rfl ?_
      refine XS.bipush X692.here hx rfl (hb hby at_462) ?_
      refine XS.iload X692.here hx rfl (hb hby at_464) rfl ?_
      exact kont
    have zz700 := y696
    obtain ⟨cl700, Ar700, q700, S700, M700, H700, G700⟩ := zz700
    have in700 : ¬ ((25 : Int32) < 0 ∨ cl700.slots.size ≤ ((25 : Int32)).toNatClampNeg) := inb_of S700 ⟨by decide, by decide⟩
    obtain ⟨T700, h700, X700, e700, W700, st700⟩ := stC X692 hx hZ e692 Ar700 (j := (25 : Int32)) in700 (g := (mkF m 466 #[iv p0, iv p1, iv p2, iv p3, iv p4, iv ca, iv cb, iv cc, iv cd_, iv (95 : Int32), iv sel, .unset, .unset] [(.int (95 : Int32)), (.int (25 : Int32)), (.ref b493), (.ref b493), (.ref b486), (.ref b486)])) rfl rfl (hb hby at_466)
    rw [show nar .char (95 : Int32) = (95 : Int32) from (by decide : nar .char (95 : Int32) = (95 : Int32))] at W700
    have sf702 : Safe Z consts_1 s.vm h692 b493 := (Safe.wr W692 sf694 R685.1 sf694)
    have R701 : CHr Z consts_1 s.vm h0 s.vm h700 := R693.trans (CHr.wr W700 sf702 R693.1)
    have O703 := O695.wr W700 ge501
    have y704 : Arv Z h700 b493 k493 .char (64 : Int32) (Ls697.set 25 (.int (95 : Int32))) (.int (0 : Int32)) := Arv.set Ar700 q700 S700 M700 H700 G700 (own_ft_char (z := (95 : Int32)) (by decide : nar .char (95 : Int32) = (95 : Int32))) W700 25 rfl (by rw [lLs697]; decide)
    obtain ⟨Ls705, hLs705⟩ : ∃ z : List Value, z = (Ls697.set 25 (.int (95 : Int32))) := ⟨_, rfl⟩
    rw [← hLs705] at y704
    have lLs705 : Ls705.length = 64 := by rw [hLs705, List.length_set, lLs697]
    have N700 := Fr.snoc X700 N692 ge501
    have g706 : Go p e below T700 (mkF m 467 #[iv p0, iv p1, iv p2, iv p3, iv p4, iv ca, iv cb, iv cc, iv cd_, iv (95 : Int32), iv sel, .unset, .unset] [(.ref b493), (.ref b486), (.ref b486)]) A0 := fun t kont => g699 t (st700 t kont)
    have g707 : Go p e below T700 (mkF m 472 #[iv p0, iv p1, iv p2, iv p3, iv p4, iv ca, iv cb, iv cc, iv cd_, iv (95 : Int32), iv sel, .unset, .unset] [(.int (95 : Int32)), (.int (26 : Int32)), (.ref b493), (.ref b493), (.ref b486), (.ref b486)]) A0 := by
      intro t kont
      refine g706 t ?_
      refine XS.dup X700.here hx rfl (hb hby at_467) rfl rfl ?_
      refine XS.bipush X700.here hx rfl (hb hby at_468) ?_
      refine XS.iload X700.here hx rfl (hb hby at_470) rfl ?_
      exact kont
    have zz708 := y704
    obtain ⟨cl708, Ar708, q708, S708, M708, H708, G708⟩ := zz708
    have in708 : ¬ ((26 : Int32) < 0 ∨ cl708.slots.size ≤ ((26 : Int32)).toNatClampNeg) := inb_of S708 ⟨by decide, by decide⟩
    obtain ⟨T708, h708, X708, e708, W708, st708⟩ := stC X700 hx hZ e700 Ar708 (j := (26 : Int32)) in708 (g := (mkF m 472 #[iv p0, iv p1, iv p2, iv p3, iv p4, iv ca, iv cb, iv cc, iv cd_, iv (95 : Int32), iv sel, .unset, .unset] [(.int (95 : Int32)), (.int (26 : Int32)), (.ref b493), (.ref b493), (.ref b486), (.ref b486)])) rfl rfl (hb hby at_472)
    rw [show nar .char (95 : Int32) = (95 : Int32) from (by decide : nar .char (95 : Int32) = (95 : Int32))] at W708
    have sf710 : Safe Z consts_1 s.vm h700 b493 := (Safe.wr W700 sf702 R693.1 sf702)
    have R709 : CHr Z consts_1 s.vm h0 s.vm h708 := R701.trans (CHr.wr W708 sf710 R701.1)
    have O711 := O703.wr W708 ge501
    have y712 : Arv Z h708 b493 k493 .char (64 : Int32) (Ls705.set 26 (.int (95 : Int32))) (.int (0 : Int32)) := Arv.set Ar708 q708 S708 M708 H708 G708 (own_ft_char (z := (95 : Int32)) (by decide : nar .char (95 : Int32) = (95 : Int32))) W708 26 rfl (by rw [lLs705]; decide)
    obtain ⟨Ls713, hLs713⟩ : ∃ z : List Value, z = (Ls705.set 26 (.int (95 : Int32))) := ⟨_, rfl⟩
    rw [← hLs713] at y712
    have lLs713 : Ls713.length = 64 := by rw [hLs713, List.length_set, lLs705]
    have N708 := Fr.snoc X708 N700 ge501
    have g714 : Go p e below T708 (mkF m 473 #[iv p0, iv p1, iv p2, iv p3, iv p4, iv ca, iv cb, iv cc, iv cd_, iv (95 : Int32), iv sel, .unset, .unset] [(.ref b493), (.ref b486), (.ref b486)]) A0 := fun t kont => g707 t (st708 t kont)
    have g715 : Go p e below T708 (mkF m 478 #[iv p0, iv p1, iv p2, iv p3, iv p4, iv ca, iv cb, iv cc, iv cd_, iv (95 : Int32), iv sel, .unset, .unset] [(.int (95 : Int32)), (.int (27 : Int32)), (.ref b493), (.ref b493), (.ref b486), (.ref b486)]) A0 := by
      intro t kont
      refine g714 t ?_
      refine XS.dup X708.here hx rfl (hb hby at_473) rfl rfl ?_
      refine XS.bipush X708.here hx rfl (hb hby at_474) ?_
      refine XS.iload X708.here hx rfl (hb hby at_476) rfl ?_
      exact kont
    have zz716 := y712
    obtain ⟨cl716, Ar716, q716, S716, M716, H716, G716⟩ := zz716
    have in716 : ¬ ((27 : Int32) < 0 ∨ cl716.slots.size ≤ ((27 : Int32)).toNatClampNeg) := inb_of S716 ⟨by decide, by decide⟩
    obtain ⟨T716, h716, X716, e716, W716, st716⟩ := stC X708 hx hZ e708 Ar716 (j := (27 : Int32)) in716 (g := (mkF m 478 #[iv p0, iv p1, iv p2, iv p3, iv p4, iv ca, iv cb, iv cc, iv cd_, iv (95 : Int32), iv sel, .unset, .unset] [(.int (95 : Int32)), (.int (27 : Int32)), (.ref b493), (.ref b493), (.ref b486), (.ref b486)])) rfl rfl (hb hby at_478)
    rw [show nar .char (95 : Int32) = (95 : Int32) from (by decide : nar .char (95 : Int32) = (95 : Int32))] at W716
    have sf718 : Safe Z consts_1 s.vm h708 b493 := (Safe.wr W708 sf710 R701.1 sf710)
    have R717 : CHr Z consts_1 s.vm h0 s.vm h716 := R709.trans (CHr.wr W716 sf718 R709.1)
    have O719 := O711.wr W716 ge501
    have y720 : Arv Z h716 b493 k493 .char (64 : Int32) (Ls713.set 27 (.int (95 : Int32))) (.int (0 : Int32)) := Arv.set Ar716 q716 S716 M716 H716 G716 (own_ft_char (z := (95 : Int32)) (by decide : nar .char (95 : Int32) = (95 : Int32))) W716 27 rfl (by rw [lLs713]; decide)
    obtain ⟨Ls721, hLs721⟩ : ∃ z : List Value, z = (Ls713.set 27 (.int (95 : Int32))) := ⟨_, rfl⟩
    rw [← hLs721] at y720
    have lLs721 : Ls721.length = 64 := by rw [hLs721, List.length_set, lLs713]
    have N716 := Fr.snoc X716 N708 ge501
    have g722 : Go p e below T716 (mkF m 479 #[iv p0, iv p1, iv p2, iv p3, iv p4, iv ca, iv cb, iv cc, iv cd_, iv (95 : Int32), iv sel, .unset, .unset] [(.ref b493), (.ref b486), (.ref b486)]) A0 := fun t kont => g715 t (st716 t kont)
    have g723 : Go p e below T716 (mkF m 484 #[iv p0, iv p1, iv p2, iv p3, iv p4, iv ca, iv cb, iv cc, iv cd_, iv (95 : Int32), iv sel, .unset, .unset] [(.int (95 : Int32)), (.int (28 : Int32)), (.ref b493), (.ref b493), (.ref b486), (.ref b486)]) A0 := by
      intro t kont
      refine g722 t ?_
      refine XS.dup X716.here hx rfl (hb hby at_479) rfl rfl ?_
      refine XS.bipush X716.here hx rfl (hb hby at_480) ?_
      refine XS.iload X716.here hx rfl (hb hby at_482) rfl ?_
      exact kont
    have zz724 := y720
    obtain ⟨cl724, Ar724, q724, S724, M724, H724, G724⟩ := zz724
    have in724 : ¬ ((28 : Int32) < 0 ∨ cl724.slots.size ≤ ((28 : Int32)).toNatClampNeg) := inb_of S724 ⟨by decide, by decide⟩
    obtain ⟨T724, h724, X724, e724, W724, st724⟩ := stC X716 hx hZ e716 Ar724 (j := (28 : Int32)) in724 (g := (mkF m 484 #[iv p0, iv p1, iv p2, iv p3, iv p4, iv ca, iv cb, iv cc, iv cd_, iv (95 : Int32), iv sel, .unset, .unset] [(.int (95 : Int32)), (.int (28 : Int32)), (.ref b493), (.ref b493), (.ref b486), (.ref b486)])) rfl rfl (hb hby at_484)
    rw [show nar .char (95 : Int32) = (95 : Int32) from (by decide : nar .char (95 : Int32) = (95 : Int32))] at W724
    have sf726 : Safe Z consts_1 s.vm h716 b493 := (Safe.wr W716 sf718 R709.1 sf718)
    have R725 : CHr Z consts_1 s.vm h0 s.vm h724 := R717.trans (CHr.wr W724 sf726 R717.1)
    have O727 := O719.wr W724 ge501
    have y728 : Arv Z h724 b493 k493 .char (64 : Int32) (Ls721.set 28 (.int (95 : Int32))) (.int (0 : Int32)) := Arv.set Ar724 q724 S724 M724 H724 G724 (own_ft_char (z := (95 : Int32)) (by decide : nar .char (95 : Int32) = (95 : Int32))) W724 28 rfl (by rw [lLs721]; decide)
    obtain ⟨Ls729, hLs729⟩ : ∃ z : List Value, z = (Ls721.set 28 (.int (95 : Int32))) := ⟨_, rfl⟩
    rw [← hLs729] at y728
    have lLs729 : Ls729.length = 64 := by rw [hLs729, List.length_set, lLs721]
    have N724 := Fr.snoc X724 N716 ge501
    have g730 : Go p e below T724 (mkF m 485 #[iv p0, iv p1, iv p2, iv p3, iv p4, iv ca, iv cb, iv cc, iv cd_, iv (95 : Int32), iv sel, .unset, .unset] [(.ref b493), (.ref b486), (.ref b486)]) A0 := fun t kont => g723 t (st724 t kont)
    have g731 : Go p e below T724 (mkF m 490 #[iv p0, iv p1, iv p2, iv p3, iv p4, iv ca, iv cb, iv cc, iv cd_, iv (95 : Int32), iv sel, .unset, .unset] [(.int (95 : Int32)), (.int (29 : Int32)), (.ref b493), (.ref b493), (.ref b486), (.ref b486)]) A0 := by
      intro t kont
      refine g730 t ?_
      refine XS.dup X724.here hx rfl (hb hby at_485) rfl rfl ?_
      refine XS.bipush X724.here hx rfl (hb hby at_486) ?_
      refine XS.iload X724.here hx rfl (hb hby at_488) rfl ?_
      exact kont
    have zz732 := y728
    obtain ⟨cl732, Ar732, q732, S732, M732, H732, G732⟩ := zz732
    have in732 : ¬ ((29 : Int32) < 0 ∨ cl732.slots.size ≤ ((29 : Int32)).toNatClampNeg) := inb_of S732 ⟨by decide, by decide⟩
    obtain ⟨T732, h732, X732, e732, W732, st732⟩ := stC X724 hx hZ e724 Ar732 (j := (29 : Int32)) in732 (g := (mkF m 490 #[iv p0, iv p1, iv p2, iv p3, iv p4, iv ca, iv cb, iv cc, iv cd_, iv (95 : Int32), iv sel, .unset, .unset] [(.int (95 : Int32)), (.int (29 : Int32)), (.ref b493), (.ref b493), (.ref b486), (.ref b486)])) rfl rfl (hb hby at_490)
    rw [show nar .char (95 : Int32) = (95 : Int32) from (by decide : nar .char (95 : Int32) = (95 : Int32))] at W732
    have sf734 : Safe Z consts_1 s.vm h724 b493 := (Safe.wr W724 sf726 R717.1 sf726)
    have R733 : CHr Z consts_1 s.vm h0 s.vm h732 := R725.trans (CHr.wr W732 sf734 R725.1)
    have O735 := O727.wr W732 ge501
    have y736 : Arv Z h732 b493 k493 .char (64 : Int32) (Ls729.set 29 (.int (95 : Int32))) (.int (0 : Int32)) := Arv.set Ar732 q732 S732 M732 H732 G732 (own_ft_char (z := (95 : Int32)) (by decide : nar .char (95 : Int32) = (95 : Int32))) W732 29 rfl (by rw [lLs729]; decide)
    obtain ⟨Ls737, hLs737⟩ : ∃ z : List Value, z = (Ls729.set 29 (.int (95 : Int32))) := ⟨_, rfl⟩
    rw [← hLs737] at y736
    have lLs737 : Ls737.length = 64 := by rw [hLs737, List.length_set, lLs729]
    have N732 := Fr.snoc X732 N724 ge501
    have g738 : Go p e below T732 (mkF m 491 #[iv p0, iv p1, iv p2, iv p3, iv p4, iv ca, iv cb, iv cc, iv cd_, iv (95 : Int32), iv sel, .unset, .unset] [(.ref b493), (.ref b486), (.ref b486)]) A0 := fun t kont => g731 t (st732 t kont)
    have g739 : Go p e below T732 (mkF m 496 #[iv p0, iv p1, iv p2, iv p3, iv p4, iv ca, iv cb, iv cc, iv cd_, iv (95 : Int32), iv sel, .unset, .unset] [(.int (95 : Int32)), (.int (30 : Int32)), (.ref b493), (.ref b493), (.ref b486), (.ref b486)]) A0 := by
      intro t kont
      refine g738 t ?_
      refine XS.dup X732.here hx rfl (hb hby at_491) rfl rfl ?_
      refine XS.bipush X732.here hx rfl (hb hby at_492) ?_
      refine XS.iload X732.here hx rfl (hb hby at_494) rfl ?_
      exact kont
    have zz740 := y736
    obtain ⟨cl740, Ar740, q740, S740, M740, H740, G740⟩ := zz740
    have in740 : ¬ ((30 : Int32) < 0 ∨ cl740.slots.size ≤ ((30 : Int32)).toNatClampNeg) := inb_of S740 ⟨by decide, by decide⟩
    obtain ⟨T740, h740, X740, e740, W740, st740⟩ := stC X732 hx hZ e732 Ar740 (j := (30 : Int32)) in740 (g := (mkF m 496 #[iv p0, iv p1, iv p2, iv p3, iv p4, iv ca, iv cb, iv cc, iv cd_, iv (95 : Int32), iv sel, .unset, .unset] [(.int (95 : Int32)), (.int (30 : Int32)), (.ref b493), (.ref b493), (.ref b486), (.ref b486)])) rfl rfl (hb hby at_496)
    rw [show nar .char (95 : Int32) = (95 : Int32) from (by decide : nar .char (95 : Int32) = (95 : Int32))] at W740
    have sf742 : Safe Z consts_1 s.vm h732 b493 := (Safe.wr W732 sf734 R725.1 sf734)
    have R741 : CHr Z consts_1 s.vm h0 s.vm h740 := R733.trans (CHr.wr W740 sf742 R733.1)
    have O743 := O735.wr W740 ge501
    have y744 : Arv Z h740 b493 k493 .char (64 : Int32) (Ls737.set 30 (.int (95 : Int32))) (.int (0 : Int32)) := Arv.set Ar740 q740 S740 M740 H740 G740 (own_ft_char (z := (95 : Int32)) (by decide : nar .char (95 : Int32) = (95 : Int32))) W740 30 rfl (by rw [lLs737]; decide)
    obtain ⟨Ls745, hLs745⟩ : ∃ z : List Value, z = (Ls737.set 30 (.int (95 : Int32))) := ⟨_, rfl⟩
    rw [← hLs745] at y744
    have lLs745 : Ls745.length = 64 := by rw [hLs745, List.length_set, lLs737]
    have N740 := Fr.snoc X740 N732 ge501
    have g746 : Go p e below T740 (mkF m 497 #[iv p0, iv p1, iv p2, iv p3, iv p4, iv ca, iv cb, iv cc, iv cd_, iv (95 : Int32), iv sel, .unset, .unset] [(.ref b493), (.ref b486), (.ref b486)]) A0 := fun t kont => g739 t (st740 t kont)
    have g747 : Go p e below T740 (mkF m 502 #[iv p0, iv p1, iv p2, iv p3, iv p4, iv ca, iv cb, iv cc, iv cd_, iv (95 : Int32), iv sel, .unset, .unset] [(.int (95 : Int32)), (.int (31 : Int32)), (.ref b493), (.ref b493), (.ref b486), (.ref b486)]) A0 := by
      intro t kont
      refine g746 t ?_
      refine XS.dup X740.here hx rfl (hb hby at_497) rfl rfl ?_
      refine XS.bipush X740.here hx rfl (hb hby at_498) ?_
      refine XS.iload X740.here hx rfl (hb hby at_500) rfl ?_
      exact kont
    have zz748 := y744
    obtain ⟨cl748, Ar748, q748, S748, M748, H748, G748⟩ := zz748
    have in748 : ¬ ((31 : Int32) < 0 ∨ cl748.slots.size ≤ ((31 : Int32)).toNatClampNeg) := inb_of S748 ⟨by decide, by decide⟩
    obtain ⟨T748, h748, X748, e748, W748, st748⟩ := stC X740 hx hZ e740 Ar748 (j := (31 : Int32)) in748 (g := (mkF m 502 #[iv p0, iv p1, iv p2, iv p3, iv p4, iv ca, iv cb, iv cc, iv cd_, iv (95 : Int32), iv sel, .unset, .unset] [(.int (95 : Int32)), (.int (31 : Int32)), (.ref b493), (.ref b493), (.ref b486), (.ref b486)])) rfl rfl (hb hby at_502)
    rw [show nar .char (95 : Int32) = (95 : Int32) from (by decide : nar .char (95 : Int32) = (95 : Int32))] at W748
    have sf750 : Safe Z consts_1 s.vm h740 b493 := (Safe.wr W740 sf742 R733.1 sf742)
    have R749 : CHr Z consts_1 s.vm h0 s.vm h748 := R741.trans (CHr.wr W748 sf750 R741.1)
    have O751 := O743.wr W748 ge501
    have y752 : Arv Z h748 b493 k493 .char (64 : Int32) (Ls745.set 31 (.int (95 : Int32))) (.int (0 : Int32)) := Arv.set Ar748 q748 S748 M748 H748 G748 (own_ft_char (z := (95 : Int32)) (by decide : nar .char (95 : Int32) = (95 : Int32))) W748 31 rfl (by rw [lLs745]; decide)
    obtain ⟨Ls753, hLs753⟩ : ∃ z : List Value, z = (Ls745.set 31 (.int (95 : Int32))) := ⟨_, rfl⟩
    rw [← hLs753] at y752
    have lLs753 : Ls753.length = 64 := by rw [hLs753, List.length_set, lLs745]
    have N748 := Fr.snoc X748 N740 ge501
    have g754 : Go p e below T748 (mkF m 503 #[iv p0, iv p1, iv p2, iv p3, iv p4, iv ca, iv cb, iv cc, iv cd_, iv (95 : Int32), iv sel, .unset, .unset] [(.ref b493), (.ref b486), (.ref b486)]) A0 := fun t kont => g747 t (st748 t kont)
    have g755 : Go p e below T748 (mkF m 508 #[iv p0, iv p1, iv p2, iv p3, iv p4, iv ca, iv cb, iv cc, iv cd_, iv (95 : Int32), iv sel, .unset, .unset] [(.int cc), (.int (32 : Int32)), (.ref b493), (.ref b493), (.ref b486), (.ref b486)]) A0 := by
      intro t kont
      refine g754 t ?_
      refine XS.dup X748.here hx rfl (hb hby at_503) rfl rfl ?_
      refine XS.bipush X748.here hx rfl (hb hby at_504) ?_
      refine XS.iload X748.here hx rfl (hb hby at_506) rfl ?_
      exact kont
    have zz756 := y752
    obtain ⟨cl756, Ar756, q756, S756, M756, H756, G756⟩ := zz756
    have in756 : ¬ ((32 : Int32) < 0 ∨ cl756.slots.size ≤ ((32 : Int32)).toNatClampNeg) := inb_of S756 ⟨by decide, by decide⟩
    obtain ⟨T756, h756, X756, e756, W756, st756⟩ := stC X748 hx hZ e748 Ar756 (j := (32 : Int32)) in756 (g := (mkF m 508 #[iv p0, iv p1, iv p2, iv p3, iv p4, iv ca, iv cb, iv cc, iv cd_, iv (95 : Int32), iv sel, .unset, .unset] [(.int cc), (.int (32 : Int32)), (.ref b493), (.ref b493), (.ref b486), (.ref b486)])) rfl rfl (hb hby at_508)
    rw [show nar .char cc = cc from r_cc] at W756
    have sf758 : Safe Z consts_1 s.vm h748 b493 := (Safe.wr W748 sf750 R741.1 sf750)
    have R757 : CHr Z consts_1 s.vm h0 s.vm h756 := R749.trans (CHr.wr W756 sf758 R749.1)
    have O759 := O751.wr W756 ge501
    have y760 : Arv Z h756 b493 k493 .char (64 : Int32) (Ls753.set 32 (.int cc)) (.int (0 : Int32)) := Arv.set Ar756 q756 S756 M756 H756 G756 (own_ft_char (z := cc) r_cc) W756 32 rfl (by rw [lLs753]; decide)
    obtain ⟨Ls761, hLs761⟩ : ∃ z : List Value, z = (Ls753.set 32 (.int cc)) := ⟨_, rfl⟩
    rw [← hLs761] at y760
    have lLs761 : Ls761.length = 64 := by rw [hLs761, List.length_set, lLs753]
    have N756 := Fr.snoc X756 N748 ge501
    have g762 : Go p e below T756 (mkF m 509 #[iv p0, iv p1, iv p2, iv p3, iv p4, iv ca, iv cb, iv cc, iv cd_, iv (95 : Int32), iv sel, .unset, .unset] [(.ref b493), (.ref b486), (.ref b486)]) A0 := fun t kont => g755 t (st756 t kont)
    have g763 : Go p e below T756 (mkF m 514 #[iv p0, iv p1, iv p2, iv p3, iv p4, iv ca, iv cb, iv cc, iv cd_, iv (95 : Int32), iv sel, .unset, .unset] [(.int (95 : Int32)), (.int (33 : Int32)), (.ref b493), (.ref b493), (.ref b486), (.ref b486)]) A0 := by
      intro t kont
      refine g762 t ?_
      refine XS.dup X756.here hx rfl (hb hby at_509) rfl rfl ?_
      refine XS.bipush X756.here hx rfl (hb hby at_510) ?_
      refine XS.iload X756.here hx rfl (hb hby at_512) rfl ?_
      exact kont
    have zz764 := y760
    obtain ⟨cl764, Ar764, q764, S764, M764, H764, G764⟩ := zz764
    have in764 : ¬ ((33 : Int32) < 0 ∨ cl764.slots.size ≤ ((33 : Int32)).toNatClampNeg) := inb_of S764 ⟨by decide, by decide⟩
    obtain ⟨T764, h764, X764, e764, W764, st764⟩ := stC X756 hx hZ e756 Ar764 (j := (33 : Int32)) in764 (g := (mkF m 514 #[iv p0, iv p1, iv p2, iv p3, iv p4, iv ca, iv cb, iv cc, iv cd_, iv (95 : Int32), iv sel, .unset, .unset] [(.int (95 : Int32)), (.int (33 : Int32)), (.ref b493), (.ref b493), (.ref b486), (.ref b486)])) rfl rfl (hb hby at_514)
    rw [show nar .char (95 : Int32) = (95 : Int32) from (by decide : nar .char (95 : Int32) = (95 : Int32))] at W764
    have sf766 : Safe Z consts_1 s.vm h756 b493 := (Safe.wr W756 sf758 R749.1 sf758)
    have R765 : CHr Z consts_1 s.vm h0 s.vm h764 := R757.trans (CHr.wr W764 sf766 R757.1)
    have O767 := O759.wr W764 ge501
    have y768 : Arv Z h764 b493 k493 .char (64 : Int32) (Ls761.set 33 (.int (95 : Int32))) (.int (0 : Int32)) := Arv.set Ar764 q764 S764 M764 H764 G764 (own_ft_char (z := (95 : Int32)) (by decide : nar .char (95 : Int32) = (95 : Int32))) W764 33 rfl (by rw [lLs761]; decide)
    obtain ⟨Ls769, hLs769⟩ : ∃ z : List Value, z = (Ls761.set 33 (.int (95 : Int32))) := ⟨_, rfl⟩
    rw [← hLs769] at y768
    have lLs769 : Ls769.length = 64 := by rw [hLs769, List.length_set, lLs761]
    have N764 := Fr.snoc X764 N756 ge501
    have g770 : Go p e below T764 (mkF m 515 #[iv p0, iv p1, iv p2, iv p3, iv p4, iv ca, iv cb, iv cc, iv cd_, iv (95 : Int32), iv sel, .unset, .unset] [(.ref b493), (.ref b486), (.ref b486)]) A0 := fun t kont => g763 t (st764 t kont)
    have g771 : Go p e below T764 (mkF m 520 #[iv p0, iv p1, iv p2, iv p3, iv p4, iv ca, iv cb, iv cc, iv cd_, iv (95 : Int32), iv sel, .unset, .unset] [(.int (95 : Int32)), (.int (34 : Int32)), (.ref b493), (.ref b493), (.ref b486), (.ref b486)]) A0 := by
      intro t kont
      refine g770 t ?_
      refine XS.dup X764.here hx rfl (hb hby at_515) rfl rfl ?_
      refine XS.bipush X764.here hx rfl (hb hby at_516) ?_
      refine XS.iload X764.here hx rfl (hb hby at_518) rfl ?_
      exact kont
    have zz772 := y768
    obtain ⟨cl772, Ar772, q772, S772, M772, H772, G772⟩ := zz772
    have in772 : ¬ ((34 : Int32) < 0 ∨ cl772.slots.size ≤ ((34 : Int32)).toNatClampNeg) := inb_of S772 ⟨by decide, by decide⟩
    obtain ⟨T772, h772, X772, e772, W772, st772⟩ := stC X764 hx hZ e764 Ar772 (j := (34 : Int32)) in772 (g := (mkF m 520 #[iv p0, iv p1, iv p2, iv p3, iv p4, iv ca, iv cb, iv cc, iv cd_, iv (95 : Int32), iv sel, .unset, .unset] [(.int (95 : Int32)), (.int (34 : Int32)), (.ref b493), (.ref b493), (.ref b486), (.ref b486)])) rfl rfl (hb hby at_520)
    rw [show nar .char (95 : Int32) = (95 : Int32) from (by decide : nar .char (95 : Int32) = (95 : Int32))] at W772
    have sf774 : Safe Z consts_1 s.vm h764 b493 := (Safe.wr W764 sf766 R757.1 sf766)
    have R773 : CHr Z consts_1 s.vm h0 s.vm h772 := R765.trans (CHr.wr W772 sf774 R765.1)
    have O775 := O767.wr W772 ge501
    have y776 : Arv Z h772 b493 k493 .char (64 : Int32) (Ls769.set 34 (.int (95 : Int32))) (.int (0 : Int32)) := Arv.set Ar772 q772 S772 M772 H772 G772 (own_ft_char (z := (95 : Int32)) (by decide : nar .char (95 : Int32) = (95 : Int32))) W772 34 rfl (by rw [lLs769]; decide)
    obtain ⟨Ls777, hLs777⟩ : ∃ z : List Value, z = (Ls769.set 34 (.int (95 : Int32))) := ⟨_, rfl⟩
    rw [← hLs777] at y776
    have lLs777 : Ls777.length = 64 := by rw [hLs777, List.length_set, lLs769]
    have N772 := Fr.snoc X772 N764 ge501
    have g778 : Go p e below T772 (mkF m 521 #[iv p0, iv p1, iv p2, iv p3, iv p4, iv ca, iv cb, iv cc, iv cd_, iv (95 : Int32), iv sel, .unset, .unset] [(.ref b493), (.ref b486), (.ref b486)]) A0 := fun t kont => g771 t (st772 t kont)
    have g779 : Go p e below T772 (mkF m 526 #[iv p0, iv p1, iv p2, iv p3, iv p4, iv ca, iv cb, iv cc, iv cd_, iv (95 : Int32), iv sel, .unset, .unset] [(.int (95 : Int32)), (.int (35 : Int32)), (.ref b493), (.ref b493), (.ref b486), (.ref b486)]) A0 := by
      intro t kont
      refine g778 t ?_
      refine XS.dup X772.here hx rfl (hb hby at_521) rfl rfl ?_
      refine XS.bipush X772.here hx rfl (hb hby at_522) ?_
      refine XS.iload X772.here hx rfl (hb hby at_524) rfl ?_
      exact kont
    have zz780 := y776
    obtain ⟨cl780, Ar780, q780, S780, M780, H780, G780⟩ := zz780
    have in780 : ¬ ((35 : Int32) < 0 ∨ cl780.slots.size ≤ ((35 : Int32)).toNatClampNeg) := inb_of S780 ⟨by decide, by decide⟩
    obtain ⟨T780, h780, X780, e780, W780, st780⟩ := stC X772 hx hZ e772 Ar780 (j := (35 : Int32)) in780 (g := (mkF m 526 #[iv p0, iv p1, iv p2, iv p3, iv p4, iv ca, iv cb, iv cc, iv cd_, iv (95 : Int32), iv sel, .unset, .unset] [(.int (95 : Int32)), (.int (35 : Int32)), (.ref b493), (.ref b493), (.ref b486), (.ref b486)])) rfl rfl (hb hby at_526)
    rw [show nar .char (95 : Int32) = (95 : Int32) from (by decide : nar .char (95 : Int32) = (95 : Int32))] at W780
    have sf782 : Safe Z consts_1 s.vm h772 b493 := (Safe.wr W772 sf774 R765.1 sf774)
    have R781 : CHr Z consts_1 s.vm h0 s.vm h780 := R773.trans (CHr.wr W780 sf782 R773.1)
    have O783 := O775.wr W780 ge501
    have y784 : Arv Z h780 b493 k493 .char (64 : Int32) (Ls777.set 35 (.int (95 : Int32))) (.int (0 : Int32)) := Arv.set Ar780 q780 S780 M780 H780 G780 (own_ft_char (z := (95 : Int32)) (by decide : nar .char (95 : Int32) = (95 : Int32))) W780 35 rfl (by rw [lLs777]; decide)
    obtain ⟨Ls785, hLs785⟩ : ∃ z : List Value, z = (Ls777.set 35 (.int (95 : Int32))) := ⟨_, rfl⟩
    rw [← hLs785] at y784
    have lLs785 : Ls785.length = 64 := by rw [hLs785, List.length_set, lLs777]
    have N780 := Fr.snoc X780 N772 ge501
    have g786 : Go p e below T780 (mkF m 527 #[iv p0, iv p1, iv p2, iv p3, iv p4, iv ca, iv cb, iv cc, iv cd_, iv (95 : Int32), iv sel, .unset, .unset] [(.ref b493), (.ref b486), (.ref b486)]) A0 := fun t kont => g779 t (st780 t kont)
    have g787 : Go p e below T780 (mkF m 532 #[iv p0, iv p1, iv p2, iv p3, iv p4, iv ca, iv cb, iv cc, iv cd_, iv (95 : Int32), iv sel, .unset, .unset] [(.int (95 : Int32)), (.int (36 : Int32)), (.ref b493), (.ref b493), (.ref b486), (.ref b486)]) A0 := by
      intro t kont
      refine g786 t ?_
      refine XS.dup X780.here hx rfl (hb hby at_527) rfl rfl ?_
      refine XS.bipush X780.here hx rfl (hb hby at_528) ?_
      refine XS.iload X780.here hx rfl (hb hby at_530) rfl ?_
      exact kont
    have zz788 := y784
    obtain ⟨cl788, Ar788, q788, S788, M788, H788, G788⟩ := zz788
    have in788 : ¬ ((36 : Int32) < 0 ∨ cl788.slots.size ≤ ((36 : Int32)).toNatClampNeg) := inb_of S788 ⟨by decide, by decide⟩
    obtain ⟨T788, h788, X788, e788, W788, st788⟩ := stC X780 hx hZ e780 Ar788 (j := (36 : Int32)) in788 (g := (mkF m 532 #[iv p0, iv p1, iv p2, iv p3, iv p4, iv ca, iv cb, iv cc, iv cd_, iv (95 : Int32), iv sel, .unset, .unset] [(.int (95 : Int32)), (.int (36 : Int32)), (.ref b493), (.ref b493), (.ref b486), (.ref b486)])) rfl rfl (hb hby at_532)
    rw [show nar .char (95 : Int32) = (95 : Int32) from (by decide : nar .char (95 : Int32) = (95 : Int32))] at W788
    have sf790 : Safe Z consts_1 s.vm h780 b493 := (Safe.wr W780 sf782 R773.1 sf782)
    have R789 : CHr Z consts_1 s.vm h0 s.vm h788 := R781.trans (CHr.wr W788 sf790 R781.1)
    have O791 := O783.wr W788 ge501
    have y792 : Arv Z h788 b493 k493 .char (64 : Int32) (Ls785.set 36 (.int (95 : Int32))) (.int (0 : Int32)) := Arv.set Ar788 q788 S788 M788 H788 G788 (own_ft_char (z := (95 : Int32)) (by decide : nar .char (95 : Int32) = (95 : Int32))) W788 36 rfl (by rw [lLs785]; decide)
    obtain ⟨Ls793, hLs793⟩ : ∃ z : List Value, z = (Ls785.set 36 (.int (95 : Int32))) := ⟨_, rfl⟩
    rw [← hLs793] at y792
    have lLs793 : Ls793.length = 64 := by rw [hLs793, List.length_set, lLs785]
    have N788 := Fr.snoc X788 N780 ge501
    have g794 : Go p e below T788 (mkF m 533 #[iv p0, iv p1, iv p2, iv p3, iv p4, iv ca, iv cb, iv cc, iv cd_, iv (95 : Int32), iv sel, .unset, .unset] [(.ref b493), (.ref b486), (.ref b486)]) A0 := fun t kont => g787 t (st788 t kont)
    have g795 : Go p e below T788 (mkF m 538 #[iv p0, iv p1, iv p2, iv p3, iv p4, iv ca, iv cb, iv cc, iv cd_, iv (95 : Int32), iv sel, .unset, .unset] [(.int (95 : Int32)), (.int (37 : Int32)), (.ref b493), (.ref b493), (.ref b486), (.ref b486)]) A0 := by
      intro t kont
      refine g794 t ?_
      refine XS.dup X788.here hx rfl (hb hby at_533) rfl rfl ?_
      refine XS.bipush X788.here hx rfl (hb hby at_534) ?_
      refine XS.iload X788.here hx rfl (hb hby at_536) rfl ?_
      exact kont
    have zz796 := y792
    obtain ⟨cl796, Ar796, q796, S796, M796, H796, G796⟩ := zz796
    have in796 : ¬ ((37 : Int32) < 0 ∨ cl796.slots.size ≤ ((37 : Int32)).toNatClampNeg) := inb_of S796 ⟨by decide, by decide⟩
    obtain ⟨T796, h796, X796, e796, W796, st796⟩ := stC X788 hx hZ e788 Ar796 (j := (37 : Int32)) in796 (g := (mkF m 538 #[iv p0, iv p1, iv p2, iv p3, iv p4, iv ca, iv cb, iv cc, iv cd_, iv (95 : Int32), iv sel, .unset, .unset] [(.int (95 : Int32)), (.int (37 : Int32)), (.ref b493), (.ref b493), (.ref b486), (.ref b486)])) rfl rfl (hb hby at_538)
    rw [show nar .char (95 : Int32) = (95 : Int32) from (by decide : nar .char (95 : Int32) = (95 : Int32))] at W796
    have sf798 : Safe Z consts_1 s.vm h788 b493 := (Safe.wr W788 sf790 R781.1 sf790)
    have R797 : CHr Z consts_1 s.vm h0 s.vm h796 := R789.trans (CHr.wr W796 sf798 R789.1)
    have O799 := O791.wr W796 ge501
    have y800 : Arv Z h796 b493 k493 .char (64 : Int32) (Ls793.set 37 (.int (95 : Int32))) (.int (0 : Int32)) := Arv.set Ar796 q796 S796 M796 H796 G796 (own_ft_char (z := (95 : Int32)) (by decide : nar .char (95 : Int32) = (95 : Int32))) W796 37 rfl (by rw [lLs793]; decide)
    obtain ⟨Ls801, hLs801⟩ : ∃ z : List Value, z = (Ls793.set 37 (.int (95 : Int32))) := ⟨_, rfl⟩
    rw [← hLs801] at y800
    have lLs801 : Ls801.length = 64 := by rw [hLs801, List.length_set, lLs793]
    have N796 := Fr.snoc X796 N788 ge501
    have g802 : Go p e below T796 (mkF m 539 #[iv p0, iv p1, iv p2, iv p3, iv p4, iv ca, iv cb, iv cc, iv cd_, iv (95 : Int32), iv sel, .unset, .unset] [(.ref b493), (.ref b486), (.ref b486)]) A0 := fun t kont => g795 t (st796 t kont)
    have g803 : Go p e below T796 (mkF m 544 #[iv p0, iv p1, iv p2, iv p3, iv p4, iv ca, iv cb, iv cc, iv cd_, iv (95 : Int32), iv sel, .unset, .unset] [(.int (95 : Int32)), (.int (38 : Int32)), (.ref b493), (.ref b493), (.ref b486), (.ref b486)]) A0 := by
      intro t kont
      refine g802 t ?_
      refine XS.dup X796.here hx rfl (hb hby at_539) rfl rfl ?_
      refine XS.bipush X796.here hx rfl (hb hby at_540) ?_
      refine XS.iload X796.here hx rfl (hb hby at_542) rfl ?_
      exact kont
    have zz804 := y800
    obtain ⟨cl804, Ar804, q804, S804, M804, H804, G804⟩ := zz804
    have in804 : ¬ ((38 : Int32) < 0 ∨ cl804.slots.size ≤ ((38 : Int32)).toNatClampNeg) := inb_of S804 ⟨by decide, by decide⟩
    obtain ⟨T804, h804, X804, e804, W804, st804⟩ := stC X796 hx hZ e796 Ar804 (j := (38 : Int32)) in804 (g := (mkF m 544 #[iv p0, iv p1, iv p2, iv p3, iv p4, iv ca, iv cb, iv cc, iv cd_, iv (95 : Int32), iv sel, .unset, .unset] [(.int (95 : Int32)), (.int (38 : Int32)), (.ref b493), (.ref b493), (.ref b486), (.ref b486)])) rfl rfl (hb hby at_544)
    rw [show nar .char (95 : Int32) = (95 : Int32) from (by decide : nar .char (95 : Int32) = (95 : Int32))] at W804
    have sf806 : Safe Z consts_1 s.vm h796 b493 := (Safe.wr W796 sf798 R789.1 sf798)
    have R805 : CHr Z consts_1 s.vm h0 s.vm h804 := R797.trans (CHr.wr W804 sf806 R797.1)
    have O807 := O799.wr W804 ge501
    have y808 : Arv Z h804 b493 k493 .char (64 : Int32) (Ls801.set 38 (.int (95 : Int32))) (.int (0 : Int32)) := Arv.set Ar804 q804 S804 M804 H804 G804 (own_ft_char (z := (95 : Int32)) (by decide : nar .char (95 : Int32) = (95 : Int32))) W804 38 rfl (by rw [lLs801]; decide)
    obtain ⟨Ls809, hLs809⟩ : ∃ z : List Value, z = (Ls801.set 38 (.int (95 : Int32))) := ⟨_, rfl⟩
    rw [← hLs809] at y808
    have lLs809 : Ls809.length = 64 := by rw [hLs809, List.length_set, lLs801]
    have N804 := Fr.snoc X804 N796 ge501
    have g810 : Go p e below T804 (mkF m 545 #[iv p0, iv p1, iv p2, iv p3, iv p4, iv ca, iv cb, iv cc, iv cd_, iv (95 : Int32), iv sel, .unset, .unset] [(.ref b493), (.ref b486), (.ref b486)]) A0 := fun t kont => g803 t (st804 t kont)
    have g811 : Go p e below T804 (mkF m 550 #[iv p0, iv p1, iv p2, iv p3, iv p4, iv ca, iv cb, iv cc, iv cd_, iv (95 : Int32), iv sel, .unset, .unset] [(.int (95 : Int32)), (.int (39 : Int32)), (.ref b493), (.ref b493), (.ref b486), (.ref b486)]) A0 := by
      intro t kont
      refine g810 t ?_
      refine XS.dup X804.here hx rfl (hb hby at_545) rfl rfl ?_
      refine XS.bipush X804.here hx rfl (hb hby at_546) ?_
      refine XS.iload X804.here hx rfl (hb hby at_548) rfl ?_
      exact kont
    have zz812 := y808
    obtain ⟨cl812, Ar812, q812, S812, M812, H812, G812⟩ := zz812
    have in812 : ¬ ((39 : Int32) < 0 ∨ cl812.slots.size ≤ ((39 : Int32)).toNatClampNeg) := inb_of S812 ⟨by decide, by decide⟩
    obtain ⟨T812, h812, X812, e812, W812, st812⟩ := stC X804 hx hZ e804 Ar812 (j := (39 : Int32)) in812 (g := (mkF m 550 #[iv p0, iv p1, iv p2, iv p3, iv p4, iv ca, iv cb, iv cc, iv cd_, iv (95 : Int32), iv sel, .unset, .unset] [(.int (95 : Int32)), (.int (39 : Int32)), (.ref b493), (.ref b493), (.ref b486), (.ref b486)])) rfl rfl (hb hby at_550)
    rw [show nar .char (95 : Int32) = (95 : Int32) from (by decide : nar .char (95 : Int32) = (95 : Int32))] at W812
    have sf814 : Safe Z consts_1 s.vm h804 b493 := (Safe.wr W804 sf806 R797.1 sf806)
    have R813 : CHr Z consts_1 s.vm h0 s.vm h812 := R805.trans (CHr.wr W812 sf814 R805.1)
    have O815 := O807.wr W812 ge501
    have y816 : Arv Z h812 b493 k493 .char (64 : Int32) (Ls809.set 39 (.int (95 : Int32))) (.int (0 : Int32)) := Arv.set Ar812 q812 S812 M812 H812 G812 (own_ft_char (z := (95 : Int32)) (by decide : nar .char (95 : Int32) = (95 : Int32))) W812 39 rfl (by rw [lLs809]; decide)
    obtain ⟨Ls817, hLs817⟩ : ∃ z : List Value, z = (Ls809.set 39 (.int (95 : Int32))) := ⟨_, rfl⟩
    rw [← hLs817] at y816
    have lLs817 : Ls817.length = 64 := by rw [hLs817, List.length_set, lLs809]
    have N812 := Fr.snoc X812 N804 ge501
    have g818 : Go p e below T812 (mkF m 551 #[iv p0, iv p1, iv p2, iv p3, iv p4, iv ca, iv cb, iv cc, iv cd_, iv (95 : Int32), iv sel, .unset, .unset] [(.ref b493), (.ref b486), (.ref b486)]) A0 := fun t kont => g811 t (st812 t kont)
    have g819 : Go p e below T812 (mkF m 556 #[iv p0, iv p1, iv p2, iv p3, iv p4, iv ca, iv cb, iv cc, iv cd_, iv (95 : Int32), iv sel, .unset, .unset] [(.int (95 : Int32)), (.int (40 : Int32)), (.ref b493), (.ref b493), (.ref b486), (.ref b486)]) A0 := by
      intro t kont
      refine g818 t ?_
      refine XS.dup X812.here hx rfl (hb hby at_551) rfl rfl ?_
      refine XS.bipush X812.here hx rfl (hb hby at_552) ?_
      refine XS.iload X812.here hx rfl (hb hby at_554) rfl ?_
      exact kont
    have zz820 := y816
    obtain ⟨cl820, Ar820, q820, S820, M820, H820, G820⟩ := zz820
    have in820 : ¬ ((40 : Int32) < 0 ∨ cl820.slots.size ≤ ((40 : Int32)).toNatClampNeg) := inb_of S820 ⟨by decide, by decide⟩
    obtain ⟨T820, h820, X820, e820, W820, st820⟩ := stC X812 hx hZ e812 Ar820 (j := (40 : Int32)) in820 (g := (mkF m 556 #[iv p0, iv p1, iv p2, iv p3, iv p4, iv ca, iv cb, iv cc, iv cd_, iv (95 : Int32), iv sel, .unset, .unset] [(.int (95 : Int32)), (.int (40 : Int32)), (.ref b493), (.ref b493), (.ref b486), (.ref b486)])) rfl rfl (hb hby at_556)
    rw [show nar .char (95 : Int32) = (95 : Int32) from (by decide : nar .char (95 : Int32) = (95 : Int32))] at W820
    have sf822 : Safe Z consts_1 s.vm h812 b493 := (Safe.wr W812 sf814 R805.1 sf814)
    have R821 : CHr Z consts_1 s.vm h0 s.vm h820 := R813.trans (CHr.wr W820 sf822 R813.1)
    have O823 := O815.wr W820 ge501
    have y824 : Arv Z h820 b493 k493 .char (64 : Int32) (Ls817.set 40 (.int (95 : Int32))) (.int (0 : Int32)) := Arv.set Ar820 q820 S820 M820 H820 G820 (own_ft_char (z := (95 : Int32)) (by decide : nar .char (95 : Int32) = (95 : Int32))) W820 40 rfl (by rw [lLs817]; decide)
    obtain ⟨Ls825, hLs825⟩ : ∃ z : List Value, z = (Ls817.set 40 (.int (95 : Int32))) := ⟨_, rfl⟩
    rw [← hLs825] at y824
    have lLs825 : Ls825.length = 64 := by rw [hLs825, List.length_set, lLs817]
    have N820 := Fr.snoc X820 N812 ge501
    have g826 : Go p e below T820 (mkF m 557 #[iv p0, iv p1, iv p2, iv p3, iv p4, iv ca, iv cb, iv cc, iv cd_, iv (95 : Int32), iv sel, .unset, .unset] [(.ref b493), (.ref b486), (.ref b486)]) A0 := fun t kont => g819 t (st820 t kont)
    have g827 : Go p e below T820 (mkF m 562 #[iv p0, iv p1, iv p2, iv p3, iv p4, iv ca, iv cb, iv cc, iv cd_, iv (95 : Int32), iv sel, .unset, .unset] [(.int (95 : Int32)), (.int (41 : Int32)), (.ref b493), (.ref b493), (.ref b486), (.ref b486)]) A0 := by
      intro t kont
      refine g826 t ?_
      refine XS.dup X820.here hx rfl (hb hby at_557) rfl rfl ?_
      refine XS.bipush X820.here hx rfl (hb hby at_558) ?_
      refine XS.iload X820.here hx rfl (hb hby at_560) rfl ?_
      exact kont
    have zz828 := y824
    obtain ⟨cl828, Ar828, q828, S828, M828, H828, G828⟩ := zz828
    have in828 : ¬ ((41 : Int32) < 0 ∨ cl828.slots.size ≤ ((41 : Int32)).toNatClampNeg) := inb_of S828 ⟨by decide, by decide⟩
    obtain ⟨T828, h828, X828, e828, W828, st828⟩ := stC X820 hx hZ e820 Ar828 (j := (41 : Int32)) in828 (g := (mkF m 562 #[iv p0, iv p1, iv p2, iv p3, iv p4, iv ca, iv cb, iv cc, iv cd_, iv (95 : Int32), iv sel, .unset, .unset] [(.int (95 : Int32)), (.int (41 : Int32)), (.ref b493), (.ref b493), (.ref b486), (.ref b486)])) rfl rfl (hb hby at_562)
    rw [show nar .char (95 : Int32) = (95 : Int32) from (by decide : nar .char (95 : Int32) = (95 : Int32))] at W828
    have sf830 : Safe Z consts_1 s.vm h820 b493 := (Safe.wr W820 sf822 R813.1 sf822)
    have R829 : CHr Z consts_1 s.vm h0 s.vm h828 := R821.trans (CHr.wr W828 sf830 R821.1)
    have O831 := O823.wr W828 ge501
    have y832 : Arv Z h828 b493 k493 .char (64 : Int32) (Ls825.set 41 (.int (95 : Int32))) (.int (0 : Int32)) := Arv.set Ar828 q828 S828 M828 H828 G828 (own_ft_char (z := (95 : Int32)) (by decide : nar .char (95 : Int32) = (95 : Int32))) W828 41 rfl (by rw [lLs825]; decide)
    obtain ⟨Ls833, hLs833⟩ : ∃ z : List Value, z = (Ls825.set 41 (.int (95 : Int32))) := ⟨_, rfl⟩
    rw [← hLs833] at y832
    have lLs833 : Ls833.length = 64 := by rw [hLs833, List.length_set, lLs825]
    have N828 := Fr.snoc X828 N820 ge501
    have g834 : Go p e below T828 (mkF m 563 #[iv p0, iv p1, iv p2, iv p3, iv p4, iv ca, iv cb, iv cc, iv cd_, iv (95 : Int32), iv sel, .unset, .unset] [(.ref b493), (.ref b486), (.ref b486)]) A0 := fun t kont => g827 t (st828 t kont)
    have g835 : Go p e below T828 (mkF m 568 #[iv p0, iv p1, iv p2, iv p3, iv p4, iv ca, iv cb, iv cc, iv cd_, iv (95 : Int32), iv sel, .unset, .unset] [(.int (95 : Int32)), (.int (42 : Int32)), (.ref b493), (.ref b493), (.ref b486), (.ref b486)]) A0 := by
      intro t kont
      refine g834 t ?_
      refine XS.dup X828.here hx rfl (hb hby at_563) rfl rfl ?_
      refine XS.bipush X828.here hx rfl (hb hby at_564) ?_
      refine XS.iload X828.here hx rfl (hb hby at_566) rfl ?_
      exact kont
    have zz836 := y832
    obtain ⟨cl836, Ar836, q836, S836, M836, H836, G836⟩ := zz836
    have in836 : ¬ ((42 : Int32) < 0 ∨ cl836.slots.size ≤ ((42 : Int32)).toNatClampNeg) := inb_of S836 ⟨by decide, by decide⟩
    obtain ⟨T836, h836, X836, e836, W836, st836⟩ := stC X828 hx hZ e828 Ar836 (j := (42 : Int32)) in836 (g := (mkF m 568 #[iv p0, iv p1, iv p2, iv p3, iv p4, iv ca, iv cb, iv cc, iv cd_, iv (95 : Int32), iv sel, .unset, .unset] [(.int (95 : Int32)), (.int (42 : Int32)), (.ref b493), (.ref b493), (.ref b486), (.ref b486)])) rfl rfl (hb hby at_568)
    rw [show nar .char (95 : Int32) = (95 : Int32) from (by decide : nar .char (95 : Int32) = (95 : Int32))] at W836
    have sf838 : Safe Z consts_1 s.vm h828 b493 := (Safe.wr W828 sf830 R821.1 sf830)
    have R837 : CHr Z consts_1 s.vm h0 s.vm h836 := R829.trans (CHr.wr W836 sf838 R829.1)
    have O839 := O831.wr W836 ge501
    have y840 : Arv Z h836 b493 k493 .char (64 : Int32) (Ls833.set 42 (.int (95 : Int32))) (.int (0 : Int32)) := Arv.set Ar836 q836 S836 M836 H836 G836 (own_ft_char (z := (95 : Int32)) (by decide : nar .char (95 : Int32) = (95 : Int32))) W836 42 rfl (by rw [lLs833]; decide)
    obtain ⟨Ls841, hLs841⟩ : ∃ z : List Value, z = (Ls833.set 42 (.int (95 : Int32))) := ⟨_, rfl⟩
    rw [← hLs841] at y840
    have lLs841 : Ls841.length = 64 := by rw [hLs841, List.length_set, lLs833]
    have N836 := Fr.snoc X836 N828 ge501
    have g842 : Go p e below T836 (mkF m 569 #[iv p0, iv p1, iv p2, iv p3, iv p4, iv ca, iv cb, iv cc, iv cd_, iv (95 : Int32), iv sel, .unset, .unset] [(.ref b493), (.ref b486), (.ref b486)]) A0 := fun t kont => g835 t (st836 t kont)
    have g843 : Go p e below T836 (mkF m 574 #[iv p0, iv p1, iv p2, iv p3, iv p4, iv ca, iv cb, iv cc, iv cd_, iv (95 : Int32), iv sel, .unset, .unset] [(.int (95 : Int32)), (.int (43 : Int32)), (.ref b493), (.ref b493), (.ref b486), (.ref b486)]) A0 := by
      intro t kont
      refine g842 t ?_
      refine XS.dup X836.here hx rfl (hb hby at_569) rfl rfl ?_
      refine XS.bipush X836.here hx rfl (hb hby at_570) ?_
      refine XS.iload X836.here hx rfl (hb hby at_572) rfl ?_
      exact kont
    have zz844 := y840
    obtain ⟨cl844, Ar844, q844, S844, M844, H844, G844⟩ := zz844
    have in844 : ¬ ((43 : Int32) < 0 ∨ cl844.slots.size ≤ ((43 : Int32)).toNatClampNeg) := inb_of S844 ⟨by decide, by decide⟩
    obtain ⟨T844, h844, X844, e844, W844, st844⟩ := stC X836 hx hZ e836 Ar844 (j := (43 : Int32)) in844 (g := (mkF m 574 #[iv p0, iv p1, iv p2, iv p3, iv p4, iv ca, iv cb, iv cc, iv cd_, iv (95 : Int32), iv sel, .unset, .unset] [(.int (95 : Int32)), (.int (43 : Int32)), (.ref b493), (.ref b493), (.ref b486), (.ref b486)])) rfl rfl (hb hby at_574)
    rw [show nar .char (95 : Int32) = (95 : Int32) from (by decide : nar .char (95 : Int32) = (95 : Int32))] at W844
    have sf846 : Safe Z consts_1 s.vm h836 b493 := (Safe.wr W836 sf838 R829.1 sf838)
    have R845 : CHr Z consts_1 s.vm h0 s.vm h844 := R837.trans (CHr.wr W844 sf846 R837.1)
    have O847 := O839.wr W844 ge501
    have y848 : Arv Z h844 b493 k493 .char (64 : Int32) (Ls841.set 43 (.int (95 : Int32))) (.int (0 : Int32)) := Arv.set Ar844 q844 S844 M844 H844 G844 (own_ft_char (z := (95 : Int32)) (by decide : nar .char (95 : Int32) = (95 : Int32))) W844 43 rfl (by rw [lLs841]; decide)
    obtain ⟨Ls849, hLs849⟩ : ∃ z : List Value, z = (Ls841.set 43 (.int (95 : Int32))) := ⟨_, rfl⟩
    rw [← hLs849] at y848
    have lLs849 : Ls849.length = 64 := by rw [hLs849, List.length_set, lLs841]
    have N844 := Fr.snoc X844 N836 ge501
    have g850 : Go p e below T844 (mkF m 575 #[iv p0, iv p1, iv p2, iv p3, iv p4, iv ca, iv cb, iv cc, iv cd_, iv (95 : Int32), iv sel, .unset, .unset] [(.ref b493), (.ref b486), (.ref b486)]) A0 := fun t kont => g843 t (st844 t kont)
    have g851 : Go p e below T844 (mkF m 580 #[iv p0, iv p1, iv p2, iv p3, iv p4, iv ca, iv cb, iv cc, iv cd_, iv (95 : Int32), iv sel, .unset, .unset] [(.int (95 : Int32)), (.int (44 : Int32)), (.ref b493), (.ref b493), (.ref b486), (.ref b486)]) A0 := by
      intro t kont
      refine g850 t ?_
      refine XS.dup X844.here hx rfl (hb hby at_575) rfl rfl ?_
      refine XS.bipush X844.here hx rfl (hb hby at_576) ?_
      refine XS.iload X844.here hx rfl (hb hby at_578) rfl ?_
      exact kont
    have zz852 := y848
    obtain ⟨cl852, Ar852, q852, S852, M852, H852, G852⟩ := zz852
    have in852 : ¬ ((44 : Int32) < 0 ∨ cl852.slots.size ≤ ((44 : Int32)).toNatClampNeg) := inb_of S852 ⟨by decide, by decide⟩
    obtain ⟨T852, h852, X852, e852, W852, st852⟩ := stC X844 hx hZ e844 Ar852 (j := (44 : Int32)) in852 (g := (mkF m 580 #[iv p0, iv p1, iv p2, iv p3, iv p4, iv ca, iv cb, iv cc, iv cd_, iv (95 : Int32), iv sel, .unset, .unset] [(.int (95 : Int32)), (.int (44 : Int32)), (.ref b493), (.ref b493), (.ref b486), (.ref b486)])) rfl rfl (hb hby at_580)
    rw [show nar .char (95 : Int32) = (95 : Int32) from (by decide : nar .char (95 : Int32) = (95 : Int32))] at W852
    have sf854 : Safe Z consts_1 s.vm h844 b493 := (Safe.wr W844 sf846 R837.1 sf846)
    have R853 : CHr Z consts_1 s.vm h0 s.vm h852 := R845.trans (CHr.wr W852 sf854 R845.1)
    have O855 := O847.wr W852 ge501
    have y856 : Arv Z h852 b493 k493 .char (64 : Int32) (Ls849.set 44 (.int (95 : Int32))) (.int (0 : Int32)) := Arv.set Ar852 q852 S852 M852 H852 G852 (own_ft_char (z := (95 : Int32)) (by decide : nar .char (95 : Int32) = (95 : Int32))) W852 44 rfl (by rw [lLs849]; decide)
    obtain ⟨Ls857, hLs857⟩ : ∃ z : List Value, z = (Ls849.set 44 (.int (95 : Int32))) := ⟨_, rfl⟩
    rw [← hLs857] at y856
    have lLs857 : Ls857.length = 64 := by rw [hLs857, List.length_set, lLs849]
    have N852 := Fr.snoc X852 N844 ge501
    have g858 : Go p e below T852 (mkF m 581 #[iv p0, iv p1, iv p2, iv p3, iv p4, iv ca, iv cb, iv cc, iv cd_, iv (95 : Int32), iv sel, .unset, .unset] [(.ref b493), (.ref b486), (.ref b486)]) A0 := fun t kont => g851 t (st852 t kont)
    have g859 : Go p e below T852 (mkF m 586 #[iv p0, iv p1, iv p2, iv p3, iv p4, iv ca, iv cb, iv cc, iv cd_, iv (95 : Int32), iv sel, .unset, .unset] [(.int (95 : Int32)), (.int (45 : Int32)), (.ref b493), (.ref b493), (.ref b486), (.ref b486)]) A0 := by
      intro t kont
      refine g858 t ?_
      refine XS.dup X852.here hx rfl (hb hby at_581) rfl rfl ?_
      refine XS.bipush X852.here hx rfl (hb hby at_582) ?_
      refine XS.iload X852.here hx rfl (hb hby at_584) rfl ?_
      exact kont
    have zz860 := y856
    obtain ⟨cl860, Ar860, q860, S860, M860, H860, G860⟩ := zz860
    have in860 : ¬ ((45 : Int32) < 0 ∨ cl860.slots.size ≤ ((45 : Int32)).toNatClampNeg) := inb_of S860 ⟨by decide, by decide⟩
    obtain ⟨T860, h860, X860, e860, W860, st860⟩ := stC X852 hx hZ e852 Ar860 (j := (45 : Int32)) in860 (g := (mkF m 586 #[iv p0, iv p1, iv p2, iv p3, iv p4, iv ca, iv cb, iv cc, iv cd_, iv (95 : Int32), iv sel, .unset, .unset] [(.int (95 : Int32)), (.int (45 : Int32)), (.ref b493), (.ref b493), (.ref b486), (.ref b486)])) rfl rfl (hb hby at_586)
    rw [show nar .char (95 : Int32) = (95 : Int32) from (by decide : nar .char (95 : Int32) = (95 : Int32))] at W860
    have sf862 : Safe Z consts_1 s.vm h852 b493 := (Safe.wr W852 sf854 R845.1 sf854)
    have R861 : CHr Z consts_1 s.vm h0 s.vm h860 := R853.trans (CHr.wr W860 sf862 R853.1)
    have O863 := O855.wr W860 ge501
    have y864 : Arv Z h860 b493 k493 .char (64 : Int32) (Ls857.set 45 (.int (95 : Int32))) (.int (0 : Int32)) := Arv.set Ar860 q860 S860 M860 H860 G860 (own_ft_char (z := (95 : Int32)) (by decide : nar .char (95 : Int32) = (95 : Int32))) W860 45 rfl (by rw [lLs857]; decide)
    obtain ⟨Ls865, hLs865⟩ : ∃ z : List Value, z = (Ls857.set 45 (.int (95 : Int32))) := ⟨_, rfl⟩
    rw [← hLs865] at y864
    have lLs865 : Ls865.length = 64 := by rw [hLs865, List.length_set, lLs857]
    have N860 := Fr.snoc X860 N852 ge501
    have g866 : Go p e below T860 (mkF m 587 #[iv p0, iv p1, iv p2, iv p3, iv p4, iv ca, iv cb, iv cc, iv cd_, iv (95 : Int32), iv sel, .unset, .unset] [(.ref b493), (.ref b486), (.ref b486)]) A0 := fun t kont => g859 t (st860 t kont)
    have g867 : Go p e below T860 (mkF m 592 #[iv p0, iv p1, iv p2, iv p3, iv p4, iv ca, iv cb, iv cc, iv cd_, iv (95 : Int32), iv sel, .unset, .unset] [(.int (95 : Int32)), (.int (46 : Int32)), (.ref b493), (.ref b493), (.ref b486), (.ref b486)]) A0 := by
      intro t kont
      refine g866 t ?_
      refine XS.dup X860.here hx rfl (hb hby at_587) rfl rfl ?_
      refine XS.bipush X860.here hx rfl (hb hby at_588) ?_
      refine XS.iload X860.here hx rfl (hb hby at_590) rfl ?_
      exact kont
    have zz868 := y864
    obtain ⟨cl868, Ar868, q868, S868, M868, H868, G868⟩ := zz868
    have in868 : ¬ ((46 : Int32) < 0 ∨ cl868.slots.size ≤ ((46 : Int32)).toNatClampNeg) := inb_of S868 ⟨by decide, by decide⟩
    obtain ⟨T868, h868, X868, e868, W868, st868⟩ := stC X860 hx hZ e860 Ar868 (j := (46 : Int32)) in868 (g := (mkF m 592 #[iv p0, iv p1, iv p2, iv p3, iv p4, iv ca, iv cb, iv cc, iv cd_, iv (95 : Int32), iv sel, .unset, .unset] [(.int (95 : Int32)), (.int (46 : Int32)), (.ref b493), (.ref b493), (.ref b486), (.ref b486)])) rfl rfl (hb hby at_592)
    rw [show nar .char (95 : Int32) = (95 : Int32) from (by decide : nar .char (95 : Int32) = (95 : Int32))] at W868
    have sf870 : Safe Z consts_1 s.vm h860 b493 := (Safe.wr W860 sf862 R853.1 sf862)
    have R869 : CHr Z consts_1 s.vm h0 s.vm h868 := R861.trans (CHr.wr W868 sf870 R861.1)
    have O871 := O863.wr W868 ge501
    have y872 : Arv Z h868 b493 k493 .char (64 : Int32) (Ls865.set 46 (.int (95 : Int32))) (.int (0 : Int32)) := Arv.set Ar868 q868 S868 M868 H868 G868 (own_ft_char (z := (95 : Int32)) (by decide : nar .char (95 : Int32) = (95 : Int32))) W868 46 rfl (by rw [lLs865]; decide)
    obtain ⟨Ls873, hLs873⟩ : ∃ z : List Value, z = (Ls865.set 46 (.int (95 : Int32))) := ⟨_, rfl⟩
    rw [← hLs873] at y872
    have lLs873 : Ls873.length = 64 := by rw [hLs873, List.length_set, lLs865]
    have N868 := Fr.snoc X868 N860 ge501
    have g874 : Go p e below T868 (mkF m 593 #[iv p0, iv p1, iv p2, iv p3, iv p4, iv ca, iv cb, iv cc, iv cd_, iv (95 : Int32), iv sel, .unset, .unset] [(.ref b493), (.ref b486), (.ref b486)]) A0 := fun t kont => g867 t (st868 t kont)
    have g875 : Go p e below T868 (mkF m 598 #[iv p0, iv p1, iv p2, iv p3, iv p4, iv ca, iv cb, iv cc, iv cd_, iv (95 : Int32), iv sel, .unset, .unset] [(.int (95 : Int32)), (.int (47 : Int32)), (.ref b493), (.ref b493), (.ref b486), (.ref b486)]) A0 := by
      intro t kont
      refine g874 t ?_
      refine XS.dup X868.here hx rfl (hb hby at_593) rfl rfl ?_
      refine XS.bipush X868.here hx rfl (hb hby at_594) ?_
      refine XS.iload X868.here hx rfl (hb hby at_596) rfl ?_
      exact kont
    have zz876 := y872
    obtain ⟨cl876, Ar876, q876, S876, M876, H876, G876⟩ := zz876
    have in876 : ¬ ((47 : Int32) < 0 ∨ cl876.slots.size ≤ ((47 : Int32)).toNatClampNeg) := inb_of S876 ⟨by decide, by decide⟩
    obtain ⟨T876, h876, X876, e876, W876, st876⟩ := stC X868 hx hZ e868 Ar876 (j := (47 : Int32)) in876 (g := (mkF m 598 #[iv p0, iv p1, iv p2, iv p3, iv p4, iv ca, iv cb, iv cc, iv cd_, iv (95 : Int32), iv sel, .unset, .unset] [(.int (95 : Int32)), (.int (47 : Int32)), (.ref b493), (.ref b493), (.ref b486), (.ref b486)])) rfl rfl (hb hby at_598)
    rw [show nar .char (95 : Int32) = (95 : Int32) from (by decide : nar .char (95 : Int32) = (95 : Int32))] at W876
    have sf878 : Safe Z consts_1 s.vm h868 b493 := (Safe.wr W868 sf870 R861.1 sf870)
    have R877 : CHr Z consts_1 s.vm h0 s.vm h876 := R869.trans (CHr.wr W876 sf878 R869.1)
    have O879 := O871.wr W876 ge501
    have y880 : Arv Z h876 b493 k493 .char (64 : Int32) (Ls873.set 47 (.int (95 : Int32))) (.int (0 : Int32)) := Arv.set Ar876 q876 S876 M876 H876 G876 (own_ft_char (z := (95 : Int32)) (by decide : nar .char (95 : Int32) = (95 : Int32))) W876 47 rfl (by rw [lLs873]; decide)
    obtain ⟨Ls881, hLs881⟩ : ∃ z : List Value, z = (Ls873.set 47 (.int (95 : Int32))) := ⟨_, rfl⟩
    rw [← hLs881] at y880
    have lLs881 : Ls881.length = 64 := by rw [hLs881, List.length_set, lLs873]
    have N876 := Fr.snoc X876 N868 ge501
    have g882 : Go p e below T876 (mkF m 599 #[iv p0, iv p1, iv p2, iv p3, iv p4, iv ca, iv cb, iv cc, iv cd_, iv (95 : Int32), iv sel, .unset, .unset] [(.ref b493), (.ref b486), (.ref b486)]) A0 := fun t kont => g875 t (st876 t kont)
    have g883 : Go p e below T876 (mkF m 604 #[iv p0, iv p1, iv p2, iv p3, iv p4, iv ca, iv cb, iv cc, iv cd_, iv (95 : Int32), iv sel, .unset, .unset] [(.int (95 : Int32)), (.int (48 : Int32)), (.ref b493), (.ref b493), (.ref b486), (.ref b486)]) A0 := by
      intro t kont
      refine g882 t ?_
      refine XS.dup X876.here hx rfl (hb hby at_599) rfl rfl ?_
      refine XS.bipush X876.here hx rfl (hb hby at_600) ?_
      refine XS.iload X876.here hx rfl (hb hby at_602) rfl ?_
      exact kont
    have zz884 := y880
    obtain ⟨cl884, Ar884, q884, S884, M884, H884, G884⟩ := zz884
    have in884 : ¬ ((48 : Int32) < 0 ∨ cl884.slots.size ≤ ((48 : Int32)).toNatClampNeg) := inb_of S884 ⟨by decide, by decide⟩
    obtain ⟨T884, h884, X884, e884, W884, st884⟩ := stC X876 hx hZ e876 Ar884 (j := (48 : Int32)) in884 (g := (mkF m 604 #[iv p0, iv p1, iv p2, iv p3, iv p4, iv ca, iv cb, iv cc, iv cd_, iv (95 : Int32), iv sel, .unset, .unset] [(.int (95 : Int32)), (.int (48 : Int32)), (.ref b493), (.ref b493), (.ref b486), (.ref b486)])) rfl rfl (hb hby at_604)
    rw [show nar .char (95 : Int32) = (95 : Int32) from (by decide : nar .char (95 : Int32) = (95 : Int32))] at W884
    have sf886 : Safe Z consts_1 s.vm h876 b493 := (Safe.wr W876 sf878 R869.1 sf878)
    have R885 : CHr Z consts_1 s.vm h0 s.vm h884 := R877.trans (CHr.wr W884 sf886 R877.1)
    have O887 := O879.wr W884 ge501
    have y888 : Arv Z h884 b493 k493 .char (64 : Int32) (Ls881.set 48 (.int (95 : Int32))) (.int (0 : Int32)) := Arv.set Ar884 q884 S884 M884 H884 G884 (own_ft_char (z := (95 : Int32)) (by decide : nar .char (95 : Int32) = (95 : Int32))) W884 48 rfl (by rw [lLs881]; decide)
    obtain ⟨Ls889, hLs889⟩ : ∃ z : List Value, z = (Ls881.set 48 (.int (95 : Int32))) := ⟨_, rfl⟩
    rw [← hLs889] at y888
    have lLs889 : Ls889.length = 64 := by rw [hLs889, List.length_set, lLs881]
    have N884 := Fr.snoc X884 N876 ge501
    have g890 : Go p e below T884 (mkF m 605 #[iv p0, iv p1, iv p2, iv p3, iv p4, iv ca, iv cb, iv cc, iv cd_, iv (95 : Int32), iv sel, .unset, .unset] [(.ref b493), (.ref b486), (.ref b486)]) A0 := fun t kont => g883 t (st884 t kont)
    have g891 : Go p e below T884 (mkF m 610 #[iv p0, iv p1, iv p2, iv p3, iv p4, iv ca, iv cb, iv cc, iv cd_, iv (95 : Int32), iv sel, .unset, .unset] [(.int (95 : Int32)), (.int (49 : Int32)), (.ref b493), (.ref b493), (.ref b486), (.ref b486)]) A0 := by
      intro t kont
      refine g890 t ?_
      refine XS.dup X884.here hx rfl (hb hby at_605) rfl rfl ?_
      refine XS.bipush X884.here hx rfl (hb hby at_606) ?_
      refine XS.iload X884.here hx rfl (hb hby at_608) rfl ?_
      exact kont
    have zz892 := y888
    obtain ⟨cl892, Ar892, q892, S892, M892, H892, G892⟩ := zz892
    have in892 : ¬ ((49 : Int32) < 0 ∨ cl892.slots.size ≤ ((49 : Int32)).toNatClampNeg) := inb_of S892 ⟨by decide, by decide⟩
    obtain ⟨T892, h892, X892, e892, W892, st892⟩ := stC X884 hx hZ e884 Ar892 (j := (49 : Int32)) in892 (g := (mkF m 610 #[iv p0, iv p1, iv p2, iv p3, iv p4, iv ca, iv cb, iv cc, iv cd_, iv (95 : Int32), iv sel, .unset, .unset] [(.int (95 : Int32)), (.int (49 : Int32)), (.ref b493), (.ref b493), (.ref b486), (.ref b486)])) rfl rfl (hb hby at_610)
    rw [show nar .char (95 : Int32) = (95 : Int32) from (by decide : nar .char (95 : Int32) = (95 : Int32))] at W892
    have sf894 : Safe Z consts_1 s.vm h884 b493 := (Safe.wr W884 sf886 R877.1 sf886)
    have R893 : CHr Z consts_1 s.vm h0 s.vm h892 := R885.trans (CHr.wr W892 sf894 R885.1)
    have O895 := O887.wr W892 ge501
    have y896 : Arv Z h892 b493 k493 .char (64 : Int32) (Ls889.set 49 (.int (95 : Int32))) (.int (0 : Int32)) := Arv.set Ar892 q892 S892 M892 H892 G892 (own_ft_char (z := (95 : Int32)) (by decide : nar .char (95 : Int32) = (95 : Int32))) W892 49 rfl (by rw [lLs889]; decide)
    obtain ⟨Ls897, hLs897⟩ : ∃ z : List Value, z = (Ls889.set 49 (.int (95 : Int32))) := ⟨_, rfl⟩
    rw [← hLs897] at y896
    have lLs897 : Ls897.length = 64 := by rw [hLs897, List.length_set, lLs889]
    have N892 := Fr.snoc X892 N884 ge501
    have g898 : Go p e below T892 (mkF m 611 #[iv p0, iv p1, iv p2, iv p3, iv p4, iv ca, iv cb, iv cc, iv cd_, iv (95 : Int32), iv sel, .unset, .unset] [(.ref b493), (.ref b486), (.ref b486)]) A0 := fun t kont => g891 t (st892 t kont)
    have g899 : Go p e below T892 (mkF m 616 #[iv p0, iv p1, iv p2, iv p3, iv p4, iv ca, iv cb, iv cc, iv cd_, iv (95 : Int32), iv sel, .unset, .unset] [(.int (95 : Int32)), (.int (50 : Int32)), (.ref b493), (.ref b493), (.ref b486), (.ref b486)]) A0 := by
      intro t kont
      refine g898 t ?_
      refine XS.dup X892.here hx rfl (hb hby at_611) rfl rfl ?_
      refine XS.bipush X892.here hx rfl (hb hby at_612) ?_
      refine XS.iload X892.here hx rfl (hb hby at_614) rfl ?_
      exact kont
    have zz900 := y896
    obtain ⟨cl900, Ar900, q900, S900, M900, H900, G900⟩ := zz900
    have in900 : ¬ ((50 : Int32) < 0 ∨ cl900.slots.size ≤ ((50 : Int32)).toNatClampNeg) := inb_of S900 ⟨by decide, by decide⟩
    obtain ⟨T900, h900, X900, e900, W900, st900⟩ := stC X892 hx hZ e892 Ar900 (j := (50 : Int32)) in900 (g := (mkF m 616 #[iv p0, iv p1, iv p2, iv p3, iv p4, iv ca, iv cb, iv cc, iv cd_, iv (95 : Int32), iv sel, .unset, .unset] [(.int (95 : Int32)), (.int (50 : Int32)), (.ref b493), (.ref b493), (.ref b486), (.ref b486)])) rfl rfl (hb hby at_616)
    rw [show nar .char (95 : Int32) = (95 : Int32) from (by decide : nar .char (95 : Int32) = (95 : Int32))] at W900
    have sf902 : Safe Z consts_1 s.vm h892 b493 := (Safe.wr W892 sf894 R885.1 sf894)
    have R901 : CHr Z consts_1 s.vm h0 s.vm h900 := R893.trans (CHr.wr W900 sf902 R893.1)
    have O903 := O895.wr W900 ge501
    have y904 : Arv Z h900 b493 k493 .char (64 : Int32) (Ls897.set 50 (.int (95 : Int32))) (.int (0 : Int32)) := Arv.set Ar900 q900 S900 M900 H900 G900 (own_ft_char (z := (95 : Int32)) (by decide : nar .char (95 : Int32) = (95 : Int32))) W900 50 rfl (by rw [lLs897]; decide)
    obtain ⟨Ls905, hLs905⟩ : ∃ z : List Value, z = (Ls897.set 50 (.int (95 : Int32))) := ⟨_, rfl⟩
    rw [← hLs905] at y904
    have lLs905 : Ls905.length = 64 := by rw [hLs905, List.length_set, lLs897]
    have N900 := Fr.snoc X900 N892 ge501
    have g906 : Go p e below T900 (mkF m 617 #[iv p0, iv p1, iv p2, iv p3, iv p4, iv ca, iv cb, iv cc, iv cd_, iv (95 : Int32), iv sel, .unset, .unset] [(.ref b493), (.ref b486), (.ref b486)]) A0 := fun t kont => g899 t (st900 t kont)
    have g907 : Go p e below T900 (mkF m 622 #[iv p0, iv p1, iv p2, iv p3, iv p4, iv ca, iv cb, iv cc, iv cd_, iv (95 : Int32), iv sel, .unset, .unset] [(.int (95 : Int32)), (.int (51 : Int32)), (.ref b493), (.ref b493), (.ref b486), (.ref b486)]) A0 := by
      intro t kont
      refine g906 t ?_
      refine XS.dup X900.here hx rfl (hb hby at_617) rfl rfl ?_
      refine XS.bipush X900.here hx rfl (hb hby at_618) ?_
      refine XS.iload X900.here hx rfl (hb hby at_620) rfl ?_
      exact kont
    have zz908 := y904
    obtain ⟨cl908, Ar908, q908, S908, M908, H908, G908⟩ := zz908
    have in908 : ¬ ((51 : Int32) < 0 ∨ cl908.slots.size ≤ ((51 : Int32)).toNatClampNeg) := inb_of S908 ⟨by decide, by decide⟩
    obtain ⟨T908, h908, X908, e908, W908, st908⟩ := stC X900 hx hZ e900 Ar908 (j := (51 : Int32)) in908 (g := (mkF m 622 #[iv p0, iv p1, iv p2, iv p3, iv p4, iv ca, iv cb, iv cc, iv cd_, iv (95 : Int32), iv sel, .unset, .unset] [(.int (95 : Int32)), (.int (51 : Int32)), (.ref b493), (.ref b493), (.ref b486), (.ref b486)])) rfl rfl (hb hby at_622)
    rw [show nar .char (95 : Int32) = (95 : Int32) from (by decide : nar .char (95 : Int32) = (95 : Int32))] at W908
    have sf910 : Safe Z consts_1 s.vm h900 b493 := (Safe.wr W900 sf902 R893.1 sf902)
    have R909 : CHr Z consts_1 s.vm h0 s.vm h908 := R901.trans (CHr.wr W908 sf910 R901.1)
    have O911 := O903.wr W908 ge501
    have y912 : Arv Z h908 b493 k493 .char (64 : Int32) (Ls905.set 51 (.int (95 : Int32))) (.int (0 : Int32)) := Arv.set Ar908 q908 S908 M908 H908 G908 (own_ft_char (z := (95 : Int32)) (by decide : nar .char (95 : Int32) = (95 : Int32))) W908 51 rfl (by rw [lLs905]; decide)
    obtain ⟨Ls913, hLs913⟩ : ∃ z : List Value, z = (Ls905.set 51 (.int (95 : Int32))) := ⟨_, rfl⟩
    rw [← hLs913] at y912
    have lLs913 : Ls913.length = 64 := by rw [hLs913, List.length_set, lLs905]
    have N908 := Fr.snoc X908 N900 ge501
    have g914 : Go p e below T908 (mkF m 623 #[iv p0, iv p1, iv p2, iv p3, iv p4, iv ca, iv cb, iv cc, iv cd_, iv (95 : Int32), iv sel, .unset, .unset] [(.ref b493), (.ref b486), (.ref b486)]) A0 := fun t kont => g907 t (st908 t kont)
    have g915 : Go p e below T908 (mkF m 628 #[iv p0, iv p1, iv p2, iv p3, iv p4, iv ca, iv cb, iv cc, iv cd_, iv (95 : Int32), iv sel, .unset, .unset] [(.int (95 : Int32)), (.int (52 : Int32)), (.ref b493), (.ref b493), (.ref b486), (.ref b486)]) A0 := by
      intro t kont
      refine g914 t ?_
      refine XS.dup X908.here hx rfl (hb hby at_623) rfl rfl ?_
      refine XS.bipush X908.here hx rfl (hb hby at_624) ?_
      refine XS.iload X908.here hx rfl (hb hby at_626) rfl ?_
      exact kont
    have zz916 := y912
    obtain ⟨cl916, Ar916, q916, S916, M916, H916, G916⟩ := zz916
    have in916 : ¬ ((52 : Int32) < 0 ∨ cl916.slots.size ≤ ((52 : Int32)).toNatClampNeg) := inb_of S916 ⟨by decide, by decide⟩
    obtain ⟨T916, h916, X916, e916, W916, st916⟩ := stC X908 hx hZ e908 Ar916 (j := (52 : Int32)) in916 (g := (mkF m 628 #[iv p0, iv p1, iv p2, iv p3, iv p4, iv ca, iv cb, iv cc, iv cd_, iv (95 : Int32), iv sel, .unset, .unset] [(.int (95 : Int32)), (.int (52 : Int32)), (.ref b493), (.ref b493), (.ref b486), (.ref b486)])) rfl rfl (hb hby at_628)
    rw [show nar .char (95 : Int32) = (95 : Int32) from (by decide : nar .char (95 : Int32) = (95 : Int32))] at W916
    have sf918 : Safe Z consts_1 s.vm h908 b493 := (Safe.wr W908 sf910 R901.1 sf910)
    have R917 : CHr Z consts_1 s.vm h0 s.vm h916 := R909.trans (CHr.wr W916 sf918 R909.1)
    have O919 := O911.wr W916 ge501
    have y920 : Arv Z h916 b493 k493 .char (64 : Int32) (Ls913.set 52 (.int (95 : Int32))) (.int (0 : Int32)) := Arv.set Ar916 q916 S916 M916 H916 G916 (own_ft_char (z := (95 : Int32)) (by decide : nar .char (95 : Int32) = (95 : Int32))) W916 52 rfl (by rw [lLs913]; decide)
    obtain ⟨Ls921, hLs921⟩ : ∃ z : List Value, z = (Ls913.set 52 (.int (95 : Int32))) := ⟨_, rfl⟩
    rw [← hLs921] at y920
    have lLs921 : Ls921.length = 64 := by rw [hLs921, List.length_set, lLs913]
    have N916 := Fr.snoc X916 N908 ge501
    have g922 : Go p e below T916 (mkF m 629 #[iv p0, iv p1, iv p2, iv p3, iv p4, iv ca, iv cb, iv cc, iv cd_, iv (95 : Int32), iv sel, .unset, .unset] [(.ref b493), (.ref b486), (.ref b486)]) A0 := fun t kont => g915 t (st916 t kont)
    have g923 : Go p e below T916 (mkF m 634 #[iv p0, iv p1, iv p2, iv p3, iv p4, iv ca, iv cb, iv cc, iv cd_, iv (95 : Int32), iv sel, .unset, .unset] [(.int (95 : Int32)), (.int (53 : Int32)), (.ref b493), (.ref b493), (.ref b486), (.ref b486)]) A0 := by
      intro t kont
      refine g922 t ?_
      refine XS.dup X916.here hx rfl (hb hby at_629) rfl rfl ?_
      refine XS.bipush X916.here hx rfl (hb hby at_630) ?_
      refine XS.iload X916.here hx rfl (hb hby at_632) rfl ?_
      exact kont
    have zz924 := y920
    obtain ⟨cl924, Ar924, q924, S924, M924, H924, G924⟩ := zz924
    have in924 : ¬ ((53 : Int32) < 0 ∨ cl924.slots.size ≤ ((53 : Int32)).toNatClampNeg) := inb_of S924 ⟨by decide, by decide⟩
    obtain ⟨T924, h924, X924, e924, W924, st924⟩ := stC X916 hx hZ e916 Ar924 (j := (53 : Int32)) in924 (g := (mkF m 634 #[iv p0, iv p1, iv p2, iv p3, iv p4, iv ca, iv cb, iv cc, iv cd_, iv (95 : Int32), iv sel, .unset, .unset] [(.int (95 : Int32)), (.int (53 : Int32)), (.ref b493), (.ref b493), (.ref b486), (.ref b486)])) rfl rfl (hb hby at_634)
    rw [show nar .char (95 : Int32) = (95 : Int32) from (by decide : nar .char (95 : Int32) = (95 : Int32))] at W924
    have sf926 : Safe Z consts_1 s.vm h916 b493 := (Safe.wr W916 sf918 R909.1 sf918)
    have R925 : CHr Z consts_1 s.vm h0 s.vm h924 := R917.trans (CHr.wr W924 sf926 R917.1)
    have O927 := O919.wr W924 ge501
    have y928 : Arv Z h924 b493 k493 .char (64 : Int32) (Ls921.set 53 (.int (95 : Int32))) (.int (0 : Int32)) := Arv.set Ar924 q924 S924 M924 H924 G924 (own_ft_char (z := (95 : Int32)) (by decide : nar .char (95 : Int32) = (95 : Int32))) W924 53 rfl (by rw [lLs921]; decide)
    obtain ⟨Ls929, hLs929⟩ : ∃ z : List Value, z = (Ls921.set 53 (.int (95 : Int32))) := ⟨_, rfl⟩
    rw [← hLs929] at y928
    have lLs929 : Ls929.length = 64 := by rw [hLs929, List.length_set, lLs921]
    have N924 := Fr.snoc X924 N916 ge501
    have g930 : Go p e below T924 (mkF m 635 #[iv p0, iv p1, iv p2, iv p3, iv p4, iv ca, iv cb, iv cc, iv cd_, iv (95 : Int32), iv sel, .unset, .unset] [(.ref b493), (.ref b486), (.ref b486)]) A0 := fun t kont => g923 t (st924 t kont)
    have g931 : Go p e below T924 (mkF m 640 #[iv p0, iv p1, iv p2, iv p3, iv p4, iv ca, iv cb, iv cc, iv cd_, iv (95 : Int32), iv sel, .unset, .unset] [(.int (95 : Int32)), (.int (54 : Int32)), (.ref b493), (.ref b493), (.ref b486), (.ref b486)]) A0 := by
      intro t kont
      refine g930 t ?_
      refine XS.dup X924.here hx rfl (hb hby at_635) rfl rfl ?_
      refine XS.bipush X924.here hx rfl (hb hby at_636) ?_
      refine XS.iload X924.here hx rfl (hb hby at_638) rfl ?_
      exact kont
    have zz932 := y928
    obtain ⟨cl932, Ar932, q932, S932, M932, H932, G932⟩ := zz932
    have in932 : ¬ ((54 : Int32) < 0 ∨ cl932.slots.size ≤ ((54 : Int32)).toNatClampNeg) := inb_of S932 ⟨by decide, by decide⟩
    obtain ⟨T932, h932, X932, e932, W932, st932⟩ := stC X924 hx hZ e924 Ar932 (j := (54 : Int32)) in932 (g := (mkF m 640 #[iv p0, iv p1, iv p2, iv p3, iv p4, iv ca, iv cb, iv cc, iv cd_, iv (95 : Int32), iv sel, .unset, .unset] [(.int (95 : Int32)), (.int (54 : Int32)), (.ref b493), (.ref b493), (.ref b486), (.ref b486)])) rfl rfl (hb hby at_640)
    rw [show nar .char (95 : Int32) = (95 : Int32) from (by decide : nar .char (95 : Int32) = (95 : Int32))] at W932
    have sf934 : Safe Z consts_1 s.vm h924 b493 := (Safe.wr W924 sf926 R917.1 sf926)
    have R933 : CHr Z consts_1 s.vm h0 s.vm h932 := R925.trans (CHr.wr W932 sf934 R925.1)
    have O935 := O927.wr W932 ge501
    have y936 : Arv Z h932 b493 k493 .char (64 : Int32) (Ls929.set 54 (.int (95 : Int32))) (.int (0 : Int32)) := Arv.set Ar932 q932 S932 M932 H932 G932 (own_ft_char (z := (95 : Int32)) (by decide : nar .char (95 : Int32) = (95 : Int32))) W932 54 rfl (by rw [lLs929]; decide)
    obtain ⟨Ls937, hLs937⟩ : ∃ z : List Value, z = (Ls929.set 54 (.int (95 : Int32))) := ⟨_, rfl⟩
    rw [← hLs937] at y936
    have lLs937 : Ls937.length = 64 := by rw [hLs937, List.length_set, lLs929]
    have N932 := Fr.snoc X932 N924 ge501
    have g938 : Go p e below T932 (mkF m 641 #[iv p0, iv p1, iv p2, iv p3, iv p4, iv ca, iv cb, iv cc, iv cd_, iv (95 : Int32), iv sel, .unset, .unset] [(.ref b493), (.ref b486), (.ref b486)]) A0 := fun t kont => g931 t (st932 t kont)
    have g939 : Go p e below T932 (mkF m 646 #[iv p0, iv p1, iv p2, iv p3, iv p4, iv ca, iv cb, iv cc, iv cd_, iv (95 : Int32), iv sel, .unset, .unset] [(.int (95 : Int32)), (.int (55 : Int32)), (.ref b493), (.ref b493), (.ref b486), (.ref b486)]) A0 := by
      intro t kont
      refine g938 t ?_
      refine XS.dup X932.here hx rfl (hb hby at_641) rfl rfl ?_
      refine XS.bipush X932.here hx rfl (hb hby at_642) ?_
      refine XS.iload X932.here hx rfl (hb hby at_644) rfl ?_
      exact kont
    have zz940 := y936
    obtain ⟨cl940, Ar940, q940, S940, M940, H940, G940⟩ := zz940
    have in940 : ¬ ((55 : Int32) < 0 ∨ cl940.slots.size ≤ ((55 : Int32)).toNatClampNeg) := inb_of S940 ⟨by decide, by decide⟩
    obtain ⟨T940, h940, X940, e940, W940, st940⟩ := stC X932 hx hZ e932 Ar940 (j := (55 : Int32)) in940 (g := (mkF m 646 #[iv p0, iv p1, iv p2, iv p3, iv p4, iv ca, iv cb, iv cc, iv cd_, iv (95 : Int32), iv sel, .unset, .unset] [(.int (95 : Int32)), (.int (55 : Int32)), (.ref b493), (.ref b493), (.ref b486), (.ref b486)])) rfl rfl (hb hby at_646)
    rw [show nar .char (95 : Int32) = (95 : Int32) from (by decide : nar .char (95 : Int32) = (95 : Int32))] at W940
    have sf942 : Safe Z consts_1 s.vm h932 b493 := (Safe.wr W932 sf934 R925.1 sf934)
    have R941 : CHr Z consts_1 s.vm h0 s.vm h940 := R933.trans (CHr.wr W940 sf942 R933.1)
    have O943 := O935.wr W940 ge501
    have y944 : Arv Z h940 b493 k493 .char (64 : Int32) (Ls937.set 55 (.int (95 : Int32))) (.int (0 : Int32)) := Arv.set Ar940 q940 S940 M940 H940 G940 (own_ft_char (z := (95 : Int32)) (by decide : nar .char (95 : Int32) = (95 : Int32))) W940 55 rfl (by rw [lLs937]; decide)
    obtain ⟨Ls945, hLs945⟩ : ∃ z : List Value, z = (Ls937.set 55 (.int (95 : Int32))) := ⟨_, rfl⟩
    rw [← hLs945] at y944
    have lLs945 : Ls945.length = 64 := by rw [hLs945, List.length_set, lLs937]
    have N940 := Fr.snoc X940 N932 ge501
    have g946 : Go p e below T940 (mkF m 647 #[iv p0, iv p1, iv p2, iv p3, iv p4, iv ca, iv cb, iv cc, iv cd_, iv (95 : Int32), iv sel, .unset, .unset] [(.ref b493), (.ref b486), (.ref b486)]) A0 := fun t kont => g939 t (st940 t kont)
    have g947 : Go p e below T940 (mkF m 652 #[iv p0, iv p1, iv p2, iv p3, iv p4, iv ca, iv cb, iv cc, iv cd_, iv (95 : Int32), iv sel, .unset, .unset] [(.int (95 : Int32)), (.int (56 : Int32)), (.ref b493), (.ref b493), (.ref b486), (.ref b486)]) A0 := by
      intro t kont
      refine g946 t ?_
      refine XS.dup X940.here hx rfl (hb hby at_647) rfl rfl ?_
      refine XS.bipush X940.here hx rfl (hb hby at_648) ?_
      refine XS.iload X940.here hx rfl (hb hby at_650) rfl ?_
      exact kont
    have zz948 := y944
    obtain ⟨cl948, Ar948, q948, S948, M948, H948, G948⟩ := zz948
    have in948 : ¬ ((56 : Int32) < 0 ∨ cl948.slots.size ≤ ((56 : Int32)).toNatClampNeg) := inb_of S948 ⟨by decide, by decide⟩
    obtain ⟨T948, h948, X948, e948, W948, st948⟩ := stC X940 hx hZ e940 Ar948 (j := (56 : Int32)) in948 (g := (mkF m 652 #[iv p0, iv p1, iv p2, iv p3, iv p4, iv ca, iv cb, iv cc, iv cd_, iv (95 : Int32), iv sel, .unset, .unset] [(.int (95 : Int32)), (.int (56 : Int32)), (.ref b493), (.ref b493), (.ref b486), (.ref b486)])) rfl rfl (hb hby at_652)
    rw [show nar .char (95 : Int32) = (95 : Int32) from (by decide : nar .char (95 : Int32) = (95 : Int32))] at W948
    have sf950 : Safe Z consts_1 s.vm h940 b493 := (Safe.wr W940 sf942 R933.1 sf942)
    have R949 : CHr Z consts_1 s.vm h0 s.vm h948 := R941.trans (CHr.wr W948 sf950 R941.1)
    have O951 := O943.wr W948 ge501
    have y952 : Arv Z h948 b493 k493 .char (64 : Int32) (Ls945.set 56 (.int (95 : Int32))) (.int (0 : Int32)) := Arv.set Ar948 q948 S948 M948 H948 G948 (own_ft_char (z := (95 : Int32)) (by decide : nar .char (95 : Int32) = (95 : Int32))) W948 56 rfl (by rw [lLs945]; decide)
    obtain ⟨Ls953, hLs953⟩ : ∃ z : List Value, z = (Ls945.set 56 (.int (95 : Int32))) := ⟨_, rfl⟩
    rw [← hLs953] at y952
    have lLs953 : Ls953.length = 64 := by rw [hLs953, List.length_set, lLs945]
    have N948 := Fr.snoc X948 N940 ge501
    have g954 : Go p e below T948 (mkF m 653 #[iv p0, iv p1, iv p2, iv p3, iv p4, iv ca, iv cb, iv cc, iv cd_, iv (95 : Int32), iv sel, .unset, .unset] [(.ref b493), (.ref b486), (.ref b486)]) A0 := fun t kont => g947 t (st948 t kont)
    have g955 : Go p e below T948 (mkF m 658 #[iv p0, iv p1, iv p2, iv p3, iv p4, iv ca, iv cb, iv cc, iv cd_, iv (95 : Int32), iv sel, .unset, .unset] [(.int (95 : Int32)), (.int (57 : Int32)), (.ref b493), (.ref b493), (.ref b486), (.ref b486)]) A0 := by
      intro t kont
      refine g954 t ?_
      refine XS.dup X948.here hx rfl (hb hby at_653) rfl rfl ?_
      refine XS.bipush X948.here hx rfl (hb hby at_654) ?_
      refine XS.iload X948.here hx rfl (hb hby at_656) rfl ?_
      exact kont
    have zz956 := y952
    obtain ⟨cl956, Ar956, q956, S956, M956, H956, G956⟩ := zz956
    have in956 : ¬ ((57 : Int32) < 0 ∨ cl956.slots.size ≤ ((57 : Int32)).toNatClampNeg) := inb_of S956 ⟨by decide, by decide⟩
    obtain ⟨T956, h956, X956, e956, W956, st956⟩ := stC X948 hx hZ e948 Ar956 (j := (57 : Int32)) in956 (g := (mkF m 658 #[iv p0, iv p1, iv p2, iv p3, iv p4, iv ca, iv cb, iv cc, iv cd_, iv (95 : Int32), iv sel, .unset, .unset] [(.int (95 : Int32)), (.int (57 : Int32)), (.ref b493), (.ref b493), (.ref b486), (.ref b486)])) rfl rfl (hb hby at_658)
    rw [show nar .char (95 : Int32) = (95 : Int32) from (by decide : nar .char (95 : Int32) = (95 : Int32))] at W956
    have sf958 : Safe Z consts_1 s.vm h948 b493 := (Safe.wr W948 sf950 R941.1 sf950)
    have R957 : CHr Z consts_1 s.vm h0 s.vm h956 := R949.trans (CHr.wr W956 sf958 R949.1)
    have O959 := O951.wr W956 ge501
    have y960 : Arv Z h956 b493 k493 .char (64 : Int32) (Ls953.set 57 (.int (95 : Int32))) (.int (0 : Int32)) := Arv.set Ar956 q956 S956 M956 H956 G956 (own_ft_char (z := (95 : Int32)) (by decide : nar .char (95 : Int32) = (95 : Int32))) W956 57 rfl (by rw [lLs953]; decide)
    obtain ⟨Ls961, hLs961⟩ : ∃ z : List Value, z = (Ls953.set 57 (.int (95 : Int32))) := ⟨_, rfl⟩
    rw [← hLs961] at y960
    have lLs961 : Ls961.length = 64 := by rw [hLs961, List.length_set, lLs953]
    have N956 := Fr.snoc X956 N948 ge501
    have g962 : Go p e below T956 (mkF m 659 #[iv p0, iv p1, iv p2, iv p3, iv p4, iv ca, iv cb, iv cc, iv cd_, iv (95 : Int32), iv sel, .unset, .unset] [(.ref b493), (.ref b486), (.ref b486)]) A0 := fun t kont => g955 t (st956 t kont)
    have g963 : Go p e below T956 (mkF m 664 #[iv p0, iv p1, iv p2, iv p3, iv p4, iv ca, iv cb, iv cc, iv cd_, iv (95 : Int32), iv sel, .unset, .unset] [(.int (95 : Int32)), (.int (58 : Int32)), (.ref b493), (.ref b493), (.ref b486), (.ref b486)]) A0 := by
      intro t kont
      refine g962 t ?_
      refine XS.dup X956.here hx rfl (hb hby at_659) rfl rfl ?_
      refine XS.bipush X956.here hx rfl (hb hby at_660) ?_
      refine XS.iload X956.here hx rfl (hb hby at_662) rfl ?_
      exact kont
    have zz964 := y960
    obtain ⟨cl964, Ar964, q964, S964, M964, H964, G964⟩ := zz964
    have in964 : ¬ ((58 : Int32) < 0 ∨ cl964.slots.size ≤ ((58 : Int32)).toNatClampNeg) := inb_of S964 ⟨by decide, by decide⟩
    obtain ⟨T964, h964, X964, e964, W964, st964⟩ := stC X956 hx hZ e956 Ar964 (j := (58 : Int32)) in964 (g := (mkF m 664 #[iv p0, iv p1, iv p2, iv p3, iv p4, iv ca, iv cb, iv cc, iv cd_, iv (95 : Int32), iv sel, .unset, .unset] [(.int (95 : Int32)), (.int (58 : Int32)), (.ref b493), (.ref b493), (.ref b486), (.ref b486)])) rfl rfl (hb hby at_664)
    rw [show nar .char (95 : Int32) = (95 : Int32) from (by decide : nar .char (95 : Int32) = (95 : Int32))] at W964
    have sf966 : Safe Z consts_1 s.vm h956 b493 := (Safe.wr W956 sf958 R949.1 sf958)
    have R965 : CHr Z consts_1 s.vm h0 s.vm h964 := R957.trans (CHr.wr W964 sf966 R957.1)
    have O967 := O959.wr W964 ge501
    have y968 : Arv Z h964 b493 k493 .char (64 : Int32) (Ls961.set 58 (.int (95 : Int32))) (.int (0 : Int32)) := Arv.set Ar964 q964 S964 M964 H964 G964 (own_ft_char (z := (95 : Int32)) (by decide : nar .char (95 : Int32) = (95 : Int32))) W964 58 rfl (by rw [lLs961]; decide)
    obtain ⟨Ls969, hLs969⟩ : ∃ z : List Value, z = (Ls961.set 58 (.int (95 : Int32))) := ⟨_, rfl⟩
    rw [← hLs969] at y968
    have lLs969 : Ls969.length = 64 := by rw [hLs969, List.length_set, lLs961]
    have N964 := Fr.snoc X964 N956 ge501
    have g970 : Go p e below T964 (mkF m 665 #[iv p0, iv p1, iv p2, iv p3, iv p4, iv ca, iv cb, iv cc, iv cd_, iv (95 : Int32), iv sel, .unset, .unset] [(.ref b493), (.ref b486), (.ref b486)]) A0 := fun t kont => g963 t (st964 t kont)
    have g971 : Go p e below T964 (mkF m 670 #[iv p0, iv p1, iv p2, iv p3, iv p4, iv ca, iv cb, iv cc, iv cd_, iv (95 : Int32), iv sel, .unset, .unset] [(.int (95 : Int32)), (.int (59 : Int32)), (.ref b493), (.ref b493), (.ref b486), (.ref b486)]) A0 := by
      intro t kont
      refine g970 t ?_
      refine XS.dup X964.here hx rfl (hb hby at_665) rfl rfl ?_
      refine XS.bipush X964.here hx rfl (hb hby at_666) ?_
      refine XS.iload X964.here hx rfl (hb hby at_668) rfl ?_
      exact kont
    have zz972 := y968
    obtain ⟨cl972, Ar972, q972, S972, M972, H972, G972⟩ := zz972
    have in972 : ¬ ((59 : Int32) < 0 ∨ cl972.slots.size ≤ ((59 : Int32)).toNatClampNeg) := inb_of S972 ⟨by decide, by decide⟩
    obtain ⟨T972, h972, X972, e972, W972, st972⟩ := stC X964 hx hZ e964 Ar972 (j := (59 : Int32)) in972 (g := (mkF m 670 #[iv p0, iv p1, iv p2, iv p3, iv p4, iv ca, iv cb, iv cc, iv cd_, iv (95 : Int32), iv sel, .unset, .unset] [(.int (95 : Int32)), (.int (59 : Int32)), (.ref b493), (.ref b493), (.ref b486), (.ref b486)])) rfl rfl (hb hby at_670)
    rw [show nar .char (95 : Int32) = (95 : Int32) from (by decide : nar .char (95 : Int32) = (95 : Int32))] at W972
    have sf974 : Safe Z consts_1 s.vm h964 b493 := (Safe.wr W964 sf966 R957.1 sf966)
    have R973 : CHr Z consts_1 s.vm h0 s.vm h972 := R965.trans (CHr.wr W972 sf974 R965.1)
    have O975 := O967.wr W972 ge501
    have y976 : Arv Z h972 b493 k493 .char (64 : Int32) (Ls969.set 59 (.int (95 : Int32))) (.int (0 : Int32)) := Arv.set Ar972 q972 S972 M972 H972 G972 (own_ft_char (z := (95 : Int32)) (by decide : nar .char (95 : Int32) = (95 : Int32))) W972 59 rfl (by rw [lLs969]; decide)
    obtain ⟨Ls977, hLs977⟩ : ∃ z : List Value, z = (Ls969.set 59 (.int (95 : Int32))) := ⟨_, rfl⟩
    rw [← hLs977] at y976
    have lLs977 : Ls977.length = 64 := by rw [hLs977, List.length_set, lLs969]
    have N972 := Fr.snoc X972 N964 ge501
    have g978 : Go p e below T972 (mkF m 671 #[iv p0, iv p1, iv p2, iv p3, iv p4, iv ca, iv cb, iv cc, iv cd_, iv (95 : Int32), iv sel, .unset, .unset] [(.ref b493), (.ref b486), (.ref b486)]) A0 := fun t kont => g971 t (st972 t kont)
    have g979 : Go p e below T972 (mkF m 676 #[iv p0, iv p1, iv p2, iv p3, iv p4, iv ca, iv cb, iv cc, iv cd_, iv (95 : Int32), iv sel, .unset, .unset] [(.int (95 : Int32)), (.int (60 : Int32)), (.ref b493), (.ref b493), (.ref b486), (.ref b486)]) A0 := by
      intro t kont
      refine g978 t ?_
      refine XS.dup X972.here hx rfl (hb hby at_671) rfl rfl ?_
      refine XS.bipush X972.here hx rfl (hb hby at_672) ?_
      refine XS.iload X972.here hx rfl (hb hby at_674) rfl ?_
      exact kont
    have zz980 := y976
    obtain ⟨cl980, Ar980, q980, S980, M980, H980, G980⟩ := zz980
    have in980 : ¬ ((60 : Int32) < 0 ∨ cl980.slots.size ≤ ((60 : Int32)).toNatClampNeg) := inb_of S980 ⟨by decide, by decide⟩
    obtain ⟨T980, h980, X980, e980, W980, st980⟩ := stC X972 hx hZ e972 Ar980 (j := (60 : Int32)) in980 (g := (mkF m 676 #[iv p0, iv p1, iv p2, iv p3, iv p4, iv ca, iv cb, iv cc, iv cd_, iv (95 : Int32), iv sel, .unset, .unset] [(.int (95 : Int32)), (.int (60 : Int32)), (.ref b493), (.ref b493), (.ref b486), (.ref b486)])) rfl rfl (hb hby at_676)
    rw [show nar .char (95 : Int32) = (95 : Int32) from (by decide : nar .char (95 : Int32) = (95 : Int32))] at W980
    have sf982 : Safe Z consts_1 s.vm h972 b493 := (Safe.wr W972 sf974 R965.1 sf974)
    have R981 : CHr Z consts_1 s.vm h0 s.vm h980 := R973.trans (CHr.wr W980 sf982 R973.1)
    have O983 := O975.wr W980 ge501
    have y984 : Arv Z h980 b493 k493 .char (64 : Int32) (Ls977.set 60 (.int (95 : Int32))) (.int (0 : Int32)) := Arv.set Ar980 q980 S980 M980 H980 G980 (own_ft_char (z := (95 : Int32)) (by decide : nar .char (95 : Int32) = (95 : Int32))) W980 60 rfl (by rw [lLs977]; decide)
    obtain ⟨Ls985, hLs985⟩ : ∃ z : List Value, z = (Ls977.set 60 (.int (95 : Int32))) := ⟨_, rfl⟩
    rw [← hLs985] at y984
    have lLs985 : Ls985.length = 64 := by rw [hLs985, List.length_set, lLs977]
    have N980 := Fr.snoc X980 N972 ge501
    have g986 : Go p e below T980 (mkF m 677 #[iv p0, iv p1, iv p2, iv p3, iv p4, iv ca, iv cb, iv cc, iv cd_, iv (95 : Int32), iv sel, .unset, .unset] [(.ref b493), (.ref b486), (.ref b486)]) A0 := fun t kont => g979 t (st980 t kont)
    have g987 : Go p e below T980 (mkF m 682 #[iv p0, iv p1, iv p2, iv p3, iv p4, iv ca, iv cb, iv cc, iv cd_, iv (95 : Int32), iv sel, .unset, .unset] [(.int (95 : Int32)), (.int (61 : Int32)), (.ref b493), (.ref b493), (.ref b486), (.ref b486)]) A0 := by
      intro t kont
      refine g986 t ?_
      refine XS.dup X980.here hx rfl (hb hby at_677) rfl rfl ?_
      refine XS.bipush X980.here hx rfl (hb hby at_678) ?_
      refine XS.iload X980.here hx rfl (hb hby at_680) rfl ?_
      exact kont
    have zz988 := y984
    obtain ⟨cl988, Ar988, q988, S988, M988, H988, G988⟩ := zz988
    have in988 : ¬ ((61 : Int32) < 0 ∨ cl988.slots.size ≤ ((61 : Int32)).toNatClampNeg) := inb_of S988 ⟨by decide, by decide⟩
    obtain ⟨T988, h988, X988, e988, W988, st988⟩ := stC X980 hx hZ e980 Ar988 (j := (61 : Int32)) in988 (g := (mkF m 682 #[iv p0, iv p1, iv p2, iv p3, iv p4, iv ca, iv cb, iv cc, iv cd_, iv (95 : Int32), iv sel, .unset, .unset] [(.int (95 : Int32)), (.int (61 : Int32)), (.ref b493), (.ref b493), (.ref b486), (.ref b486)])) rfl rfl (hb hby at_682)
    rw [show nar .char (95 : Int32) = (95 : Int32) from (by decide : nar .char (95 : Int32) = (95 : Int32))] at W988
    have sf990 : Safe Z consts_1 s.vm h980 b493 := (Safe.wr W980 sf982 R973.1 sf982)
    have R989 : CHr Z consts_1 s.vm h0 s.vm h988 := R981.trans (CHr.wr W988 sf990 R981.1)
    have O991 := O983.wr W988 ge501
    have y992 : Arv Z h988 b493 k493 .char (64 : Int32) (Ls985.set 61 (.int (95 : Int32))) (.int (0 : Int32)) := Arv.set Ar988 q988 S988 M988 H988 G988 (own_ft_char (z := (95 : Int32)) (by decide : nar .char (95 : Int32) = (95 : Int32))) W988 61 rfl (by rw [lLs985]; decide)
    obtain ⟨Ls993, hLs993⟩ : ∃ z : List Value, z = (Ls985.set 61 (.int (95 : Int32))) := ⟨_, rfl⟩
    rw [← hLs993] at y992
    have lLs993 : Ls993.length = 64 := by rw [hLs993, List.length_set, lLs985]
    have N988 := Fr.snoc X988 N980 ge501
    have g994 : Go p e below T988 (mkF m 683 #[iv p0, iv p1, iv p2, iv p3, iv p4, iv ca, iv cb, iv cc, iv cd_, iv (95 : Int32), iv sel, .unset, .unset] [(.ref b493), (.ref b486), (.ref b486)]) A0 := fun t kont => g987 t (st988 t kont)
    have g995 : Go p e below T988 (mkF m 688 #[iv p0, iv p1, iv p2, iv p3, iv p4, iv ca, iv cb, iv cc, iv cd_, iv (95 : Int32), iv sel, .unset, .unset] [(.int (95 : Int32)), (.int (62 : Int32)), (.ref b493), (.ref b493), (.ref b486), (.ref b486)]) A0 := by
      intro t kont
      refine g994 t ?_
      refine XS.dup X988.here hx rfl (hb hby at_683) rfl rfl ?_
      refine XS.bipush X988.here hx rfl (hb hby at_684) ?_
      refine XS.iload X988.here hx rfl (hb hby at_686) rfl ?_
      exact kont
    have zz996 := y992
    obtain ⟨cl996, Ar996, q996, S996, M996, H996, G996⟩ := zz996
    have in996 : ¬ ((62 : Int32) < 0 ∨ cl996.slots.size ≤ ((62 : Int32)).toNatClampNeg) := inb_of S996 ⟨by decide, by decide⟩
    obtain ⟨T996, h996, X996, e996, W996, st996⟩ := stC X988 hx hZ e988 Ar996 (j := (62 : Int32)) in996 (g := (mkF m 688 #[iv p0, iv p1, iv p2, iv p3, iv p4, iv ca, iv cb, iv cc, iv cd_, iv (95 : Int32), iv sel, .unset, .unset] [(.int (95 : Int32)), (.int (62 : Int32)), (.ref b493), (.ref b493), (.ref b486), (.ref b486)])) rfl rfl (hb hby at_688)
    rw [show nar .char (95 : Int32) = (95 : Int32) from (by decide : nar .char (95 : Int32) = (95 : Int32))] at W996
    have sf998 : Safe Z consts_1 s.vm h988 b493 := (Safe.wr W988 sf990 R981.1 sf990)
    have R997 : CHr Z consts_1 s.vm h0 s.vm h996 := R989.trans (CHr.wr W996 sf998 R989.1)
    have O999 := O991.wr W996 ge501
    have y1000 : Arv Z h996 b493 k493 .char (64 : Int32) (Ls993.set 62 (.int (95 : Int32))) (.int (0 : Int32)) := Arv.set Ar996 q996 S996 M996 H996 G996 (own_ft_char (z := (95 : Int32)) (by decide : nar .char (95 : Int32) = (95 : Int32))) W996 62 rfl (by rw [lLs993]; decide)
    obtain ⟨Ls1001, hLs1001⟩ : ∃ z : List Value, z = (Ls993.set 62 (.int (95 : Int32))) := ⟨_, rfl⟩
    rw [← hLs1001] at y1000
    have lLs1001 : Ls1001.length = 64 := by rw [hLs1001, List.length_set, lLs993]
    have N996 := Fr.snoc X996 N988 ge501
    have g1002 : Go p e below T996 (mkF m 689 #[iv p0, iv p1, iv p2, iv p3, iv p4, iv ca, iv cb, iv cc, iv cd_, iv (95 : Int32), iv sel, .unset, .unset] [(.ref b493), (.ref b486), (.ref b486)]) A0 := fun t kont => g995 t (st996 t kont)
    have g1003 : Go p e below T996 (mkF m 694 #[iv p0, iv p1, iv p2, iv p3, iv p4, iv ca, iv cb, iv cc, iv cd_, iv (95 : Int32), iv sel, .unset, .unset] [(.int cd_), (.int (63 : Int32)), (.ref b493), (.ref b493), (.ref b486), (.ref b486)]) A0 := by
      intro t kont
      refine g1002 t ?_
      refine XS.dup X996.here hx rfl (hb hby at_689) rfl rfl ?_
      refine XS.bipush X996.here hx rfl (hb hby at_690) ?_
      refine XS.iload X996.here hx rfl (hb hby at_692) rfl ?_
      exact kont
    have zz1004 := y1000
    obtain ⟨cl1004, Ar1004, q1004, S1004, M1004, H1004, G1004⟩ := zz1004
    have in1004 : ¬ ((63 : Int32) < 0 ∨ cl1004.slots.size ≤ ((63 : Int32)).toNatClampNeg) := inb_of S1004 ⟨by decide, by decide⟩
    obtain ⟨T1004, h1004, X1004, e1004, W1004, st1004⟩ := stC X996 hx hZ e996 Ar1004 (j := (63 : Int32)) in1004 (g := (mkF m 694 #[iv p0, iv p1, iv p2, iv p3, iv p4, iv ca, iv cb, iv cc, iv cd_, iv (95 : Int32), iv sel, .unset, .unset] [(.int cd_), (.int (63 : Int32)), (.ref b493), (.ref b493), (.ref b486), (.ref b486)])) rfl rfl (hb hby at_694)
    rw [show nar .char cd_ = cd_ from r_cd_] at W1004
    have sf1006 : Safe Z consts_1 s.vm h996 b493 := (Safe.wr W996 sf998 R989.1 sf998)
    have R1005 : CHr Z consts_1 s.vm h0 s.vm h1004 := R997.trans (CHr.wr W1004 sf1006 R997.1)
    have O1007 := O999.wr W1004 ge501
    have y1008 : Arv Z h1004 b493 k493 .char (64 : Int32) (Ls1001.set 63 (.int cd_)) (.int (0 : Int32)) := Arv.set Ar1004 q1004 S1004 M1004 H1004 G1004 (own_ft_char (z := cd_) r_cd_) W1004 63 rfl (by rw [lLs1001]; decide)
    obtain ⟨Ls1009, hLs1009⟩ : ∃ z : List Value, z = (Ls1001.set 63 (.int cd_)) := ⟨_, rfl⟩
    rw [← hLs1009] at y1008
    have lLs1009 : Ls1009.length = 64 := by rw [hLs1009, List.length_set, lLs1001]
    have N1004 := Fr.snoc X1004 N996 ge501
    have g1010 : Go p e below T1004 (mkF m 695 #[iv p0, iv p1, iv p2, iv p3, iv p4, iv ca, iv cb, iv cc, iv cd_, iv (95 : Int32), iv sel, .unset, .unset] [(.ref b493), (.ref b486), (.ref b486)]) A0 := fun t kont => g1003 t (st1004 t kont)
    obtain ⟨ls1012, hls1012⟩ : ∃ z, z = [ca, cb, (95 : Int32), (95 : Int32), (95 : Int32), (95 : Int32), (95 : Int32), (95 : Int32), (95 : Int32), (95 : Int32), (95 : Int32), (95 : Int32), (95 : Int32), (95 : Int32), (95 : Int32), (95 : Int32), (95 : Int32), (95 : Int32), (95 : Int32), (95 : Int32), (95 : Int32), (95 : Int32), (95 : Int32), (95 : Int32), (95 : Int32), (95 : Int32), (95 : Int32), (95 : Int32), (95 : Int32), (95 : Int32), (95 : Int32), (95 : Int32), cc, (95 : Int32), (95 : Int32), (95 : Int32), (95 : Int32), (95 : Int32), (95 : Int32), (95 : Int32), (95 : Int32), (95 : Int32), (95 : Int32), (95 : Int32), (95 : Int32), (95 : Int32), (95 : Int32), (95 : Int32), (95 : Int32), (95 : Int32), (95 : Int32), (95 : Int32), (95 : Int32), (95 : Int32), (95 : Int32), (95 : Int32), (95 : Int32), (95 : Int32), (95 : Int32), (95 : Int32), (95 : Int32), (95 : Int32), (95 : Int32), cd_] := ⟨_, rfl⟩
    have lls1012 : ls1012.length = 64 := by rw [hls1012]; rfl
    have y1013 : Arv Z h1004 b493 k493 .char (Int32.ofNat ls1012.length) (ls1012.map Value.int) (.int (0 : Int32)) := by
      have q := y1008
      rw [show Ls1009 = ls1012.map Value.int by rw [hLs1009, hLs1001, hLs993, hLs985, hLs977, hLs969, hLs961, hLs953, hLs945, hLs937, hLs929, hLs921, hLs913, hLs905, hLs897, hLs889, hLs881, hLs873, hLs865, hLs857, hLs849, hLs841, hLs833, hLs825, hLs817, hLs809, hLs801, hLs793, hLs785, hLs777, hLs769, hLs761, hLs753, hLs745, hLs737, hLs729, hLs721, hLs713, hLs705, hLs697, hLs689, hLs681, hLs673, hLs665, hLs657, hLs649, hLs641, hLs633, hLs625, hLs617, hLs609, hLs601, hLs593, hLs585, hLs577, hLs569, hLs561, hLs553, hLs545, hLs537, hLs529, hLs521, hLs513, hLs505, hLs497, hls1012]; simp only [List.reduceReplicate, List.set_cons_zero, List.set_cons_succ, List.map_cons, List.map_nil]] at q
      rw [lls1012]
      exact q
    have y1014 : Fld Z h1004 b486 "java/lang/String" "value" "[B" .null := (((((((((((((((((((((((((((((((((((((((((((((((((((((((((((((((((y489.ext E493).other W500 (Or.inl (Nat.ne_of_lt (Nat.lt_of_lt_of_le A486.lt (Nat.le_of_eq gb493.symm))))).other W508 (Or.inl (Nat.ne_of_lt (Nat.lt_of_lt_of_le A486.lt (Nat.le_of_eq gb493.symm))))).other W516 (Or.inl (Nat.ne_of_lt (Nat.lt_of_lt_of_le A486.lt (Nat.le_of_eq gb493.symm))))).other W524 (Or.inl (Nat.ne_of_lt (Nat.lt_of_lt_of_le A486.lt (Nat.le_of_eq gb493.symm))))).other W532 (Or.inl (Nat.ne_of_lt (Nat.lt_of_lt_of_le A486.lt (Nat.le_of_eq gb493.symm))))).other W540 (Or.inl (Nat.ne_of_lt (Nat.lt_of_lt_of_le A486.lt (Nat.le_of_eq gb493.symm))))).other W548 (Or.inl (Nat.ne_of_lt (Nat.lt_of_lt_of_le A486.lt (Nat.le_of_eq gb493.symm))))).other W556 (Or.inl (Nat.ne_of_lt (Nat.lt_of_lt_of_le A486.lt (Nat.le_of_eq gb493.symm))))).other W564 (Or.inl (Nat.ne_of_lt (Nat.lt_of_lt_of_le A486.lt (Nat.le_of_eq gb493.symm))))).other W572 (Or.inl (Nat.ne_of_lt (Nat.lt_of_lt_of_le A486.lt (Nat.le_of_eq gb493.symm))))).other W580 (Or.inl (Nat.ne_of_lt (Nat.lt_of_lt_of_le A486.lt (Nat.le_of_eq gb493.symm))))).other W588 (Or.inl (Nat.ne_of_lt (Nat.lt_of_lt_of_le A486.lt (Nat.le_of_eq gb493.symm))))).other W596 (Or.inl (Nat.ne_of_lt (Nat.lt_of_lt_of_le A486.lt (Nat.le_of_eq gb493.symm))))).other W604 (Or.inl (Nat.ne_of_lt (Nat.lt_of_lt_of_le A486.lt (Nat.le_of_eq gb493.symm))))).other W612 (Or.inl (Nat.ne_of_lt (Nat.lt_of_lt_of_le A486.lt (Nat.le_of_eq gb493.symm))))).other W620 (Or.inl (Nat.ne_of_lt (Nat.lt_of_lt_of_le A486.lt (Nat.le_of_eq gb493.symm))))).other W628 (Or.inl (Nat.ne_of_lt (Nat.lt_of_lt_of_le A486.lt (Nat.le_of_eq gb493.symm))))).other W636 (Or.inl (Nat.ne_of_lt (Nat.lt_of_lt_of_le A486.lt (Nat.le_of_eq gb493.symm))))).other W644 (Or.inl (Nat.ne_of_lt (Nat.lt_of_lt_of_le A486.lt (Nat.le_of_eq gb493.symm))))).other W652 (Or.inl (Nat.ne_of_lt (Nat.lt_of_lt_of_le A486.lt (Nat.le_of_eq gb493.symm))))).other W660 (Or.inl (Nat.ne_of_lt (Nat.lt_of_lt_of_le A486.lt (Nat.le_of_eq gb493.symm))))).other W668 (Or.inl (Nat.ne_of_lt (Nat.lt_of_lt_of_le A486.lt (Nat.le_of_eq gb493.symm))))).other W676 (Or.inl (Nat.ne_of_lt (Nat.lt_of_lt_of_le A486.lt (Nat.le_of_eq gb493.symm))))).other W684 (Or.inl (Nat.ne_of_lt (Nat.lt_of_lt_of_le A486.lt (Nat.le_of_eq gb493.symm))))).other W692 (Or.inl (Nat.ne_of_lt (Nat.lt_of_lt_of_le A486.lt (Nat.le_of_eq gb493.symm))))).other W700 (Or.inl (Nat.ne_of_lt (Nat.lt_of_lt_of_le A486.lt (Nat.le_of_eq gb493.symm))))).other W708 (Or.inl (Nat.ne_of_lt (Nat.lt_of_lt_of_le A486.lt (Nat.le_of_eq gb493.symm))))).other W716 (Or.inl (Nat.ne_of_lt (Nat.lt_of_lt_of_le A486.lt (Nat.le_of_eq gb493.symm))))).other W724 (Or.inl (Nat.ne_of_lt (Nat.lt_of_lt_of_le A486.lt (Nat.le_of_eq gb493.symm))))).other W732 (Or.inl (Nat.ne_of_lt (Nat.lt_of_lt_of_le A486.lt (Nat.le_of_eq gb493.symm))))).other W740 (Or.inl (Nat.ne_of_lt (Nat.lt_of_lt_of_le A486.lt (Nat.le_of_eq gb493.symm))))).other W748 (Or.inl (Nat.ne_of_lt (Nat.lt_of_lt_of_le A486.lt (Nat.le_of_eq gb493.symm))))).other W756 (Or.inl (Nat.ne_of_lt (Nat.lt_of_lt_of_le A486.lt (Nat.le_of_eq gb493.symm))))).other W764 (Or.inl (Nat.ne_of_lt (Nat.lt_of_lt_of_le A486.lt (Nat.le_of_eq gb493.symm))))).other W772 (Or.inl (Nat.ne_of_lt (Nat.lt_of_lt_of_le A486.lt (Nat.le_of_eq gb493.symm))))).other W780 (Or.inl (Nat.ne_of_lt (Nat.lt_of_lt_of_le A486.lt (Nat.le_of_eq gb493.symm))))).other W788 (Or.inl (Nat.ne_of_lt (Nat.lt_of_lt_of_le A486.lt (Nat.le_of_eq gb493.symm))))).other W796 (Or.inl (Nat.ne_of_lt (Nat.lt_of_lt_of_le A486.lt (Nat.le_of_eq gb493.symm))))).other W804 (Or.inl (Nat.ne_of_lt (Nat.lt_of_lt_of_le A486.lt (Nat.le_of_eq gb493.symm))))).other W812 (Or.inl (Nat.ne_of_lt (Nat.lt_of_lt_of_le A486.lt (Nat.le_of_eq gb493.symm))))).other W820 (Or.inl (Nat.ne_of_lt (Nat.lt_of_lt_of_le A486.lt (Nat.le_of_eq gb493.symm))))).other W828 (Or.inl (Nat.ne_of_lt (Nat.lt_of_lt_of_le A486.lt (Nat.le_of_eq gb493.symm))))).other W836 (Or.inl (Nat.ne_of_lt (Nat.lt_of_lt_of_le A486.lt (Nat.le_of_eq gb493.symm))))).other W844 (Or.inl (Nat.ne_of_lt (Nat.lt_of_lt_of_le A486.lt (Nat.le_of_eq gb493.symm))))).other W852 (Or.inl (Nat.ne_of_lt (Nat.lt_of_lt_of_le A486.lt (Nat.le_of_eq gb493.symm))))).other W860 (Or.inl (Nat.ne_of_lt (Nat.lt_of_lt_of_le A486.lt (Nat.le_of_eq gb493.symm))))).other W868 (Or.inl (Nat.ne_of_lt (Nat.lt_of_lt_of_le A486.lt (Nat.le_of_eq gb493.symm))))).other W876 (Or.inl (Nat.ne_of_lt (Nat.lt_of_lt_of_le A486.lt (Nat.le_of_eq gb493.symm))))).other W884 (Or.inl (Nat.ne_of_lt (Nat.lt_of_lt_of_le A486.lt (Nat.le_of_eq gb493.symm))))).other W892 (Or.inl (Nat.ne_of_lt (Nat.lt_of_lt_of_le A486.lt (Nat.le_of_eq gb493.symm))))).other W900 (Or.inl (Nat.ne_of_lt (Nat.lt_of_lt_of_le A486.lt (Nat.le_of_eq gb493.symm))))).other W908 (Or.inl (Nat.ne_of_lt (Nat.lt_of_lt_of_le A486.lt (Nat.le_of_eq gb493.symm))))).other W916 (Or.inl (Nat.ne_of_lt (Nat.lt_of_lt_of_le A486.lt (Nat.le_of_eq gb493.symm))))).other W924 (Or.inl (Nat.ne_of_lt (Nat.lt_of_lt_of_le A486.lt (Nat.le_of_eq gb493.symm))))).other W932 (Or.inl (Nat.ne_of_lt (Nat.lt_of_lt_of_le A486.lt (Nat.le_of_eq gb493.symm))))).other W940 (Or.inl (Nat.ne_of_lt (Nat.lt_of_lt_of_le A486.lt (Nat.le_of_eq gb493.symm))))).other W948 (Or.inl (Nat.ne_of_lt (Nat.lt_of_lt_of_le A486.lt (Nat.le_of_eq gb493.symm))))).other W956 (Or.inl (Nat.ne_of_lt (Nat.lt_of_lt_of_le A486.lt (Nat.le_of_eq gb493.symm))))).other W964 (Or.inl (Nat.ne_of_lt (Nat.lt_of_lt_of_le A486.lt (Nat.le_of_eq gb493.symm))))).other W972 (Or.inl (Nat.ne_of_lt (Nat.lt_of_lt_of_le A486.lt (Nat.le_of_eq gb493.symm))))).other W980 (Or.inl (Nat.ne_of_lt (Nat.lt_of_lt_of_le A486.lt (Nat.le_of_eq gb493.symm))))).other W988 (Or.inl (Nat.ne_of_lt (Nat.lt_of_lt_of_le A486.lt (Nat.le_of_eq gb493.symm))))).other W996 (Or.inl (Nat.ne_of_lt (Nat.lt_of_lt_of_le A486.lt (Nat.le_of_eq gb493.symm))))).other W1004 (Or.inl (Nat.ne_of_lt (Nat.lt_of_lt_of_le A486.lt (Nat.le_of_eq gb493.symm)))))
    have y1015 : Fld Z h1004 b486 "java/lang/String" "coder" "B" (.int (0 : Int32)) := (((((((((((((((((((((((((((((((((((((((((((((((((((((((((((((((((y490.ext E493).other W500 (Or.inl (Nat.ne_of_lt (Nat.lt_of_lt_of_le A486.lt (Nat.le_of_eq gb493.symm))))).other W508 (Or.inl (Nat.ne_of_lt (Nat.lt_of_lt_of_le A486.lt (Nat.le_of_eq gb493.symm))))).other W516 (Or.inl (Nat.ne_of_lt (Nat.lt_of_lt_of_le A486.lt (Nat.le_of_eq gb493.symm))))).other W524 (Or.inl (Nat.ne_of_lt (Nat.lt_of_lt_of_le A486.lt (Nat.le_of_eq gb493.symm))))).other W532 (Or.inl (Nat.ne_of_lt (Nat.lt_of_lt_of_le A486.lt (Nat.le_of_eq gb493.symm))))).other W540 (Or.inl (Nat.ne_of_lt (Nat.lt_of_lt_of_le A486.lt (Nat.le_of_eq gb493.symm))))).other W548 (Or.inl (Nat.ne_of_lt (Nat.lt_of_lt_of_le A486.lt (Nat.le_of_eq gb493.symm))))).other W556 (Or.inl (Nat.ne_of_lt (Nat.lt_of_lt_of_le A486.lt (Nat.le_of_eq gb493.symm))))).other W564 (Or.inl (Nat.ne_of_lt (Nat.lt_of_lt_of_le A486.lt (Nat.le_of_eq gb493.symm))))).other W572 (Or.inl (Nat.ne_of_lt (Nat.lt_of_lt_of_le A486.lt (Nat.le_of_eq gb493.symm))))).other W580 (Or.inl (Nat.ne_of_lt (Nat.lt_of_lt_of_le A486.lt (Nat.le_of_eq gb493.symm))))).other W588 (Or.inl (Nat.ne_of_lt (Nat.lt_of_lt_of_le A486.lt (Nat.le_of_eq gb493.symm))))).other W596 (Or.inl (Nat.ne_of_lt (Nat.lt_of_lt_of_le A486.lt (Nat.le_of_eq gb493.symm))))).other W604 (Or.inl (Nat.ne_of_lt (Nat.lt_of_lt_of_le A486.lt (Nat.le_of_eq gb493.symm))))).other W612 (Or.inl (Nat.ne_of_lt (Nat.lt_of_lt_of_le A486.lt (Nat.le_of_eq gb493.symm))))).other W620 (Or.inl (Nat.ne_of_lt (Nat.lt_of_lt_of_le A486.lt (Nat.le_of_eq gb493.symm))))).other W628 (Or.inl (Nat.ne_of_lt (Nat.lt_of_lt_of_le A486.lt (Nat.le_of_eq gb493.symm))))).other W636 (Or.inl (Nat.ne_of_lt (Nat.lt_of_lt_of_le A486.lt (Nat.le_of_eq gb493.symm))))).other W644 (Or.inl (Nat.ne_of_lt (Nat.lt_of_lt_of_le A486.lt (Nat.le_of_eq gb493.symm))))).other W652 (Or.inl (Nat.ne_of_lt (Nat.lt_of_lt_of_le A486.lt (Nat.le_of_eq gb493.symm))))).other W660 (Or.inl (Nat.ne_of_lt (Nat.lt_of_lt_of_le A486.lt (Nat.le_of_eq gb493.symm))))).other W668 (Or.inl (Nat.ne_of_lt (Nat.lt_of_lt_of_le A486.lt (Nat.le_of_eq gb493.symm))))).other W676 (Or.inl (Nat.ne_of_lt (Nat.lt_of_lt_of_le A486.lt (Nat.le_of_eq gb493.symm))))).other W684 (Or.inl (Nat.ne_of_lt (Nat.lt_of_lt_of_le A486.lt (Nat.le_of_eq gb493.symm))))).other W692 (Or.inl (Nat.ne_of_lt (Nat.lt_of_lt_of_le A486.lt (Nat.le_of_eq gb493.symm))))).other W700 (Or.inl (Nat.ne_of_lt (Nat.lt_of_lt_of_le A486.lt (Nat.le_of_eq gb493.symm))))).other W708 (Or.inl (Nat.ne_of_lt (Nat.lt_of_lt_of_le A486.lt (Nat.le_of_eq gb493.symm))))).other W716 (Or.inl (Nat.ne_of_lt (Nat.lt_of_lt_of_le A486.lt (Nat.le_of_eq gb493.symm))))).other W724 (Or.inl (Nat.ne_of_lt (Nat.lt_of_lt_of_le A486.lt (Nat.le_of_eq gb493.symm))))).other W732 (Or.inl (Nat.ne_of_lt (Nat.lt_of_lt_of_le A486.lt (Nat.le_of_eq gb493.symm))))).other W740 (Or.inl (Nat.ne_of_lt (Nat.lt_of_lt_of_le A486.lt (Nat.le_of_eq gb493.symm))))).other W748 (Or.inl (Nat.ne_of_lt (Nat.lt_of_lt_of_le A486.lt (Nat.le_of_eq gb493.symm))))).other W756 (Or.inl (Nat.ne_of_lt (Nat.lt_of_lt_of_le A486.lt (Nat.le_of_eq gb493.symm))))).other W764 (Or.inl (Nat.ne_of_lt (Nat.lt_of_lt_of_le A486.lt (Nat.le_of_eq gb493.symm))))).other W772 (Or.inl (Nat.ne_of_lt (Nat.lt_of_lt_of_le A486.lt (Nat.le_of_eq gb493.symm))))).other W780 (Or.inl (Nat.ne_of_lt (Nat.lt_of_lt_of_le A486.lt (Nat.le_of_eq gb493.symm))))).other W788 (Or.inl (Nat.ne_of_lt (Nat.lt_of_lt_of_le A486.lt (Nat.le_of_eq gb493.symm))))).other W796 (Or.inl (Nat.ne_of_lt (Nat.lt_of_lt_of_le A486.lt (Nat.le_of_eq gb493.symm))))).other W804 (Or.inl (Nat.ne_of_lt (Nat.lt_of_lt_of_le A486.lt (Nat.le_of_eq gb493.symm))))).other W812 (Or.inl (Nat.ne_of_lt (Nat.lt_of_lt_of_le A486.lt (Nat.le_of_eq gb493.symm))))).other W820 (Or.inl (Nat.ne_of_lt (Nat.lt_of_lt_of_le A486.lt (Nat.le_of_eq gb493.symm))))).other W828 (Or.inl (Nat.ne_of_lt (Nat.lt_of_lt_of_le A486.lt (Nat.le_of_eq gb493.symm))))).other W836 (Or.inl (Nat.ne_of_lt (Nat.lt_of_lt_of_le A486.lt (Nat.le_of_eq gb493.symm))))).other W844 (Or.inl (Nat.ne_of_lt (Nat.lt_of_lt_of_le A486.lt (Nat.le_of_eq gb493.symm))))).other W852 (Or.inl (Nat.ne_of_lt (Nat.lt_of_lt_of_le A486.lt (Nat.le_of_eq gb493.symm))))).other W860 (Or.inl (Nat.ne_of_lt (Nat.lt_of_lt_of_le A486.lt (Nat.le_of_eq gb493.symm))))).other W868 (Or.inl (Nat.ne_of_lt (Nat.lt_of_lt_of_le A486.lt (Nat.le_of_eq gb493.symm))))).other W876 (Or.inl (Nat.ne_of_lt (Nat.lt_of_lt_of_le A486.lt (Nat.le_of_eq gb493.symm))))).other W884 (Or.inl (Nat.ne_of_lt (Nat.lt_of_lt_of_le A486.lt (Nat.le_of_eq gb493.symm))))).other W892 (Or.inl (Nat.ne_of_lt (Nat.lt_of_lt_of_le A486.lt (Nat.le_of_eq gb493.symm))))).other W900 (Or.inl (Nat.ne_of_lt (Nat.lt_of_lt_of_le A486.lt (Nat.le_of_eq gb493.symm))))).other W908 (Or.inl (Nat.ne_of_lt (Nat.lt_of_lt_of_le A486.lt (Nat.le_of_eq gb493.symm))))).other W916 (Or.inl (Nat.ne_of_lt (Nat.lt_of_lt_of_le A486.lt (Nat.le_of_eq gb493.symm))))).other W924 (Or.inl (Nat.ne_of_lt (Nat.lt_of_lt_of_le A486.lt (Nat.le_of_eq gb493.symm))))).other W932 (Or.inl (Nat.ne_of_lt (Nat.lt_of_lt_of_le A486.lt (Nat.le_of_eq gb493.symm))))).other W940 (Or.inl (Nat.ne_of_lt (Nat.lt_of_lt_of_le A486.lt (Nat.le_of_eq gb493.symm))))).other W948 (Or.inl (Nat.ne_of_lt (Nat.lt_of_lt_of_le A486.lt (Nat.le_of_eq gb493.symm))))).other W956 (Or.inl (Nat.ne_of_lt (Nat.lt_of_lt_of_le A486.lt (Nat.le_of_eq gb493.symm))))).other W964 (Or.inl (Nat.ne_of_lt (Nat.lt_of_lt_of_le A486.lt (Nat.le_of_eq gb493.symm))))).other W972 (Or.inl (Nat.ne_of_lt (Nat.lt_of_lt_of_le A486.lt (Nat.le_of_eq gb493.symm))))).other W980 (Or.inl (Nat.ne_of_lt (Nat.lt_of_lt_of_le A486.lt (Nat.le_of_eq gb493.symm))))).other W988 (Or.inl (Nat.ne_of_lt (Nat.lt_of_lt_of_le A486.lt (Nat.le_of_eq gb493.symm))))).other W996 (Or.inl (Nat.ne_of_lt (Nat.lt_of_lt_of_le A486.lt (Nat.le_of_eq gb493.symm))))).other W1004 (Or.inl (Nat.ne_of_lt (Nat.lt_of_lt_of_le A486.lt (Nat.le_of_eq gb493.symm)))))
    have y1016 : Exa Z h1004 b486 "java/lang/String" := (((((((((((((((((((((((((((((((((((((((((((((((((((((((((((((((((A486.ext E493).wr W500).wr W508).wr W516).wr W524).wr W532).wr W540).wr W548).wr W556).wr W564).wr W572).wr W580).wr W588).wr W596).wr W604).wr W612).wr W620).wr W628).wr W636).wr W644).wr W652).wr W660).wr W668).wr W676).wr W684).wr W692).wr W700).wr W708).wr W716).wr W724).wr W732).wr W740).wr W748).wr W756).wr W764).wr W772).wr W780).wr W788).wr W796).wr W804).wr W812).wr W820).wr W828).wr W836).wr W844).wr W852).wr W860).wr W868).wr W876).wr W884).wr W892).wr W900).wr W908).wr W916).wr W924).wr W932).wr W940).wr W948).wr W956).wr W964).wr W972).wr W980).wr W988).wr W996).wr W1004)
    have ge1017 : n0 ≤ b486 := Nat.le_trans (own_old_le O0) (Nat.le_of_eq gb486.symm)
    obtain ⟨_, _, ⟨T1011, L1011, k1011, n1011⟩, -, X1011, ⟨Lc1011, hQ1011, l1011, y1011, z1011⟩, st1011⟩ := X1004.specialBack hx (y := (⟨"java/lang/String", "<init>", "([C)V"⟩ : MethodName)) rfl hown (mvT hZ (hw _ (List.mem_of_getElem? (i := 5) rfl))) (mvT hZ (hw _ (List.mem_of_getElem? (i := 6) rfl))) (mvT hZ (hw _ (List.mem_of_getElem? (i := 7) rfl))) (by decide) (backOf (W := 1) (rm_sIniG l Z a0 hw [] b486 b493 k493 ls1012 i_COMPACT_STRINGS h1004 n0 O1007 y1014 y1015 y1016 ge1017 y1013 (by rw [lls1012]; decide) (by rw [lls1012]; decide) (by rw [hls1012]; exact (own_ccons ⟨z_ca, b_ca⟩ (own_ccons ⟨z_cb, b_cb⟩ (own_ccons ⟨by decide, by decide⟩ (own_ccons ⟨by decide, by decide⟩ (own_ccons ⟨by decide, by decide⟩ (own_ccons ⟨by decide, by decide⟩ (own_ccons ⟨by decide, by decide⟩ (own_ccons ⟨by decide, by decide⟩ (own_ccons ⟨by decide, by decide⟩ (own_ccons ⟨by decide, by decide⟩ (own_ccons ⟨by decide, by decide⟩ (own_ccons ⟨by decide, by decide⟩ (own_ccons ⟨by decide, by decide⟩ (own_ccons ⟨by decide, by decide⟩ (own_ccons ⟨by decide, by decide⟩ (own_ccons ⟨by decide, by decide⟩ (own_ccons ⟨by decide, by decide⟩ (own_ccons ⟨by decide, by decide⟩ (own_ccons ⟨by decide, by decide⟩ (own_ccons ⟨by decide, by decide⟩ (own_ccons ⟨by decide, by decide⟩ (own_ccons ⟨by decide, by decide⟩ (own_ccons ⟨by decide, by decide⟩ (own_ccons ⟨by decide, by decide⟩ (own_ccons ⟨by decide, by decide⟩ (own_ccons ⟨by decide, by decide⟩ (own_ccons ⟨by decide, by decide⟩ (own_ccons ⟨by decide, by decide⟩ (own_ccons ⟨by decide, by decide⟩ (own_ccons ⟨by decide, by decide⟩ (own_ccons ⟨by decide, by decide⟩ (own_ccons ⟨by decide, by decide⟩ (own_ccons ⟨z_cc, b_cc⟩ (own_ccons ⟨by decide, by decide⟩ (own_ccons ⟨by decide, by decide⟩ (own_ccons ⟨by decide, by decide⟩ (own_ccons ⟨by decide, by decide⟩ (own_ccons ⟨by decide, by decide⟩ (own_ccons ⟨by decide, by decide⟩ (own_ccons ⟨by decide, by decide⟩ (own_ccons ⟨by decide, by decide⟩ (own_ccons ⟨by decide, by decide⟩ (own_ccons ⟨by decide, by decide⟩ (own_ccons ⟨by decide, by decide⟩ (own_ccons ⟨by decide, by decide⟩ (own_ccons ⟨by decide, by decide⟩ (own_ccons ⟨by decide, by decide⟩ (own_ccons ⟨by decide, by decide⟩ (own_ccons ⟨by decide, by decide⟩ (own_ccons ⟨by decide, by decide⟩ (own_ccons ⟨by decide, by decide⟩ (own_ccons ⟨by decide, by decide⟩ (own_ccons ⟨by decide, by decide⟩ (own_ccons ⟨by decide, by decide⟩ (own_ccons ⟨by decide, by decide⟩ (own_ccons ⟨by decide, by decide⟩ (own_ccons ⟨by decide, by decide⟩ (own_ccons ⟨by decide, by decide⟩ (own_ccons ⟨by decide, by decide⟩ (own_ccons ⟨by decide, by decide⟩ (own_ccons ⟨by decide, by decide⟩ (own_ccons ⟨by decide, by decide⟩ (own_ccons ⟨by decide, by decide⟩ (own_ccons ⟨z_cd_, b_cd_⟩ own_cnil))))))))))))))))))))))))))))))))))))))))))))))))))))))))))))))))) S0_ hcs S4_ S5_ S6_) hZ (hw _ (List.mem_of_getElem? (i := 7) rfl)) (hw _ (List.mem_of_getElem? (i := 3) rfl)) (by decide) (by decide)) (g := (mkF m 695 #[iv p0, iv p1, iv p2, iv p3, iv p4, iv ca, iv cb, iv cc, iv cd_, iv (95 : Int32), iv sel, .unset, .unset] [(.ref b493), (.ref b486), (.ref b486)])) rfl (by rw [hml]; rfl) (Steps.refl _) (a := b486) (argsL := [(.ref b493)]) (rest := [(.ref b486)]) (lenOf pd_17 rfl) rfl (by show 2 * 0 + _ ≤ _; exact Nat.le_of_eq rfl) (hb hby at_695) (fun _ _ => ⟨rfl, e1004, (by decide : 2 + 2 ≤ _), (by decide : 68 + 195 ≤ _)⟩)
    dsimp only [Pt.U, Pt.locs, Pt.cells, Pt.slots] at X1011 l1011 y1011 z1011 st1011 hQ1011
    subst y1011 z1011
    obtain ⟨r1018, r1019, r1020, r1021, r1022, rfl, M1011, K1011, y1023, y1024, y1025, y1026, y1027, y1028⟩ := hQ1011
    have N1011 : Fr n0 L1011 := by rw [l1011]; exact Fr.app N1004 M1011
    have sf1030 : Safe Z consts_1 s.vm h1004 b486 := (Safe.wr W1004 sf1006 R997.1 (Safe.wr W996 sf998 R989.1 (Safe.wr W988 sf990 R981.1 (Safe.wr W980 sf982 R973.1 (Safe.wr W972 sf974 R965.1 (Safe.wr W964 sf966 R957.1 (Safe.wr W956 sf958 R949.1 (Safe.wr W948 sf950 R941.1 (Safe.wr W940 sf942 R933.1 (Safe.wr W932 sf934 R925.1 (Safe.wr W924 sf926 R917.1 (Safe.wr W916 sf918 R909.1 (Safe.wr W908 sf910 R901.1 (Safe.wr W900 sf902 R893.1 (Safe.wr W892 sf894 R885.1 (Safe.wr W884 sf886 R877.1 (Safe.wr W876 sf878 R869.1 (Safe.wr W868 sf870 R861.1 (Safe.wr W860 sf862 R853.1 (Safe.wr W852 sf854 R845.1 (Safe.wr W844 sf846 R837.1 (Safe.wr W836 sf838 R829.1 (Safe.wr W828 sf830 R821.1 (Safe.wr W820 sf822 R813.1 (Safe.wr W812 sf814 R805.1 (Safe.wr W804 sf806 R797.1 (Safe.wr W796 sf798 R789.1 (Safe.wr W788 sf790 R781.1 (Safe.wr W780 sf782 R773.1 (Safe.wr W772 sf774 R765.1 (Safe.wr W764 sf766 R757.1 (Safe.wr W756 sf758 R749.1 (Safe.wr W748 sf750 R741.1 (Safe.wr W740 sf742 R733.1 (Safe.wr W732 sf734 R725.1 (Safe.wr W724 sf726 R717.1 (Safe.wr W716 sf718 R709.1 (Safe.wr W708 sf710 R701.1 (Safe.wr W700 sf702 R693.1 (Safe.wr W692 sf694 R685.1 (Safe.wr W684 sf686 R677.1 (Safe.wr W676 sf678 R669.1 (Safe.wr W668 sf670 R661.1 (Safe.wr W660 sf662 R653.1 (Safe.wr W652 sf654 R645.1 (Safe.wr W644 sf646 R637.1 (Safe.wr W636 sf638 R629.1 (Safe.wr W628 sf630 R621.1 (Safe.wr W620 sf622 R613.1 (Safe.wr W612 sf614 R605.1 (Safe.wr W604 sf606 R597.1 (Safe.wr W596 sf598 R589.1 (Safe.wr W588 sf590 R581.1 (Safe.wr W580 sf582 R573.1 (Safe.wr W572 sf574 R565.1 (Safe.wr W564 sf566 R557.1 (Safe.wr W556 sf558 R549.1 (Safe.wr W548 sf550 R541.1 (Safe.wr W540 sf542 R533.1 (Safe.wr W532 sf534 R525.1 (Safe.wr W524 sf526 R517.1 (Safe.wr W516 sf518 R509.1 (Safe.wr W508 sf510 R502.1 (Safe.wr W500 (Safe.ext E493 R487.1 (Safe.new (Nat.le_of_eq gb493.symm))) R494.1 (Safe.ext E493 R487.1 (Safe.ext E486 R0.1 (Safe.new (Nat.le_of_eq gb486.symm))))))))))))))))))))))))))))))))))))))))))))))))))))))))))))))))))))
    have R1029 : CHr Z consts_1 s.vm h0 s.vm T1011.heap := R1005.trans (CHr.keep K1011 (sfS sf1030 sf0) R1005.1)
    have O1031 := O1007.keep K1011 (allS ge1017 all0)
    have g1032 : Go p e below T1011 (mkF m 698 #[iv p0, iv p1, iv p2, iv p3, iv p4, iv ca, iv cb, iv cc, iv cd_, iv (95 : Int32), iv sel, .unset, .unset] [(.ref b486)]) A0 := fun t kont => g1010 t (st1011.trans kont)
    have g1033 : Go p e below T1011 (mkF m 700 #[iv p0, iv p1, iv p2, iv p3, iv p4, iv ca, iv cb, iv cc, iv cd_, iv (95 : Int32), iv sel, rv b486, .unset] []) A0 := by
      intro t kont
      refine g1032 t ?_
      refine XS.astore X1011.here hx rfl (hb hby at_698) rfl rfl (l' := #[iv p0, iv p1, iv p2, iv p3, iv p4, iv ca, iv cb, iv cc, iv cd_, iv (95 : Int32), iv sel, rv b486, .unset]) rfl ?_
      exact kont
    obtain ⟨ex, T1034, lc1034, X1034, e1034, N1034, g1034, j1068, j1069⟩ : ∃ ex : Int32, ∃ (T1034 : State) (lc1034 : List Loc), Stand p l e room_1 (s.setVm s.vm) m #[(.int p0), (.int p1), (.int p2), (.int p3), (.int p4)] below meth c T1034 lc1034 4 263 ∧ T1034.heap = T1011.heap ∧ Fr n0 lc1034 ∧ Go p e below T1034 (mkF m 737 #[iv p0, iv p1, iv p2, iv p3, iv p4, iv ca, iv cb, iv cc, iv cd_, iv (95 : Int32), iv sel, rv b486, .unset] [(.int ex)]) A0 ∧ (ex = (0 : Int32) ∨ ex = (1 : Int32)) ∧ (ex = (1 : Int32) ↔ (own_lw ca ∧ own_tl cb ∧ own_tl cc ∧ own_tl cd_)) := by
      have g1035 : Go p e below T1011 (mkF m 702 #[iv p0, iv p1, iv p2, iv p3, iv p4, iv ca, iv cb, iv cc, iv cd_, iv (95 : Int32), iv sel, rv b486, .unset] [(.int ca)]) A0 := by
        intro t kont
        refine g1033 t ?_
        refine XS.iload X1011.here hx rfl (hb hby at_700) rfl ?_
        exact kont
      obtain ⟨_, _, ⟨T1036, L1036, k1036, n1036⟩, -, X1036, ⟨Lc1036, hQ1036, l1036, y1036, z1036⟩, st1036⟩ := Jvm.LawKit.callS X1011 hx (y := (⟨"com/example/clear_fault/clearfault/FaultIsValidCodePinLaw", "lower", "(C)Z"⟩ : MethodName)) hown (mvT hZ (hw _ (List.mem_of_getElem? (i := 53) rfl))) (mvT hZ (hw _ (List.mem_of_getElem? (i := 54) rfl))) (mvT hZ (hw _ (List.mem_of_getElem? (i := 55) rfl))) (mvT hZ (hw _ (List.mem_of_getElem? (i := 56) rfl))) (by decide) (backOf (W := 0) (rm_low l Z a0 hw [] ca T1011.heap n0 O1031 ) hZ (hw _ (List.mem_of_getElem? (i := 56) rfl)) (hw _ (List.mem_of_getElem? (i := 55) rfl)) (by decide) (by decide)) (g := (mkF m 702 #[iv p0, iv p1, iv p2, iv p3, iv p4, iv ca, iv cb, iv cc, iv cd_, iv (95 : Int32), iv sel, rv b486, .unset] [(.int ca)])) rfl (by rw [hml]; rfl) (argsL := [(.int ca)]) (rest := []) (lenOf pd_0 rfl) rfl (by show 2 * 0 + _ ≤ _; exact Nat.le_of_eq rfl) (hb hby at_702) (fun _ _ => ⟨rfl, rfl, (by decide : 4 + 0 ≤ _), (by decide : 263 + 0 ≤ _)⟩)
      dsimp only [Pt.U, Pt.locs, Pt.cells, Pt.slots] at X1036 l1036 y1036 z1036 st1036 hQ1036
      subst y1036 z1036
      obtain ⟨r1037, rfl, M1036, e1036, y1038, y1039⟩ := hQ1036
      have N1036 : Fr n0 L1036 := by rw [l1036]; exact Fr.app N1011 M1036
      have g1040 : Go p e below T1036 (mkF m 705 #[iv p0, iv p1, iv p2, iv p3, iv p4, iv ca, iv cb, iv cc, iv cd_, iv (95 : Int32), iv sel, rv b486, .unset] [(.int r1037)]) A0 := fun t kont => g1035 t (st1036 t kont)
      by_cases c1041 : r1037 = (0 : Int32)
      ·
        have g1042 : Go p e below T1036 (mkF m 737 #[iv p0, iv p1, iv p2, iv p3, iv p4, iv ca, iv cb, iv cc, iv cd_, iv (95 : Int32), iv sel, rv b486, .unset] [(.int (0 : Int32))]) A0 := by
          intro t kont
          refine g1040 t ?_
          refine XS.ifYes X1036.here hx rfl (pc0 := 705) (pc' := 736) rfl (hb hby at_705) rfl ((if0 _ _).trans (teq c1041).1) (by decide) (by decide) ?_
          refine XS.iconst X1036.here hx rfl (hb hby at_736) ?_
          exact kont
        exact ⟨(0 : Int32), _, _, X1036, e1036, N1036, g1042, (Or.inl rfl), (iff_of_false (by decide) (fun q => own_b0 y1039 c1041 q.1))⟩
      have g1043 : Go p e below T1036 (mkF m 710 #[iv p0, iv p1, iv p2, iv p3, iv p4, iv ca, iv cb, iv cc, iv cd_, iv (95 : Int32), iv sel, rv b486, .unset] [(.int cb)]) A0 := by
        intro t kont
        refine g1040 t ?_
        refine XS.ifNo X1036.here hx rfl (hb hby at_705) rfl ((if0 _ _).trans (feq c1041).1) ?_
        refine XS.iload X1036.here hx rfl (hb hby at_708) rfl ?_
        exact kont
      obtain ⟨_, _, ⟨T1044, L1044, k1044, n1044⟩, -, X1044, ⟨Lc1044, hQ1044, l1044, y1044, z1044⟩, st1044⟩ := Jvm.LawKit.callS X1036 hx (y := (⟨"com/example/clear_fault/clearfault/FaultIsValidCodePinLaw", "tail", "(C)Z"⟩ : MethodName)) hown (mvT hZ (hw _ (List.mem_of_getElem? (i := 108) rfl))) (mvT hZ (hw _ (List.mem_of_getElem? (i := 109) rfl))) (mvT hZ (hw _ (List.mem_of_getElem? (i := 55) rfl))) (mvT hZ (hw _ (List.mem_of_getElem? (i := 110) rfl))) (by decide) (backOf (W := 0) (rm_tail l Z a0 hw [] cb T1011.heap n0 O1031 ) hZ (hw _ (List.mem_of_getElem? (i := 110) rfl)) (hw _ (List.mem_of_getElem? (i := 55) rfl)) (by decide) (by decide)) (g := (mkF m 710 #[iv p0, iv p1, iv p2, iv p3, iv p4, iv ca, iv cb, iv cc, iv cd_, iv (95 : Int32), iv sel, rv b486, .unset] [(.int cb)])) rfl (by rw [hml]; rfl) (argsL := [(.int cb)]) (rest := []) (lenOf pd_0 rfl) rfl (by show 2 * 0 + _ ≤ _; exact Nat.le_of_eq rfl) (hb hby at_710) (fun _ _ => ⟨rfl, e1036, (by decide : 4 + 0 ≤ _), (by decide : 263 + 0 ≤ _)⟩)
      dsimp only [Pt.U, Pt.locs, Pt.cells, Pt.slots] at X1044 l1044 y1044 z1044 st1044 hQ1044
      subst y1044 z1044
      obtain ⟨r1045, rfl, M1044, e1044, y1046, y1047⟩ := hQ1044
      have N1044 : Fr n0 L1044 := by rw [l1044]; exact Fr.app N1036 M1044
      have g1048 : Go p e below T1044 (mkF m 713 #[iv p0, iv p1, iv p2, iv p3, iv p4, iv ca, iv cb, iv cc, iv cd_, iv (95 : Int32), iv sel, rv b486, .unset] [(.int r1045)]) A0 := fun t kont => g1043 t (st1044 t kont)
      by_cases c1049 : r1045 = (0 : Int32)
      ·
        have g1050 : Go p e below T1044 (mkF m 737 #[iv p0, iv p1, iv p2, iv p3, iv p4, iv ca, iv cb, iv cc, iv cd_, iv (95 : Int32), iv sel, rv b486, .unset] [(.int (0 : Int32))]) A0 := by
          intro t kont
          refine g1048 t ?_
          refine XS.ifYes X1044.here hx rfl (pc0 := 713) (pc' := 736) rfl (hb hby at_713) rfl ((if0 _ _).trans (teq c1049).1) (by decide) (by decide) ?_
          refine XS.iconst X1044.here hx rfl (hb hby at_736) ?_
          exact kont
        exact ⟨(0 : Int32), _, _, X1044, e1044, N1044, g1050, (Or.inl rfl), (iff_of_false (by decide) (fun q => own_b0 y1047 c1049 q.2.1))⟩
      have g1051 : Go p e below T1044 (mkF m 718 #[iv p0, iv p1, iv p2, iv p3, iv p4, iv ca, iv cb, iv cc, iv cd_, iv (95 : Int32), iv sel, rv b486, .unset] [(.int cc)]) A0 := by
        intro t kont
        refine g1048 t ?_
        refine XS.ifNo X1044.here hx rfl (hb hby at_713) rfl ((if0 _ _).trans (feq c1049).1) ?_
        refine XS.iload X1044.here hx rfl (hb hby at_716) rfl ?_
        exact kont
      obtain ⟨_, _, ⟨T1052, L1052, k1052, n1052⟩, -, X1052, ⟨Lc1052, hQ1052, l1052, y1052, z1052⟩, st1052⟩ := Jvm.LawKit.callS X1044 hx (y := (⟨"com/example/clear_fault/clearfault/FaultIsValidCodePinLaw", "tail", "(C)Z"⟩ : MethodName)) hown (mvT hZ (hw _ (List.mem_of_getElem? (i := 108) rfl))) (mvT hZ (hw _ (List.mem_of_getElem? (i := 109) rfl))) (mvT hZ (hw _ (List.mem_of_getElem? (i := 55) rfl))) (mvT hZ (hw _ (List.mem_of_getElem? (i := 110) rfl))) (by decide) (backOf (W := 0) (rm_tail l Z a0 hw [] cc T1011.heap n0 O1031 ) hZ (hw _ (List.mem_of_getElem? (i := 110) rfl)) (hw _ (List.mem_of_getElem? (i := 55) rfl)) (by decide) (by decide)) (g := (mkF m 718 #[iv p0, iv p1, iv p2, iv p3, iv p4, iv ca, iv cb, iv cc, iv cd_, iv (95 : Int32), iv sel, rv b486, .unset] [(.int cc)])) rfl (by rw [hml]; rfl) (argsL := [(.int cc)]) (rest := []) (lenOf pd_0 rfl) rfl (by show 2 * 0 + _ ≤ _; exact Nat.le_of_eq rfl) (hb hby at_718) (fun _ _ => ⟨rfl, e1044, (by decide : 4 + 0 ≤ _), (by decide : 263 + 0 ≤ _)⟩)
      dsimp only [Pt.U, Pt.locs, Pt.cells, Pt.slots] at X1052 l1052 y1052 z1052 st1052 hQ1052
      subst y1052 z1052
      obtain ⟨r1053, rfl, M1052, e1052, y1054, y1055⟩ := hQ1052
      have N1052 : Fr n0 L1052 := by rw [l1052]; exact Fr.app N1044 M1052
      have g1056 : Go p e below T1052 (mkF m 721 #[iv p0, iv p1, iv p2, iv p3, iv p4, iv ca, iv cb, iv cc, iv cd_, iv (95 : Int32), iv sel, rv b486, .unset] [(.int r1053)]) A0 := fun t kont => g1051 t (st1052 t kont)
      by_cases c1057 : r1053 = (0 : Int32)
      ·
        have g1058 : Go p e below T1052 (mkF m 737 #[iv p0, iv p1, iv p2, iv p3, iv p4, iv ca, iv cb, iv cc, iv cd_, iv (95 : Int32), iv sel, rv b486, .unset] [(.int (0 : Int32))]) A0 := by
          intro t kont
          refine g1056 t ?_
          refine XS.ifYes X1052.here hx rfl (pc0 := 721) (pc' := 736) rfl (hb hby at_721) rfl ((if0 _ _).trans (teq c1057).1) (by decide) (by decide) ?_
          refine XS.iconst X1052.here hx rfl (hb hby at_736) ?_
          exact kont
        exact ⟨(0 : Int32), _, _, X1052, e1052, N1052, g1058, (Or.inl rfl), (iff_of_false (by decide) (fun q => own_b0 y1055 c1057 q.2.2.1))⟩
      have g1059 : Go p e below T1052 (mkF m 726 #[iv p0, iv p1, iv p2, iv p3, iv p4, iv ca, iv cb, iv cc, iv cd_, iv (95 : Int32), iv sel, rv b486, .unset] [(.int cd_)]) A0 := by
        intro t kont
        refine g1056 t ?_
        refine XS.ifNo X1052.here hx rfl (hb hby at_721) rfl ((if0 _ _).trans (feq c1057).1) ?_
        refine XS.iload X1052.here hx rfl (hb hby at_724) rfl ?_
        exact kont
      obtain ⟨_, _, ⟨T1060, L1060, k1060, n1060⟩, -, X1060, ⟨Lc1060, hQ1060, l1060, y1060, z1060⟩, st1060⟩ := Jvm.LawKit.callS X1052 hx (y := (⟨"com/example/clear_fault/clearfault/FaultIsValidCodePinLaw", "tail", "(C)Z"⟩ : MethodName)) hown (mvT hZ (hw _ (List.mem_of_getElem? (i := 108) rfl))) (mvT hZ (hw _ (List.mem_of_getElem? (i := 109) rfl))) (mvT hZ (hw _ (List.mem_of_getElem? (i := 55) rfl))) (mvT hZ (hw _ (List.mem_of_getElem? (i := 110) rfl))) (by decide) (backOf (W := 0) (rm_tail l Z a0 hw [] cd_ T1011.heap n0 O1031 ) hZ (hw _ (List.mem_of_getElem? (i := 110) rfl)) (hw _ (List.mem_of_getElem? (i := 55) rfl)) (by decide) (by decide)) (g := (mkF m 726 #[iv p0, iv p1, iv p2, iv p3, iv p4, iv ca, iv cb, iv cc, iv cd_, iv (95 : Int32), iv sel, rv b486, .unset] [(.int cd_)])) rfl (by rw [hml]; rfl) (argsL := [(.int cd_)]) (rest := []) (lenOf pd_0 rfl) rfl (by show 2 * 0 + _ ≤ _; exact Nat.le_of_eq rfl) (hb hby at_726) (fun _ _ => ⟨rfl, e1052, (by decide : 4 + 0 ≤ _), (by decide : 263 + 0 ≤ _)⟩)
      dsimp only [Pt.U, Pt.locs, Pt.cells, Pt.slots] at X1060 l1060 y1060 z1060 st1060 hQ1060
      subst y1060 z1060
      obtain ⟨r1061, rfl, M1060, e1060, y1062, y1063⟩ := hQ1060
      have N1060 : Fr n0 L1060 := by rw [l1060]; exact Fr.app N1052 M1060
      have g1064 : Go p e below T1060 (mkF m 729 #[iv p0, iv p1, iv p2, iv p3, iv p4, iv ca, iv cb, iv cc, iv cd_, iv (95 : Int32), iv sel, rv b486, .unset] [(.int r1061)]) A0 := fun t kont => g1059 t (st1060 t kont)
      by_cases c1065 : r1061 = (0 : Int32)
      ·
        have g1066 : Go p e below T1060 (mkF m 737 #[iv p0, iv p1, iv p2, iv p3, iv p4, iv ca, iv cb, iv cc, iv cd_, iv (95 : Int32), iv sel, rv b486, .unset] [(.int (0 : Int32))]) A0 := by
          intro t kont
          refine g1064 t ?_
          refine XS.ifYes X1060.here hx rfl (pc0 := 729) (pc' := 736) rfl (hb hby at_729) rfl ((if0 _ _).trans (teq c1065).1) (by decide) (by decide) ?_
          refine XS.iconst X1060.here hx rfl (hb hby at_736) ?_
          exact kont
        exact ⟨(0 : Int32), _, _, X1060, e1060, N1060, g1066, (Or.inl rfl), (iff_of_false (by decide) (fun q => own_b0 y1063 c1065 q.2.2.2))⟩
      have g1067 : Go p e below T1060 (mkF m 737 #[iv p0, iv p1, iv p2, iv p3, iv p4, iv ca, iv cb, iv cc, iv cd_, iv (95 : Int32), iv sel, rv b486, .unset] [(.int (1 : Int32))]) A0 := by
        intro t kont
        refine g1064 t ?_
        refine XS.ifNo X1060.here hx rfl (hb hby at_729) rfl ((if0 _ _).trans (feq c1065).1) ?_
        refine XS.iconst X1060.here hx rfl (hb hby at_732) ?_
        refine XS.goto X1060.here hx rfl (pc0 := 733) (pc' := 737) rfl (hb hby at_733) (by decide) (by decide) ?_
        exact kont
      exact ⟨(1 : Int32), _, _, X1060, e1060, N1060, g1067, (Or.inr rfl), (iff_of_true rfl ⟨own_b1 y1038 y1039 c1041, own_b1 y1046 y1047 c1049, own_b1 y1054 y1055 c1057, own_b1 y1062 y1063 c1065⟩)⟩
    have g1070 : Go p e below T1034 (mkF m 1144 #[iv p0, iv p1, iv p2, iv p3, iv p4, iv ca, iv cb, iv cc, iv cd_, iv (95 : Int32), iv sel, rv b486, iv ex] [(.ref b486)]) A0 := by
      intro t kont
      refine g1034 t ?_
      refine XS.istore X1034.here hx rfl (hb hby at_737) rfl (l' := #[iv p0, iv p1, iv p2, iv p3, iv p4, iv ca, iv cb, iv cc, iv cd_, iv (95 : Int32), iv sel, rv b486, iv ex]) rfl ?_
      refine XS.goto X1034.here hx rfl (pc0 := 739) (pc' := 1142) rfl (hb hby at_739) (by decide) (by decide) ?_
      refine XS.aload X1034.here hx rfl (hb hby at_1142) rfl rfl ?_
      exact kont
    obtain ⟨_, _, ⟨T1071, L1071, k1071, n1071⟩, -, X1071, ⟨Lc1071, hQ1071, l1071, y1071, z1071⟩, st1071⟩ := Jvm.LawKit.callS X1034 hx (y := (⟨"com/example/clear_fault/clearfault/Fault", "isValidCode", "(Ljava/lang/String;)Z"⟩ : MethodName)) hown (mvT hZ (hw _ (List.mem_of_getElem? (i := 23) rfl))) (mvT hZ (hw _ (List.mem_of_getElem? (i := 24) rfl))) (mvT hZ (hw _ (List.mem_of_getElem? (i := 25) rfl))) (mvT hZ (hw _ (List.mem_of_getElem? (i := 26) rfl))) (by decide) (backOf (W := 0) (rm_isV l Z a0 hw [] b486 r1018 r1019 i_COMPACT_STRINGS v_SIOOBE_FORMATTER r1020 r1021 r1022 ls1012 T1011.heap n0 O1031 S0_ hcs y1023 y1025 y1024 y1027 y1028 (by rw [lls1012]; decide) (by rw [lls1012]; decide) (by rw [hls1012]; exact (own_ccons ⟨z_ca, b_ca⟩ (own_ccons ⟨z_cb, b_cb⟩ (own_ccons ⟨by decide, by decide⟩ (own_ccons ⟨by decide, by decide⟩ (own_ccons ⟨by decide, by decide⟩ (own_ccons ⟨by decide, by decide⟩ (own_ccons ⟨by decide, by decide⟩ (own_ccons ⟨by decide, by decide⟩ (own_ccons ⟨by decide, by decide⟩ (own_ccons ⟨by decide, by decide⟩ (own_ccons ⟨by decide, by decide⟩ (own_ccons ⟨by decide, by decide⟩ (own_ccons ⟨by decide, by decide⟩ (own_ccons ⟨by decide, by decide⟩ (own_ccons ⟨by decide, by decide⟩ (own_ccons ⟨by decide, by decide⟩ (own_ccons ⟨by decide, by decide⟩ (own_ccons ⟨by decide, by decide⟩ (own_ccons ⟨by decide, by decide⟩ (own_ccons ⟨by decide, by decide⟩ (own_ccons ⟨by decide, by decide⟩ (own_ccons ⟨by decide, by decide⟩ (own_ccons ⟨by decide, by decide⟩ (own_ccons ⟨by decide, by decide⟩ (own_ccons ⟨by decide, by decide⟩ (own_ccons ⟨by decide, by decide⟩ (own_ccons ⟨by decide, by decide⟩ (own_ccons ⟨by decide, by decide⟩ (own_ccons ⟨by decide, by decide⟩ (own_ccons ⟨by decide, by decide⟩ (own_ccons ⟨by decide, by decide⟩ (own_ccons ⟨by decide, by decide⟩ (own_ccons ⟨z_cc, b_cc⟩ (own_ccons ⟨by decide, by decide⟩ (own_ccons ⟨by decide, by decide⟩ (own_ccons ⟨by decide, by decide⟩ (own_ccons ⟨by decide, by decide⟩ (own_ccons ⟨by decide, by decide⟩ (own_ccons ⟨by decide, by decide⟩ (own_ccons ⟨by decide, by decide⟩ (own_ccons ⟨by decide, by decide⟩ (own_ccons ⟨by decide, by decide⟩ (own_ccons ⟨by decide, by decide⟩ (own_ccons ⟨by decide, by decide⟩ (own_ccons ⟨by decide, by decide⟩ (own_ccons ⟨by decide, by decide⟩ (own_ccons ⟨by decide, by decide⟩ (own_ccons ⟨by decide, by decide⟩ (own_ccons ⟨by decide, by decide⟩ (own_ccons ⟨by decide, by decide⟩ (own_ccons ⟨by decide, by decide⟩ (own_ccons ⟨by decide, by decide⟩ (own_ccons ⟨by decide, by decide⟩ (own_ccons ⟨by decide, by decide⟩ (own_ccons ⟨by decide, by decide⟩ (own_ccons ⟨by decide, by decide⟩ (own_ccons ⟨by decide, by decide⟩ (own_ccons ⟨by decide, by decide⟩ (own_ccons ⟨by decide, by decide⟩ (own_ccons ⟨by decide, by decide⟩ (own_ccons ⟨by decide, by decide⟩ (own_ccons ⟨by decide, by decide⟩ (own_ccons ⟨by decide, by decide⟩ (own_ccons ⟨z_cd_, b_cd_⟩ own_cnil))))))))))))))))))))))))))))))))))))))))))))))))))))))))))))))))) S2_ hfm S4_ S5_ S6_) hZ (hw _ (List.mem_of_getElem? (i := 26) rfl)) (hw _ (List.mem_of_getElem? (i := 25) rfl)) (by decide) (by decide)) (g := (mkF m 1144 #[iv p0, iv p1, iv p2, iv p3, iv p4, iv ca, iv cb, iv cc, iv cd_, iv (95 : Int32), iv sel, rv b486, iv ex] [(.ref b486)])) rfl (by rw [hml]; rfl) (argsL := [(.ref b486)]) (rest := []) (lenOf pd_18 rfl) rfl (by show 2 * 0 + _ ≤ _; exact Nat.le_of_eq rfl) (hb hby at_1144) (fun _ _ => ⟨rfl, e1034, (by decide : 4 + 0 ≤ _), (by decide : 263 + 0 ≤ _)⟩)
    dsimp only [Pt.U, Pt.locs, Pt.cells, Pt.slots] at X1071 l1071 y1071 z1071 st1071 hQ1071
    subst y1071 z1071
    obtain ⟨r1072, rfl, M1071, e1071, y1073, y1074⟩ := hQ1071
    have N1071 : Fr n0 L1071 := by rw [l1071]; exact Fr.app N1034 M1071
    have g1075 : Go p e below T1071 (mkF m 1147 #[iv p0, iv p1, iv p2, iv p3, iv p4, iv ca, iv cb, iv cc, iv cd_, iv (95 : Int32), iv sel, rv b486, iv ex] [(.int r1072)]) A0 := fun t kont => g1070 t (st1071 t kont)
    have g1076 : Go p e below T1071 (mkF m 1157 #[iv p0, iv p1, iv p2, iv p3, iv p4, iv ca, iv cb, iv cc, iv cd_, iv (95 : Int32), iv sel, rv b486, iv ex] [(.int (1 : Int32))]) A0 := by
      intro t kont
      refine g1075 t ?_
      refine XS.iload X1071.here hx rfl (hb hby at_1147) rfl ?_
      refine XS.icmpNo X1071.here hx rfl (hb hby at_1149) rfl (teq (own_eqb y1073 (y1074.trans ((by rw [hls1012, own_valid_cons]; simp [own_allt, own_tl95]) : own_valid ls1012 ↔ (own_lw ca ∧ own_tl cb ∧ own_tl cc ∧ own_tl cd_))) j1068 j1069 : r1072 = ex)).2 ?_
      refine XS.iconst X1071.here hx rfl (hb hby at_1152) ?_
      refine XS.goto X1071.here hx rfl (pc0 := 1153) (pc' := 1157) rfl (hb hby at_1153) (by decide) (by decide) ?_
      exact kont
    obtain ⟨fs, hr, hrun, hended, hRW⟩ := X1071.leaveW hS (by rw [e1071]; exact (Nat.le_trans hk (Nat.le_trans (Nat.le_trans (Nat.le_trans (Nat.le_trans (Nat.le_trans (Nat.le_trans (Nat.le_trans (Nat.le_trans (Nat.le_trans (Nat.le_trans (Nat.le_trans (Nat.le_trans (Nat.le_trans (Nat.le_trans (Nat.le_trans (Nat.le_trans (Nat.le_trans (Nat.le_trans (Nat.le_trans (Nat.le_trans (Nat.le_trans (Nat.le_trans (Nat.le_trans (Nat.le_trans (Nat.le_trans (Nat.le_trans (Nat.le_trans (Nat.le_trans (Nat.le_trans (Nat.le_trans (Nat.le_trans (Nat.le_trans (Nat.le_trans (Nat.le_trans (Nat.le_trans (Nat.le_trans (Nat.le_trans (Nat.le_trans (Nat.le_trans (Nat.le_trans (Nat.le_trans (Nat.le_trans (Nat.le_trans (Nat.le_trans (Nat.le_trans (Nat.le_trans (Nat.le_trans (Nat.le_trans (Nat.le_trans (Nat.le_trans (Nat.le_trans (Nat.le_trans (Nat.le_trans (Nat.le_trans (Nat.le_trans (Nat.le_trans (Nat.le_trans (Nat.le_trans (Nat.le_trans (Nat.le_trans (Nat.le_trans (Nat.le_trans (Nat.le_trans (Nat.le_trans (Nat.le_trans (Nat.le_trans E486.1 E493.1) (Keep.of_wr W500).1) (Keep.of_wr W508).1) (Keep.of_wr W516).1) (Keep.of_wr W524).1) (Keep.of_wr W532).1) (Keep.of_wr W540).1) (Keep.of_wr W548).1) (Keep.of_wr W556).1) (Keep.of_wr W564).1) (Keep.of_wr W572).1) (Keep.of_wr W580).1) (Keep.of_wr W588).1) (Keep.of_wr W596).1) (Keep.of_wr W604).1) (Keep.of_wr W612).1) (Keep.of_wr W620).1) (Keep.of_wr W628).1) (Keep.of_wr W636).1) (Keep.of_wr W644).1) (Keep.of_wr W652).1) (Keep.of_wr W660).1) (Keep.of_wr W668).1) (Keep.of_wr W676).1) (Keep.of_wr W684).1) (Keep.of_wr W692).1) (Keep.of_wr W700).1) (Keep.of_wr W708).1) (Keep.of_wr W716).1) (Keep.of_wr W724).1) (Keep.of_wr W732).1) (Keep.of_wr W740).1) (Keep.of_wr W748).1) (Keep.of_wr W756).1) (Keep.of_wr W764).1) (Keep.of_wr W772).1) (Keep.of_wr W780).1) (Keep.of_wr W788).1) (Keep.of_wr W796).1) (Keep.of_wr W804).1) (Keep.of_wr W812).1) (Keep.of_wr W820).1) (Keep.of_wr W828).1) (Keep.of_wr W836).1) (Keep.of_wr W844).1) (Keep.of_wr W852).1) (Keep.of_wr W860).1) (Keep.of_wr W868).1) (Keep.of_wr W876).1) (Keep.of_wr W884).1) (Keep.of_wr W892).1) (Keep.of_wr W900).1) (Keep.of_wr W908).1) (Keep.of_wr W916).1) (Keep.of_wr W924).1) (Keep.of_wr W932).1) (Keep.of_wr W940).1) (Keep.of_wr W948).1) (Keep.of_wr W956).1) (Keep.of_wr W964).1) (Keep.of_wr W972).1) (Keep.of_wr W980).1) (Keep.of_wr W988).1) (Keep.of_wr W996).1) (Keep.of_wr W1004).1) K1011.1))) (v := some (.int (1 : Int32))) (fun h => by rw [Bd.returns] at h; cases h)
    refine ⟨_, _, g1076 _ (retN X1071 hx (t := .boolean) Bd.returns (by simp) (hb hby at_1157) hr), hrun, hended, _, _, rfl, ?_, ?_, hRW.1, hRW.2.1, hRW.2.2.1, hRW.2.2.2.mono (by decide) (by decide)⟩
    ·
      show Q_law Z p0 p1 p2 p3 p4 i_COMPACT_STRINGS v_SIOOBE_FORMATTER h0 n0 _ T1071.heap _
      rw [e1071]
      exact ⟨rfl, N1071⟩
    ·
      rw [hh]
      show CHr Z consts_1 s.vm h0 T1071.vm T1071.heap
      rw [e1071]
      exact R1029.trans (CHv.at X1071 hZ (own_EW hw) R1029.1)
  have g1077 : Go p e below s₁ (mkF m 742 #[iv p0, iv p1, iv p2, iv p3, iv p4, iv ca, iv cb, iv cc, iv cd_, iv (95 : Int32), iv sel, .unset, .unset] []) A0 := by
    intro t kont
    refine g480 t ?_
    refine XS.iload X0.here hx rfl (hb hby at_296) rfl ?_
    refine XS.iconst X0.here hx rfl (hb hby at_298) ?_
    refine XS.icmpNo X0.here hx rfl (hb hby at_299) rfl (feq (fun z => c479 (Or.inl z))).1 ?_
    refine XS.iload X0.here hx rfl (hb hby at_302) rfl ?_
    refine XS.bipush X0.here hx rfl (hb hby at_304) ?_
    refine XS.icmpYes X0.here hx rfl (pc0 := 306) (pc' := 742) rfl (hb hby at_306) rfl (feq (fun z => c479 (Or.inr z))).2 (by decide) (by decide) ?_
    exact kont
  obtain ⟨T1078, h1078, X1078, e1078, E1078, A1078, D1078, -, st1078⟩ := newO X0 hx hZ hown (hw _ (List.mem_of_getElem? (i := 1) rfl)) (hw _ (List.mem_of_getElem? (i := 2) rfl)) (hw _ (List.mem_of_getElem? (i := 3) rfl)) e0 (g := (mkF m 742 #[iv p0, iv p1, iv p2, iv p3, iv p4, iv ca, iv cb, iv cc, iv cd_, iv (95 : Int32), iv sel, .unset, .unset] [])) rfl (hb hby at_742) (by decide) (by decide)
  obtain ⟨b1078, gb1078⟩ : ∃ z, z = h0.size := ⟨_, rfl⟩
  rw [← gb1078] at A1078 D1078 st1078
  have R1079 : CHr Z consts_1 s.vm h0 s.vm h1078 := R0.trans (CHr.ext E1078 R0.1)
  have O1080 := O0.ext E1078
  have y1081 : Fld Z h1078 b1078 "java/lang/String" "value" "[B" .null := D1078 (Or.inr (hw _ (List.mem_of_getElem? (i := 17) rfl))) (ty := (.array .byte)) (by decide)
  have y1082 : Fld Z h1078 b1078 "java/lang/String" "coder" "B" (.int (0 : Int32)) := D1078 (Or.inr (hw _ (List.mem_of_getElem? (i := 18) rfl))) (ty := .byte) (by decide)
  have g1083 : Go p e below T1078 (mkF m 745 #[iv p0, iv p1, iv p2, iv p3, iv p4, iv ca, iv cb, iv cc, iv cd_, iv (95 : Int32), iv sel, .unset, .unset] [(.ref b1078)]) A0 := fun t kont => g1077 t (st1078 t kont)
  have g1084 : Go p e below T1078 (mkF m 748 #[iv p0, iv p1, iv p2, iv p3, iv p4, iv ca, iv cb, iv cc, iv cd_, iv (95 : Int32), iv sel, .unset, .unset] [(.int (65 : Int32)), (.ref b1078), (.ref b1078)]) A0 := by
    intro t kont
    refine g1083 t ?_
    refine XS.dup X1078.here hx rfl (hb hby at_745) rfl rfl ?_
    refine XS.bipush X1078.here hx rfl (hb hby at_746) ?_
    exact kont
  obtain ⟨T1085, h1085, k1085, X1085, e1085, E1085, A1085, F1085, st1085⟩ := newPE X1078 hx hZ (hw _ (List.mem_of_getElem? (i := 4) rfl)) e1078 (g := (mkF m 748 #[iv p0, iv p1, iv p2, iv p3, iv p4, iv ca, iv cb, iv cc, iv cd_, iv (95 : Int32), iv sel, .unset, .unset] [(.int (65 : Int32)), (.ref b1078), (.ref b1078)])) rfl (hb hby at_748) rfl (by decide) (cap := 65) (by decide) (by decide) (by decide) (by decide) (ad := "[C") (by decide)
  obtain ⟨b1085, gb1085⟩ : ∃ z, z = h1078.size := ⟨_, rfl⟩
  rw [← gb1085] at A1085 F1085 st1085
  have R1086 : CHr Z consts_1 s.vm h0 s.vm h1085 := R1079.trans (CHr.ext E1085 R1079.1)
  have O1087 := O1080.ext E1085
  have y1088 : Arv Z h1085 b1085 k1085 .char (65 : Int32) (List.replicate 65 (.int (0 : Int32))) (.int (0 : Int32)) := (Arv.new A1085 (by decide)).pad (pad_rep [] (.int (0 : Int32)) 65)
  obtain ⟨Ls1089, hLs1089⟩ : ∃ z : List Value, z = (List.replicate 65 (.int (0 : Int32))) := ⟨_, rfl⟩
  rw [← hLs1089] at y1088
  have lLs1089 : Ls1089.length = 65 := by rw [hLs1089, List.length_replicate]
  have g1090 : Go p e below T1085 (mkF m 750 #[iv p0, iv p1, iv p2, iv p3, iv p4, iv ca, iv cb, iv cc, iv cd_, iv (95 : Int32), iv sel, .unset, .unset] [(.ref b1085), (.ref b1078), (.ref b1078)]) A0 := fun t kont => g1084 t (st1085 t kont)
  have g1091 : Go p e below T1085 (mkF m 754 #[iv p0, iv p1, iv p2, iv p3, iv p4, iv ca, iv cb, iv cc, iv cd_, iv (95 : Int32), iv sel, .unset, .unset] [(.int ca), (.int (0 : Int32)), (.ref b1085), (.ref b1085), (.ref b1078), (.ref b1078)]) A0 := by
    intro t kont
    refine g1090 t ?_
    refine XS.dup X1085.here hx rfl (hb hby at_750) rfl rfl ?_
    refine XS.iconst X1085.here hx rfl (hb hby at_751) ?_
    refine XS.iload X1085.here hx rfl (hb hby at_752) rfl ?_
    exact kont
  have ge1093 : n0 ≤ b1085 := Nat.le_trans (own_old_le O1080) (Nat.le_of_eq gb1085.symm)
  have zz1092 := y1088
  obtain ⟨cl1092, Ar1092, q1092, S1092, M1092, H1092, G1092⟩ := zz1092
  have in1092 : ¬ ((0 : Int32) < 0 ∨ cl1092.slots.size ≤ ((0 : Int32)).toNatClampNeg) := inb_of S1092 ⟨by decide, by decide⟩
  obtain ⟨T1092, h1092, X1092, e1092, W1092, st1092⟩ := stC X1085 hx hZ e1085 Ar1092 (j := (0 : Int32)) in1092 (g := (mkF m 754 #[iv p0, iv p1, iv p2, iv p3, iv p4, iv ca, iv cb, iv cc, iv cd_, iv (95 : Int32), iv sel, .unset, .unset] [(.int ca), (.int (0 : Int32)), (.ref b1085), (.ref b1085), (.ref b1078), (.ref b1078)])) rfl rfl (hb hby at_754)
  rw [show nar .char ca = ca from r_ca] at W1092
  have R1094 : CHr Z consts_1 s.vm h0 s.vm h1092 := R1086.trans (CHr.wr W1092 (Safe.ext E1085 R1079.1 (Safe.new (Nat.le_of_eq gb1085.symm))) R1086.1)
  have O1095 := O1087.wr W1092 ge1093
  have y1096 : Arv Z h1092 b1085 k1085 .char (65 : Int32) (Ls1089.set 0 (.int ca)) (.int (0 : Int32)) := Arv.set Ar1092 q1092 S1092 M1092 H1092 G1092 (own_ft_char (z := ca) r_ca) W1092 0 rfl (by rw [lLs1089]; decide)
  obtain ⟨Ls1097, hLs1097⟩ : ∃ z : List Value, z = (Ls1089.set 0 (.int ca)) := ⟨_, rfl⟩
  rw [← hLs1097] at y1096
  have lLs1097 : Ls1097.length = 65 := by rw [hLs1097, List.length_set, lLs1089]
  have N1092 := Fr.snoc X1092 N0 ge1093
  have g1098 : Go p e below T1092 (mkF m 755 #[iv p0, iv p1, iv p2, iv p3, iv p4, iv ca, iv cb, iv cc, iv cd_, iv (95 : Int32), iv sel, .unset, .unset] [(.ref b1085), (.ref b1078), (.ref b1078)]) A0 := fun t kont => g1091 t (st1092 t kont)
  have g1099 : Go p e below T1092 (mkF m 759 #[iv p0, iv p1, iv p2, iv p3, iv p4, iv ca, iv cb, iv cc, iv cd_, iv (95 : Int32), iv sel, .unset, .unset] [(.int cb), (.int (1 : Int32)), (.ref b1085), (.ref b1085), (.ref b1078), (.ref b1078)]) A0 := by
    intro t kont
    refine g1098 t ?_
    refine XS.dup X1092.here hx rfl (hb hby at_755) rfl rfl ?_
    refine XS.iconst X1092.here hx rfl (hb hby at_756) ?_
    refine XS.iload X1092.here hx rfl (hb hby at_757) rfl ?_
    exact kont
  have zz1100 := y1096
  obtain ⟨cl1100, Ar1100, q1100, S1100, M1100, H1100, G1100⟩ := zz1100
  have in1100 : ¬ ((1 : Int32) < 0 ∨ cl1100.slots.size ≤ ((1 : Int32)).toNatClampNeg) := inb_of S1100 ⟨by decide, by decide⟩
  obtain ⟨T1100, h1100, X1100, e1100, W1100, st1100⟩ := stC X1092 hx hZ e1092 Ar1100 (j := (1 : Int32)) in1100 (g := (mkF m 759 #[iv p0, iv p1, iv p2, iv p3, iv p4, iv ca, iv cb, iv cc, iv cd_, iv (95 : Int32), iv sel, .unset, .unset] [(.int cb), (.int (1 : Int32)), (.ref b1085), (.ref b1085), (.ref b1078), (.ref b1078)])) rfl rfl (hb hby at_759)
  rw [show nar .char cb = cb from r_cb] at W1100
  have sf1102 : Safe Z consts_1 s.vm h1092 b1085 := (Safe.wr W1092 (Safe.ext E1085 R1079.1 (Safe.new (Nat.le_of_eq gb1085.symm))) R1086.1 (Safe.ext E1085 R1079.1 (Safe.new (Nat.le_of_eq gb1085.symm))))
  have R1101 : CHr Z consts_1 s.vm h0 s.vm h1100 := R1094.trans (CHr.wr W1100 sf1102 R1094.1)
  have O1103 := O1095.wr W1100 ge1093
  have y1104 : Arv Z h1100 b1085 k1085 .char (65 : Int32) (Ls1097.set 1 (.int cb)) (.int (0 : Int32)) := Arv.set Ar1100 q1100 S1100 M1100 H1100 G1100 (own_ft_char (z := cb) r_cb) W1100 1 rfl (by rw [lLs1097]; decide)
  obtain ⟨Ls1105, hLs1105⟩ : ∃ z : List Value, z = (Ls1097.set 1 (.int cb)) := ⟨_, rfl⟩
  rw [← hLs1105] at y1104
  have lLs1105 : Ls1105.length = 65 := by rw [hLs1105, List.length_set, lLs1097]
  have N1100 := Fr.snoc X1100 N1092 ge1093
  have g1106 : Go p e below T1100 (mkF m 760 #[iv p0, iv p1, iv p2, iv p3, iv p4, iv ca, iv cb, iv cc, iv cd_, iv (95 : Int32), iv sel, .unset, .unset] [(.ref b1085), (.ref b1078), (.ref b1078)]) A0 := fun t kont => g1099 t (st1100 t kont)
  have g1107 : Go p e below T1100 (mkF m 764 #[iv p0, iv p1, iv p2, iv p3, iv p4, iv ca, iv cb, iv cc, iv cd_, iv (95 : Int32), iv sel, .unset, .unset] [(.int (95 : Int32)), (.int (2 : Int32)), (.ref b1085), (.ref b1085), (.ref b1078), (.ref b1078)]) A0 := by
    intro t kont
    refine g1106 t ?_
    refine XS.dup X1100.here hx rfl (hb hby at_760) rfl rfl ?_
    refine XS.iconst X1100.here hx rfl (hb hby at_761) ?_
    refine XS.iload X1100.here hx rfl (hb hby at_762) rfl ?_
    exact kont
  have zz1108 := y1104
  obtain ⟨cl1108, Ar1108, q1108, S1108, M1108, H1108, G1108⟩ := zz1108
  have in1108 : ¬ ((2 : Int32) < 0 ∨ cl1108.slots.size ≤ ((2 : Int32)).toNatClampNeg) := inb_of S1108 ⟨by decide, by decide⟩
  obtain ⟨T1108, h1108, X1108, e1108, W1108, st1108⟩ := stC X1100 hx hZ e1100 Ar1108 (j := (2 : Int32)) in1108 (g := (mkF m 764 #[iv p0, iv p1, iv p2, iv p3, iv p4, iv ca, iv cb, iv cc, iv cd_, iv (95 : Int32), iv sel, .unset, .unset] [(.int (95 : Int32)), (.int (2 : Int32)), (.ref b1085), (.ref b1085), (.ref b1078), (.ref b1078)])) rfl rfl (hb hby at_764)
  rw [show nar .char (95 : Int32) = (95 : Int32) from (by decide : nar .char (95 : Int32) = (95 : Int32))] at W1108
  have sf1110 : Safe Z consts_1 s.vm h1100 b1085 := (Safe.wr W1100 sf1102 R1094.1 sf1102)
  have R1109 : CHr Z consts_1 s.vm h0 s.vm h1108 := R1101.trans (CHr.wr W1108 sf1110 R1101.1)
  have O1111 := O1103.wr W1108 ge1093
  have y1112 : Arv Z h1108 b1085 k1085 .char (65 : Int32) (Ls1105.set 2 (.int (95 : Int32))) (.int (0 : Int32)) := Arv.set Ar1108 q1108 S1108 M1108 H1108 G1108 (own_ft_char (z := (95 : Int32)) (by decide : nar .char (95 : Int32) = (95 : Int32))) W1108 2 rfl (by rw [lLs1105]; decide)
  obtain ⟨Ls1113, hLs1113⟩ : ∃ z : List Value, z = (Ls1105.set 2 (.int (95 : Int32))) := ⟨_, rfl⟩
  rw [← hLs1113] at y1112
  have lLs1113 : Ls1113.length = 65 := by rw [hLs1113, List.length_set, lLs1105]
  have N1108 := Fr.snoc X1108 N1100 ge1093
  have g1114 : Go p e below T1108 (mkF m 765 #[iv p0, iv p1, iv p2, iv p3, iv p4, iv ca, iv cb, iv cc, iv cd_, iv (95 : Int32), iv sel, .unset, .unset] [(.ref b1085), (.ref b1078), (.ref b1078)]) A0 := fun t kont => g1107 t (st1108 t kont)
  have g1115 : Go p e below T1108 (mkF m 769 #[iv p0, iv p1, iv p2, iv p3, iv p4, iv ca, iv cb, iv cc, iv cd_, iv (95 : Int32), iv sel, .unset, .unset] [(.int (95 : Int32)), (.int (3 : Int32)), (.ref b1085), (.ref b1085), (.ref b1078), (.ref b1078)]) A0 := by
    intro t kont
    refine g1114 t ?_
    refine XS.dup X1108.here hx rfl (hb hby at_765) rfl rfl ?_
    refine XS.iconst X1108.here hx rfl (hb hby at_766) ?_
    refine XS.iload X1108.here hx rfl (hb hby at_767) rfl ?_
    exact kont
  have zz1116 := y1112
  obtain ⟨cl1116, Ar1116, q1116, S1116, M1116, H1116, G1116⟩ := zz1116
  have in1116 : ¬ ((3 : Int32) < 0 ∨ cl1116.slots.size ≤ ((3 : Int32)).toNatClampNeg) := inb_of S1116 ⟨by decide, by decide⟩
  obtain ⟨T1116, h1116, X1116, e1116, W1116, st1116⟩ := stC X1108 hx hZ e1108 Ar1116 (j := (3 : Int32)) in1116 (g := (mkF m 769 #[iv p0, iv p1, iv p2, iv p3, iv p4, iv ca, iv cb, iv cc, iv cd_, iv (95 : Int32), iv sel, .unset, .unset] [(.int (95 : Int32)), (.int (3 : Int32)), (.ref b1085), (.ref b1085), (.ref b1078), (.ref b1078)])) rfl rfl (hb hby at_769)
  rw [show nar .char (95 : Int32) = (95 : Int32) from (by decide : nar .char (95 : Int32) = (95 : Int32))] at W1116
  have sf1118 : Safe Z consts_1 s.vm h1108 b1085 := (Safe.wr W1108 sf1110 R1101.1 sf1110)
  have R1117 : CHr Z consts_1 s.vm h0 s.vm h1116 := R1109.trans (CHr.wr W1116 sf1118 R1109.1)
  have O1119 := O1111.wr W1116 ge1093
  have y1120 : Arv Z h1116 b1085 k1085 .char (65 : Int32) (Ls1113.set 3 (.int (95 : Int32))) (.int (0 : Int32)) := Arv.set Ar1116 q1116 S1116 M1116 H1116 G1116 (own_ft_char (z := (95 : Int32)) (by decide : nar .char (95 : Int32) = (95 : Int32))) W1116 3 rfl (by rw [lLs1113]; decide)
  obtain ⟨Ls1121, hLs1121⟩ : ∃ z : List Value, z = (Ls1113.set 3 (.int (95 : Int32))) := ⟨_, rfl⟩
  rw [← hLs1121] at y1120
  have lLs1121 : Ls1121.length = 65 := by rw [hLs1121, List.length_set, lLs1113]
  have N1116 := Fr.snoc X1116 N1108 ge1093
  have g1122 : Go p e below T1116 (mkF m 770 #[iv p0, iv p1, iv p2, iv p3, iv p4, iv ca, iv cb, iv cc, iv cd_, iv (95 : Int32), iv sel, .unset, .unset] [(.ref b1085), (.ref b1078), (.ref b1078)]) A0 := fun t kont => g1115 t (st1116 t kont)
  have g1123 : Go p e below T1116 (mkF m 774 #[iv p0, iv p1, iv p2, iv p3, iv p4, iv ca, iv cb, iv cc, iv cd_, iv (95 : Int32), iv sel, .unset, .unset] [(.int (95 : Int32)), (.int (4 : Int32)), (.ref b1085), (.ref b1085), (.ref b1078), (.ref b1078)]) A0 := by
    intro t kont
    refine g1122 t ?_
    refine XS.dup X1116.here hx rfl (hb hby at_770) rfl rfl ?_
    refine XS.iconst X1116.here hx rfl (hb hby at_771) ?_
    refine XS.iload X1116.here hx rfl (hb hby at_772) rfl ?_
    exact kont
  have zz1124 := y1120
  obtain ⟨cl1124, Ar1124, q1124, S1124, M1124, H1124, G1124⟩ := zz1124
  have in1124 : ¬ ((4 : Int32) < 0 ∨ cl1124.slots.size ≤ ((4 : Int32)).toNatClampNeg) := inb_of S1124 ⟨by decide, by decide⟩
  obtain ⟨T1124, h1124, X1124, e1124, W1124, st1124⟩ := stC X1116 hx hZ e1116 Ar1124 (j := (4 : Int32)) in1124 (g := (mkF m 774 #[iv p0, iv p1, iv p2, iv p3, iv p4, iv ca, iv cb, iv cc, iv cd_, iv (95 : Int32), iv sel, .unset, .unset] [(.int (95 : Int32)), (.int (4 : Int32)), (.ref b1085), (.ref b1085), (.ref b1078), (.ref b1078)])) rfl rfl (hb hby at_774)
  rw [show nar .char (95 : Int32) = (95 : Int32) from (by decide : nar .char (95 : Int32) = (95 : Int32))] at W1124
  have sf1126 : Safe Z consts_1 s.vm h1116 b1085 := (Safe.wr W1116 sf1118 R1109.1 sf1118)
  have R1125 : CHr Z consts_1 s.vm h0 s.vm h1124 := R1117.trans (CHr.wr W1124 sf1126 R1117.1)
  have O1127 := O1119.wr W1124 ge1093
  have y1128 : Arv Z h1124 b1085 k1085 .char (65 : Int32) (Ls1121.set 4 (.int (95 : Int32))) (.int (0 : Int32)) := Arv.set Ar1124 q1124 S1124 M1124 H1124 G1124 (own_ft_char (z := (95 : Int32)) (by decide : nar .char (95 : Int32) = (95 : Int32))) W1124 4 rfl (by rw [lLs1121]; decide)
  obtain ⟨Ls1129, hLs1129⟩ : ∃ z : List Value, z = (Ls1121.set 4 (.int (95 : Int32))) := ⟨_, rfl⟩
  rw [← hLs1129] at y1128
  have lLs1129 : Ls1129.length = 65 := by rw [hLs1129, List.length_set, lLs1121]
  have N1124 := Fr.snoc X1124 N1116 ge1093
  have g1130 : Go p e below T1124 (mkF m 775 #[iv p0, iv p1, iv p2, iv p3, iv p4, iv ca, iv cb, iv cc, iv cd_, iv (95 : Int32), iv sel, .unset, .unset] [(.ref b1085), (.ref b1078), (.ref b1078)]) A0 := fun t kont => g1123 t (st1124 t kont)
  have g1131 : Go p e below T1124 (mkF m 779 #[iv p0, iv p1, iv p2, iv p3, iv p4, iv ca, iv cb, iv cc, iv cd_, iv (95 : Int32), iv sel, .unset, .unset] [(.int (95 : Int32)), (.int (5 : Int32)), (.ref b1085), (.ref b1085), (.ref b1078), (.ref b1078)]) A0 := by
    intro t kont
    refine g1130 t ?_
    refine XS.dup X1124.here hx rfl (hb hby at_775) rfl rfl ?_
    refine XS.iconst X1124.here hx rfl (hb hby at_776) ?_
    refine XS.iload X1124.here hx rfl (hb hby at_777) rfl ?_
    exact kont
  have zz1132 := y1128
  obtain ⟨cl1132, Ar1132, q1132, S1132, M1132, H1132, G1132⟩ := zz1132
  have in1132 : ¬ ((5 : Int32) < 0 ∨ cl1132.slots.size ≤ ((5 : Int32)).toNatClampNeg) := inb_of S1132 ⟨by decide, by decide⟩
  obtain ⟨T1132, h1132, X1132, e1132, W1132, st1132⟩ := stC X1124 hx hZ e1124 Ar1132 (j := (5 : Int32)) in1132 (g := (mkF m 779 #[iv p0, iv p1, iv p2, iv p3, iv p4, iv ca, iv cb, iv cc, iv cd_, iv (95 : Int32), iv sel, .unset, .unset] [(.int (95 : Int32)), (.int (5 : Int32)), (.ref b1085), (.ref b1085), (.ref b1078), (.ref b1078)])) rfl rfl (hb hby at_779)
  rw [show nar .char (95 : Int32) = (95 : Int32) from (by decide : nar .char (95 : Int32) = (95 : Int32))] at W1132
  have sf1134 : Safe Z consts_1 s.vm h1124 b1085 := (Safe.wr W1124 sf1126 R1117.1 sf1126)
  have R1133 : CHr Z consts_1 s.vm h0 s.vm h1132 := R1125.trans (CHr.wr W1132 sf1134 R1125.1)
  have O1135 := O1127.wr W1132 ge1093
  have y1136 : Arv Z h1132 b1085 k1085 .char (65 : Int32) (Ls1129.set 5 (.int (95 : Int32))) (.int (0 : Int32)) := Arv.set Ar1132 q1132 S1132 M1132 H1132 G1132 (own_ft_char (z := (95 : Int32)) (by decide : nar .char (95 : Int32) = (95 : Int32))) W1132 5 rfl (by rw [lLs1129]; decide)
  obtain ⟨Ls1137, hLs1137⟩ : ∃ z : List Value, z = (Ls1129.set 5 (.int (95 : Int32))) := ⟨_, rfl⟩
  rw [← hLs1137] at y1136
  have lLs1137 : Ls1137.length = 65 := by rw [hLs1137, List.length_set, lLs1129]
  have N1132 := Fr.snoc X1132 N1124 ge1093
  have g1138 : Go p e below T1132 (mkF m 780 #[iv p0, iv p1, iv p2, iv p3, iv p4, iv ca, iv cb, iv cc, iv cd_, iv (95 : Int32), iv sel, .unset, .unset] [(.ref b1085), (.ref b1078), (.ref b1078)]) A0 := fun t kont => g1131 t (st1132 t kont)
  have g1139 : Go p e below T1132 (mkF m 785 #[iv p0, iv p1, iv p2, iv p3, iv p4, iv ca, iv cb, iv cc, iv cd_, iv (95 : Int32), iv sel, .unset, .unset] [(.int (95 : Int32)), (.int (6 : Int32)), (.ref b1085), (.ref b1085), (.ref b1078), (.ref b1078)]) A0 := by
    intro t kont
    refine g1138 t ?_
    refine XS.dup X1132.here hx rfl (hb hby at_780) rfl rfl ?_
    refine XS.bipush X1132.here hx rfl (hb hby at_781) ?_
    refine XS.iload X1132.here hx rfl (hb hby at_783) rfl ?_
    exact kont
  have zz1140 := y1136
  obtain ⟨cl1140, Ar1140, q1140, S1140, M1140, H1140, G1140⟩ := zz1140
  have in1140 : ¬ ((6 : Int32) < 0 ∨ cl1140.slots.size ≤ ((6 : Int32)).toNatClampNeg) := inb_of S1140 ⟨by decide, by decide⟩
  obtain ⟨T1140, h1140, X1140, e1140, W1140, st1140⟩ := stC X1132 hx hZ e1132 Ar1140 (j := (6 : Int32)) in1140 (g := (mkF m 785 #[iv p0, iv p1, iv p2, iv p3, iv p4, iv ca, iv cb, iv cc, iv cd_, iv (95 : Int32), iv sel, .unset, .unset] [(.int (95 : Int32)), (.int (6 : Int32)), (.ref b1085), (.ref b1085), (.ref b1078), (.ref b1078)])) rfl rfl (hb hby at_785)
  rw [show nar .char (95 : Int32) = (95 : Int32) from (by decide : nar .char (95 : Int32) = (95 : Int32))] at W1140
  have sf1142 : Safe Z consts_1 s.vm h1132 b1085 := (Safe.wr W1132 sf1134 R1125.1 sf1134)
  have R1141 : CHr Z consts_1 s.vm h0 s.vm h1140 := R1133.trans (CHr.wr W1140 sf1142 R1133.1)
  have O1143 := O1135.wr W1140 ge1093
  have y1144 : Arv Z h1140 b1085 k1085 .char (65 : Int32) (Ls1137.set 6 (.int (95 : Int32))) (.int (0 : Int32)) := Arv.set Ar1140 q1140 S1140 M1140 H1140 G1140 (own_ft_char (z := (95 : Int32)) (by decide : nar .char (95 : Int32) = (95 : Int32))) W1140 6 rfl (by rw [lLs1137]; decide)
  obtain ⟨Ls1145, hLs1145⟩ : ∃ z : List Value, z = (Ls1137.set 6 (.int (95 : Int32))) := ⟨_, rfl⟩
  rw [← hLs1145] at y1144
  have lLs1145 : Ls1145.length = 65 := by rw [hLs1145, List.length_set, lLs1137]
  have N1140 := Fr.snoc X1140 N1132 ge1093
  have g1146 : Go p e below T1140 (mkF m 786 #[iv p0, iv p1, iv p2, iv p3, iv p4, iv ca, iv cb, iv cc, iv cd_, iv (95 : Int32), iv sel, .unset, .unset] [(.ref b1085), (.ref b1078), (.ref b1078)]) A0 := fun t kont => g1139 t (st1140 t kont)
  have g1147 : Go p e below T1140 (mkF m 791 #[iv p0, iv p1, iv p2, iv p3, iv p4, iv ca, iv cb, iv cc, iv cd_, iv (95 : Int32), iv sel, .unset, .unset] [(.int (95 : Int32)), (.int (7 : Int32)), (.ref b1085), (.ref b1085), (.ref b1078), (.ref b1078)]) A0 := by
    intro t kont
    refine g1146 t ?_
    refine XS.dup X1140.here hx rfl (hb hby at_786) rfl rfl ?_
    refine XS.bipush X1140.here hx rfl (hb hby at_787) ?_
    refine XS.iload X1140.here hx rfl (hb hby at_789) rfl ?_
    exact kont
  have zz1148 := y1144
  obtain ⟨cl1148, Ar1148, q1148, S1148, M1148, H1148, G1148⟩ := zz1148
  have in1148 : ¬ ((7 : Int32) < 0 ∨ cl1148.slots.size ≤ ((7 : Int32)).toNatClampNeg) := inb_of S1148 ⟨by decide, by decide⟩
  obtain ⟨T1148, h1148, X1148, e1148, W1148, st1148⟩ := stC X1140 hx hZ e1140 Ar1148 (j := (7 : Int32)) in1148 (g := (mkF m 791 #[iv p0, iv p1, iv p2, iv p3, iv p4, iv ca, iv cb, iv cc, iv cd_, iv (95 : Int32), iv sel, .unset, .unset] [(.int (95 : Int32)), (.int (7 : Int32)), (.ref b1085), (.ref b1085), (.ref b1078), (.ref b1078)])) rfl rfl (hb hby at_791)
  rw [show nar .char (95 : Int32) = (95 : Int32) from (by decide : nar .char (95 : Int32) = (95 : Int32))] at W1148
  have sf1150 : Safe Z consts_1 s.vm h1140 b1085 := (Safe.wr W1140 sf1142 R1133.1 sf1142)
  have R1149 : CHr Z consts_1 s.vm h0 s.vm h1148 := R1141.trans (CHr.wr W1148 sf1150 R1141.1)
  have O1151 := O1143.wr W1148 ge1093
  have y1152 : Arv Z h1148 b1085 k1085 .char (65 : Int32) (Ls1145.set 7 (.int (95 : Int32))) (.int (0 : Int32)) := Arv.set Ar1148 q1148 S1148 M1148 H1148 G1148 (own_ft_char (z := (95 : Int32)) (by decide : nar .char (95 : Int32) = (95 : Int32))) W1148 7 rfl (by rw [lLs1145]; decide)
  obtain ⟨Ls1153, hLs1153⟩ : ∃ z : List Value, z = (Ls1145.set 7 (.int (95 : Int32))) := ⟨_, rfl⟩
  rw [← hLs1153] at y1152
  have lLs1153 : Ls1153.length = 65 := by rw [hLs1153, List.length_set, lLs1145]
  have N1148 := Fr.snoc X1148 N1140 ge1093
  have g1154 : Go p e below T1148 (mkF m 792 #[iv p0, iv p1, iv p2, iv p3, iv p4, iv ca, iv cb, iv cc, iv cd_, iv (95 : Int32), iv sel, .unset, .unset] [(.ref b1085), (.ref b1078), (.ref b1078)]) A0 := fun t kont => g1147 t (st1148 t kont)
  have g1155 : Go p e below T1148 (mkF m 797 #[iv p0, iv p1, iv p2, iv p3, iv p4, iv ca, iv cb, iv cc, iv cd_, iv (95 : Int32), iv sel, .unset, .unset] [(.int (95 : Int32)), (.int (8 : Int32)), (.ref b1085), (.ref b1085), (.ref b1078), (.ref b1078)]) A0 := by
    intro t kont
    refine g1154 t ?_
    refine XS.dup X1148.here hx rfl (hb hby at_792) rfl rfl ?_
    refine XS.bipush X1148.here hx rfl (hb hby at_793) ?_
    refine XS.iload X1148.here hx rfl (hb hby at_795) rfl ?_
    exact kont
  have zz1156 := y1152
  obtain ⟨cl1156, Ar1156, q1156, S1156, M1156, H1156, G1156⟩ := zz1156
  have in1156 : ¬ ((8 : Int32) < 0 ∨ cl1156.slots.size ≤ ((8 : Int32)).toNatClampNeg) := inb_of S1156 ⟨by decide, by decide⟩
  obtain ⟨T1156, h1156, X1156, e1156, W1156, st1156⟩ := stC X1148 hx hZ e1148 Ar1156 (j := (8 : Int32)) in1156 (g := (mkF m 797 #[iv p0, iv p1, iv p2, iv p3, iv p4, iv ca, iv cb, iv cc, iv cd_, iv (95 : Int32), iv sel, .unset, .unset] [(.int (95 : Int32)), (.int (8 : Int32)), (.ref b1085), (.ref b1085), (.ref b1078), (.ref b1078)])) rfl rfl (hb hby at_797)
  rw [show nar .char (95 : Int32) = (95 : Int32) from (by decide : nar .char (95 : Int32) = (95 : Int32))] at W1156
  have sf1158 : Safe Z consts_1 s.vm h1148 b1085 := (Safe.wr W1148 sf1150 R1141.1 sf1150)
  have R1157 : CHr Z consts_1 s.vm h0 s.vm h1156 := R1149.trans (CHr.wr W1156 sf1158 R1149.1)
  have O1159 := O1151.wr W1156 ge1093
  have y1160 : Arv Z h1156 b1085 k1085 .char (65 : Int32) (Ls1153.set 8 (.int (95 : Int32))) (.int (0 : Int32)) := Arv.set Ar1156 q1156 S1156 M1156 H1156 G1156 (own_ft_char (z := (95 : Int32)) (by decide : nar .char (95 : Int32) = (95 : Int32))) W1156 8 rfl (by rw [lLs1153]; decide)
  obtain ⟨Ls1161, hLs1161⟩ : ∃ z : List Value, z = (Ls1153.set 8 (.int (95 : Int32))) := ⟨_, rfl⟩
  rw [← hLs1161] at y1160
  have lLs1161 : Ls1161.length = 65 := by rw [hLs1161, List.length_set, lLs1153]
  have N1156 := Fr.snoc X1156 N1148 ge1093
  have g1162 : Go p e below T1156 (mkF m 798 #[iv p0, iv p1, iv p2, iv p3, iv p4, iv ca, iv cb, iv cc, iv cd_, iv (95 : Int32), iv sel, .unset, .unset] [(.ref b1085), (.ref b1078), (.ref b1078)]) A0 := fun t kont => g1155 t (st1156 t kont)
  have g1163 : Go p e below T1156 (mkF m 803 #[iv p0, iv p1, iv p2, iv p3, iv p4, iv ca, iv cb, iv cc, iv cd_, iv (95 : Int32), iv sel, .unset, .unset] [(.int (95 : Int32)), (.int (9 : Int32)), (.ref b1085), (.ref b1085), (.ref b1078), (.ref b1078)]) A0 := by
    intro t kont
    refine g1162 t ?_
    refine XS.dup X1156.here hx rfl (hb hby at_798) rfl rfl ?_
    refine XS.bipush X1156.here hx rfl (hb hby at_799) ?_
    refine XS.iload X1156.here hx rfl (hb hby at_801) rfl ?_
    exact kont
  have zz1164 := y1160
  obtain ⟨cl1164, Ar1164, q1164, S1164, M1164, H1164, G1164⟩ := zz1164
  have in1164 : ¬ ((9 : Int32) < 0 ∨ cl1164.slots.size ≤ ((9 : Int32)).toNatClampNeg) := inb_of S1164 ⟨by decide, by decide⟩
  obtain ⟨T1164, h1164, X1164, e1164, W1164, st1164⟩ := stC X1156 hx hZ e1156 Ar1164 (j := (9 : Int32)) in1164 (g := (mkF m 803 #[iv p0, iv p1, iv p2, iv p3, iv p4, iv ca, iv cb, iv cc, iv cd_, iv (95 : Int32), iv sel, .unset, .unset] [(.int (95 : Int32)), (.int (9 : Int32)), (.ref b1085), (.ref b1085), (.ref b1078), (.ref b1078)])) rfl rfl (hb hby at_803)
  rw [show nar .char (95 : Int32) = (95 : Int32) from (by decide : nar .char (95 : Int32) = (95 : Int32))] at W1164
  have sf1166 : Safe Z consts_1 s.vm h1156 b1085 := (Safe.wr W1156 sf1158 R1149.1 sf1158)
  have R1165 : CHr Z consts_1 s.vm h0 s.vm h1164 := R1157.trans (CHr.wr W1164 sf1166 R1157.1)
  have O1167 := O1159.wr W1164 ge1093
  have y1168 : Arv Z h1164 b1085 k1085 .char (65 : Int32) (Ls1161.set 9 (.int (95 : Int32))) (.int (0 : Int32)) := Arv.set Ar1164 q1164 S1164 M1164 H1164 G1164 (own_ft_char (z := (95 : Int32)) (by decide : nar .char (95 : Int32) = (95 : Int32))) W1164 9 rfl (by rw [lLs1161]; decide)
  obtain ⟨Ls1169, hLs1169⟩ : ∃ z : List Value, z = (Ls1161.set 9 (.int (95 : Int32))) := ⟨_, rfl⟩
  rw [← hLs1169] at y1168
  have lLs1169 : Ls1169.length = 65 := by rw [hLs1169, List.length_set, lLs1161]
  have N1164 := Fr.snoc X1164 N1156 ge1093
  have g1170 : Go p e below T1164 (mkF m 804 #[iv p0, iv p1, iv p2, iv p3, iv p4, iv ca, iv cb, iv cc, iv cd_, iv (95 : Int32), iv sel, .unset, .unset] [(.ref b1085), (.ref b1078), (.ref b1078)]) A0 := fun t kont => g1163 t (st1164 t kont)
  have g1171 : Go p e below T1164 (mkF m 809 #[iv p0, iv p1, iv p2, iv p3, iv p4, iv ca, iv cb, iv cc, iv cd_, iv (95 : Int32), iv sel, .unset, .unset] [(.int (95 : Int32)), (.int (10 : Int32)), (.ref b1085), (.ref b1085), (.ref b1078), (.ref b1078)]) A0 := by
    intro t kont
    refine g1170 t ?_
    refine XS.dup X1164.here hx rfl (hb hby at_804) rfl rfl ?_
    refine XS.bipush X1164.here hx rfl (hb hby at_805) ?_
    refine XS.iload X1164.here hx rfl (hb hby at_807) rfl ?_
    exact kont
  have zz1172 := y1168
  obtain ⟨cl1172, Ar1172, q1172, S1172, M1172, H1172, G1172⟩ := zz1172
  have in1172 : ¬ ((10 : Int32) < 0 ∨ cl1172.slots.size ≤ ((10 : Int32)).toNatClampNeg) := inb_of S1172 ⟨by decide, by decide⟩
  obtain ⟨T1172, h1172, X1172, e1172, W1172, st1172⟩ := stC X1164 hx hZ e1164 Ar1172 (j := (10 : Int32)) in1172 (g := (mkF m 809 #[iv p0, iv p1, iv p2, iv p3, iv p4, iv ca, iv cb, iv cc, iv cd_, iv (95 : Int32), iv sel, .unset, .unset] [(.int (95 : Int32)), (.int (10 : Int32)), (.ref b1085), (.ref b1085), (.ref b1078), (.ref b1078)])) rfl rfl (hb hby at_809)
  rw [show nar .char (95 : Int32) = (95 : Int32) from (by decide : nar .char (95 : Int32) = (95 : Int32))] at W1172
  have sf1174 : Safe Z consts_1 s.vm h1164 b1085 := (Safe.wr W1164 sf1166 R1157.1 sf1166)
  have R1173 : CHr Z consts_1 s.vm h0 s.vm h1172 := R1165.trans (CHr.wr W1172 sf1174 R1165.1)
  have O1175 := O1167.wr W1172 ge1093
  have y1176 : Arv Z h1172 b1085 k1085 .char (65 : Int32) (Ls1169.set 10 (.int (95 : Int32))) (.int (0 : Int32)) := Arv.set Ar1172 q1172 S1172 M1172 H1172 G1172 (own_ft_char (z := (95 : Int32)) (by decide : nar .char (95 : Int32) = (95 : Int32))) W1172 10 rfl (by rw [lLs1169]; decide)
  obtain ⟨Ls1177, hLs1177⟩ : ∃ z : List Value, z = (Ls1169.set 10 (.int (95 : Int32))) := ⟨_, rfl⟩
  rw [← hLs1177] at y1176
  have lLs1177 : Ls1177.length = 65 := by rw [hLs1177, List.length_set, lLs1169]
  have N1172 := Fr.snoc X1172 N1164 ge1093
  have g1178 : Go p e below T1172 (mkF m 810 #[iv p0, iv p1, iv p2, iv p3, iv p4, iv ca, iv cb, iv cc, iv cd_, iv (95 : Int32), iv sel, .unset, .unset] [(.ref b1085), (.ref b1078), (.ref b1078)]) A0 := fun t kont => g1171 t (st1172 t kont)
  have g1179 : Go p e below T1172 (mkF m 815 #[iv p0, iv p1, iv p2, iv p3, iv p4, iv ca, iv cb, iv cc, iv cd_, iv (95 : Int32), iv sel, .unset, .unset] [(.int (95 : Int32)), (.int (11 : Int32)), (.ref b1085), (.ref b1085), (.ref b1078), (.ref b1078)]) A0 := by
    intro t kont
    refine g1178 t ?_
    refine XS.dup X1172.here hx rfl (hb hby at_810) rfl rfl ?_
    refine XS.bipush X1172.here hx rfl (hb hby at_811) ?_
    refine XS.iload X1172.here hx rfl (hb hby at_813) rfl ?_
    exact kont
  have zz1180 := y1176
  obtain ⟨cl1180, Ar1180, q1180, S1180, M1180, H1180, G1180⟩ := zz1180
  have in1180 : ¬ ((11 : Int32) < 0 ∨ cl1180.slots.size ≤ ((11 : Int32)).toNatClampNeg) := inb_of S1180 ⟨by decide, by decide⟩
  obtain ⟨T1180, h1180, X1180, e1180, W1180, st1180⟩ := stC X1172 hx hZ e1172 Ar1180 (j := (11 : Int32)) in1180 (g := (mkF m 815 #[iv p0, iv p1, iv p2, iv p3, iv p4, iv ca, iv cb, iv cc, iv cd_, iv (95 : Int32), iv sel, .unset, .unset] [(.int (95 : Int32)), (.int (11 : Int32)), (.ref b1085), (.ref b1085), (.ref b1078), (.ref b1078)])) rfl rfl (hb hby at_815)
  rw [show nar .char (95 : Int32) = (95 : Int32) from (by decide : nar .char (95 : Int32) = (95 : Int32))] at W1180
  have sf1182 : Safe Z consts_1 s.vm h1172 b1085 := (Safe.wr W1172 sf1174 R1165.1 sf1174)
  have R1181 : CHr Z consts_1 s.vm h0 s.vm h1180 := R1173.trans (CHr.wr W1180 sf1182 R1173.1)
  have O1183 := O1175.wr W1180 ge1093
  have y1184 : Arv Z h1180 b1085 k1085 .char (65 : Int32) (Ls1177.set 11 (.int (95 : Int32))) (.int (0 : Int32)) := Arv.set Ar1180 q1180 S1180 M1180 H1180 G1180 (own_ft_char (z := (95 : Int32)) (by decide : nar .char (95 : Int32) = (95 : Int32))) W1180 11 rfl (by rw [lLs1177]; decide)
  obtain ⟨Ls1185, hLs1185⟩ : ∃ z : List Value, z = (Ls1177.set 11 (.int (95 : Int32))) := ⟨_, rfl⟩
  rw [← hLs1185] at y1184
  have lLs1185 : Ls1185.length = 65 := by rw [hLs1185, List.length_set, lLs1177]
  have N1180 := Fr.snoc X1180 N1172 ge1093
  have g1186 : Go p e below T1180 (mkF m 816 #[iv p0, iv p1, iv p2, iv p3, iv p4, iv ca, iv cb, iv cc, iv cd_, iv (95 : Int32), iv sel, .unset, .unset] [(.ref b1085), (.ref b1078), (.ref b1078)]) A0 := fun t kont => g1179 t (st1180 t kont)
  have g1187 : Go p e below T1180 (mkF m 821 #[iv p0, iv p1, iv p2, iv p3, iv p4, iv ca, iv cb, iv cc, iv cd_, iv (95 : Int32), iv sel, .unset, .unset] [(.int (95 : Int32)), (.int (12 : Int32)), (.ref b1085), (.ref b1085), (.ref b1078), (.ref b1078)]) A0 := by
    intro t kont
    refine g1186 t ?_
    refine XS.dup X1180.here hx rfl (hb hby at_816) rfl rfl ?_
    refine XS.bipush X1180.here hx rfl (hb hby at_817) ?_
    refine XS.iload X1180.here hx rfl (hb hby at_819) rfl ?_
    exact kont
  have zz1188 := y1184
  obtain ⟨cl1188, Ar1188, q1188, S1188, M1188, H1188, G1188⟩ := zz1188
  have in1188 : ¬ ((12 : Int32) < 0 ∨ cl1188.slots.size ≤ ((12 : Int32)).toNatClampNeg) := inb_of S1188 ⟨by decide, by decide⟩
  obtain ⟨T1188, h1188, X1188, e1188, W1188, st1188⟩ := stC X1180 hx hZ e1180 Ar1188 (j := (12 : Int32)) in1188 (g := (mkF m 821 #[iv p0, iv p1, iv p2, iv p3, iv p4, iv ca, iv cb, iv cc, iv cd_, iv (95 : Int32), iv sel, .unset, .unset] [(.int (95 : Int32)), (.int (12 : Int32)), (.ref b1085), (.ref b1085), (.ref b1078), (.ref b1078)])) rfl rfl (hb hby at_821)
  rw [show nar .char (95 : Int32) = (95 : Int32) from (by decide : nar .char (95 : Int32) = (95 : Int32))] at W1188
  have sf1190 : Safe Z consts_1 s.vm h1180 b1085 := (Safe.wr W1180 sf1182 R1173.1 sf1182)
  have R1189 : CHr Z consts_1 s.vm h0 s.vm h1188 := R1181.trans (CHr.wr W1188 sf1190 R1181.1)
  have O1191 := O1183.wr W1188 ge1093
  have y1192 : Arv Z h1188 b1085 k1085 .char (65 : Int32) (Ls1185.set 12 (.int (95 : Int32))) (.int (0 : Int32)) := Arv.set Ar1188 q1188 S1188 M1188 H1188 G1188 (own_ft_char (z := (95 : Int32)) (by decide : nar .char (95 : Int32) = (95 : Int32))) W1188 12 rfl (by rw [lLs1185]; decide)
  obtain ⟨Ls1193, hLs1193⟩ : ∃ z : List Value, z = (Ls1185.set 12 (.int (95 : Int32))) := ⟨_, rfl⟩
  rw [← hLs1193] at y1192
  have lLs1193 : Ls1193.length = 65 := by rw [hLs1193, List.length_set, lLs1185]
  have N1188 := Fr.snoc X1188 N1180 ge1093
  have g1194 : Go p e below T1188 (mkF m 822 #[iv p0, iv p1, iv p2, iv p3, iv p4, iv ca, iv cb, iv cc, iv cd_, iv (95 : Int32), iv sel, .unset, .unset] [(.ref b1085), (.ref b1078), (.ref b1078)]) A0 := fun t kont => g1187 t (st1188 t kont)
  have g1195 : Go p e below T1188 (mkF m 827 #[iv p0, iv p1, iv p2, iv p3, iv p4, iv ca, iv cb, iv cc, iv cd_, iv (95 : Int32), iv sel, .unset, .unset] [(.int (95 : Int32)), (.int (13 : Int32)), (.ref b1085), (.ref b1085), (.ref b1078), (.ref b1078)]) A0 := by
    intro t kont
    refine g1194 t ?_
    refine XS.dup X1188.here hx rfl (hb hby at_822) rfl rfl ?_
    refine XS.bipush X1188.here hx rfl (hb hby at_823) ?_
    refine XS.iload X1188.here hx rfl (hb hby at_825) rfl ?_
    exact kont
  have zz1196 := y1192
  obtain ⟨cl1196, Ar1196, q1196, S1196, M1196, H1196, G1196⟩ := zz1196
  have in1196 : ¬ ((13 : Int32) < 0 ∨ cl1196.slots.size ≤ ((13 : Int32)).toNatClampNeg) := inb_of S1196 ⟨by decide, by decide⟩
  obtain ⟨T1196, h1196, X1196, e1196, W1196, st1196⟩ := stC X1188 hx hZ e1188 Ar1196 (j := (13 : Int32)) in1196 (g := (mkF m 827 #[iv p0, iv p1, iv p2, iv p3, iv p4, iv ca, iv cb, iv cc, iv cd_, iv (95 : Int32), iv sel, .unset, .unset] [(.int (95 : Int32)), (.int (13 : Int32)), (.ref b1085), (.ref b1085), (.ref b1078), (.ref b1078)])) rfl rfl (hb hby at_827)
  rw [show nar .char (95 : Int32) = (95 : Int32) from (by decide : nar .char (95 : Int32) = (95 : Int32))] at W1196
  have sf1198 : Safe Z consts_1 s.vm h1188 b1085 := (Safe.wr W1188 sf1190 R1181.1 sf1190)
  have R1197 : CHr Z consts_1 s.vm h0 s.vm h1196 := R1189.trans (CHr.wr W1196 sf1198 R1189.1)
  have O1199 := O1191.wr W1196 ge1093
  have y1200 : Arv Z h1196 b1085 k1085 .char (65 : Int32) (Ls1193.set 13 (.int (95 : Int32))) (.int (0 : Int32)) := Arv.set Ar1196 q1196 S1196 M1196 H1196 G1196 (own_ft_char (z := (95 : Int32)) (by decide : nar .char (95 : Int32) = (95 : Int32))) W1196 13 rfl (by rw [lLs1193]; decide)
  obtain ⟨Ls1201, hLs1201⟩ : ∃ z : List Value, z = (Ls1193.set 13 (.int (95 : Int32))) := ⟨_, rfl⟩
  rw [← hLs1201] at y1200
  have lLs1201 : Ls1201.length = 65 := by rw [hLs1201, List.length_set, lLs1193]
  have N1196 := Fr.snoc X1196 N1188 ge1093
  have g1202 : Go p e below T1196 (mkF m 828 #[iv p0, iv p1, iv p2, iv p3, iv p4, iv ca, iv cb, iv cc, iv cd_, iv (95 : Int32), iv sel, .unset, .unset] [(.ref b1085), (.ref b1078), (.ref b1078)]) A0 := fun t kont => g1195 t (st1196 t kont)
  have g1203 : Go p e below T1196 (mkF m 833 #[iv p0, iv p1, iv p2, iv p3, iv p4, iv ca, iv cb, iv cc, iv cd_, iv (95 : Int32), iv sel, .unset, .unset] [(.int (95 : Int32)), (.int (14 : Int32)), (.ref b1085), (.ref b1085), (.ref b1078), (.ref b1078)]) A0 := by
    intro t kont
    refine g1202 t ?_
    refine XS.dup X1196.here hx rfl (hb hby at_828) rfl rfl ?_
    refine XS.bipush X1196.here hx rfl (hb hby at_829) ?_
    refine XS.iload X1196.here hx rfl (hb hby at_831) rfl ?_
    exact kont
  have zz1204 := y1200
  obtain ⟨cl1204, Ar1204, q1204, S1204, M1204, H1204, G1204⟩ := zz1204
  have in1204 : ¬ ((14 : Int32) < 0 ∨ cl1204.slots.size ≤ ((14 : Int32)).toNatClampNeg) := inb_of S1204 ⟨by decide, by decide⟩
  obtain ⟨T1204, h1204, X1204, e1204, W1204, st1204⟩ := stC X1196 hx hZ e1196 Ar1204 (j := (14 : Int32)) in1204 (g := (mkF m 833 #[iv p0, iv p1, iv p2, iv p3, iv p4, iv ca, iv cb, iv cc, iv cd_, iv (95 : Int32), iv sel, .unset, .unset] [(.int (95 : Int32)), (.int (14 : Int32)), (.ref b1085), (.ref b1085), (.ref b1078), (.ref b1078)])) rfl rfl (hb hby at_833)
  rw [show nar .char (95 : Int32) = (95 : Int32) from (by decide : nar .char (95 : Int32) = (95 : Int32))] at W1204
  have sf1206 : Safe Z consts_1 s.vm h1196 b1085 := (Safe.wr W1196 sf1198 R1189.1 sf1198)
  have R1205 : CHr Z consts_1 s.vm h0 s.vm h1204 := R1197.trans (CHr.wr W1204 sf1206 R1197.1)
  have O1207 := O1199.wr W1204 ge1093
  have y1208 : Arv Z h1204 b1085 k1085 .char (65 : Int32) (Ls1201.set 14 (.int (95 : Int32))) (.int (0 : Int32)) := Arv.set Ar1204 q1204 S1204 M1204 H1204 G1204 (own_ft_char (z := (95 : Int32)) (by decide : nar .char (95 : Int32) = (95 : Int32))) W1204 14 rfl (by rw [lLs1201]; decide)
  obtain ⟨Ls1209, hLs1209⟩ : ∃ z : List Value, z = (Ls1201.set 14 (.int (95 : Int32))) := ⟨_, rfl⟩
  rw [← hLs1209] at y1208
  have lLs1209 : Ls1209.length = 65 := by rw [hLs1209, List.length_set, lLs1201]
  have N1204 := Fr.snoc X1204 N1196 ge1093
  have g1210 : Go p e below T1204 (mkF m 834 #[iv p0, iv p1, iv p2, iv p3, iv p4, iv ca, iv cb, iv cc, iv cd_, iv (95 : Int32), iv sel, .unset, .unset] [(.ref b1085), (.ref b1078), (.ref b1078)]) A0 := fun t kont => g1203 t (st1204 t kont)
  have g1211 : Go p e below T1204 (mkF m 839 #[iv p0, iv p1, iv p2, iv p3, iv p4, iv ca, iv cb, iv cc, iv cd_, iv (95 : Int32), iv sel, .unset, .unset] [(.int (95 : Int32)), (.int (15 : Int32)), (.ref b1085), (.ref b1085), (.ref b1078), (.ref b1078)]) A0 := by
    intro t kont
    refine g1210 t ?_
    refine XS.dup X1204.here hx rfl (hb hby at_834) rfl rfl ?_
    refine XS.bipush X1204.here hx rfl (hb hby at_835) ?_
    refine XS.iload X1204.here hx rfl (hb hby at_837) rfl ?_
    exact kont
  have zz1212 := y1208
  obtain ⟨cl1212, Ar1212, q1212, S1212, M1212, H1212, G1212⟩ := zz1212
  have in1212 : ¬ ((15 : Int32) < 0 ∨ cl1212.slots.size ≤ ((15 : Int32)).toNatClampNeg) := inb_of S1212 ⟨by decide, by decide⟩
  obtain ⟨T1212, h1212, X1212, e1212, W1212, st1212⟩ := stC X1204 hx hZ e1204 Ar1212 (j := (15 : Int32)) in1212 (g := (mkF m 839 #[iv p0, iv p1, iv p2, iv p3, iv p4, iv ca, iv cb, iv cc, iv cd_, iv (95 : Int32), iv sel, .unset, .unset] [(.int (95 : Int32)), (.int (15 : Int32)), (.ref b1085), (.ref b1085), (.ref b1078), (.ref b1078)])) rfl rfl (hb hby at_839)
  rw [show nar .char (95 : Int32) = (95 : Int32) from (by decide : nar .char (95 : Int32) = (95 : Int32))] at W1212
  have sf1214 : Safe Z consts_1 s.vm h1204 b1085 := (Safe.wr W1204 sf1206 R1197.1 sf1206)
  have R1213 : CHr Z consts_1 s.vm h0 s.vm h1212 := R1205.trans (CHr.wr W1212 sf1214 R1205.1)
  have O1215 := O1207.wr W1212 ge1093
  have y1216 : Arv Z h1212 b1085 k1085 .char (65 : Int32) (Ls1209.set 15 (.int (95 : Int32))) (.int (0 : Int32)) := Arv.set Ar1212 q1212 S1212 M1212 H1212 G1212 (own_ft_char (z := (95 : Int32)) (by decide : nar .char (95 : Int32) = (95 : Int32))) W1212 15 rfl (by rw [lLs1209]; decide)
  obtain ⟨Ls1217, hLs1217⟩ : ∃ z : List Value, z = (Ls1209.set 15 (.int (95 : Int32))) := ⟨_, rfl⟩
  rw [← hLs1217] at y1216
  have lLs1217 : Ls1217.length = 65 := by rw [hLs1217, List.length_set, lLs1209]
  have N1212 := Fr.snoc X1212 N1204 ge1093
  have g1218 : Go p e below T1212 (mkF m 840 #[iv p0, iv p1, iv p2, iv p3, iv p4, iv ca, iv cb, iv cc, iv cd_, iv (95 : Int32), iv sel, .unset, .unset] [(.ref b1085), (.ref b1078), (.ref b1078)]) A0 := fun t kont => g1211 t (st1212 t kont)
  have g1219 : Go p e below T1212 (mkF m 845 #[iv p0, iv p1, iv p2, iv p3, iv p4, iv ca, iv cb, iv cc, iv cd_, iv (95 : Int32), iv sel, .unset, .unset] [(.int (95 : Int32)), (.int (16 : Int32)), (.ref b1085), (.ref b1085), (.ref b1078), (.ref b1078)]) A0 := by
    intro t kont
    refine g1218 t ?_
    refine XS.dup X1212.here hx rfl (hb hby at_840) rfl rfl ?_
    refine XS.bipush X1212.here hx rfl (hb hby at_841) ?_
    refine XS.iload X1212.here hx rfl (hb hby at_843) rfl ?_
    exact kont
  have zz1220 := y1216
  obtain ⟨cl1220, Ar1220, q1220, S1220, M1220, H1220, G1220⟩ := zz1220
  have in1220 : ¬ ((16 : Int32) < 0 ∨ cl1220.slots.size ≤ ((16 : Int32)).toNatClampNeg) := inb_of S1220 ⟨by decide, by decide⟩
  obtain ⟨T1220, h1220, X1220, e1220, W1220, st1220⟩ := stC X1212 hx hZ e1212 Ar1220 (j := (16 : Int32)) in1220 (g := (mkF m 845 #[iv p0, iv p1, iv p2, iv p3, iv p4, iv ca, iv cb, iv cc, iv cd_, iv (95 : Int32), iv sel, .unset, .unset] [(.int (95 : Int32)), (.int (16 : Int32)), (.ref b1085), (.ref b1085), (.ref b1078), (.ref b1078)])) rfl rfl (hb hby at_845)
  rw [show nar .char (95 : Int32) = (95 : Int32) from (by decide : nar .char (95 : Int32) = (95 : Int32))] at W1220
  have sf1222 : Safe Z consts_1 s.vm h1212 b1085 := (Safe.wr W1212 sf1214 R1205.1 sf1214)
  have R1221 : CHr Z consts_1 s.vm h0 s.vm h1220 := R1213.trans (CHr.wr W1220 sf1222 R1213.1)
  have O1223 := O1215.wr W1220 ge1093
  have y1224 : Arv Z h1220 b1085 k1085 .char (65 : Int32) (Ls1217.set 16 (.int (95 : Int32))) (.int (0 : Int32)) := Arv.set Ar1220 q1220 S1220 M1220 H1220 G1220 (own_ft_char (z := (95 : Int32)) (by decide : nar .char (95 : Int32) = (95 : Int32))) W1220 16 rfl (by rw [lLs1217]; decide)
  obtain ⟨Ls1225, hLs1225⟩ : ∃ z : List Value, z = (Ls1217.set 16 (.int (95 : Int32))) := ⟨_, rfl⟩
  rw [← hLs1225] at y1224
  have lLs1225 : Ls1225.length = 65 := by rw [hLs1225, List.length_set, lLs1217]
  have N1220 := Fr.snoc X1220 N1212 ge1093
  have g1226 : Go p e below T1220 (mkF m 846 #[iv p0, iv p1, iv p2, iv p3, iv p4, iv ca, iv cb, iv cc, iv cd_, iv (95 : Int32), iv sel, .unset, .unset] [(.ref b1085), (.ref b1078), (.ref b1078)]) A0 := fun t kont => g1219 t (st1220 t kont)
  have g1227 : Go p e below T1220 (mkF m 851 #[iv p0, iv p1, iv p2, iv p3, iv p4, iv ca, iv cb, iv cc, iv cd_, iv (95 : Int32), iv sel, .unset, .unset] [(.int (95 : Int32)), (.int (17 : Int32)), (.ref b1085), (.ref b1085), (.ref b1078), (.ref b1078)]) A0 := by
    intro t kont
    refine g1226 t ?_
    refine XS.dup X1220.here hx rfl (hb hby at_846) rfl rfl ?_
    refine XS.bipush X1220.here hx rfl (hb hby at_847) ?_
    refine XS.iload X1220.here hx rfl (hb hby at_849) rfl ?_
    exact kont
  have zz1228 := y1224
  obtain ⟨cl1228, Ar1228, q1228, S1228, M1228, H1228, G1228⟩ := zz1228
  have in1228 : ¬ ((17 : Int32) < 0 ∨ cl1228.slots.size ≤ ((17 : Int32)).toNatClampNeg) := inb_of S1228 ⟨by decide, by decide⟩
  obtain ⟨T1228, h1228, X1228, e1228, W1228, st1228⟩ := stC X1220 hx hZ e1220 Ar1228 (j := (17 : Int32)) in1228 (g := (mkF m 851 #[iv p0, iv p1, iv p2, iv p3, iv p4, iv ca, iv cb, iv cc, iv cd_, iv (95 : Int32), iv sel, .unset, .unset] [(.int (95 : Int32)), (.int (17 : Int32)), (.ref b1085), (.ref b1085), (.ref b1078), (.ref b1078)])) rfl rfl (hb hby at_851)
  rw [show nar .char (95 : Int32) = (95 : Int32) from (by decide : nar .char (95 : Int32) = (95 : Int32))] at W1228
  have sf1230 : Safe Z consts_1 s.vm h1220 b1085 := (Safe.wr W1220 sf1222 R1213.1 sf1222)
  have R1229 : CHr Z consts_1 s.vm h0 s.vm h1228 := R1221.trans (CHr.wr W1228 sf1230 R1221.1)
  have O1231 := O1223.wr W1228 ge1093
  have y1232 : Arv Z h1228 b1085 k1085 .char (65 : Int32) (Ls1225.set 17 (.int (95 : Int32))) (.int (0 : Int32)) := Arv.set Ar1228 q1228 S1228 M1228 H1228 G1228 (own_ft_char (z := (95 : Int32)) (by decide : nar .char (95 : Int32) = (95 : Int32))) W1228 17 rfl (by rw [lLs1225]; decide)
  obtain ⟨Ls1233, hLs1233⟩ : ∃ z : List Value, z = (Ls1225.set 17 (.int (95 : Int32))) := ⟨_, rfl⟩
  rw [← hLs1233] at y1232
  have lLs1233 : Ls1233.length = 65 := by rw [hLs1233, List.length_set, lLs1225]
  have N1228 := Fr.snoc X1228 N1220 ge1093
  have g1234 : Go p e below T1228 (mkF m 852 #[iv p0, iv p1, iv p2, iv p3, iv p4, iv ca, iv cb, iv cc, iv cd_, iv (95 : Int32), iv sel, .unset, .unset] [(.ref b1085), (.ref b1078), (.ref b1078)]) A0 := fun t kont => g1227 t (st1228 t kont)
  have g1235 : Go p e below T1228 (mkF m 857 #[iv p0, iv p1, iv p2, iv p3, iv p4, iv ca, iv cb, iv cc, iv cd_, iv (95 : Int32), iv sel, .unset, .unset] [(.int (95 : Int32)), (.int (18 : Int32)), (.ref b1085), (.ref b1085), (.ref b1078), (.ref b1078)]) A0 := by
    intro t kont
    refine g1234 t ?_
    refine XS.dup X1228.here hx rfl (hb hby at_852) rfl rfl ?_
    refine XS.bipush X1228.here hx rfl (hb hby at_853) ?_
    refine XS.iload X1228.here hx rfl (hb hby at_855) rfl ?_
    exact kont
  have zz1236 := y1232
  obtain ⟨cl1236, Ar1236, q1236, S1236, M1236, H1236, G1236⟩ := zz1236
  have in1236 : ¬ ((18 : Int32) < 0 ∨ cl1236.slots.size ≤ ((18 : Int32)).toNatClampNeg) := inb_of S1236 ⟨by decide, by decide⟩
  obtain ⟨T1236, h1236, X1236, e1236, W1236, st1236⟩ := stC X1228 hx hZ e1228 Ar1236 (j := (18 : Int32)) in1236 (g := (mkF m 857 #[iv p0, iv p1, iv p2, iv p3, iv p4, iv ca, iv cb, iv cc, iv cd_, iv (95 : Int32), iv sel, .unset, .unset] [(.int (95 : Int32)), (.int (18 : Int32)), (.ref b1085), (.ref b1085), (.ref b1078), (.ref b1078)])) rfl rfl (hb hby at_857)
  rw [show nar .char (95 : Int32) = (95 : Int32) from (by decide : nar .char (95 : Int32) = (95 : Int32))] at W1236
  have sf1238 : Safe Z consts_1 s.vm h1228 b1085 := (Safe.wr W1228 sf1230 R1221.1 sf1230)
  have R1237 : CHr Z consts_1 s.vm h0 s.vm h1236 := R1229.trans (CHr.wr W1236 sf1238 R1229.1)
  have O1239 := O1231.wr W1236 ge1093
  have y1240 : Arv Z h1236 b1085 k1085 .char (65 : Int32) (Ls1233.set 18 (.int (95 : Int32))) (.int (0 : Int32)) := Arv.set Ar1236 q1236 S1236 M1236 H1236 G1236 (own_ft_char (z := (95 : Int32)) (by decide : nar .char (95 : Int32) = (95 : Int32))) W1236 18 rfl (by rw [lLs1233]; decide)
  obtain ⟨Ls1241, hLs1241⟩ : ∃ z : List Value, z = (Ls1233.set 18 (.int (95 : Int32))) := ⟨_, rfl⟩
  rw [← hLs1241] at y1240
  have lLs1241 : Ls1241.length = 65 := by rw [hLs1241, List.length_set, lLs1233]
  have N1236 := Fr.snoc X1236 N1228 ge1093
  have g1242 : Go p e below T1236 (mkF m 858 #[iv p0, iv p1, iv p2, iv p3, iv p4, iv ca, iv cb, iv cc, iv cd_, iv (95 : Int32), iv sel, .unset, .unset] [(.ref b1085), (.ref b1078), (.ref b1078)]) A0 := fun t kont => g1235 t (st1236 t kont)
  have g1243 : Go p e below T1236 (mkF m 863 #[iv p0, iv p1, iv p2, iv p3, iv p4, iv ca, iv cb, iv cc, iv cd_, iv (95 : Int32), iv sel, .unset, .unset] [(.int (95 : Int32)), (.int (19 : Int32)), (.ref b1085), (.ref b1085), (.ref b1078), (.ref b1078)]) A0 := by
    intro t kont
    refine g1242 t ?_
    refine XS.dup X1236.here hx rfl (hb hby at_858) rfl rfl ?_
    refine XS.bipush X1236.here hx rfl (hb hby at_859) ?_
    refine XS.iload X1236.here hx rfl (hb hby at_861) rfl ?_
    exact kont
  have zz1244 := y1240
  obtain ⟨cl1244, Ar1244, q1244, S1244, M1244, H1244, G1244⟩ := zz1244
  have in1244 : ¬ ((19 : Int32) < 0 ∨ cl1244.slots.size ≤ ((19 : Int32)).toNatClampNeg) := inb_of S1244 ⟨by decide, by decide⟩
  obtain ⟨T1244, h1244, X1244, e1244, W1244, st1244⟩ := stC X1236 hx hZ e1236 Ar1244 (j := (19 : Int32)) in1244 (g := (mkF m 863 #[iv p0, iv p1, iv p2, iv p3, iv p4, iv ca, iv cb, iv cc, iv cd_, iv (95 : Int32), iv sel, .unset, .unset] [(.int (95 : Int32)), (.int (19 : Int32)), (.ref b1085), (.ref b1085), (.ref b1078), (.ref b1078)])) rfl rfl (hb hby at_863)
  rw [show nar .char (95 : Int32) = (95 : Int32) from (by decide : nar .char (95 : Int32) = (95 : Int32))] at W1244
  have sf1246 : Safe Z consts_1 s.vm h1236 b1085 := (Safe.wr W1236 sf1238 R1229.1 sf1238)
  have R1245 : CHr Z consts_1 s.vm h0 s.vm h1244 := R1237.trans (CHr.wr W1244 sf1246 R1237.1)
  have O1247 := O1239.wr W1244 ge1093
  have y1248 : Arv Z h1244 b1085 k1085 .char (65 : Int32) (Ls1241.set 19 (.int (95 : Int32))) (.int (0 : Int32)) := Arv.set Ar1244 q1244 S1244 M1244 H1244 G1244 (own_ft_char (z := (95 : Int32)) (by decide : nar .char (95 : Int32) = (95 : Int32))) W1244 19 rfl (by rw [lLs1241]; decide)
  obtain ⟨Ls1249, hLs1249⟩ : ∃ z : List Value, z = (Ls1241.set 19 (.int (95 : Int32))) := ⟨_, rfl⟩
  rw [← hLs1249] at y1248
  have lLs1249 : Ls1249.length = 65 := by rw [hLs1249, List.length_set, lLs1241]
  have N1244 := Fr.snoc X1244 N1236 ge1093
  have g1250 : Go p e below T1244 (mkF m 864 #[iv p0, iv p1, iv p2, iv p3, iv p4, iv ca, iv cb, iv cc, iv cd_, iv (95 : Int32), iv sel, .unset, .unset] [(.ref b1085), (.ref b1078), (.ref b1078)]) A0 := fun t kont => g1243 t (st1244 t kont)
  have g1251 : Go p e below T1244 (mkF m 869 #[iv p0, iv p1, iv p2, iv p3, iv p4, iv ca, iv cb, iv cc, iv cd_, iv (95 : Int32), iv sel, .unset, .unset] [(.int (95 : Int32)), (.int (20 : Int32)), (.ref b1085), (.ref b1085), (.ref b1078), (.ref b1078)]) A0 := by
    intro t kont
    refine g1250 t ?_
    refine XS.dup X1244.here hx rfl (hb hby at_864) rfl rfl ?_
    refine XS.bipush X1244.here hx rfl (hb hby at_865) ?_
    refine XS.iload X1244.here hx rfl (hb hby at_867) rfl ?_
    exact kont
  have zz1252 := y1248
  obtain ⟨cl1252, Ar1252, q1252, S1252, M1252, H1252, G1252⟩ := zz1252
  have in1252 : ¬ ((20 : Int32) < 0 ∨ cl1252.slots.size ≤ ((20 : Int32)).toNatClampNeg) := inb_of S1252 ⟨by decide, by decide⟩
  obtain ⟨T1252, h1252, X1252, e1252, W1252, st1252⟩ := stC X1244 hx hZ e1244 Ar1252 (j := (20 : Int32)) in1252 (g := (mkF m 869 #[iv p0, iv p1, iv p2, iv p3, iv p4, iv ca, iv cb, iv cc, iv cd_, iv (95 : Int32), iv sel, .unset, .unset] [(.int (95 : Int32)), (.int (20 : Int32)), (.ref b1085), (.ref b1085), (.ref b1078), (.ref b1078)])) rfl rfl (hb hby at_869)
  rw [show nar .char (95 : Int32) = (95 : Int32) from (by decide : nar .char (95 : Int32) = (95 : Int32))] at W1252
  have sf1254 : Safe Z consts_1 s.vm h1244 b1085 := (Safe.wr W1244 sf1246 R1237.1 sf1246)
  have R1253 : CHr Z consts_1 s.vm h0 s.vm h1252 := R1245.trans (CHr.wr W1252 sf1254 R1245.1)
  have O1255 := O1247.wr W1252 ge1093
  have y1256 : Arv Z h1252 b1085 k1085 .char (65 : Int32) (Ls1249.set 20 (.int (95 : Int32))) (.int (0 : Int32)) := Arv.set Ar1252 q1252 S1252 M1252 H1252 G1252 (own_ft_char (z := (95 : Int32)) (by decide : nar .char (95 : Int32) = (95 : Int32))) W1252 20 rfl (by rw [lLs1249]; decide)
  obtain ⟨Ls1257, hLs1257⟩ : ∃ z : List Value, z = (Ls1249.set 20 (.int (95 : Int32))) := ⟨_, rfl⟩
  rw [← hLs1257] at y1256
  have lLs1257 : Ls1257.length = 65 := by rw [hLs1257, List.length_set, lLs1249]
  have N1252 := Fr.snoc X1252 N1244 ge1093
  have g1258 : Go p e below T1252 (mkF m 870 #[iv p0, iv p1, iv p2, iv p3, iv p4, iv ca, iv cb, iv cc, iv cd_, iv (95 : Int32), iv sel, .unset, .unset] [(.ref b1085), (.ref b1078), (.ref b1078)]) A0 := fun t kont => g1251 t (st1252 t kont)
  have g1259 : Go p e below T1252 (mkF m 875 #[iv p0, iv p1, iv p2, iv p3, iv p4, iv ca, iv cb, iv cc, iv cd_, iv (95 : Int32), iv sel, .unset, .unset] [(.int (95 : Int32)), (.int (21 : Int32)), (.ref b1085), (.ref b1085), (.ref b1078), (.ref b1078)]) A0 := by
    intro t kont
    refine g1258 t ?_
    refine XS.dup X1252.here hx rfl (hb hby at_870) rfl rfl ?_
    refine XS.bipush X1252.here hx rfl (hb hby at_871) ?_
    refine XS.iload X1252.here hx rfl (hb hby at_873) rfl ?_
    exact kont
  have zz1260 := y1256
  obtain ⟨cl1260, Ar1260, q1260, S1260, M1260, H1260, G1260⟩ := zz1260
  have in1260 : ¬ ((21 : Int32) < 0 ∨ cl1260.slots.size ≤ ((21 : Int32)).toNatClampNeg) := inb_of S1260 ⟨by decide, by decide⟩
  obtain ⟨T1260, h1260, X1260, e1260, W1260, st1260⟩ := stC X1252 hx hZ e1252 Ar1260 (j := (21 : Int32)) in1260 (g := (mkF m 875 #[iv p0, iv p1, iv p2, iv p3, iv p4, iv ca, iv cb, iv cc, iv cd_, iv (95 : Int32), iv sel, .unset, .unset] [(.int (95 : Int32)), (.int (21 : Int32)), (.ref b1085), (.ref b1085), (.ref b1078), (.ref b1078)])) rfl rfl (hb hby at_875)
  rw [show nar .char (95 : Int32) = (95 : Int32) from (by decide : nar .char (95 : Int32) = (95 : Int32))] at W1260
  have sf1262 : Safe Z consts_1 s.vm h1252 b1085 := (Safe.wr W1252 sf1254 R1245.1 sf1254)
  have R1261 : CHr Z consts_1 s.vm h0 s.vm h1260 := R1253.trans (CHr.wr W1260 sf1262 R1253.1)
  have O1263 := O1255.wr W1260 ge1093
  have y1264 : Arv Z h1260 b1085 k1085 .char (65 : Int32) (Ls1257.set 21 (.int (95 : Int32))) (.int (0 : Int32)) := Arv.set Ar1260 q1260 S1260 M1260 H1260 G1260 (own_ft_char (z := (95 : Int32)) (by decide : nar .char (95 : Int32) = (95 : Int32))) W1260 21 rfl (by rw [lLs1257]; decide)
  obtain ⟨Ls1265, hLs1265⟩ : ∃ z : List Value, z = (Ls1257.set 21 (.int (95 : Int32))) := ⟨_, rfl⟩
  rw [← hLs1265] at y1264
  have lLs1265 : Ls1265.length = 65 := by rw [hLs1265, List.length_set, lLs1257]
  have N1260 := Fr.snoc X1260 N1252 ge1093
  have g1266 : Go p e below T1260 (mkF m 876 #[iv p0, iv p1, iv p2, iv p3, iv p4, iv ca, iv cb, iv cc, iv cd_, iv (95 : Int32), iv sel, .unset, .unset] [(.ref b1085), (.ref b1078), (.ref b1078)]) A0 := fun t kont => g1259 t (st1260 t kont)
  have g1267 : Go p e below T1260 (mkF m 881 #[iv p0, iv p1, iv p2, iv p3, iv p4, iv ca, iv cb, iv cc, iv cd_, iv (95 : Int32), iv sel, .unset, .unset] [(.int (95 : Int32)), (.int (22 : Int32)), (.ref b1085), (.ref b1085), (.ref b1078), (.ref b1078)]) A0 := by
    intro t kont
    refine g1266 t ?_
    refine XS.dup X1260.here hx rfl (hb hby at_876) rfl rfl ?_
    refine XS.bipush X1260.here hx rfl (hb hby at_877) ?_
    refine XS.iload X1260.here hx rfl (hb hby at_879) rfl ?_
    exact kont
  have zz1268 := y1264
  obtain ⟨cl1268, Ar1268, q1268, S1268, M1268, H1268, G1268⟩ := zz1268
  have in1268 : ¬ ((22 : Int32) < 0 ∨ cl1268.slots.size ≤ ((22 : Int32)).toNatClampNeg) := inb_of S1268 ⟨by decide, by decide⟩
  obtain ⟨T1268, h1268, X1268, e1268, W1268, st1268⟩ := stC X1260 hx hZ e1260 Ar1268 (j := (22 : Int32)) in1268 (g := (mkF m 881 #[iv p0, iv p1, iv p2, iv p3, iv p4, iv ca, iv cb, iv cc, iv cd_, iv (95 : Int32), iv sel, .unset, .unset] [(.int (95 : Int32)), (.int (22 : Int32)), (.ref b1085), (.ref b1085), (.ref b1078), (.ref b1078)])) rfl rfl (hb hby at_881)
  rw [show nar .char (95 : Int32) = (95 : Int32) from (by decide : nar .char (95 : Int32) = (95 : Int32))] at W1268
  have sf1270 : Safe Z consts_1 s.vm h1260 b1085 := (Safe.wr W1260 sf1262 R1253.1 sf1262)
  have R1269 : CHr Z consts_1 s.vm h0 s.vm h1268 := R1261.trans (CHr.wr W1268 sf1270 R1261.1)
  have O1271 := O1263.wr W1268 ge1093
  have y1272 : Arv Z h1268 b1085 k1085 .char (65 : Int32) (Ls1265.set 22 (.int (95 : Int32))) (.int (0 : Int32)) := Arv.set Ar1268 q1268 S1268 M1268 H1268 G1268 (own_ft_char (z := (95 : Int32)) (by decide : nar .char (95 : Int32) = (95 : Int32))) W1268 22 rfl (by rw [lLs1265]; decide)
  obtain ⟨Ls1273, hLs1273⟩ : ∃ z : List Value, z = (Ls1265.set 22 (.int (95 : Int32))) := ⟨_, rfl⟩
  rw [← hLs1273] at y1272
  have lLs1273 : Ls1273.length = 65 := by rw [hLs1273, List.length_set, lLs1265]
  have N1268 := Fr.snoc X1268 N1260 ge1093
  have g1274 : Go p e below T1268 (mkF m 882 #[iv p0, iv p1, iv p2, iv p3, iv p4, iv ca, iv cb, iv cc, iv cd_, iv (95 : Int32), iv sel, .unset, .unset] [(.ref b1085), (.ref b1078), (.ref b1078)]) A0 := fun t kont => g1267 t (st1268 t kont)
  have g1275 : Go p e below T1268 (mkF m 887 #[iv p0, iv p1, iv p2, iv p3, iv p4, iv ca, iv cb, iv cc, iv cd_, iv (95 : Int32), iv sel, .unset, .unset] [(.int (95 : Int32)), (.int (23 : Int32)), (.ref b1085), (.ref b1085), (.ref b1078), (.ref b1078)]) A0 := by
    intro t kont
    refine g1274 t ?_
    refine XS.dup X1268.here hx rfl (hb hby at_882) rfl rfl ?_
    refine XS.bipush X1268.here hx rfl (hb hby at_883) ?_
    refine XS.iload X1268.here hx rfl (hb hby at_885) rfl ?_
    exact kont
  have zz1276 := y1272
  obtain ⟨cl1276, Ar1276, q1276, S1276, M1276, H1276, G1276⟩ := zz1276
  have in1276 : ¬ ((23 : Int32) < 0 ∨ cl1276.slots.size ≤ ((23 : Int32)).toNatClampNeg) := inb_of S1276 ⟨by decide, by decide⟩
  obtain ⟨T1276, h1276, X1276, e1276, W1276, st1276⟩ := stC X1268 hx hZ e1268 Ar1276 (j := (23 : Int32)) in1276 (g := (mkF m 887 #[iv p0, iv p1, iv p2, iv p3, iv p4, iv ca, iv cb, iv cc, iv cd_, iv (95 : Int32), iv sel, .unset, .unset] [(.int (95 : Int32)), (.int (23 : Int32)), (.ref b1085), (.ref b1085), (.ref b1078), (.ref b1078)])) rfl rfl (hb hby at_887)
  rw [show nar .char (95 : Int32) = (95 : Int32) from (by decide : nar .char (95 : Int32) = (95 : Int32))] at W1276
  have sf1278 : Safe Z consts_1 s.vm h1268 b1085 := (Safe.wr W1268 sf1270 R1261.1 sf1270)
  have R1277 : CHr Z consts_1 s.vm h0 s.vm h1276 := R1269.trans (CHr.wr W1276 sf1278 R1269.1)
  have O1279 := O1271.wr W1276 ge1093
  have y1280 : Arv Z h1276 b1085 k1085 .char (65 : Int32) (Ls1273.set 23 (.int (95 : Int32))) (.int (0 : Int32)) := Arv.set Ar1276 q1276 S1276 M1276 H1276 G1276 (own_ft_char (z := (95 : Int32)) (by decide : nar .char (95 : Int32) = (95 : Int32))) W1276 23 rfl (by rw [lLs1273]; decide)
  obtain ⟨Ls1281, hLs1281⟩ : ∃ z : List Value, z = (Ls1273.set 23 (.int (95 : Int32))) := ⟨_, rfl⟩
  rw [← hLs1281] at y1280
  have lLs1281 : Ls1281.length = 65 := by rw [hLs1281, List.length_set, lLs1273]
  have N1276 := Fr.snoc X1276 N1268 ge1093
  have g1282 : Go p e below T1276 (mkF m 888 #[iv p0, iv p1, iv p2, iv p3, iv p4, iv ca, iv cb, iv cc, iv cd_, iv (95 : Int32), iv sel, .unset, .unset] [(.ref b1085), (.ref b1078), (.ref b1078)]) A0 := fun t kont => g1275 t (st1276 t kont)
  have g1283 : Go p e below T1276 (mkF m 893 #[iv p0, iv p1, iv p2, iv p3, iv p4, iv ca, iv cb, iv cc, iv cd_, iv (95 : Int32), iv sel, .unset, .unset] [(.int (95 : Int32)), (.int (24 : Int32)), (.ref b1085), (.ref b1085), (.ref b1078), (.ref b1078)]) A0 := by
    intro t kont
    refine g1282 t ?_
    refine XS.dup X1276.here hx rfl (hb hby at_888) rfl rfl ?_
    refine XS.bipush X1276.here hx rfl (hb hby at_889) ?_
    refine XS.iload X1276.here hx rfl (hb hby at_891) rfl ?_
    exact kont
  have zz1284 := y1280
  obtain ⟨cl1284, Ar1284, q1284, S1284, M1284, H1284, G1284⟩ := zz1284
  have in1284 : ¬ ((24 : Int32) < 0 ∨ cl1284.slots.size ≤ ((24 : Int32)).toNatClampNeg) := inb_of S1284 ⟨by decide, by decide⟩
  obtain ⟨T1284, h1284, X1284, e1284, W1284, st1284⟩ := stC X1276 hx hZ e1276 Ar1284 (j := (24 : Int32)) in1284 (g := (mkF m 893 #[iv p0, iv p1, iv p2, iv p3, iv p4, iv ca, iv cb, iv cc, iv cd_, iv (95 : Int32), iv sel, .unset, .unset] [(.int (95 : Int32)), (.int (24 : Int32)), (.ref b1085), (.ref b1085), (.ref b1078), (.ref b1078)])) rfl rfl (hb hby at_893)
  rw [show nar .char (95 : Int32) = (95 : Int32) from (by decide : nar .char (95 : Int32) = (95 : Int32))] at W1284
  have sf1286 : Safe Z consts_1 s.vm h1276 b1085 := (Safe.wr W1276 sf1278 R1269.1 sf1278)
  have R1285 : CHr Z consts_1 s.vm h0 s.vm h1284 := R1277.trans (CHr.wr W1284 sf1286 R1277.1)
  have O1287 := O1279.wr W1284 ge1093
  have y1288 : Arv Z h1284 b1085 k1085 .char (65 : Int32) (Ls1281.set 24 (.int (95 : Int32))) (.int (0 : Int32)) := Arv.set Ar1284 q1284 S1284 M1284 H1284 G1284 (own_ft_char (z := (95 : Int32)) (by decide : nar .char (95 : Int32) = (95 : Int32))) W1284 24 rfl (by rw [lLs1281]; decide)
  obtain ⟨Ls1289, hLs1289⟩ : ∃ z : List Value, z = (Ls1281.set 24 (.int (95 : Int32))) := ⟨_, rfl⟩
  rw [← hLs1289] at y1288
  have lLs1289 : Ls1289.length = 65 := by rw [hLs1289, List.length_set, lLs1281]
  have N1284 := Fr.snoc X1284 N1276 ge1093
  have g1290 : Go p e below T1284 (mkF m 894 #[iv p0, iv p1, iv p2, iv p3, iv p4, iv ca, iv cb, iv cc, iv cd_, iv (95 : Int32), iv sel, .unset, .unset] [(.ref b1085), (.ref b1078), (.ref b1078)]) A0 := fun t kont => g1283 t (st1284 t kont)
  have g1291 : Go p e below T1284 (mkF m 899 #[iv p0, iv p1, iv p2, iv p3, iv p4, iv ca, iv cb, iv cc, iv cd_, iv (95 : Int32), iv sel, .unset, .unset] [(.int (95 : Int32)), (.int (25 : Int32)), (.ref b1085), (.ref b1085), (.ref b1078), (.ref b1078)]) A0 := by
    intro t kont
    refine g1290 t ?_
    refine XS.dup X1284.here hx rfl (hb hby at_894) rfl rfl ?_
    refine XS.bipush X1284.here hx rfl (hb hby at_895) ?_
    refine XS.iload X1284.here hx rfl (hb hby at_897) rfl ?_
    exact kont
  have zz1292 := y1288
  obtain ⟨cl1292, Ar1292, q1292, S1292, M1292, H1292, G1292⟩ := zz1292
  have in1292 : ¬ ((25 : Int32) < 0 ∨ cl1292.slots.size ≤ ((25 : Int32)).toNatClampNeg) := inb_of S1292 ⟨by decide, by decide⟩
  obtain ⟨T1292, h1292, X1292, e1292, W1292, st1292⟩ := stC X1284 hx hZ e1284 Ar1292 (j := (25 : Int32)) in1292 (g := (mkF m 899 #[iv p0, iv p1, iv p2, iv p3, iv p4, iv ca, iv cb, iv cc, iv cd_, iv (95 : Int32), iv sel, .unset, .unset] [(.int (95 : Int32)), (.int (25 : Int32)), (.ref b1085), (.ref b1085), (.ref b1078), (.ref b1078)])) rfl rfl (hb hby at_899)
  rw [show nar .char (95 : Int32) = (95 : Int32) from (by decide : nar .char (95 : Int32) = (95 : Int32))] at W1292
  have sf1294 : Safe Z consts_1 s.vm h1284 b1085 := (Safe.wr W1284 sf1286 R1277.1 sf1286)
  have R1293 : CHr Z consts_1 s.vm h0 s.vm h1292 := R1285.trans (CHr.wr W1292 sf1294 R1285.1)
  have O1295 := O1287.wr W1292 ge1093
  have y1296 : Arv Z h1292 b1085 k1085 .char (65 : Int32) (Ls1289.set 25 (.int (95 : Int32))) (.int (0 : Int32)) := Arv.set Ar1292 q1292 S1292 M1292 H1292 G1292 (own_ft_char (z := (95 : Int32)) (by decide : nar .char (95 : Int32) = (95 : Int32))) W1292 25 rfl (by rw [lLs1289]; decide)
  obtain ⟨Ls1297, hLs1297⟩ : ∃ z : List Value, z = (Ls1289.set 25 (.int (95 : Int32))) := ⟨_, rfl⟩
  rw [← hLs1297] at y1296
  have lLs1297 : Ls1297.length = 65 := by rw [hLs1297, List.length_set, lLs1289]
  have N1292 := Fr.snoc X1292 N1284 ge1093
  have g1298 : Go p e below T1292 (mkF m 900 #[iv p0, iv p1, iv p2, iv p3, iv p4, iv ca, iv cb, iv cc, iv cd_, iv (95 : Int32), iv sel, .unset, .unset] [(.ref b1085), (.ref b1078), (.ref b1078)]) A0 := fun t kont => g1291 t (st1292 t kont)
  have g1299 : Go p e below T1292 (mkF m 905 #[iv p0, iv p1, iv p2, iv p3, iv p4, iv ca, iv cb, iv cc, iv cd_, iv (95 : Int32), iv sel, .unset, .unset] [(.int (95 : Int32)), (.int (26 : Int32)), (.ref b1085), (.ref b1085), (.ref b1078), (.ref b1078)]) A0 := by
    intro t kont
    refine g1298 t ?_
    refine XS.dup X1292.here hx rfl (hb hby at_900) rfl rfl ?_
    refine XS.bipush X1292.here hx rfl (hb hby at_901) ?_
    refine XS.iload X1292.here hx rfl (hb hby at_903) rfl ?_
    exact kont
  have zz1300 := y1296
  obtain ⟨cl1300, Ar1300, q1300, S1300, M1300, H1300, G1300⟩ := zz1300
  have in1300 : ¬ ((26 : Int32) < 0 ∨ cl1300.slots.size ≤ ((26 : Int32)).toNatClampNeg) := inb_of S1300 ⟨by decide, by decide⟩
  obtain ⟨T1300, h1300, X1300, e1300, W1300, st1300⟩ := stC X1292 hx hZ e1292 Ar1300 (j := (26 : Int32)) in1300 (g := (mkF m 905 #[iv p0, iv p1, iv p2, iv p3, iv p4, iv ca, iv cb, iv cc, iv cd_, iv (95 : Int32), iv sel, .unset, .unset] [(.int (95 : Int32)), (.int (26 : Int32)), (.ref b1085), (.ref b1085), (.ref b1078), (.ref b1078)])) rfl rfl (hb hby at_905)
  rw [show nar .char (95 : Int32) = (95 : Int32) from (by decide : nar .char (95 : Int32) = (95 : Int32))] at W1300
  have sf1302 : Safe Z consts_1 s.vm h1292 b1085 := (Safe.wr W1292 sf1294 R1285.1 sf1294)
  have R1301 : CHr Z consts_1 s.vm h0 s.vm h1300 := R1293.trans (CHr.wr W1300 sf1302 R1293.1)
  have O1303 := O1295.wr W1300 ge1093
  have y1304 : Arv Z h1300 b1085 k1085 .char (65 : Int32) (Ls1297.set 26 (.int (95 : Int32))) (.int (0 : Int32)) := Arv.set Ar1300 q1300 S1300 M1300 H1300 G1300 (own_ft_char (z := (95 : Int32)) (by decide : nar .char (95 : Int32) = (95 : Int32))) W1300 26 rfl (by rw [lLs1297]; decide)
  obtain ⟨Ls1305, hLs1305⟩ : ∃ z : List Value, z = (Ls1297.set 26 (.int (95 : Int32))) := ⟨_, rfl⟩
  rw [← hLs1305] at y1304
  have lLs1305 : Ls1305.length = 65 := by rw [hLs1305, List.length_set, lLs1297]
  have N1300 := Fr.snoc X1300 N1292 ge1093
  have g1306 : Go p e below T1300 (mkF m 906 #[iv p0, iv p1, iv p2, iv p3, iv p4, iv ca, iv cb, iv cc, iv cd_, iv (95 : Int32), iv sel, .unset, .unset] [(.ref b1085), (.ref b1078), (.ref b1078)]) A0 := fun t kont => g1299 t (st1300 t kont)
  have g1307 : Go p e below T1300 (mkF m 911 #[iv p0, iv p1, iv p2, iv p3, iv p4, iv ca, iv cb, iv cc, iv cd_, iv (95 : Int32), iv sel, .unset, .unset] [(.int (95 : Int32)), (.int (27 : Int32)), (.ref b1085), (.ref b1085), (.ref b1078), (.ref b1078)]) A0 := by
    intro t kont
    refine g1306 t ?_
    refine XS.dup X1300.here hx rfl (hb hby at_906) rfl rfl ?_
    refine XS.bipush X1300.here hx rfl (hb hby at_907) ?_
    refine XS.iload X1300.here hx rfl (hb hby at_909) rfl ?_
    exact kont
  have zz1308 := y1304
  obtain ⟨cl1308, Ar1308, q1308, S1308, M1308, H1308, G1308⟩ := zz1308
  have in1308 : ¬ ((27 : Int32) < 0 ∨ cl1308.slots.size ≤ ((27 : Int32)).toNatClampNeg) := inb_of S1308 ⟨by decide, by decide⟩
  obtain ⟨T1308, h1308, X1308, e1308, W1308, st1308⟩ := stC X1300 hx hZ e1300 Ar1308 (j := (27 : Int32)) in1308 (g := (mkF m 911 #[iv p0, iv p1, iv p2, iv p3, iv p4, iv ca, iv cb, iv cc, iv cd_, iv (95 : Int32), iv sel, .unset, .unset] [(.int (95 : Int32)), (.int (27 : Int32)), (.ref b1085), (.ref b1085), (.ref b1078), (.ref b1078)])) rfl rfl (hb hby at_911)
  rw [show nar .char (95 : Int32) = (95 : Int32) from (by decide : nar .char (95 : Int32) = (95 : Int32))] at W1308
  have sf1310 : Safe Z consts_1 s.vm h1300 b1085 := (Safe.wr W1300 sf1302 R1293.1 sf1302)
  have R1309 : CHr Z consts_1 s.vm h0 s.vm h1308 := R1301.trans (CHr.wr W1308 sf1310 R1301.1)
  have O1311 := O1303.wr W1308 ge1093
  have y1312 : Arv Z h1308 b1085 k1085 .char (65 : Int32) (Ls1305.set 27 (.int (95 : Int32))) (.int (0 : Int32)) := Arv.set Ar1308 q1308 S1308 M1308 H1308 G1308 (own_ft_char (z := (95 : Int32)) (by decide : nar .char (95 : Int32) = (95 : Int32))) W1308 27 rfl (by rw [lLs1305]; decide)
  obtain ⟨Ls1313, hLs1313⟩ : ∃ z : List Value, z = (Ls1305.set 27 (.int (95 : Int32))) := ⟨_, rfl⟩
  rw [← hLs1313] at y1312
  have lLs1313 : Ls1313.length = 65 := by rw [hLs1313, List.length_set, lLs1305]
  have N1308 := Fr.snoc X1308 N1300 ge1093
  have g1314 : Go p e below T1308 (mkF m 912 #[iv p0, iv p1, iv p2, iv p3, iv p4, iv ca, iv cb, iv cc, iv cd_, iv (95 : Int32), iv sel, .unset, .unset] [(.ref b1085), (.ref b1078), (.ref b1078)]) A0 := fun t kont => g1307 t (st1308 t kont)
  have g1315 : Go p e below T1308 (mkF m 917 #[iv p0, iv p1, iv p2, iv p3, iv p4, iv ca, iv cb, iv cc, iv cd_, iv (95 : Int32), iv sel, .unset, .unset] [(.int (95 : Int32)), (.int (28 : Int32)), (.ref b1085), (.ref b1085), (.ref b1078), (.ref b1078)]) A0 := by
    intro t kont
    refine g1314 t ?_
    refine XS.dup X1308.here hx rfl (hb hby at_912) rfl rfl ?_
    refine XS.bipush X1308.here hx rfl (hb hby at_913) ?_
    refine XS.iload X1308.here hx rfl (hb hby at_915) rfl ?_
    exact kont
  have zz1316 := y1312
  obtain ⟨cl1316, Ar1316, q1316, S1316, M1316, H1316, G1316⟩ := zz1316
  have in1316 : ¬ ((28 : Int32) < 0 ∨ cl1316.slots.size ≤ ((28 : Int32)).toNatClampNeg) := inb_of S1316 ⟨by decide, by decide⟩
  obtain ⟨T1316, h1316, X1316, e1316, W1316, st1316⟩ := stC X1308 hx hZ e1308 Ar1316 (j := (28 : Int32)) in1316 (g := (mkF m 917 #[iv p0, iv p1, iv p2, iv p3, iv p4, iv ca, iv cb, iv cc, iv cd_, iv (95 : Int32), iv sel, .unset, .unset] [(.int (95 : Int32)), (.int (28 : Int32)), (.ref b1085), (.ref b1085), (.ref b1078), (.ref b1078)])) rfl rfl (hb hby at_917)
  rw [show nar .char (95 : Int32) = (95 : Int32) from (by decide : nar .char (95 : Int32) = (95 : Int32))] at W1316
  have sf1318 : Safe Z consts_1 s.vm h1308 b1085 := (Safe.wr W1308 sf1310 R1301.1 sf1310)
  have R1317 : CHr Z consts_1 s.vm h0 s.vm h1316 := R1309.trans (CHr.wr W1316 sf1318 R1309.1)
  have O1319 := O1311.wr W1316 ge1093
  have y1320 : Arv Z h1316 b1085 k1085 .char (65 : Int32) (Ls1313.set 28 (.int (95 : Int32))) (.int (0 : Int32)) := Arv.set Ar1316 q1316 S1316 M1316 H1316 G1316 (own_ft_char (z := (95 : Int32)) (by decide : nar .char (95 : Int32) = (95 : Int32))) W1316 28 rfl (by rw [lLs1313]; decide)
  obtain ⟨Ls1321, hLs1321⟩ : ∃ z : List Value, z = (Ls1313.set 28 (.int (95 : Int32))) := ⟨_, rfl⟩
  rw [← hLs1321] at y1320
  have lLs1321 : Ls1321.length = 65 := by rw [hLs1321, List.length_set, lLs1313]
  have N1316 := Fr.snoc X1316 N1308 ge1093
  have g1322 : Go p e below T1316 (mkF m 918 #[iv p0, iv p1, iv p2, iv p3, iv p4, iv ca, iv cb, iv cc, iv cd_, iv (95 : Int32), iv sel, .unset, .unset] [(.ref b1085), (.ref b1078), (.ref b1078)]) A0 := fun t kont => g1315 t (st1316 t kont)
  have g1323 : Go p e below T1316 (mkF m 923 #[iv p0, iv p1, iv p2, iv p3, iv p4, iv ca, iv cb, iv cc, iv cd_, iv (95 : Int32), iv sel, .unset, .unset] [(.int (95 : Int32)), (.int (29 : Int32)), (.ref b1085), (.ref b1085), (.ref b1078), (.ref b1078)]) A0 := by
    intro t kont
    refine g1322 t ?_
    refine XS.dup X1316.here hx rfl (hb hby at_918) rfl rfl ?_
    refine XS.bipush X1316.here hx rfl (hb hby at_919) ?_
    refine XS.iload X1316.here hx rfl (hb hby at_921) rfl ?_
    exact kont
  have zz1324 := y1320
  obtain ⟨cl1324, Ar1324, q1324, S1324, M1324, H1324, G1324⟩ := zz1324
  have in1324 : ¬ ((29 : Int32) < 0 ∨ cl1324.slots.size ≤ ((29 : Int32)).toNatClampNeg) := inb_of S1324 ⟨by decide, by decide⟩
  obtain ⟨T1324, h1324, X1324, e1324, W1324, st1324⟩ := stC X1316 hx hZ e1316 Ar1324 (j := (29 : Int32)) in1324 (g := (mkF m 923 #[iv p0, iv p1, iv p2, iv p3, iv p4, iv ca, iv cb, iv cc, iv cd_, iv (95 : Int32), iv sel, .unset, .unset] [(.int (95 : Int32)), (.int (29 : Int32)), (.ref b1085), (.ref b1085), (.ref b1078), (.ref b1078)])) rfl rfl (hb hby at_923)
  rw [show nar .char (95 : Int32) = (95 : Int32) from (by decide : nar .char (95 : Int32) = (95 : Int32))] at W1324
  have sf1326 : Safe Z consts_1 s.vm h1316 b1085 := (Safe.wr W1316 sf1318 R1309.1 sf1318)
  have R1325 : CHr Z consts_1 s.vm h0 s.vm h1324 := R1317.trans (CHr.wr W1324 sf1326 R1317.1)
  have O1327 := O1319.wr W1324 ge1093
  have y1328 : Arv Z h1324 b1085 k1085 .char (65 : Int32) (Ls1321.set 29 (.int (95 : Int32))) (.int (0 : Int32)) := Arv.set Ar1324 q1324 S1324 M1324 H1324 G1324 (own_ft_char (z := (95 : Int32)) (by decide : nar .char (95 : Int32) = (95 : Int32))) W1324 29 rfl (by rw [lLs1321]; decide)
  obtain ⟨Ls1329, hLs1329⟩ : ∃ z : List Value, z = (Ls1321.set 29 (.int (95 : Int32))) := ⟨_, rfl⟩
  rw [← hLs1329] at y1328
  have lLs1329 : Ls1329.length = 65 := by rw [hLs1329, List.length_set, lLs1321]
  have N1324 := Fr.snoc X1324 N1316 ge1093
  have g1330 : Go p e below T1324 (mkF m 924 #[iv p0, iv p1, iv p2, iv p3, iv p4, iv ca, iv cb, iv cc, iv cd_, iv (95 : Int32), iv sel, .unset, .unset] [(.ref b1085), (.ref b1078), (.ref b1078)]) A0 := fun t kont => g1323 t (st1324 t kont)
  have g1331 : Go p e below T1324 (mkF m 929 #[iv p0, iv p1, iv p2, iv p3, iv p4, iv ca, iv cb, iv cc, iv cd_, iv (95 : Int32), iv sel, .unset, .unset] [(.int (95 : Int32)), (.int (30 : Int32)), (.ref b1085), (.ref b1085), (.ref b1078), (.ref b1078)]) A0 := by
    intro t kont
    refine g1330 t ?_
    refine XS.dup X1324.here hx rfl (hb hby at_924) rfl rfl ?_
    refine XS.bipush X1324.here hx rfl (hb hby at_925) ?_
    refine XS.iload X1324.here hx rfl (hb hby at_927) rfl ?_
    exact kont
  have zz1332 := y1328
  obtain ⟨cl1332, Ar1332, q1332, S1332, M1332, H1332, G1332⟩ := zz1332
  have in1332 : ¬ ((30 : Int32) < 0 ∨ cl1332.slots.size ≤ ((30 : Int32)).toNatClampNeg) := inb_of S1332 ⟨by decide, by decide⟩
  obtain ⟨T1332, h1332, X1332, e1332, W1332, st1332⟩ := stC X1324 hx hZ e1324 Ar1332 (j := (30 : Int32)) in1332 (g := (mkF m 929 #[iv p0, iv p1, iv p2, iv p3, iv p4, iv ca, iv cb, iv cc, iv cd_, iv (95 : Int32), iv sel, .unset, .unset] [(.int (95 : Int32)), (.int (30 : Int32)), (.ref b1085), (.ref b1085), (.ref b1078), (.ref b1078)])) rfl rfl (hb hby at_929)
  rw [show nar .char (95 : Int32) = (95 : Int32) from (by decide : nar .char (95 : Int32) = (95 : Int32))] at W1332
  have sf1334 : Safe Z consts_1 s.vm h1324 b1085 := (Safe.wr W1324 sf1326 R1317.1 sf1326)
  have R1333 : CHr Z consts_1 s.vm h0 s.vm h1332 := R1325.trans (CHr.wr W1332 sf1334 R1325.1)
  have O1335 := O1327.wr W1332 ge1093
  have y1336 : Arv Z h1332 b1085 k1085 .char (65 : Int32) (Ls1329.set 30 (.int (95 : Int32))) (.int (0 : Int32)) := Arv.set Ar1332 q1332 S1332 M1332 H1332 G1332 (own_ft_char (z := (95 : Int32)) (by decide : nar .char (95 : Int32) = (95 : Int32))) W1332 30 rfl (by rw [lLs1329]; decide)
  obtain ⟨Ls1337, hLs1337⟩ : ∃ z : List Value, z = (Ls1329.set 30 (.int (95 : Int32))) := ⟨_, rfl⟩
  rw [← hLs1337] at y1336
  have lLs1337 : Ls1337.length = 65 := by rw [hLs1337, List.length_set, lLs1329]
  have N1332 := Fr.snoc X1332 N1324 ge1093
  have g1338 : Go p e below T1332 (mkF m 930 #[iv p0, iv p1, iv p2, iv p3, iv p4, iv ca, iv cb, iv cc, iv cd_, iv (95 : Int32), iv sel, .unset, .unset] [(.ref b1085), (.ref b1078), (.ref b1078)]) A0 := fun t kont => g1331 t (st1332 t kont)
  have g1339 : Go p e below T1332 (mkF m 935 #[iv p0, iv p1, iv p2, iv p3, iv p4, iv ca, iv cb, iv cc, iv cd_, iv (95 : Int32), iv sel, .unset, .unset] [(.int (95 : Int32)), (.int (31 : Int32)), (.ref b1085), (.ref b1085), (.ref b1078), (.ref b1078)]) A0 := by
    intro t kont
    refine g1338 t ?_
    refine XS.dup X1332.here hx rfl (hb hby at_930) rfl rfl ?_
    refine XS.bipush X1332.here hx rfl (hb hby at_931) ?_
    refine XS.iload X1332.here hx rfl (hb hby at_933) rfl ?_
    exact kont
  have zz1340 := y1336
  obtain ⟨cl1340, Ar1340, q1340, S1340, M1340, H1340, G1340⟩ := zz1340
  have in1340 : ¬ ((31 : Int32) < 0 ∨ cl1340.slots.size ≤ ((31 : Int32)).toNatClampNeg) := inb_of S1340 ⟨by decide, by decide⟩
  obtain ⟨T1340, h1340, X1340, e1340, W1340, st1340⟩ := stC X1332 hx hZ e1332 Ar1340 (j := (31 : Int32)) in1340 (g := (mkF m 935 #[iv p0, iv p1, iv p2, iv p3, iv p4, iv ca, iv cb, iv cc, iv cd_, iv (95 : Int32), iv sel, .unset, .unset] [(.int (95 : Int32)), (.int (31 : Int32)), (.ref b1085), (.ref b1085), (.ref b1078), (.ref b1078)])) rfl rfl (hb hby at_935)
  rw [show nar .char (95 : Int32) = (95 : Int32) from (by decide : nar .char (95 : Int32) = (95 : Int32))] at W1340
  have sf1342 : Safe Z consts_1 s.vm h1332 b1085 := (Safe.wr W1332 sf1334 R1325.1 sf1334)
  have R1341 : CHr Z consts_1 s.vm h0 s.vm h1340 := R1333.trans (CHr.wr W1340 sf1342 R1333.1)
  have O1343 := O1335.wr W1340 ge1093
  have y1344 : Arv Z h1340 b1085 k1085 .char (65 : Int32) (Ls1337.set 31 (.int (95 : Int32))) (.int (0 : Int32)) := Arv.set Ar1340 q1340 S1340 M1340 H1340 G1340 (own_ft_char (z := (95 : Int32)) (by decide : nar .char (95 : Int32) = (95 : Int32))) W1340 31 rfl (by rw [lLs1337]; decide)
  obtain ⟨Ls1345, hLs1345⟩ : ∃ z : List Value, z = (Ls1337.set 31 (.int (95 : Int32))) := ⟨_, rfl⟩
  rw [← hLs1345] at y1344
  have lLs1345 : Ls1345.length = 65 := by rw [hLs1345, List.length_set, lLs1337]
  have N1340 := Fr.snoc X1340 N1332 ge1093
  have g1346 : Go p e below T1340 (mkF m 936 #[iv p0, iv p1, iv p2, iv p3, iv p4, iv ca, iv cb, iv cc, iv cd_, iv (95 : Int32), iv sel, .unset, .unset] [(.ref b1085), (.ref b1078), (.ref b1078)]) A0 := fun t kont => g1339 t (st1340 t kont)
  have g1347 : Go p e below T1340 (mkF m 941 #[iv p0, iv p1, iv p2, iv p3, iv p4, iv ca, iv cb, iv cc, iv cd_, iv (95 : Int32), iv sel, .unset, .unset] [(.int cc), (.int (32 : Int32)), (.ref b1085), (.ref b1085), (.ref b1078), (.ref b1078)]) A0 := by
    intro t kont
    refine g1346 t ?_
    refine XS.dup X1340.here hx rfl (hb hby at_936) rfl rfl ?_
    refine XS.bipush X1340.here hx rfl (hb hby at_937) ?_
    refine XS.iload X1340.here hx rfl (hb hby at_939) rfl ?_
    exact kont
  have zz1348 := y1344
  obtain ⟨cl1348, Ar1348, q1348, S1348, M1348, H1348, G1348⟩ := zz1348
  have in1348 : ¬ ((32 : Int32) < 0 ∨ cl1348.slots.size ≤ ((32 : Int32)).toNatClampNeg) := inb_of S1348 ⟨by decide, by decide⟩
  obtain ⟨T1348, h1348, X1348, e1348, W1348, st1348⟩ := stC X1340 hx hZ e1340 Ar1348 (j := (32 : Int32)) in1348 (g := (mkF m 941 #[iv p0, iv p1, iv p2, iv p3, iv p4, iv ca, iv cb, iv cc, iv cd_, iv (95 : Int32), iv sel, .unset, .unset] [(.int cc), (.int (32 : Int32)), (.ref b1085), (.ref b1085), (.ref b1078), (.ref b1078)])) rfl rfl (hb hby at_941)
  rw [show nar .char cc = cc from r_cc] at W1348
  have sf1350 : Safe Z consts_1 s.vm h1340 b1085 := (Safe.wr W1340 sf1342 R1333.1 sf1342)
  have R1349 : CHr Z consts_1 s.vm h0 s.vm h1348 := R1341.trans (CHr.wr W1348 sf1350 R1341.1)
  have O1351 := O1343.wr W1348 ge1093
  have y1352 : Arv Z h1348 b1085 k1085 .char (65 : Int32) (Ls1345.set 32 (.int cc)) (.int (0 : Int32)) := Arv.set Ar1348 q1348 S1348 M1348 H1348 G1348 (own_ft_char (z := cc) r_cc) W1348 32 rfl (by rw [lLs1345]; decide)
  obtain ⟨Ls1353, hLs1353⟩ : ∃ z : List Value, z = (Ls1345.set 32 (.int cc)) := ⟨_, rfl⟩
  rw [← hLs1353] at y1352
  have lLs1353 : Ls1353.length = 65 := by rw [hLs1353, List.length_set, lLs1345]
  have N1348 := Fr.snoc X1348 N1340 ge1093
  have g1354 : Go p e below T1348 (mkF m 942 #[iv p0, iv p1, iv p2, iv p3, iv p4, iv ca, iv cb, iv cc, iv cd_, iv (95 : Int32), iv sel, .unset, .unset] [(.ref b1085), (.ref b1078), (.ref b1078)]) A0 := fun t kont => g1347 t (st1348 t kont)
  have g1355 : Go p e below T1348 (mkF m 947 #[iv p0, iv p1, iv p2, iv p3, iv p4, iv ca, iv cb, iv cc, iv cd_, iv (95 : Int32), iv sel, .unset, .unset] [(.int (95 : Int32)), (.int (33 : Int32)), (.ref b1085), (.ref b1085), (.ref b1078), (.ref b1078)]) A0 := by
    intro t kont
    refine g1354 t ?_
    refine XS.dup X1348.here hx rfl (hb hby at_942) rfl rfl ?_
    refine XS.bipush X1348.here hx rfl (hb hby at_943) ?_
    refine XS.iload X1348.here hx rfl (hb hby at_945) rfl ?_
    exact kont
  have zz1356 := y1352
  obtain ⟨cl1356, Ar1356, q1356, S1356, M1356, H1356, G1356⟩ := zz1356
  have in1356 : ¬ ((33 : Int32) < 0 ∨ cl1356.slots.size ≤ ((33 : Int32)).toNatClampNeg) := inb_of S1356 ⟨by decide, by decide⟩
  obtain ⟨T1356, h1356, X1356, e1356, W1356, st1356⟩ := stC X1348 hx hZ e1348 Ar1356 (j := (33 : Int32)) in1356 (g := (mkF m 947 #[iv p0, iv p1, iv p2, iv p3, iv p4, iv ca, iv cb, iv cc, iv cd_, iv (95 : Int32), iv sel, .unset, .unset] [(.int (95 : Int32)), (.int (33 : Int32)), (.ref b1085), (.ref b1085), (.ref b1078), (.ref b1078)])) rfl rfl (hb hby at_947)
  rw [show nar .char (95 : Int32) = (95 : Int32) from (by decide : nar .char (95 : Int32) = (95 : Int32))] at W1356
  have sf1358 : Safe Z consts_1 s.vm h1348 b1085 := (Safe.wr W1348 sf1350 R1341.1 sf1350)
  have R1357 : CHr Z consts_1 s.vm h0 s.vm h1356 := R1349.trans (CHr.wr W1356 sf1358 R1349.1)
  have O1359 := O1351.wr W1356 ge1093
  have y1360 : Arv Z h1356 b1085 k1085 .char (65 : Int32) (Ls1353.set 33 (.int (95 : Int32))) (.int (0 : Int32)) := Arv.set Ar1356 q1356 S1356 M1356 H1356 G1356 (own_ft_char (z := (95 : Int32)) (by decide : nar .char (95 : Int32) = (95 : Int32))) W1356 33 rfl (by rw [lLs1353]; decide)
  obtain ⟨Ls1361, hLs1361⟩ : ∃ z : List Value, z = (Ls1353.set 33 (.int (95 : Int32))) := ⟨_, rfl⟩
  rw [← hLs1361] at y1360
  have lLs1361 : Ls1361.length = 65 := by rw [hLs1361, List.length_set, lLs1353]
  have N1356 := Fr.snoc X1356 N1348 ge1093
  have g1362 : Go p e below T1356 (mkF m 948 #[iv p0, iv p1, iv p2, iv p3, iv p4, iv ca, iv cb, iv cc, iv cd_, iv (95 : Int32), iv sel, .unset, .unset] [(.ref b1085), (.ref b1078), (.ref b1078)]) A0 := fun t kont => g1355 t (st1356 t kont)
  have g1363 : Go p e below T1356 (mkF m 953 #[iv p0, iv p1, iv p2, iv p3, iv p4, iv ca, iv cb, iv cc, iv cd_, iv (95 : Int32), iv sel, .unset, .unset] [(.int (95 : Int32)), (.int (34 : Int32)), (.ref b1085), (.ref b1085), (.ref b1078), (.ref b1078)]) A0 := by
    intro t kont
    refine g1362 t ?_
    refine XS.dup X1356.here hx rfl (hb hby at_948) rfl rfl ?_
    refine XS.bipush X1356.here hx rfl (hb hby at_949) ?_
    refine XS.iload X1356.here hx rfl (hb hby at_951) rfl ?_
    exact kont
  have zz1364 := y1360
  obtain ⟨cl1364, Ar1364, q1364, S1364, M1364, H1364, G1364⟩ := zz1364
  have in1364 : ¬ ((34 : Int32) < 0 ∨ cl1364.slots.size ≤ ((34 : Int32)).toNatClampNeg) := inb_of S1364 ⟨by decide, by decide⟩
  obtain ⟨T1364, h1364, X1364, e1364, W1364, st1364⟩ := stC X1356 hx hZ e1356 Ar1364 (j := (34 : Int32)) in1364 (g := (mkF m 953 #[iv p0, iv p1, iv p2, iv p3, iv p4, iv ca, iv cb, iv cc, iv cd_, iv (95 : Int32), iv sel, .unset, .unset] [(.int (95 : Int32)), (.int (34 : Int32)), (.ref b1085), (.ref b1085), (.ref b1078), (.ref b1078)])) rfl rfl (hb hby at_953)
  rw [show nar .char (95 : Int32) = (95 : Int32) from (by decide : nar .char (95 : Int32) = (95 : Int32))] at W1364
  have sf1366 : Safe Z consts_1 s.vm h1356 b1085 := (Safe.wr W1356 sf1358 R1349.1 sf1358)
  have R1365 : CHr Z consts_1 s.vm h0 s.vm h1364 := R1357.trans (CHr.wr W1364 sf1366 R1357.1)
  have O1367 := O1359.wr W1364 ge1093
  have y1368 : Arv Z h1364 b1085 k1085 .char (65 : Int32) (Ls1361.set 34 (.int (95 : Int32))) (.int (0 : Int32)) := Arv.set Ar1364 q1364 S1364 M1364 H1364 G1364 (own_ft_char (z := (95 : Int32)) (by decide : nar .char (95 : Int32) = (95 : Int32))) W1364 34 rfl (by rw [lLs1361]; decide)
  obtain ⟨Ls1369, hLs1369⟩ : ∃ z : List Value, z = (Ls1361.set 34 (.int (95 : Int32))) := ⟨_, rfl⟩
  rw [← hLs1369] at y1368
  have lLs1369 : Ls1369.length = 65 := by rw [hLs1369, List.length_set, lLs1361]
  have N1364 := Fr.snoc X1364 N1356 ge1093
  have g1370 : Go p e below T1364 (mkF m 954 #[iv p0, iv p1, iv p2, iv p3, iv p4, iv ca, iv cb, iv cc, iv cd_, iv (95 : Int32), iv sel, .unset, .unset] [(.ref b1085), (.ref b1078), (.ref b1078)]) A0 := fun t kont => g1363 t (st1364 t kont)
  have g1371 : Go p e below T1364 (mkF m 959 #[iv p0, iv p1, iv p2, iv p3, iv p4, iv ca, iv cb, iv cc, iv cd_, iv (95 : Int32), iv sel, .unset, .unset] [(.int (95 : Int32)), (.int (35 : Int32)), (.ref b1085), (.ref b1085), (.ref b1078), (.ref b1078)]) A0 := by
    intro t kont
    refine g1370 t ?_
    refine XS.dup X1364.here hx rfl (hb hby at_954) rfl rfl ?_
    refine XS.bipush X1364.here hx rfl (hb hby at_955) ?_
    refine XS.iload X1364.here hx rfl (hb hby at_957) rfl ?_
    exact kont
  have zz1372 := y1368
  obtain ⟨cl1372, Ar1372, q1372, S1372, M1372, H1372, G1372⟩ := zz1372
  have in1372 : ¬ ((35 : Int32) < 0 ∨ cl1372.slots.size ≤ ((35 : Int32)).toNatClampNeg) := inb_of S1372 ⟨by decide, by decide⟩
  obtain ⟨T1372, h1372, X1372, e1372, W1372, st1372⟩ := stC X1364 hx hZ e1364 Ar1372 (j := (35 : Int32)) in1372 (g := (mkF m 959 #[iv p0, iv p1, iv p2, iv p3, iv p4, iv ca, iv cb, iv cc, iv cd_, iv (95 : Int32), iv sel, .unset, .unset] [(.int (95 : Int32)), (.int (35 : Int32)), (.ref b1085), (.ref b1085), (.ref b1078), (.ref b1078)])) rfl rfl (hb hby at_959)
  rw [show nar .char (95 : Int32) = (95 : Int32) from (by decide : nar .char (95 : Int32) = (95 : Int32))] at W1372
  have sf1374 : Safe Z consts_1 s.vm h1364 b1085 := (Safe.wr W1364 sf1366 R1357.1 sf1366)
  have R1373 : CHr Z consts_1 s.vm h0 s.vm h1372 := R1365.trans (CHr.wr W1372 sf1374 R1365.1)
  have O1375 := O1367.wr W1372 ge1093
  have y1376 : Arv Z h1372 b1085 k1085 .char (65 : Int32) (Ls1369.set 35 (.int (95 : Int32))) (.int (0 : Int32)) := Arv.set Ar1372 q1372 S1372 M1372 H1372 G1372 (own_ft_char (z := (95 : Int32)) (by decide : nar .char (95 : Int32) = (95 : Int32))) W1372 35 rfl (by rw [lLs1369]; decide)
  obtain ⟨Ls1377, hLs1377⟩ : ∃ z : List Value, z = (Ls1369.set 35 (.int (95 : Int32))) := ⟨_, rfl⟩
  rw [← hLs1377] at y1376
  have lLs1377 : Ls1377.length = 65 := by rw [hLs1377, List.length_set, lLs1369]
  have N1372 := Fr.snoc X1372 N1364 ge1093
  have g1378 : Go p e below T1372 (mkF m 960 #[iv p0, iv p1, iv p2, iv p3, iv p4, iv ca, iv cb, iv cc, iv cd_, iv (95 : Int32), iv sel, .unset, .unset] [(.ref b1085), (.ref b1078), (.ref b1078)]) A0 := fun t kont => g1371 t (st1372 t kont)
  have g1379 : Go p e below T1372 (mkF m 965 #[iv p0, iv p1, iv p2, iv p3, iv p4, iv ca, iv cb, iv cc, iv cd_, iv (95 : Int32), iv sel, .unset, .unset] [(.int (95 : Int32)), (.int (36 : Int32)), (.ref b1085), (.ref b1085), (.ref b1078), (.ref b1078)]) A0 := by
    intro t kont
    refine g1378 t ?_
    refine XS.dup X1372.here hx rfl (hb hby at_960) rfl rfl ?_
    refine XS.bipush X1372.here hx rfl (hb hby at_961) ?_
    refine XS.iload X1372.here hx rfl (hb hby at_963) rfl ?_
    exact kont
  have zz1380 := y1376
  obtain ⟨cl1380, Ar1380, q1380, S1380, M1380, H1380, G1380⟩ := zz1380
  have in1380 : ¬ ((36 : Int32) < 0 ∨ cl1380.slots.size ≤ ((36 : Int32)).toNatClampNeg) := inb_of S1380 ⟨by decide, by decide⟩
  obtain ⟨T1380, h1380, X1380, e1380, W1380, st1380⟩ := stC X1372 hx hZ e1372 Ar1380 (j := (36 : Int32)) in1380 (g := (mkF m 965 #[iv p0, iv p1, iv p2, iv p3, iv p4, iv ca, iv cb, iv cc, iv cd_, iv (95 : Int32), iv sel, .unset, .unset] [(.int (95 : Int32)), (.int (36 : Int32)), (.ref b1085), (.ref b1085), (.ref b1078), (.ref b1078)])) rfl rfl (hb hby at_965)
  rw [show nar .char (95 : Int32) = (95 : Int32) from (by decide : nar .char (95 : Int32) = (95 : Int32))] at W1380
  have sf1382 : Safe Z consts_1 s.vm h1372 b1085 := (Safe.wr W1372 sf1374 R1365.1 sf1374)
  have R1381 : CHr Z consts_1 s.vm h0 s.vm h1380 := R1373.trans (CHr.wr W1380 sf1382 R1373.1)
  have O1383 := O1375.wr W1380 ge1093
  have y1384 : Arv Z h1380 b1085 k1085 .char (65 : Int32) (Ls1377.set 36 (.int (95 : Int32))) (.int (0 : Int32)) := Arv.set Ar1380 q1380 S1380 M1380 H1380 G1380 (own_ft_char (z := (95 : Int32)) (by decide : nar .char (95 : Int32) = (95 : Int32))) W1380 36 rfl (by rw [lLs1377]; decide)
  obtain ⟨Ls1385, hLs1385⟩ : ∃ z : List Value, z = (Ls1377.set 36 (.int (95 : Int32))) := ⟨_, rfl⟩
  rw [← hLs1385] at y1384
  have lLs1385 : Ls1385.length = 65 := by rw [hLs1385, List.length_set, lLs1377]
  have N1380 := Fr.snoc X1380 N1372 ge1093
  have g1386 : Go p e below T1380 (mkF m 966 #[iv p0, iv p1, iv p2, iv p3, iv p4, iv ca, iv cb, iv cc, iv cd_, iv (95 : Int32), iv sel, .unset, .unset] [(.ref b1085), (.ref b1078), (.ref b1078)]) A0 := fun t kont => g1379 t (st1380 t kont)
  have g1387 : Go p e below T1380 (mkF m 971 #[iv p0, iv p1, iv p2, iv p3, iv p4, iv ca, iv cb, iv cc, iv cd_, iv (95 : Int32), iv sel, .unset, .unset] [(.int (95 : Int32)), (.int (37 : Int32)), (.ref b1085), (.ref b1085), (.ref b1078), (.ref b1078)]) A0 := by
    intro t kont
    refine g1386 t ?_
    refine XS.dup X1380.here hx rfl (hb hby at_966) rfl rfl ?_
    refine XS.bipush X1380.here hx rfl (hb hby at_967) ?_
    refine XS.iload X1380.here hx rfl (hb hby at_969) rfl ?_
    exact kont
  have zz1388 := y1384
  obtain ⟨cl1388, Ar1388, q1388, S1388, M1388, H1388, G1388⟩ := zz1388
  have in1388 : ¬ ((37 : Int32) < 0 ∨ cl1388.slots.size ≤ ((37 : Int32)).toNatClampNeg) := inb_of S1388 ⟨by decide, by decide⟩
  obtain ⟨T1388, h1388, X1388, e1388, W1388, st1388⟩ := stC X1380 hx hZ e1380 Ar1388 (j := (37 : Int32)) in1388 (g := (mkF m 971 #[iv p0, iv p1, iv p2, iv p3, iv p4, iv ca, iv cb, iv cc, iv cd_, iv (95 : Int32), iv sel, .unset, .unset] [(.int (95 : Int32)), (.int (37 : Int32)), (.ref b1085), (.ref b1085), (.ref b1078), (.ref b1078)])) rfl rfl (hb hby at_971)
  rw [show nar .char (95 : Int32) = (95 : Int32) from (by decide : nar .char (95 : Int32) = (95 : Int32))] at W1388
  have sf1390 : Safe Z consts_1 s.vm h1380 b1085 := (Safe.wr W1380 sf1382 R1373.1 sf1382)
  have R1389 : CHr Z consts_1 s.vm h0 s.vm h1388 := R1381.trans (CHr.wr W1388 sf1390 R1381.1)
  have O1391 := O1383.wr W1388 ge1093
  have y1392 : Arv Z h1388 b1085 k1085 .char (65 : Int32) (Ls1385.set 37 (.int (95 : Int32))) (.int (0 : Int32)) := Arv.set Ar1388 q1388 S1388 M1388 H1388 G1388 (own_ft_char (z := (95 : Int32)) (by decide : nar .char (95 : Int32) = (95 : Int32))) W1388 37 rfl (by rw [lLs1385]; decide)
  obtain ⟨Ls1393, hLs1393⟩ : ∃ z : List Value, z = (Ls1385.set 37 (.int (95 : Int32))) := ⟨_, rfl⟩
  rw [← hLs1393] at y1392
  have lLs1393 : Ls1393.length = 65 := by rw [hLs1393, List.length_set, lLs1385]
  have N1388 := Fr.snoc X1388 N1380 ge1093
  have g1394 : Go p e below T1388 (mkF m 972 #[iv p0, iv p1, iv p2, iv p3, iv p4, iv ca, iv cb, iv cc, iv cd_, iv (95 : Int32), iv sel, .unset, .unset] [(.ref b1085), (.ref b1078), (.ref b1078)]) A0 := fun t kont => g1387 t (st1388 t kont)
  have g1395 : Go p e below T1388 (mkF m 977 #[iv p0, iv p1, iv p2, iv p3, iv p4, iv ca, iv cb, iv cc, iv cd_, iv (95 : Int32), iv sel, .unset, .unset] [(.int (95 : Int32)), (.int (38 : Int32)), (.ref b1085), (.ref b1085), (.ref b1078), (.ref b1078)]) A0 := by
    intro t kont
    refine g1394 t ?_
    refine XS.dup X1388.here hx rfl (hb hby at_972) rfl rfl ?_
    refine XS.bipush X1388.here hx rfl (hb hby at_973) ?_
    refine XS.iload X1388.here hx rfl (hb hby at_975) rfl ?_
    exact kont
  have zz1396 := y1392
  obtain ⟨cl1396, Ar1396, q1396, S1396, M1396, H1396, G1396⟩ := zz1396
  have in1396 : ¬ ((38 : Int32) < 0 ∨ cl1396.slots.size ≤ ((38 : Int32)).toNatClampNeg) := inb_of S1396 ⟨by decide, by decide⟩
  obtain ⟨T1396, h1396, X1396, e1396, W1396, st1396⟩ := stC X1388 hx hZ e1388 Ar1396 (j := (38 : Int32)) in1396 (g := (mkF m 977 #[iv p0, iv p1, iv p2, iv p3, iv p4, iv ca, iv cb, iv cc, iv cd_, iv (95 : Int32), iv sel, .unset, .unset] [(.int (95 : Int32)), (.int (38 : Int32)), (.ref b1085), (.ref b1085), (.ref b1078), (.ref b1078)])) rfl rfl (hb hby at_977)
  rw [show nar .char (95 : Int32) = (95 : Int32) from (by decide : nar .char (95 : Int32) = (95 : Int32))] at W1396
  have sf1398 : Safe Z consts_1 s.vm h1388 b1085 := (Safe.wr W1388 sf1390 R1381.1 sf1390)
  have R1397 : CHr Z consts_1 s.vm h0 s.vm h1396 := R1389.trans (CHr.wr W1396 sf1398 R1389.1)
  have O1399 := O1391.wr W1396 ge1093
  have y1400 : Arv Z h1396 b1085 k1085 .char (65 : Int32) (Ls1393.set 38 (.int (95 : Int32))) (.int (0 : Int32)) := Arv.set Ar1396 q1396 S1396 M1396 H1396 G1396 (own_ft_char (z := (95 : Int32)) (by decide : nar .char (95 : Int32) = (95 : Int32))) W1396 38 rfl (by rw [lLs1393]; decide)
  obtain ⟨Ls1401, hLs1401⟩ : ∃ z : List Value, z = (Ls1393.set 38 (.int (95 : Int32))) := ⟨_, rfl⟩
  rw [← hLs1401] at y1400
  have lLs1401 : Ls1401.length = 65 := by rw [hLs1401, List.length_set, lLs1393]
  have N1396 := Fr.snoc X1396 N1388 ge1093
  have g1402 : Go p e below T1396 (mkF m 978 #[iv p0, iv p1, iv p2, iv p3, iv p4, iv ca, iv cb, iv cc, iv cd_, iv (95 : Int32), iv sel, .unset, .unset] [(.ref b1085), (.ref b1078), (.ref b1078)]) A0 := fun t kont => g1395 t (st1396 t kont)
  have g1403 : Go p e below T1396 (mkF m 983 #[iv p0, iv p1, iv p2, iv p3, iv p4, iv ca, iv cb, iv cc, iv cd_, iv (95 : Int32), iv sel, .unset, .unset] [(.int (95 : Int32)), (.int (39 : Int32)), (.ref b1085), (.ref b1085), (.ref b1078), (.ref b1078)]) A0 := by
    intro t kont
    refine g1402 t ?_
    refine XS.dup X1396.here hx rfl (hb hby at_978) rfl rfl ?_
    refine XS.bipush X1396.here hx rfl (hb hby at_979) ?_
    refine XS.iload X1396.here hx rfl (hb hby at_981) rfl ?_
    exact kont
  have zz1404 := y1400
  obtain ⟨cl1404, Ar1404, q1404, S1404, M1404, H1404, G1404⟩ := zz1404
  have in1404 : ¬ ((39 : Int32) < 0 ∨ cl1404.slots.size ≤ ((39 : Int32)).toNatClampNeg) := inb_of S1404 ⟨by decide, by decide⟩
  obtain ⟨T1404, h1404, X1404, e1404, W1404, st1404⟩ := stC X1396 hx hZ e1396 Ar1404 (j := (39 : Int32)) in1404 (g := (mkF m 983 #[iv p0, iv p1, iv p2, iv p3, iv p4, iv ca, iv cb, iv cc, iv cd_, iv (95 : Int32), iv sel, .unset, .unset] [(.int (95 : Int32)), (.int (39 : Int32)), (.ref b1085), (.ref b1085), (.ref b1078), (.ref b1078)])) rfl rfl (hb hby at_983)
  rw [show nar .char (95 : Int32) = (95 : Int32) from (by decide : nar .char (95 : Int32) = (95 : Int32))] at W1404
  have sf1406 : Safe Z consts_1 s.vm h1396 b1085 := (Safe.wr W1396 sf1398 R1389.1 sf1398)
  have R1405 : CHr Z consts_1 s.vm h0 s.vm h1404 := R1397.trans (CHr.wr W1404 sf1406 R1397.1)
  have O1407 := O1399.wr W1404 ge1093
  have y1408 : Arv Z h1404 b1085 k1085 .char (65 : Int32) (Ls1401.set 39 (.int (95 : Int32))) (.int (0 : Int32)) := Arv.set Ar1404 q1404 S1404 M1404 H1404 G1404 (own_ft_char (z := (95 : Int32)) (by decide : nar .char (95 : Int32) = (95 : Int32))) W1404 39 rfl (by rw [lLs1401]; decide)
  obtain ⟨Ls1409, hLs1409⟩ : ∃ z : List Value, z = (Ls1401.set 39 (.int (95 : Int32))) := ⟨_, rfl⟩
  rw [← hLs1409] at y1408
  have lLs1409 : Ls1409.length = 65 := by rw [hLs1409, List.length_set, lLs1401]
  have N1404 := Fr.snoc X1404 N1396 ge1093
  have g1410 : Go p e below T1404 (mkF m 984 #[iv p0, iv p1, iv p2, iv p3, iv p4, iv ca, iv cb, iv cc, iv cd_, iv (95 : Int32), iv sel, .unset, .unset] [(.ref b1085), (.ref b1078), (.ref b1078)]) A0 := fun t kont => g1403 t (st1404 t kont)
  have g1411 : Go p e below T1404 (mkF m 989 #[iv p0, iv p1, iv p2, iv p3, iv p4, iv ca, iv cb, iv cc, iv cd_, iv (95 : Int32), iv sel, .unset, .unset] [(.int (95 : Int32)), (.int (40 : Int32)), (.ref b1085), (.ref b1085), (.ref b1078), (.ref b1078)]) A0 := by
    intro t kont
    refine g1410 t ?_
    refine XS.dup X1404.here hx rfl (hb hby at_984) rfl rfl ?_
    refine XS.bipush X1404.here hx rfl (hb hby at_985) ?_
    refine XS.iload X1404.here hx rfl (hb hby at_987) rfl ?_
    exact kont
  have zz1412 := y1408
  obtain ⟨cl1412, Ar1412, q1412, S1412, M1412, H1412, G1412⟩ := zz1412
  have in1412 : ¬ ((40 : Int32) < 0 ∨ cl1412.slots.size ≤ ((40 : Int32)).toNatClampNeg) := inb_of S1412 ⟨by decide, by decide⟩
  obtain ⟨T1412, h1412, X1412, e1412, W1412, st1412⟩ := stC X1404 hx hZ e1404 Ar1412 (j := (40 : Int32)) in1412 (g := (mkF m 989 #[iv p0, iv p1, iv p2, iv p3, iv p4, iv ca, iv cb, iv cc, iv cd_, iv (95 : Int32), iv sel, .unset, .unset] [(.int (95 : Int32)), (.int (40 : Int32)), (.ref b1085), (.ref b1085), (.ref b1078), (.ref b1078)])) rfl rfl (hb hby at_989)
  rw [show nar .char (95 : Int32) = (95 : Int32) from (by decide : nar .char (95 : Int32) = (95 : Int32))] at W1412
  have sf1414 : Safe Z consts_1 s.vm h1404 b1085 := (Safe.wr W1404 sf1406 R1397.1 sf1406)
  have R1413 : CHr Z consts_1 s.vm h0 s.vm h1412 := R1405.trans (CHr.wr W1412 sf1414 R1405.1)
  have O1415 := O1407.wr W1412 ge1093
  have y1416 : Arv Z h1412 b1085 k1085 .char (65 : Int32) (Ls1409.set 40 (.int (95 : Int32))) (.int (0 : Int32)) := Arv.set Ar1412 q1412 S1412 M1412 H1412 G1412 (own_ft_char (z := (95 : Int32)) (by decide : nar .char (95 : Int32) = (95 : Int32))) W1412 40 rfl (by rw [lLs1409]; decide)
  obtain ⟨Ls1417, hLs1417⟩ : ∃ z : List Value, z = (Ls1409.set 40 (.int (95 : Int32))) := ⟨_, rfl⟩
  rw [← hLs1417] at y1416
  have lLs1417 : Ls1417.length = 65 := by rw [hLs1417, List.length_set, lLs1409]
  have N1412 := Fr.snoc X1412 N1404 ge1093
  have g1418 : Go p e below T1412 (mkF m 990 #[iv p0, iv p1, iv p2, iv p3, iv p4, iv ca, iv cb, iv cc, iv cd_, iv (95 : Int32), iv sel, .unset, .unset] [(.ref b1085), (.ref b1078), (.ref b1078)]) A0 := fun t kont => g1411 t (st1412 t kont)
  have g1419 : Go p e below T1412 (mkF m 995 #[iv p0, iv p1, iv p2, iv p3, iv p4, iv ca, iv cb, iv cc, iv cd_, iv (95 : Int32), iv sel, .unset, .unset] [(.int (95 : Int32)), (.int (41 : Int32)), (.ref b1085), (.ref b1085), (.ref b1078), (.ref b1078)]) A0 := by
    intro t kont
    refine g1418 t ?_
    refine XS.dup X1412.here hx rfl (hb hby at_990) rfl rfl ?_
    refine XS.bipush X1412.here hx rfl (hb hby at_991) ?_
    refine XS.iload X1412.here hx rfl (hb hby at_993) rfl ?_
    exact kont
  have zz1420 := y1416
  obtain ⟨cl1420, Ar1420, q1420, S1420, M1420, H1420, G1420⟩ := zz1420
  have in1420 : ¬ ((41 : Int32) < 0 ∨ cl1420.slots.size ≤ ((41 : Int32)).toNatClampNeg) := inb_of S1420 ⟨by decide, by decide⟩
  obtain ⟨T1420, h1420, X1420, e1420, W1420, st1420⟩ := stC X1412 hx hZ e1412 Ar1420 (j := (41 : Int32)) in1420 (g := (mkF m 995 #[iv p0, iv p1, iv p2, iv p3, iv p4, iv ca, iv cb, iv cc, iv cd_, iv (95 : Int32), iv sel, .unset, .unset] [(.int (95 : Int32)), (.int (41 : Int32)), (.ref b1085), (.ref b1085), (.ref b1078), (.ref b1078)])) rfl rfl (hb hby at_995)
  rw [show nar .char (95 : Int32) = (95 : Int32) from (by decide : nar .char (95 : Int32) = (95 : Int32))] at W1420
  have sf1422 : Safe Z consts_1 s.vm h1412 b1085 := (Safe.wr W1412 sf1414 R1405.1 sf1414)
  have R1421 : CHr Z consts_1 s.vm h0 s.vm h1420 := R1413.trans (CHr.wr W1420 sf1422 R1413.1)
  have O1423 := O1415.wr W1420 ge1093
  have y1424 : Arv Z h1420 b1085 k1085 .char (65 : Int32) (Ls1417.set 41 (.int (95 : Int32))) (.int (0 : Int32)) := Arv.set Ar1420 q1420 S1420 M1420 H1420 G1420 (own_ft_char (z := (95 : Int32)) (by decide : nar .char (95 : Int32) = (95 : Int32))) W1420 41 rfl (by rw [lLs1417]; decide)
  obtain ⟨Ls1425, hLs1425⟩ : ∃ z : List Value, z = (Ls1417.set 41 (.int (95 : Int32))) := ⟨_, rfl⟩
  rw [← hLs1425] at y1424
  have lLs1425 : Ls1425.length = 65 := by rw [hLs1425, List.length_set, lLs1417]
  have N1420 := Fr.snoc X1420 N1412 ge1093
  have g1426 : Go p e below T1420 (mkF m 996 #[iv p0, iv p1, iv p2, iv p3, iv p4, iv ca, iv cb, iv cc, iv cd_, iv (95 : Int32), iv sel, .unset, .unset] [(.ref b1085), (.ref b1078), (.ref b1078)]) A0 := fun t kont => g1419 t (st1420 t kont)
  have g1427 : Go p e below T1420 (mkF m 1001 #[iv p0, iv p1, iv p2, iv p3, iv p4, iv ca, iv cb, iv cc, iv cd_, iv (95 : Int32), iv sel, .unset, .unset] [(.int (95 : Int32)), (.int (42 : Int32)), (.ref b1085), (.ref b1085), (.ref b1078), (.ref b1078)]) A0 := by
    intro t kont
    refine g1426 t ?_
    refine XS.dup X1420.here hx rfl (hb hby at_996) rfl rfl ?_
    refine XS.bipush X1420.here hx rfl (hb hby at_997) ?_
    refine XS.iload X1420.here hx rfl (hb hby at_999) rfl ?_
    exact kont
  have zz1428 := y1424
  obtain ⟨cl1428, Ar1428, q1428, S1428, M1428, H1428, G1428⟩ := zz1428
  have in1428 : ¬ ((42 : Int32) < 0 ∨ cl1428.slots.size ≤ ((42 : Int32)).toNatClampNeg) := inb_of S1428 ⟨by decide, by decide⟩
  obtain ⟨T1428, h1428, X1428, e1428, W1428, st1428⟩ := stC X1420 hx hZ e1420 Ar1428 (j := (42 : Int32)) in1428 (g := (mkF m 1001 #[iv p0, iv p1, iv p2, iv p3, iv p4, iv ca, iv cb, iv cc, iv cd_, iv (95 : Int32), iv sel, .unset, .unset] [(.int (95 : Int32)), (.int (42 : Int32)), (.ref b1085), (.ref b1085), (.ref b1078), (.ref b1078)])) rfl rfl (hb hby at_1001)
  rw [show nar .char (95 : Int32) = (95 : Int32) from (by decide : nar .char (95 : Int32) = (95 : Int32))] at W1428
  have sf1430 : Safe Z consts_1 s.vm h1420 b1085 := (Safe.wr W1420 sf1422 R1413.1 sf1422)
  have R1429 : CHr Z consts_1 s.vm h0 s.vm h1428 := R1421.trans (CHr.wr W1428 sf1430 R1421.1)
  have O1431 := O1423.wr W1428 ge1093
  have y1432 : Arv Z h1428 b1085 k1085 .char (65 : Int32) (Ls1425.set 42 (.int (95 : Int32))) (.int (0 : Int32)) := Arv.set Ar1428 q1428 S1428 M1428 H1428 G1428 (own_ft_char (z := (95 : Int32)) (by decide : nar .char (95 : Int32) = (95 : Int32))) W1428 42 rfl (by rw [lLs1425]; decide)
  obtain ⟨Ls1433, hLs1433⟩ : ∃ z : List Value, z = (Ls1425.set 42 (.int (95 : Int32))) := ⟨_, rfl⟩
  rw [← hLs1433] at y1432
  have lLs1433 : Ls1433.length = 65 := by rw [hLs1433, List.length_set, lLs1425]
  have N1428 := Fr.snoc X1428 N1420 ge1093
  have g1434 : Go p e below T1428 (mkF m 1002 #[iv p0, iv p1, iv p2, iv p3, iv p4, iv ca, iv cb, iv cc, iv cd_, iv (95 : Int32), iv sel, .unset, .unset] [(.ref b1085), (.ref b1078), (.ref b1078)]) A0 := fun t kont => g1427 t (st1428 t kont)
  have g1435 : Go p e below T1428 (mkF m 1007 #[iv p0, iv p1, iv p2, iv p3, iv p4, iv ca, iv cb, iv cc, iv cd_, iv (95 : Int32), iv sel, .unset, .unset] [(.int (95 : Int32)), (.int (43 : Int32)), (.ref b1085), (.ref b1085), (.ref b1078), (.ref b1078)]) A0 := by
    intro t kont
    refine g1434 t ?_
    refine XS.dup X1428.here hx rfl (hb hby at_1002) rfl rfl ?_
    refine XS.bipush X1428.here hx rfl (hb hby at_1003) ?_
    refine XS.iload X1428.here hx rfl (hb hby at_1005) rfl ?_
    exact kont
  have zz1436 := y1432
  obtain ⟨cl1436, Ar1436, q1436, S1436, M1436, H1436, G1436⟩ := zz1436
  have in1436 : ¬ ((43 : Int32) < 0 ∨ cl1436.slots.size ≤ ((43 : Int32)).toNatClampNeg) := inb_of S1436 ⟨by decide, by decide⟩
  obtain ⟨T1436, h1436, X1436, e1436, W1436, st1436⟩ := stC X1428 hx hZ e1428 Ar1436 (j := (43 : Int32)) in1436 (g := (mkF m 1007 #[iv p0, iv p1, iv p2, iv p3, iv p4, iv ca, iv cb, iv cc, iv cd_, iv (95 : Int32), iv sel, .unset, .unset] [(.int (95 : Int32)), (.int (43 : Int32)), (.ref b1085), (.ref b1085), (.ref b1078), (.ref b1078)])) rfl rfl (hb hby at_1007)
  rw [show nar .char (95 : Int32) = (95 : Int32) from (by decide : nar .char (95 : Int32) = (95 : Int32))] at W1436
  have sf1438 : Safe Z consts_1 s.vm h1428 b1085 := (Safe.wr W1428 sf1430 R1421.1 sf1430)
  have R1437 : CHr Z consts_1 s.vm h0 s.vm h1436 := R1429.trans (CHr.wr W1436 sf1438 R1429.1)
  have O1439 := O1431.wr W1436 ge1093
  have y1440 : Arv Z h1436 b1085 k1085 .char (65 : Int32) (Ls1433.set 43 (.int (95 : Int32))) (.int (0 : Int32)) := Arv.set Ar1436 q1436 S1436 M1436 H1436 G1436 (own_ft_char (z := (95 : Int32)) (by decide : nar .char (95 : Int32) = (95 : Int32))) W1436 43 rfl (by rw [lLs1433]; decide)
  obtain ⟨Ls1441, hLs1441⟩ : ∃ z : List Value, z = (Ls1433.set 43 (.int (95 : Int32))) := ⟨_, rfl⟩
  rw [← hLs1441] at y1440
  have lLs1441 : Ls1441.length = 65 := by rw [hLs1441, List.length_set, lLs1433]
  have N1436 := Fr.snoc X1436 N1428 ge1093
  have g1442 : Go p e below T1436 (mkF m 1008 #[iv p0, iv p1, iv p2, iv p3, iv p4, iv ca, iv cb, iv cc, iv cd_, iv (95 : Int32), iv sel, .unset, .unset] [(.ref b1085), (.ref b1078), (.ref b1078)]) A0 := fun t kont => g1435 t (st1436 t kont)
  have g1443 : Go p e below T1436 (mkF m 1013 #[iv p0, iv p1, iv p2, iv p3, iv p4, iv ca, iv cb, iv cc, iv cd_, iv (95 : Int32), iv sel, .unset, .unset] [(.int (95 : Int32)), (.int (44 : Int32)), (.ref b1085), (.ref b1085), (.ref b1078), (.ref b1078)]) A0 := by
    intro t kont
    refine g1442 t ?_
    refine XS.dup X1436.here hx rfl (hb hby at_1008) rfl rfl ?_
    refine XS.bipush X1436.here hx rfl (hb hby at_1009) ?_
    refine XS.iload X1436.here hx rfl (hb hby at_1011) rfl ?_
    exact kont
  have zz1444 := y1440
  obtain ⟨cl1444, Ar1444, q1444, S1444, M1444, H1444, G1444⟩ := zz1444
  have in1444 : ¬ ((44 : Int32) < 0 ∨ cl1444.slots.size ≤ ((44 : Int32)).toNatClampNeg) := inb_of S1444 ⟨by decide, by decide⟩
  obtain ⟨T1444, h1444, X1444, e1444, W1444, st1444⟩ := stC X1436 hx hZ e1436 Ar1444 (j := (44 : Int32)) in1444 (g := (mkF m 1013 #[iv p0, iv p1, iv p2, iv p3, iv p4, iv ca, iv cb, iv cc, iv cd_, iv (95 : Int32), iv sel, .unset, .unset] [(.int (95 : Int32)), (.int (44 : Int32)), (.ref b1085), (.ref b1085), (.ref b1078), (.ref b1078)])) rfl rfl (hb hby at_1013)
  rw [show nar .char (95 : Int32) = (95 : Int32) from (by decide : nar .char (95 : Int32) = (95 : Int32))] at W1444
  have sf1446 : Safe Z consts_1 s.vm h1436 b1085 := (Safe.wr W1436 sf1438 R1429.1 sf1438)
  have R1445 : CHr Z consts_1 s.vm h0 s.vm h1444 := R1437.trans (CHr.wr W1444 sf1446 R1437.1)
  have O1447 := O1439.wr W1444 ge1093
  have y1448 : Arv Z h1444 b1085 k1085 .char (65 : Int32) (Ls1441.set 44 (.int (95 : Int32))) (.int (0 : Int32)) := Arv.set Ar1444 q1444 S1444 M1444 H1444 G1444 (own_ft_char (z := (95 : Int32)) (by decide : nar .char (95 : Int32) = (95 : Int32))) W1444 44 rfl (by rw [lLs1441]; decide)
  obtain ⟨Ls1449, hLs1449⟩ : ∃ z : List Value, z = (Ls1441.set 44 (.int (95 : Int32))) := ⟨_, rfl⟩
  rw [← hLs1449] at y1448
  have lLs1449 : Ls1449.length = 65 := by rw [hLs1449, List.length_set, lLs1441]
  have N1444 := Fr.snoc X1444 N1436 ge1093
  have g1450 : Go p e below T1444 (mkF m 1014 #[iv p0, iv p1, iv p2, iv p3, iv p4, iv ca, iv cb, iv cc, iv cd_, iv (95 : Int32), iv sel, .unset, .unset] [(.ref b1085), (.ref b1078), (.ref b1078)]) A0 := fun t kont => g1443 t (st1444 t kont)
  have g1451 : Go p e below T1444 (mkF m 1019 #[iv p0, iv p1, iv p2, iv p3, iv p4, iv ca, iv cb, iv cc, iv cd_, iv (95 : Int32), iv sel, .unset, .unset] [(.int (95 : Int32)), (.int (45 : Int32)), (.ref b1085), (.ref b1085), (.ref b1078), (.ref b1078)]) A0 := by
    intro t kont
    refine g1450 t ?_
    refine XS.dup X1444.here hx rfl (hb hby at_1014) rfl rfl ?_
    refine XS.bipush X1444.here hx rfl (hb hby at_1015) ?_
    refine XS.iload X1444.here hx rfl (hb hby at_1017) rfl ?_
    exact kont
  have zz1452 := y1448
  obtain ⟨cl1452, Ar1452, q1452, S1452, M1452, H1452, G1452⟩ := zz1452
  have in1452 : ¬ ((45 : Int32) < 0 ∨ cl1452.slots.size ≤ ((45 : Int32)).toNatClampNeg) := inb_of S1452 ⟨by decide, by decide⟩
  obtain ⟨T1452, h1452, X1452, e1452, W1452, st1452⟩ := stC X1444 hx hZ e1444 Ar1452 (j := (45 : Int32)) in1452 (g := (mkF m 1019 #[iv p0, iv p1, iv p2, iv p3, iv p4, iv ca, iv cb, iv cc, iv cd_, iv (95 : Int32), iv sel, .unset, .unset] [(.int (95 : Int32)), (.int (45 : Int32)), (.ref b1085), (.ref b1085), (.ref b1078), (.ref b1078)])) rfl rfl (hb hby at_1019)
  rw [show nar .char (95 : Int32) = (95 : Int32) from (by decide : nar .char (95 : Int32) = (95 : Int32))] at W1452
  have sf1454 : Safe Z consts_1 s.vm h1444 b1085 := (Safe.wr W1444 sf1446 R1437.1 sf1446)
  have R1453 : CHr Z consts_1 s.vm h0 s.vm h1452 := R1445.trans (CHr.wr W1452 sf1454 R1445.1)
  have O1455 := O1447.wr W1452 ge1093
  have y1456 : Arv Z h1452 b1085 k1085 .char (65 : Int32) (Ls1449.set 45 (.int (95 : Int32))) (.int (0 : Int32)) := Arv.set Ar1452 q1452 S1452 M1452 H1452 G1452 (own_ft_char (z := (95 : Int32)) (by decide : nar .char (95 : Int32) = (95 : Int32))) W1452 45 rfl (by rw [lLs1449]; decide)
  obtain ⟨Ls1457, hLs1457⟩ : ∃ z : List Value, z = (Ls1449.set 45 (.int (95 : Int32))) := ⟨_, rfl⟩
  rw [← hLs1457] at y1456
  have lLs1457 : Ls1457.length = 65 := by rw [hLs1457, List.length_set, lLs1449]
  have N1452 := Fr.snoc X1452 N1444 ge1093
  have g1458 : Go p e below T1452 (mkF m 1020 #[iv p0, iv p1, iv p2, iv p3, iv p4, iv ca, iv cb, iv cc, iv cd_, iv (95 : Int32), iv sel, .unset, .unset] [(.ref b1085), (.ref b1078), (.ref b1078)]) A0 := fun t kont => g1451 t (st1452 t kont)
  have g1459 : Go p e below T1452 (mkF m 1025 #[iv p0, iv p1, iv p2, iv p3, iv p4, iv ca, iv cb, iv cc, iv cd_, iv (95 : Int32), iv sel, .unset, .unset] [(.int (95 : Int32)), (.int (46 : Int32)), (.ref b1085), (.ref b1085), (.ref b1078), (.ref b1078)]) A0 := by
    intro t kont
    refine g1458 t ?_
    refine XS.dup X1452.here hx rfl (hb hby at_1020) rfl rfl ?_
    refine XS.bipush X1452.here hx rfl (hb hby at_1021) ?_
    refine XS.iload X1452.here hx rfl (hb hby at_1023) rfl ?_
    exact kont
  have zz1460 := y1456
  obtain ⟨cl1460, Ar1460, q1460, S1460, M1460, H1460, G1460⟩ := zz1460
  have in1460 : ¬ ((46 : Int32) < 0 ∨ cl1460.slots.size ≤ ((46 : Int32)).toNatClampNeg) := inb_of S1460 ⟨by decide, by decide⟩
  obtain ⟨T1460, h1460, X1460, e1460, W1460, st1460⟩ := stC X1452 hx hZ e1452 Ar1460 (j := (46 : Int32)) in1460 (g := (mkF m 1025 #[iv p0, iv p1, iv p2, iv p3, iv p4, iv ca, iv cb, iv cc, iv cd_, iv (95 : Int32), iv sel, .unset, .unset] [(.int (95 : Int32)), (.int (46 : Int32)), (.ref b1085), (.ref b1085), (.ref b1078), (.ref b1078)])) rfl rfl (hb hby at_1025)
  rw [show nar .char (95 : Int32) = (95 : Int32) from (by decide : nar .char (95 : Int32) = (95 : Int32))] at W1460
  have sf1462 : Safe Z consts_1 s.vm h1452 b1085 := (Safe.wr W1452 sf1454 R1445.1 sf1454)
  have R1461 : CHr Z consts_1 s.vm h0 s.vm h1460 := R1453.trans (CHr.wr W1460 sf1462 R1453.1)
  have O1463 := O1455.wr W1460 ge1093
  have y1464 : Arv Z h1460 b1085 k1085 .char (65 : Int32) (Ls1457.set 46 (.int (95 : Int32))) (.int (0 : Int32)) := Arv.set Ar1460 q1460 S1460 M1460 H1460 G1460 (own_ft_char (z := (95 : Int32)) (by decide : nar .char (95 : Int32) = (95 : Int32))) W1460 46 rfl (by rw [lLs1457]; decide)
  obtain ⟨Ls1465, hLs1465⟩ : ∃ z : List Value, z = (Ls1457.set 46 (.int (95 : Int32))) := ⟨_, rfl⟩
  rw [← hLs1465] at y1464
  have lLs1465 : Ls1465.length = 65 := by rw [hLs1465, List.length_set, lLs1457]
  have N1460 := Fr.snoc X1460 N1452 ge1093
  have g1466 : Go p e below T1460 (mkF m 1026 #[iv p0, iv p1, iv p2, iv p3, iv p4, iv ca, iv cb, iv cc, iv cd_, iv (95 : Int32), iv sel, .unset, .unset] [(.ref b1085), (.ref b1078), (.ref b1078)]) A0 := fun t kont => g1459 t (st1460 t kont)
  have g1467 : Go p e below T1460 (mkF m 1031 #[iv p0, iv p1, iv p2, iv p3, iv p4, iv ca, iv cb, iv cc, iv cd_, iv (95 : Int32), iv sel, .unset, .unset] [(.int (95 : Int32)), (.int (47 : Int32)), (.ref b1085), (.ref b1085), (.ref b1078), (.ref b1078)]) A0 := by
    intro t kont
    refine g1466 t ?_
    refine XS.dup X1460.here hx rfl (hb hby at_1026) rfl rfl ?_
    refine XS.bipush X1460.here hx rfl (hb hby at_1027) ?_
    refine XS.iload X1460.here hx rfl (hb hby at_1029) rfl ?_
    exact kont
  have zz1468 := y1464
  obtain ⟨cl1468, Ar1468, q1468, S1468, M1468, H1468, G1468⟩ := zz1468
  have in1468 : ¬ ((47 : Int32) < 0 ∨ cl1468.slots.size ≤ ((47 : Int32)).toNatClampNeg) := inb_of S1468 ⟨by decide, by decide⟩
  obtain ⟨T1468, h1468, X1468, e1468, W1468, st1468⟩ := stC X1460 hx hZ e1460 Ar1468 (j := (47 : Int32)) in1468 (g := (mkF m 1031 #[iv p0, iv p1, iv p2, iv p3, iv p4, iv ca, iv cb, iv cc, iv cd_, iv (95 : Int32), iv sel, .unset, .unset] [(.int (95 : Int32)), (.int (47 : Int32)), (.ref b1085), (.ref b1085), (.ref b1078), (.ref b1078)])) rfl rfl (hb hby at_1031)
  rw [show nar .char (95 : Int32) = (95 : Int32) from (by decide : nar .char (95 : Int32) = (95 : Int32))] at W1468
  have sf1470 : Safe Z consts_1 s.vm h1460 b1085 := (Safe.wr W1460 sf1462 R1453.1 sf1462)
  have R1469 : CHr Z consts_1 s.vm h0 s.vm h1468 := R1461.trans (CHr.wr W1468 sf1470 R1461.1)
  have O1471 := O1463.wr W1468 ge1093
  have y1472 : Arv Z h1468 b1085 k1085 .char (65 : Int32) (Ls1465.set 47 (.int (95 : Int32))) (.int (0 : Int32)) := Arv.set Ar1468 q1468 S1468 M1468 H1468 G1468 (own_ft_char (z := (95 : Int32)) (by decide : nar .char (95 : Int32) = (95 : Int32))) W1468 47 rfl (by rw [lLs1465]; decide)
  obtain ⟨Ls1473, hLs1473⟩ : ∃ z : List Value, z = (Ls1465.set 47 (.int (95 : Int32))) := ⟨_, rfl⟩
  rw [← hLs1473] at y1472
  have lLs1473 : Ls1473.length = 65 := by rw [hLs1473, List.length_set, lLs1465]
  have N1468 := Fr.snoc X1468 N1460 ge1093
  have g1474 : Go p e below T1468 (mkF m 1032 #[iv p0, iv p1, iv p2, iv p3, iv p4, iv ca, iv cb, iv cc, iv cd_, iv (95 : Int32), iv sel, .unset, .unset] [(.ref b1085), (.ref b1078), (.ref b1078)]) A0 := fun t kont => g1467 t (st1468 t kont)
  have g1475 : Go p e below T1468 (mkF m 1037 #[iv p0, iv p1, iv p2, iv p3, iv p4, iv ca, iv cb, iv cc, iv cd_, iv (95 : Int32), iv sel, .unset, .unset] [(.int (95 : Int32)), (.int (48 : Int32)), (.ref b1085), (.ref b1085), (.ref b1078), (.ref b1078)]) A0 := by
    intro t kont
    refine g1474 t ?_
    refine XS.dup X1468.here hx rfl (hb hby at_1032) rfl rfl ?_
    refine XS.bipush X1468.here hx rfl (hb hby at_1033) ?_
    refine XS.iload X1468.here hx rfl (hb hby at_1035) rfl ?_
    exact kont
  have zz1476 := y1472
  obtain ⟨cl1476, Ar1476, q1476, S1476, M1476, H1476, G1476⟩ := zz1476
  have in1476 : ¬ ((48 : Int32) < 0 ∨ cl1476.slots.size ≤ ((48 : Int32)).toNatClampNeg) := inb_of S1476 ⟨by decide, by decide⟩
  obtain ⟨T1476, h1476, X1476, e1476, W1476, st1476⟩ := stC X1468 hx hZ e1468 Ar1476 (j := (48 : Int32)) in1476 (g := (mkF m 1037 #[iv p0, iv p1, iv p2, iv p3, iv p4, iv ca, iv cb, iv cc, iv cd_, iv (95 : Int32), iv sel, .unset, .unset] [(.int (95 : Int32)), (.int (48 : Int32)), (.ref b1085), (.ref b1085), (.ref b1078), (.ref b1078)])) rfl rfl (hb hby at_1037)
  rw [show nar .char (95 : Int32) = (95 : Int32) from (by decide : nar .char (95 : Int32) = (95 : Int32))] at W1476
  have sf1478 : Safe Z consts_1 s.vm h1468 b1085 := (Safe.wr W1468 sf1470 R1461.1 sf1470)
  have R1477 : CHr Z consts_1 s.vm h0 s.vm h1476 := R1469.trans (CHr.wr W1476 sf1478 R1469.1)
  have O1479 := O1471.wr W1476 ge1093
  have y1480 : Arv Z h1476 b1085 k1085 .char (65 : Int32) (Ls1473.set 48 (.int (95 : Int32))) (.int (0 : Int32)) := Arv.set Ar1476 q1476 S1476 M1476 H1476 G1476 (own_ft_char (z := (95 : Int32)) (by decide : nar .char (95 : Int32) = (95 : Int32))) W1476 48 rfl (by rw [lLs1473]; decide)
  obtain ⟨Ls1481, hLs1481⟩ : ∃ z : List Value, z = (Ls1473.set 48 (.int (95 : Int32))) := ⟨_, rfl⟩
  rw [← hLs1481] at y1480
  have lLs1481 : Ls1481.length = 65 := by rw [hLs1481, List.length_set, lLs1473]
  have N1476 := Fr.snoc X1476 N1468 ge1093
  have g1482 : Go p e below T1476 (mkF m 1038 #[iv p0, iv p1, iv p2, iv p3, iv p4, iv ca, iv cb, iv cc, iv cd_, iv (95 : Int32), iv sel, .unset, .unset] [(.ref b1085), (.ref b1078), (.ref b1078)]) A0 := fun t kont => g1475 t (st1476 t kont)
  have g1483 : Go p e below T1476 (mkF m 1043 #[iv p0, iv p1, iv p2, iv p3, iv p4, iv ca, iv cb, iv cc, iv cd_, iv (95 : Int32), iv sel, .unset, .unset] [(.int (95 : Int32)), (.int (49 : Int32)), (.ref b1085), (.ref b1085), (.ref b1078), (.ref b1078)]) A0 := by
    intro t kont
    refine g1482 t ?_
    refine XS.dup X1476.here hx rfl (hb hby at_1038) rfl rfl ?_
    refine XS.bipush X1476.here hx rfl (hb hby at_1039) ?_
    refine XS.iload X1476.here hx rfl (hb hby at_1041) rfl ?_
    exact kont
  have zz1484 := y1480
  obtain ⟨cl1484, Ar1484, q1484, S1484, M1484, H1484, G1484⟩ := zz1484
  have in1484 : ¬ ((49 : Int32) < 0 ∨ cl1484.slots.size ≤ ((49 : Int32)).toNatClampNeg) := inb_of S1484 ⟨by decide, by decide⟩
  obtain ⟨T1484, h1484, X1484, e1484, W1484, st1484⟩ := stC X1476 hx hZ e1476 Ar1484 (j := (49 : Int32)) in1484 (g := (mkF m 1043 #[iv p0, iv p1, iv p2, iv p3, iv p4, iv ca, iv cb, iv cc, iv cd_, iv (95 : Int32), iv sel, .unset, .unset] [(.int (95 : Int32)), (.int (49 : Int32)), (.ref b1085), (.ref b1085), (.ref b1078), (.ref b1078)])) rfl rfl (hb hby at_1043)
  rw [show nar .char (95 : Int32) = (95 : Int32) from (by decide : nar .char (95 : Int32) = (95 : Int32))] at W1484
  have sf1486 : Safe Z consts_1 s.vm h1476 b1085 := (Safe.wr W1476 sf1478 R1469.1 sf1478)
  have R1485 : CHr Z consts_1 s.vm h0 s.vm h1484 := R1477.trans (CHr.wr W1484 sf1486 R1477.1)
  have O1487 := O1479.wr W1484 ge1093
  have y1488 : Arv Z h1484 b1085 k1085 .char (65 : Int32) (Ls1481.set 49 (.int (95 : Int32))) (.int (0 : Int32)) := Arv.set Ar1484 q1484 S1484 M1484 H1484 G1484 (own_ft_char (z := (95 : Int32)) (by decide : nar .char (95 : Int32) = (95 : Int32))) W1484 49 rfl (by rw [lLs1481]; decide)
  obtain ⟨Ls1489, hLs1489⟩ : ∃ z : List Value, z = (Ls1481.set 49 (.int (95 : Int32))) := ⟨_, rfl⟩
  rw [← hLs1489] at y1488
  have lLs1489 : Ls1489.length = 65 := by rw [hLs1489, List.length_set, lLs1481]
  have N1484 := Fr.snoc X1484 N1476 ge1093
  have g1490 : Go p e below T1484 (mkF m 1044 #[iv p0, iv p1, iv p2, iv p3, iv p4, iv ca, iv cb, iv cc, iv cd_, iv (95 : Int32), iv sel, .unset, .unset] [(.ref b1085), (.ref b1078), (.ref b1078)]) A0 := fun t kont => g1483 t (st1484 t kont)
  have g1491 : Go p e below T1484 (mkF m 1049 #[iv p0, iv p1, iv p2, iv p3, iv p4, iv ca, iv cb, iv cc, iv cd_, iv (95 : Int32), iv sel, .unset, .unset] [(.int (95 : Int32)), (.int (50 : Int32)), (.ref b1085), (.ref b1085), (.ref b1078), (.ref b1078)]) A0 := by
    intro t kont
    refine g1490 t ?_
    refine XS.dup X1484.here hx rfl (hb hby at_1044) rfl rfl ?_
    refine XS.bipush X1484.here hx rfl (hb hby at_1045) ?_
    refine XS.iload X1484.here hx rfl (hb hby at_1047) rfl ?_
    exact kont
  have zz1492 := y1488
  obtain ⟨cl1492, Ar1492, q1492, S1492, M1492, H1492, G1492⟩ := zz1492
  have in1492 : ¬ ((50 : Int32) < 0 ∨ cl1492.slots.size ≤ ((50 : Int32)).toNatClampNeg) := inb_of S1492 ⟨by decide, by decide⟩
  obtain ⟨T1492, h1492, X1492, e1492, W1492, st1492⟩ := stC X1484 hx hZ e1484 Ar1492 (j := (50 : Int32)) in1492 (g := (mkF m 1049 #[iv p0, iv p1, iv p2, iv p3, iv p4, iv ca, iv cb, iv cc, iv cd_, iv (95 : Int32), iv sel, .unset, .unset] [(.int (95 : Int32)), (.int (50 : Int32)), (.ref b1085), (.ref b1085), (.ref b1078), (.ref b1078)])) rfl rfl (hb hby at_1049)
  rw [show nar .char (95 : Int32) = (95 : Int32) from (by decide : nar .char (95 : Int32) = (95 : Int32))] at W1492
  have sf1494 : Safe Z consts_1 s.vm h1484 b1085 := (Safe.wr W1484 sf1486 R1477.1 sf1486)
  have R1493 : CHr Z consts_1 s.vm h0 s.vm h1492 := R1485.trans (CHr.wr W1492 sf1494 R1485.1)
  have O1495 := O1487.wr W1492 ge1093
  have y1496 : Arv Z h1492 b1085 k1085 .char (65 : Int32) (Ls1489.set 50 (.int (95 : Int32))) (.int (0 : Int32)) := Arv.set Ar1492 q1492 S1492 M1492 H1492 G1492 (own_ft_char (z := (95 : Int32)) (by decide : nar .char (95 : Int32) = (95 : Int32))) W1492 50 rfl (by rw [lLs1489]; decide)
  obtain ⟨Ls1497, hLs1497⟩ : ∃ z : List Value, z = (Ls1489.set 50 (.int (95 : Int32))) := ⟨_, rfl⟩
  rw [← hLs1497] at y1496
  have lLs1497 : Ls1497.length = 65 := by rw [hLs1497, List.length_set, lLs1489]
  have N1492 := Fr.snoc X1492 N1484 ge1093
  have g1498 : Go p e below T1492 (mkF m 1050 #[iv p0, iv p1, iv p2, iv p3, iv p4, iv ca, iv cb, iv cc, iv cd_, iv (95 : Int32), iv sel, .unset, .unset] [(.ref b1085), (.ref b1078), (.ref b1078)]) A0 := fun t kont => g1491 t (st1492 t kont)
  have g1499 : Go p e below T1492 (mkF m 1055 #[iv p0, iv p1, iv p2, iv p3, iv p4, iv ca, iv cb, iv cc, iv cd_, iv (95 : Int32), iv sel, .unset, .unset] [(.int (95 : Int32)), (.int (51 : Int32)), (.ref b1085), (.ref b1085), (.ref b1078), (.ref b1078)]) A0 := by
    intro t kont
    refine g1498 t ?_
    refine XS.dup X1492.here hx rfl (hb hby at_1050) rfl rfl ?_
    refine XS.bipush X1492.here hx rfl (hb hby at_1051) ?_
    refine XS.iload X1492.here hx rfl (hb hby at_1053) rfl ?_
    exact kont
  have zz1500 := y1496
  obtain ⟨cl1500, Ar1500, q1500, S1500, M1500, H1500, G1500⟩ := zz1500
  have in1500 : ¬ ((51 : Int32) < 0 ∨ cl1500.slots.size ≤ ((51 : Int32)).toNatClampNeg) := inb_of S1500 ⟨by decide, by decide⟩
  obtain ⟨T1500, h1500, X1500, e1500, W1500, st1500⟩ := stC X1492 hx hZ e1492 Ar1500 (j := (51 : Int32)) in1500 (g := (mkF m 1055 #[iv p0, iv p1, iv p2, iv p3, iv p4, iv ca, iv cb, iv cc, iv cd_, iv (95 : Int32), iv sel, .unset, .unset] [(.int (95 : Int32)), (.int (51 : Int32)), (.ref b1085), (.ref b1085), (.ref b1078), (.ref b1078)])) rfl rfl (hb hby at_1055)
  rw [show nar .char (95 : Int32) = (95 : Int32) from (by decide : nar .char (95 : Int32) = (95 : Int32))] at W1500
  have sf1502 : Safe Z consts_1 s.vm h1492 b1085 := (Safe.wr W1492 sf1494 R1485.1 sf1494)
  have R1501 : CHr Z consts_1 s.vm h0 s.vm h1500 := R1493.trans (CHr.wr W1500 sf1502 R1493.1)
  have O1503 := O1495.wr W1500 ge1093
  have y1504 : Arv Z h1500 b1085 k1085 .char (65 : Int32) (Ls1497.set 51 (.int (95 : Int32))) (.int (0 : Int32)) := Arv.set Ar1500 q1500 S1500 M1500 H1500 G1500 (own_ft_char (z := (95 : Int32)) (by decide : nar .char (95 : Int32) = (95 : Int32))) W1500 51 rfl (by rw [lLs1497]; decide)
  obtain ⟨Ls1505, hLs1505⟩ : ∃ z : List Value, z = (Ls1497.set 51 (.int (95 : Int32))) := ⟨_, rfl⟩
  rw [← hLs1505] at y1504
  have lLs1505 : Ls1505.length = 65 := by rw [hLs1505, List.length_set, lLs1497]
  have N1500 := Fr.snoc X1500 N1492 ge1093
  have g1506 : Go p e below T1500 (mkF m 1056 #[iv p0, iv p1, iv p2, iv p3, iv p4, iv ca, iv cb, iv cc, iv cd_, iv (95 : Int32), iv sel, .unset, .unset] [(.ref b1085), (.ref b1078), (.ref b1078)]) A0 := fun t kont => g1499 t (st1500 t kont)
  have g1507 : Go p e below T1500 (mkF m 1061 #[iv p0, iv p1, iv p2, iv p3, iv p4, iv ca, iv cb, iv cc, iv cd_, iv (95 : Int32), iv sel, .unset, .unset] [(.int (95 : Int32)), (.int (52 : Int32)), (.ref b1085), (.ref b1085), (.ref b1078), (.ref b1078)]) A0 := by
    intro t kont
    refine g1506 t ?_
    refine XS.dup X1500.here hx rfl (hb hby at_1056) rfl rfl ?_
    refine XS.bipush X1500.here hx rfl (hb hby at_1057) ?_
    refine XS.iload X1500.here hx rfl (hb hby at_1059) rfl ?_
    exact kont
  have zz1508 := y1504
  obtain ⟨cl1508, Ar1508, q1508, S1508, M1508, H1508, G1508⟩ := zz1508
  have in1508 : ¬ ((52 : Int32) < 0 ∨ cl1508.slots.size ≤ ((52 : Int32)).toNatClampNeg) := inb_of S1508 ⟨by decide, by decide⟩
  obtain ⟨T1508, h1508, X1508, e1508, W1508, st1508⟩ := stC X1500 hx hZ e1500 Ar1508 (j := (52 : Int32)) in1508 (g := (mkF m 1061 #[iv p0, iv p1, iv p2, iv p3, iv p4, iv ca, iv cb, iv cc, iv cd_, iv (95 : Int32), iv sel, .unset, .unset] [(.int (95 : Int32)), (.int (52 : Int32)), (.ref b1085), (.ref b1085), (.ref b1078), (.ref b1078)])) rfl rfl (hb hby at_1061)
  rw [show nar .char (95 : Int32) = (95 : Int32) from (by decide : nar .char (95 : Int32) = (95 : Int32))] at W1508
  have sf1510 : Safe Z consts_1 s.vm h1500 b1085 := (Safe.wr W1500 sf1502 R1493.1 sf1502)
  have R1509 : CHr Z consts_1 s.vm h0 s.vm h1508 := R1501.trans (CHr.wr W1508 sf1510 R1501.1)
  have O1511 := O1503.wr W1508 ge1093
  have y1512 : Arv Z h1508 b1085 k1085 .char (65 : Int32) (Ls1505.set 52 (.int (95 : Int32))) (.int (0 : Int32)) := Arv.set Ar1508 q1508 S1508 M1508 H1508 G1508 (own_ft_char (z := (95 : Int32)) (by decide : nar .char (95 : Int32) = (95 : Int32))) W1508 52 rfl (by rw [lLs1505]; decide)
  obtain ⟨Ls1513, hLs1513⟩ : ∃ z : List Value, z = (Ls1505.set 52 (.int (95 : Int32))) := ⟨_, rfl⟩
  rw [← hLs1513] at y1512
  have lLs1513 : Ls1513.length = 65 := by rw [hLs1513, List.length_set, lLs1505]
  have N1508 := Fr.snoc X1508 N1500 ge1093
  have g1514 : Go p e below T1508 (mkF m 1062 #[iv p0, iv p1, iv p2, iv p3, iv p4, iv ca, iv cb, iv cc, iv cd_, iv (95 : Int32), iv sel, .unset, .unset] [(.ref b1085), (.ref b1078), (.ref b1078)]) A0 := fun t kont => g1507 t (st1508 t kont)
  have g1515 : Go p e below T1508 (mkF m 1067 #[iv p0, iv p1, iv p2, iv p3, iv p4, iv ca, iv cb, iv cc, iv cd_, iv (95 : Int32), iv sel, .unset, .unset] [(.int (95 : Int32)), (.int (53 : Int32)), (.ref b1085), (.ref b1085), (.ref b1078), (.ref b1078)]) A0 := by
    intro t kont
    refine g1514 t ?_
    refine XS.dup X1508.here hx rfl (hb hby at_1062) rfl rfl ?_
    refine XS.bipush X1508.here hx rfl (hb hby at_1063) ?_
    refine XS.iload X1508.here hx rfl (hb hby at_1065) rfl ?_
    exact kont
  have zz1516 := y1512
  obtain ⟨cl1516, Ar1516, q1516, S1516, M1516, H1516, G1516⟩ := zz1516
  have in1516 : ¬ ((53 : Int32) < 0 ∨ cl1516.slots.size ≤ ((53 : Int32)).toNatClampNeg) := inb_of S1516 ⟨by decide, by decide⟩
  obtain ⟨T1516, h1516, X1516, e1516, W1516, st1516⟩ := stC X1508 hx hZ e1508 Ar1516 (j := (53 : Int32)) in1516 (g := (mkF m 1067 #[iv p0, iv p1, iv p2, iv p3, iv p4, iv ca, iv cb, iv cc, iv cd_, iv (95 : Int32), iv sel, .unset, .unset] [(.int (95 : Int32)), (.int (53 : Int32)), (.ref b1085), (.ref b1085), (.ref b1078), (.ref b1078)])) rfl rfl (hb hby at_1067)
  rw [show nar .char (95 : Int32) = (95 : Int32) from (by decide : nar .char (95 : Int32) = (95 : Int32))] at W1516
  have sf1518 : Safe Z consts_1 s.vm h1508 b1085 := (Safe.wr W1508 sf1510 R1501.1 sf1510)
  have R1517 : CHr Z consts_1 s.vm h0 s.vm h1516 := R1509.trans (CHr.wr W1516 sf1518 R1509.1)
  have O1519 := O1511.wr W1516 ge1093
  have y1520 : Arv Z h1516 b1085 k1085 .char (65 : Int32) (Ls1513.set 53 (.int (95 : Int32))) (.int (0 : Int32)) := Arv.set Ar1516 q1516 S1516 M1516 H1516 G1516 (own_ft_char (z := (95 : Int32)) (by decide : nar .char (95 : Int32) = (95 : Int32))) W1516 53 rfl (by rw [lLs1513]; decide)
  obtain ⟨Ls1521, hLs1521⟩ : ∃ z : List Value, z = (Ls1513.set 53 (.int (95 : Int32))) := ⟨_, rfl⟩
  rw [← hLs1521] at y1520
  have lLs1521 : Ls1521.length = 65 := by rw [hLs1521, List.length_set, lLs1513]
  have N1516 := Fr.snoc X1516 N1508 ge1093
  have g1522 : Go p e below T1516 (mkF m 1068 #[iv p0, iv p1, iv p2, iv p3, iv p4, iv ca, iv cb, iv cc, iv cd_, iv (95 : Int32), iv sel, .unset, .unset] [(.ref b1085), (.ref b1078), (.ref b1078)]) A0 := fun t kont => g1515 t (st1516 t kont)
  have g1523 : Go p e below T1516 (mkF m 1073 #[iv p0, iv p1, iv p2, iv p3, iv p4, iv ca, iv cb, iv cc, iv cd_, iv (95 : Int32), iv sel, .unset, .unset] [(.int (95 : Int32)), (.int (54 : Int32)), (.ref b1085), (.ref b1085), (.ref b1078), (.ref b1078)]) A0 := by
    intro t kont
    refine g1522 t ?_
    refine XS.dup X1516.here hx rfl (hb hby at_1068) rfl rfl ?_
    refine XS.bipush X1516.here hx rfl (hb hby at_1069) ?_
    refine XS.iload X1516.here hx rfl (hb hby at_1071) rfl ?_
    exact kont
  have zz1524 := y1520
  obtain ⟨cl1524, Ar1524, q1524, S1524, M1524, H1524, G1524⟩ := zz1524
  have in1524 : ¬ ((54 : Int32) < 0 ∨ cl1524.slots.size ≤ ((54 : Int32)).toNatClampNeg) := inb_of S1524 ⟨by decide, by decide⟩
  obtain ⟨T1524, h1524, X1524, e1524, W1524, st1524⟩ := stC X1516 hx hZ e1516 Ar1524 (j := (54 : Int32)) in1524 (g := (mkF m 1073 #[iv p0, iv p1, iv p2, iv p3, iv p4, iv ca, iv cb, iv cc, iv cd_, iv (95 : Int32), iv sel, .unset, .unset] [(.int (95 : Int32)), (.int (54 : Int32)), (.ref b1085), (.ref b1085), (.ref b1078), (.ref b1078)])) rfl rfl (hb hby at_1073)
  rw [show nar .char (95 : Int32) = (95 : Int32) from (by decide : nar .char (95 : Int32) = (95 : Int32))] at W1524
  have sf1526 : Safe Z consts_1 s.vm h1516 b1085 := (Safe.wr W1516 sf1518 R1509.1 sf1518)
  have R1525 : CHr Z consts_1 s.vm h0 s.vm h1524 := R1517.trans (CHr.wr W1524 sf1526 R1517.1)
  have O1527 := O1519.wr W1524 ge1093
  have y1528 : Arv Z h1524 b1085 k1085 .char (65 : Int32) (Ls1521.set 54 (.int (95 : Int32))) (.int (0 : Int32)) := Arv.set Ar1524 q1524 S1524 M1524 H1524 G1524 (own_ft_char (z := (95 : Int32)) (by decide : nar .char (95 : Int32) = (95 : Int32))) W1524 54 rfl (by rw [lLs1521]; decide)
  obtain ⟨Ls1529, hLs1529⟩ : ∃ z : List Value, z = (Ls1521.set 54 (.int (95 : Int32))) := ⟨_, rfl⟩
  rw [← hLs1529] at y1528
  have lLs1529 : Ls1529.length = 65 := by rw [hLs1529, List.length_set, lLs1521]
  have N1524 := Fr.snoc X1524 N1516 ge1093
  have g1530 : Go p e below T1524 (mkF m 1074 #[iv p0, iv p1, iv p2, iv p3, iv p4, iv ca, iv cb, iv cc, iv cd_, iv (95 : Int32), iv sel, .unset, .unset] [(.ref b1085), (.ref b1078), (.ref b1078)]) A0 := fun t kont => g1523 t (st1524 t kont)
  have g1531 : Go p e below T1524 (mkF m 1079 #[iv p0, iv p1, iv p2, iv p3, iv p4, iv ca, iv cb, iv cc, iv cd_, iv (95 : Int32), iv sel, .unset, .unset] [(.int (95 : Int32)), (.int (55 : Int32)), (.ref b1085), (.ref b1085), (.ref b1078), (.ref b1078)]) A0 := by
    intro t kont
    refine g1530 t ?_
    refine XS.dup X1524.here hx rfl (hb hby at_1074) rfl rfl ?_
    refine XS.bipush X1524.here hx rfl (hb hby at_1075) ?_
    refine XS.iload X1524.here hx rfl (hb hby at_1077) rfl ?_
    exact kont
  have zz1532 := y1528
  obtain ⟨cl1532, Ar1532, q1532, S1532, M1532, H1532, G1532⟩ := zz1532
  have in1532 : ¬ ((55 : Int32) < 0 ∨ cl1532.slots.size ≤ ((55 : Int32)).toNatClampNeg) := inb_of S1532 ⟨by decide, by decide⟩
  obtain ⟨T1532, h1532, X1532, e1532, W1532, st1532⟩ := stC X1524 hx hZ e1524 Ar1532 (j := (55 : Int32)) in1532 (g := (mkF m 1079 #[iv p0, iv p1, iv p2, iv p3, iv p4, iv ca, iv cb, iv cc, iv cd_, iv (95 : Int32), iv sel, .unset, .unset] [(.int (95 : Int32)), (.int (55 : Int32)), (.ref b1085), (.ref b1085), (.ref b1078), (.ref b1078)])) rfl rfl (hb hby at_1079)
  rw [show nar .char (95 : Int32) = (95 : Int32) from (by decide : nar .char (95 : Int32) = (95 : Int32))] at W1532
  have sf1534 : Safe Z consts_1 s.vm h1524 b1085 := (Safe.wr W1524 sf1526 R1517.1 sf1526)
  have R1533 : CHr Z consts_1 s.vm h0 s.vm h1532 := R1525.trans (CHr.wr W1532 sf1534 R1525.1)
  have O1535 := O1527.wr W1532 ge1093
  have y1536 : Arv Z h1532 b1085 k1085 .char (65 : Int32) (Ls1529.set 55 (.int (95 : Int32))) (.int (0 : Int32)) := Arv.set Ar1532 q1532 S1532 M1532 H1532 G1532 (own_ft_char (z := (95 : Int32)) (by decide : nar .char (95 : Int32) = (95 : Int32))) W1532 55 rfl (by rw [lLs1529]; decide)
  obtain ⟨Ls1537, hLs1537⟩ : ∃ z : List Value, z = (Ls1529.set 55 (.int (95 : Int32))) := ⟨_, rfl⟩
  rw [← hLs1537] at y1536
  have lLs1537 : Ls1537.length = 65 := by rw [hLs1537, List.length_set, lLs1529]
  have N1532 := Fr.snoc X1532 N1524 ge1093
  have g1538 : Go p e below T1532 (mkF m 1080 #[iv p0, iv p1, iv p2, iv p3, iv p4, iv ca, iv cb, iv cc, iv cd_, iv (95 : Int32), iv sel, .unset, .unset] [(.ref b1085), (.ref b1078), (.ref b1078)]) A0 := fun t kont => g1531 t (st1532 t kont)
  have g1539 : Go p e below T1532 (mkF m 1085 #[iv p0, iv p1, iv p2, iv p3, iv p4, iv ca, iv cb, iv cc, iv cd_, iv (95 : Int32), iv sel, .unset, .unset] [(.int (95 : Int32)), (.int (56 : Int32)), (.ref b1085), (.ref b1085), (.ref b1078), (.ref b1078)]) A0 := by
    intro t kont
    refine g1538 t ?_
    refine XS.dup X1532.here hx rfl (hb hby at_1080) rfl rfl ?_
    refine XS.bipush X1532.here hx rfl (hb hby at_1081) ?_
    refine XS.iload X1532.here hx rfl (hb hby at_1083) rfl ?_
    exact kont
  have zz1540 := y1536
  obtain ⟨cl1540, Ar1540, q1540, S1540, M1540, H1540, G1540⟩ := zz1540
  have in1540 : ¬ ((56 : Int32) < 0 ∨ cl1540.slots.size ≤ ((56 : Int32)).toNatClampNeg) := inb_of S1540 ⟨by decide, by decide⟩
  obtain ⟨T1540, h1540, X1540, e1540, W1540, st1540⟩ := stC X1532 hx hZ e1532 Ar1540 (j := (56 : Int32)) in1540 (g := (mkF m 1085 #[iv p0, iv p1, iv p2, iv p3, iv p4, iv ca, iv cb, iv cc, iv cd_, iv (95 : Int32), iv sel, .unset, .unset] [(.int (95 : Int32)), (.int (56 : Int32)), (.ref b1085), (.ref b1085), (.ref b1078), (.ref b1078)])) rfl rfl (hb hby at_1085)
  rw [show nar .char (95 : Int32) = (95 : Int32) from (by decide : nar .char (95 : Int32) = (95 : Int32))] at W1540
  have sf1542 : Safe Z consts_1 s.vm h1532 b1085 := (Safe.wr W1532 sf1534 R1525.1 sf1534)
  have R1541 : CHr Z consts_1 s.vm h0 s.vm h1540 := R1533.trans (CHr.wr W1540 sf1542 R1533.1)
  have O1543 := O1535.wr W1540 ge1093
  have y1544 : Arv Z h1540 b1085 k1085 .char (65 : Int32) (Ls1537.set 56 (.int (95 : Int32))) (.int (0 : Int32)) := Arv.set Ar1540 q1540 S1540 M1540 H1540 G1540 (own_ft_char (z := (95 : Int32)) (by decide : nar .char (95 : Int32) = (95 : Int32))) W1540 56 rfl (by rw [lLs1537]; decide)
  obtain ⟨Ls1545, hLs1545⟩ : ∃ z : List Value, z = (Ls1537.set 56 (.int (95 : Int32))) := ⟨_, rfl⟩
  rw [← hLs1545] at y1544
  have lLs1545 : Ls1545.length = 65 := by rw [hLs1545, List.length_set, lLs1537]
  have N1540 := Fr.snoc X1540 N1532 ge1093
  have g1546 : Go p e below T1540 (mkF m 1086 #[iv p0, iv p1, iv p2, iv p3, iv p4, iv ca, iv cb, iv cc, iv cd_, iv (95 : Int32), iv sel, .unset, .unset] [(.ref b1085), (.ref b1078), (.ref b1078)]) A0 := fun t kont => g1539 t (st1540 t kont)
  have g1547 : Go p e below T1540 (mkF m 1091 #[iv p0, iv p1, iv p2, iv p3, iv p4, iv ca, iv cb, iv cc, iv cd_, iv (95 : Int32), iv sel, .unset, .unset] [(.int (95 : Int32)), (.int (57 : Int32)), (.ref b1085), (.ref b1085), (.ref b1078), (.ref b1078)]) A0 := by
    intro t kont
    refine g1546 t ?_
    refine XS.dup X1540.here hx rfl (hb hby at_1086) rfl rfl ?_
    refine XS.bipush X1540.here hx rfl (hb hby at_1087) ?_
    refine XS.iload X1540.here hx rfl (hb hby at_1089) rfl ?_
    exact kont
  have zz1548 := y1544
  obtain ⟨cl1548, Ar1548, q1548, S1548, M1548, H1548, G1548⟩ := zz1548
  have in1548 : ¬ ((57 : Int32) < 0 ∨ cl1548.slots.size ≤ ((57 : Int32)).toNatClampNeg) := inb_of S1548 ⟨by decide, by decide⟩
  obtain ⟨T1548, h1548, X1548, e1548, W1548, st1548⟩ := stC X1540 hx hZ e1540 Ar1548 (j := (57 : Int32)) in1548 (g := (mkF m 1091 #[iv p0, iv p1, iv p2, iv p3, iv p4, iv ca, iv cb, iv cc, iv cd_, iv (95 : Int32), iv sel, .unset, .unset] [(.int (95 : Int32)), (.int (57 : Int32)), (.ref b1085), (.ref b1085), (.ref b1078), (.ref b1078)])) rfl rfl (hb hby at_1091)
  rw [show nar .char (95 : Int32) = (95 : Int32) from (by decide : nar .char (95 : Int32) = (95 : Int32))] at W1548
  have sf1550 : Safe Z consts_1 s.vm h1540 b1085 := (Safe.wr W1540 sf1542 R1533.1 sf1542)
  have R1549 : CHr Z consts_1 s.vm h0 s.vm h1548 := R1541.trans (CHr.wr W1548 sf1550 R1541.1)
  have O1551 := O1543.wr W1548 ge1093
  have y1552 : Arv Z h1548 b1085 k1085 .char (65 : Int32) (Ls1545.set 57 (.int (95 : Int32))) (.int (0 : Int32)) := Arv.set Ar1548 q1548 S1548 M1548 H1548 G1548 (own_ft_char (z := (95 : Int32)) (by decide : nar .char (95 : Int32) = (95 : Int32))) W1548 57 rfl (by rw [lLs1545]; decide)
  obtain ⟨Ls1553, hLs1553⟩ : ∃ z : List Value, z = (Ls1545.set 57 (.int (95 : Int32))) := ⟨_, rfl⟩
  rw [← hLs1553] at y1552
  have lLs1553 : Ls1553.length = 65 := by rw [hLs1553, List.length_set, lLs1545]
  have N1548 := Fr.snoc X1548 N1540 ge1093
  have g1554 : Go p e below T1548 (mkF m 1092 #[iv p0, iv p1, iv p2, iv p3, iv p4, iv ca, iv cb, iv cc, iv cd_, iv (95 : Int32), iv sel, .unset, .unset] [(.ref b1085), (.ref b1078), (.ref b1078)]) A0 := fun t kont => g1547 t (st1548 t kont)
  have g1555 : Go p e below T1548 (mkF m 1097 #[iv p0, iv p1, iv p2, iv p3, iv p4, iv ca, iv cb, iv cc, iv cd_, iv (95 : Int32), iv sel, .unset, .unset] [(.int (95 : Int32)), (.int (58 : Int32)), (.ref b1085), (.ref b1085), (.ref b1078), (.ref b1078)]) A0 := by
    intro t kont
    refine g1554 t ?_
    refine XS.dup X1548.here hx rfl (hb hby at_1092) rfl rfl ?_
    refine XS.bipush X1548.here hx rfl (hb hby at_1093) ?_
    refine XS.iload X1548.here hx rfl (hb hby at_1095) rfl ?_
    exact kont
  have zz1556 := y1552
  obtain ⟨cl1556, Ar1556, q1556, S1556, M1556, H1556, G1556⟩ := zz1556
  have in1556 : ¬ ((58 : Int32) < 0 ∨ cl1556.slots.size ≤ ((58 : Int32)).toNatClampNeg) := inb_of S1556 ⟨by decide, by decide⟩
  obtain ⟨T1556, h1556, X1556, e1556, W1556, st1556⟩ := stC X1548 hx hZ e1548 Ar1556 (j := (58 : Int32)) in1556 (g := (mkF m 1097 #[iv p0, iv p1, iv p2, iv p3, iv p4, iv ca, iv cb, iv cc, iv cd_, iv (95 : Int32), iv sel, .unset, .unset] [(.int (95 : Int32)), (.int (58 : Int32)), (.ref b1085), (.ref b1085), (.ref b1078), (.ref b1078)])) rfl rfl (hb hby at_1097)
  rw [show nar .char (95 : Int32) = (95 : Int32) from (by decide : nar .char (95 : Int32) = (95 : Int32))] at W1556
  have sf1558 : Safe Z consts_1 s.vm h1548 b1085 := (Safe.wr W1548 sf1550 R1541.1 sf1550)
  have R1557 : CHr Z consts_1 s.vm h0 s.vm h1556 := R1549.trans (CHr.wr W1556 sf1558 R1549.1)
  have O1559 := O1551.wr W1556 ge1093
  have y1560 : Arv Z h1556 b1085 k1085 .char (65 : Int32) (Ls1553.set 58 (.int (95 : Int32))) (.int (0 : Int32)) := Arv.set Ar1556 q1556 S1556 M1556 H1556 G1556 (own_ft_char (z := (95 : Int32)) (by decide : nar .char (95 : Int32) = (95 : Int32))) W1556 58 rfl (by rw [lLs1553]; decide)
  obtain ⟨Ls1561, hLs1561⟩ : ∃ z : List Value, z = (Ls1553.set 58 (.int (95 : Int32))) := ⟨_, rfl⟩
  rw [← hLs1561] at y1560
  have lLs1561 : Ls1561.length = 65 := by rw [hLs1561, List.length_set, lLs1553]
  have N1556 := Fr.snoc X1556 N1548 ge1093
  have g1562 : Go p e below T1556 (mkF m 1098 #[iv p0, iv p1, iv p2, iv p3, iv p4, iv ca, iv cb, iv cc, iv cd_, iv (95 : Int32), iv sel, .unset, .unset] [(.ref b1085), (.ref b1078), (.ref b1078)]) A0 := fun t kont => g1555 t (st1556 t kont)
  have g1563 : Go p e below T1556 (mkF m 1103 #[iv p0, iv p1, iv p2, iv p3, iv p4, iv ca, iv cb, iv cc, iv cd_, iv (95 : Int32), iv sel, .unset, .unset] [(.int (95 : Int32)), (.int (59 : Int32)), (.ref b1085), (.ref b1085), (.ref b1078), (.ref b1078)]) A0 := by
    intro t kont
    refine g1562 t ?_
    refine XS.dup X1556.here hx rfl (hb hby at_1098) rfl rfl ?_
    refine XS.bipush X1556.here hx rfl (hb hby at_1099) ?_
    refine XS.iload X1556.here hx rfl (hb hby at_1101) rfl ?_
    exact kont
  have zz1564 := y1560
  obtain ⟨cl1564, Ar1564, q1564, S1564, M1564, H1564, G1564⟩ := zz1564
  have in1564 : ¬ ((59 : Int32) < 0 ∨ cl1564.slots.size ≤ ((59 : Int32)).toNatClampNeg) := inb_of S1564 ⟨by decide, by decide⟩
  obtain ⟨T1564, h1564, X1564, e1564, W1564, st1564⟩ := stC X1556 hx hZ e1556 Ar1564 (j := (59 : Int32)) in1564 (g := (mkF m 1103 #[iv p0, iv p1, iv p2, iv p3, iv p4, iv ca, iv cb, iv cc, iv cd_, iv (95 : Int32), iv sel, .unset, .unset] [(.int (95 : Int32)), (.int (59 : Int32)), (.ref b1085), (.ref b1085), (.ref b1078), (.ref b1078)])) rfl rfl (hb hby at_1103)
  rw [show nar .char (95 : Int32) = (95 : Int32) from (by decide : nar .char (95 : Int32) = (95 : Int32))] at W1564
  have sf1566 : Safe Z consts_1 s.vm h1556 b1085 := (Safe.wr W1556 sf1558 R1549.1 sf1558)
  have R1565 : CHr Z consts_1 s.vm h0 s.vm h1564 := R1557.trans (CHr.wr W1564 sf1566 R1557.1)
  have O1567 := O1559.wr W1564 ge1093
  have y1568 : Arv Z h1564 b1085 k1085 .char (65 : Int32) (Ls1561.set 59 (.int (95 : Int32))) (.int (0 : Int32)) := Arv.set Ar1564 q1564 S1564 M1564 H1564 G1564 (own_ft_char (z := (95 : Int32)) (by decide : nar .char (95 : Int32) = (95 : Int32))) W1564 59 rfl (by rw [lLs1561]; decide)
  obtain ⟨Ls1569, hLs1569⟩ : ∃ z : List Value, z = (Ls1561.set 59 (.int (95 : Int32))) := ⟨_, rfl⟩
  rw [← hLs1569] at y1568
  have lLs1569 : Ls1569.length = 65 := by rw [hLs1569, List.length_set, lLs1561]
  have N1564 := Fr.snoc X1564 N1556 ge1093
  have g1570 : Go p e below T1564 (mkF m 1104 #[iv p0, iv p1, iv p2, iv p3, iv p4, iv ca, iv cb, iv cc, iv cd_, iv (95 : Int32), iv sel, .unset, .unset] [(.ref b1085), (.ref b1078), (.ref b1078)]) A0 := fun t kont => g1563 t (st1564 t kont)
  have g1571 : Go p e below T1564 (mkF m 1109 #[iv p0, iv p1, iv p2, iv p3, iv p4, iv ca, iv cb, iv cc, iv cd_, iv (95 : Int32), iv sel, .unset, .unset] [(.int (95 : Int32)), (.int (60 : Int32)), (.ref b1085), (.ref b1085), (.ref b1078), (.ref b1078)]) A0 := by
    intro t kont
    refine g1570 t ?_
    refine XS.dup X1564.here hx rfl (hb hby at_1104) rfl rfl ?_
    refine XS.bipush X1564.here hx rfl (hb hby at_1105) ?_
    refine XS.iload X1564.here hx rfl (hb hby at_1107) rfl ?_
    exact kont
  have zz1572 := y1568
  obtain ⟨cl1572, Ar1572, q1572, S1572, M1572, H1572, G1572⟩ := zz1572
  have in1572 : ¬ ((60 : Int32) < 0 ∨ cl1572.slots.size ≤ ((60 : Int32)).toNatClampNeg) := inb_of S1572 ⟨by decide, by decide⟩
  obtain ⟨T1572, h1572, X1572, e1572, W1572, st1572⟩ := stC X1564 hx hZ e1564 Ar1572 (j := (60 : Int32)) in1572 (g := (mkF m 1109 #[iv p0, iv p1, iv p2, iv p3, iv p4, iv ca, iv cb, iv cc, iv cd_, iv (95 : Int32), iv sel, .unset, .unset] [(.int (95 : Int32)), (.int (60 : Int32)), (.ref b1085), (.ref b1085), (.ref b1078), (.ref b1078)])) rfl rfl (hb hby at_1109)
  rw [show nar .char (95 : Int32) = (95 : Int32) from (by decide : nar .char (95 : Int32) = (95 : Int32))] at W1572
  have sf1574 : Safe Z consts_1 s.vm h1564 b1085 := (Safe.wr W1564 sf1566 R1557.1 sf1566)
  have R1573 : CHr Z consts_1 s.vm h0 s.vm h1572 := R1565.trans (CHr.wr W1572 sf1574 R1565.1)
  have O1575 := O1567.wr W1572 ge1093
  have y1576 : Arv Z h1572 b1085 k1085 .char (65 : Int32) (Ls1569.set 60 (.int (95 : Int32))) (.int (0 : Int32)) := Arv.set Ar1572 q1572 S1572 M1572 H1572 G1572 (own_ft_char (z := (95 : Int32)) (by decide : nar .char (95 : Int32) = (95 : Int32))) W1572 60 rfl (by rw [lLs1569]; decide)
  obtain ⟨Ls1577, hLs1577⟩ : ∃ z : List Value, z = (Ls1569.set 60 (.int (95 : Int32))) := ⟨_, rfl⟩
  rw [← hLs1577] at y1576
  have lLs1577 : Ls1577.length = 65 := by rw [hLs1577, List.length_set, lLs1569]
  have N1572 := Fr.snoc X1572 N1564 ge1093
  have g1578 : Go p e below T1572 (mkF m 1110 #[iv p0, iv p1, iv p2, iv p3, iv p4, iv ca, iv cb, iv cc, iv cd_, iv (95 : Int32), iv sel, .unset, .unset] [(.ref b1085), (.ref b1078), (.ref b1078)]) A0 := fun t kont => g1571 t (st1572 t kont)
  have g1579 : Go p e below T1572 (mkF m 1115 #[iv p0, iv p1, iv p2, iv p3, iv p4, iv ca, iv cb, iv cc, iv cd_, iv (95 : Int32), iv sel, .unset, .unset] [(.int (95 : Int32)), (.int (61 : Int32)), (.ref b1085), (.ref b1085), (.ref b1078), (.ref b1078)]) A0 := by
    intro t kont
    refine g1578 t ?_
    refine XS.dup X1572.here hx rfl (hb hby at_1110) rfl rfl ?_
    refine XS.bipush X1572.here hx rfl (hb hby at_1111) ?_
    refine XS.iload X1572.here hx rfl (hb hby at_1113) rfl ?_
    exact kont
  have zz1580 := y1576
  obtain ⟨cl1580, Ar1580, q1580, S1580, M1580, H1580, G1580⟩ := zz1580
  have in1580 : ¬ ((61 : Int32) < 0 ∨ cl1580.slots.size ≤ ((61 : Int32)).toNatClampNeg) := inb_of S1580 ⟨by decide, by decide⟩
  obtain ⟨T1580, h1580, X1580, e1580, W1580, st1580⟩ := stC X1572 hx hZ e1572 Ar1580 (j := (61 : Int32)) in1580 (g := (mkF m 1115 #[iv p0, iv p1, iv p2, iv p3, iv p4, iv ca, iv cb, iv cc, iv cd_, iv (95 : Int32), iv sel, .unset, .unset] [(.int (95 : Int32)), (.int (61 : Int32)), (.ref b1085), (.ref b1085), (.ref b1078), (.ref b1078)])) rfl rfl (hb hby at_1115)
  rw [show nar .char (95 : Int32) = (95 : Int32) from (by decide : nar .char (95 : Int32) = (95 : Int32))] at W1580
  have sf1582 : Safe Z consts_1 s.vm h1572 b1085 := (Safe.wr W1572 sf1574 R1565.1 sf1574)
  have R1581 : CHr Z consts_1 s.vm h0 s.vm h1580 := R1573.trans (CHr.wr W1580 sf1582 R1573.1)
  have O1583 := O1575.wr W1580 ge1093
  have y1584 : Arv Z h1580 b1085 k1085 .char (65 : Int32) (Ls1577.set 61 (.int (95 : Int32))) (.int (0 : Int32)) := Arv.set Ar1580 q1580 S1580 M1580 H1580 G1580 (own_ft_char (z := (95 : Int32)) (by decide : nar .char (95 : Int32) = (95 : Int32))) W1580 61 rfl (by rw [lLs1577]; decide)
  obtain ⟨Ls1585, hLs1585⟩ : ∃ z : List Value, z = (Ls1577.set 61 (.int (95 : Int32))) := ⟨_, rfl⟩
  rw [← hLs1585] at y1584
  have lLs1585 : Ls1585.length = 65 := by rw [hLs1585, List.length_set, lLs1577]
  have N1580 := Fr.snoc X1580 N1572 ge1093
  have g1586 : Go p e below T1580 (mkF m 1116 #[iv p0, iv p1, iv p2, iv p3, iv p4, iv ca, iv cb, iv cc, iv cd_, iv (95 : Int32), iv sel, .unset, .unset] [(.ref b1085), (.ref b1078), (.ref b1078)]) A0 := fun t kont => g1579 t (st1580 t kont)
  have g1587 : Go p e below T1580 (mkF m 1121 #[iv p0, iv p1, iv p2, iv p3, iv p4, iv ca, iv cb, iv cc, iv cd_, iv (95 : Int32), iv sel, .unset, .unset] [(.int (95 : Int32)), (.int (62 : Int32)), (.ref b1085), (.ref b1085), (.ref b1078), (.ref b1078)]) A0 := by
    intro t kont
    refine g1586 t ?_
    refine XS.dup X1580.here hx rfl (hb hby at_1116) rfl rfl ?_
    refine XS.bipush X1580.here hx rfl (hb hby at_1117) ?_
    refine XS.iload X1580.here hx rfl (hb hby at_1119) rfl ?_
    exact kont
  have zz1588 := y1584
  obtain ⟨cl1588, Ar1588, q1588, S1588, M1588, H1588, G1588⟩ := zz1588
  have in1588 : ¬ ((62 : Int32) < 0 ∨ cl1588.slots.size ≤ ((62 : Int32)).toNatClampNeg) := inb_of S1588 ⟨by decide, by decide⟩
  obtain ⟨T1588, h1588, X1588, e1588, W1588, st1588⟩ := stC X1580 hx hZ e1580 Ar1588 (j := (62 : Int32)) in1588 (g := (mkF m 1121 #[iv p0, iv p1, iv p2, iv p3, iv p4, iv ca, iv cb, iv cc, iv cd_, iv (95 : Int32), iv sel, .unset, .unset] [(.int (95 : Int32)), (.int (62 : Int32)), (.ref b1085), (.ref b1085), (.ref b1078), (.ref b1078)])) rfl rfl (hb hby at_1121)
  rw [show nar .char (95 : Int32) = (95 : Int32) from (by decide : nar .char (95 : Int32) = (95 : Int32))] at W1588
  have sf1590 : Safe Z consts_1 s.vm h1580 b1085 := (Safe.wr W1580 sf1582 R1573.1 sf1582)
  have R1589 : CHr Z consts_1 s.vm h0 s.vm h1588 := R1581.trans (CHr.wr W1588 sf1590 R1581.1)
  have O1591 := O1583.wr W1588 ge1093
  have y1592 : Arv Z h1588 b1085 k1085 .char (65 : Int32) (Ls1585.set 62 (.int (95 : Int32))) (.int (0 : Int32)) := Arv.set Ar1588 q1588 S1588 M1588 H1588 G1588 (own_ft_char (z := (95 : Int32)) (by decide : nar .char (95 : Int32) = (95 : Int32))) W1588 62 rfl (by rw [lLs1585]; decide)
  obtain ⟨Ls1593, hLs1593⟩ : ∃ z : List Value, z = (Ls1585.set 62 (.int (95 : Int32))) := ⟨_, rfl⟩
  rw [← hLs1593] at y1592
  have lLs1593 : Ls1593.length = 65 := by rw [hLs1593, List.length_set, lLs1585]
  have N1588 := Fr.snoc X1588 N1580 ge1093
  have g1594 : Go p e below T1588 (mkF m 1122 #[iv p0, iv p1, iv p2, iv p3, iv p4, iv ca, iv cb, iv cc, iv cd_, iv (95 : Int32), iv sel, .unset, .unset] [(.ref b1085), (.ref b1078), (.ref b1078)]) A0 := fun t kont => g1587 t (st1588 t kont)
  have g1595 : Go p e below T1588 (mkF m 1127 #[iv p0, iv p1, iv p2, iv p3, iv p4, iv ca, iv cb, iv cc, iv cd_, iv (95 : Int32), iv sel, .unset, .unset] [(.int (95 : Int32)), (.int (63 : Int32)), (.ref b1085), (.ref b1085), (.ref b1078), (.ref b1078)]) A0 := by
    intro t kont
    refine g1594 t ?_
    refine XS.dup X1588.here hx rfl (hb hby at_1122) rfl rfl ?_
    refine XS.bipush X1588.here hx rfl (hb hby at_1123) ?_
    refine XS.iload X1588.here hx rfl (hb hby at_1125) rfl ?_
    exact kont
  have zz1596 := y1592
  obtain ⟨cl1596, Ar1596, q1596, S1596, M1596, H1596, G1596⟩ := zz1596
  have in1596 : ¬ ((63 : Int32) < 0 ∨ cl1596.slots.size ≤ ((63 : Int32)).toNatClampNeg) := inb_of S1596 ⟨by decide, by decide⟩
  obtain ⟨T1596, h1596, X1596, e1596, W1596, st1596⟩ := stC X1588 hx hZ e1588 Ar1596 (j := (63 : Int32)) in1596 (g := (mkF m 1127 #[iv p0, iv p1, iv p2, iv p3, iv p4, iv ca, iv cb, iv cc, iv cd_, iv (95 : Int32), iv sel, .unset, .unset] [(.int (95 : Int32)), (.int (63 : Int32)), (.ref b1085), (.ref b1085), (.ref b1078), (.ref b1078)])) rfl rfl (hb hby at_1127)
  rw [show nar .char (95 : Int32) = (95 : Int32) from (by decide : nar .char (95 : Int32) = (95 : Int32))] at W1596
  have sf1598 : Safe Z consts_1 s.vm h1588 b1085 := (Safe.wr W1588 sf1590 R1581.1 sf1590)
  have R1597 : CHr Z consts_1 s.vm h0 s.vm h1596 := R1589.trans (CHr.wr W1596 sf1598 R1589.1)
  have O1599 := O1591.wr W1596 ge1093
  have y1600 : Arv Z h1596 b1085 k1085 .char (65 : Int32) (Ls1593.set 63 (.int (95 : Int32))) (.int (0 : Int32)) := Arv.set Ar1596 q1596 S1596 M1596 H1596 G1596 (own_ft_char (z := (95 : Int32)) (by decide : nar .char (95 : Int32) = (95 : Int32))) W1596 63 rfl (by rw [lLs1593]; decide)
  obtain ⟨Ls1601, hLs1601⟩ : ∃ z : List Value, z = (Ls1593.set 63 (.int (95 : Int32))) := ⟨_, rfl⟩
  rw [← hLs1601] at y1600
  have lLs1601 : Ls1601.length = 65 := by rw [hLs1601, List.length_set, lLs1593]
  have N1596 := Fr.snoc X1596 N1588 ge1093
  have g1602 : Go p e below T1596 (mkF m 1128 #[iv p0, iv p1, iv p2, iv p3, iv p4, iv ca, iv cb, iv cc, iv cd_, iv (95 : Int32), iv sel, .unset, .unset] [(.ref b1085), (.ref b1078), (.ref b1078)]) A0 := fun t kont => g1595 t (st1596 t kont)
  have g1603 : Go p e below T1596 (mkF m 1133 #[iv p0, iv p1, iv p2, iv p3, iv p4, iv ca, iv cb, iv cc, iv cd_, iv (95 : Int32), iv sel, .unset, .unset] [(.int cd_), (.int (64 : Int32)), (.ref b1085), (.ref b1085), (.ref b1078), (.ref b1078)]) A0 := by
    intro t kont
    refine g1602 t ?_
    refine XS.dup X1596.here hx rfl (hb hby at_1128) rfl rfl ?_
    refine XS.bipush X1596.here hx rfl (hb hby at_1129) ?_
    refine XS.iload X1596.here hx rfl (hb hby at_1131) rfl ?_
    exact kont
  have zz1604 := y1600
  obtain ⟨cl1604, Ar1604, q1604, S1604, M1604, H1604, G1604⟩ := zz1604
  have in1604 : ¬ ((64 : Int32) < 0 ∨ cl1604.slots.size ≤ ((64 : Int32)).toNatClampNeg) := inb_of S1604 ⟨by decide, by decide⟩
  obtain ⟨T1604, h1604, X1604, e1604, W1604, st1604⟩ := stC X1596 hx hZ e1596 Ar1604 (j := (64 : Int32)) in1604 (g := (mkF m 1133 #[iv p0, iv p1, iv p2, iv p3, iv p4, iv ca, iv cb, iv cc, iv cd_, iv (95 : Int32), iv sel, .unset, .unset] [(.int cd_), (.int (64 : Int32)), (.ref b1085), (.ref b1085), (.ref b1078), (.ref b1078)])) rfl rfl (hb hby at_1133)
  rw [show nar .char cd_ = cd_ from r_cd_] at W1604
  have sf1606 : Safe Z consts_1 s.vm h1596 b1085 := (Safe.wr W1596 sf1598 R1589.1 sf1598)
  have R1605 : CHr Z consts_1 s.vm h0 s.vm h1604 := R1597.trans (CHr.wr W1604 sf1606 R1597.1)
  have O1607 := O1599.wr W1604 ge1093
  have y1608 : Arv Z h1604 b1085 k1085 .char (65 : Int32) (Ls1601.set 64 (.int cd_)) (.int (0 : Int32)) := Arv.set Ar1604 q1604 S1604 M1604 H1604 G1604 (own_ft_char (z := cd_) r_cd_) W1604 64 rfl (by rw [lLs1601]; decide)
  obtain ⟨Ls1609, hLs1609⟩ : ∃ z : List Value, z = (Ls1601.set 64 (.int cd_)) := ⟨_, rfl⟩
  rw [← hLs1609] at y1608
  have lLs1609 : Ls1609.length = 65 := by rw [hLs1609, List.length_set, lLs1601]
  have N1604 := Fr.snoc X1604 N1596 ge1093
  have g1610 : Go p e below T1604 (mkF m 1134 #[iv p0, iv p1, iv p2, iv p3, iv p4, iv ca, iv cb, iv cc, iv cd_, iv (95 : Int32), iv sel, .unset, .unset] [(.ref b1085), (.ref b1078), (.ref b1078)]) A0 := fun t kont => g1603 t (st1604 t kont)
  obtain ⟨ls1612, hls1612⟩ : ∃ z, z = [ca, cb, (95 : Int32), (95 : Int32), (95 : Int32), (95 : Int32), (95 : Int32), (95 : Int32), (95 : Int32), (95 : Int32), (95 : Int32), (95 : Int32), (95 : Int32), (95 : Int32), (95 : Int32), (95 : Int32), (95 : Int32), (95 : Int32), (95 : Int32), (95 : Int32), (95 : Int32), (95 : Int32), (95 : Int32), (95 : Int32), (95 : Int32), (95 : Int32), (95 : Int32), (95 : Int32), (95 : Int32), (95 : Int32), (95 : Int32), (95 : Int32), cc, (95 : Int32), (95 : Int32), (95 : Int32), (95 : Int32), (95 : Int32), (95 : Int32), (95 : Int32), (95 : Int32), (95 : Int32), (95 : Int32), (95 : Int32), (95 : Int32), (95 : Int32), (95 : Int32), (95 : Int32), (95 : Int32), (95 : Int32), (95 : Int32), (95 : Int32), (95 : Int32), (95 : Int32), (95 : Int32), (95 : Int32), (95 : Int32), (95 : Int32), (95 : Int32), (95 : Int32), (95 : Int32), (95 : Int32), (95 : Int32), (95 : Int32), cd_] := ⟨_, rfl⟩
  have lls1612 : ls1612.length = 65 := by rw [hls1612]; rfl
  have y1613 : Arv Z h1604 b1085 k1085 .char (Int32.ofNat ls1612.length) (ls1612.map Value.int) (.int (0 : Int32)) := by
    have q := y1608
    rw [show Ls1609 = ls1612.map Value.int by rw [hLs1609, hLs1601, hLs1593, hLs1585, hLs1577, hLs1569, hLs1561, hLs1553, hLs1545, hLs1537, hLs1529, hLs1521, hLs1513, hLs1505, hLs1497, hLs1489, hLs1481, hLs1473, hLs1465, hLs1457, hLs1449, hLs1441, hLs1433, hLs1425, hLs1417, hLs1409, hLs1401, hLs1393, hLs1385, hLs1377, hLs1369, hLs1361, hLs1353, hLs1345, hLs1337, hLs1329, hLs1321, hLs1313, hLs1305, hLs1297, hLs1289, hLs1281, hLs1273, hLs1265, hLs1257, hLs1249, hLs1241, hLs1233, hLs1225, hLs1217, hLs1209, hLs1201, hLs1193, hLs1185, hLs1177, hLs1169, hLs1161, hLs1153, hLs1145, hLs1137, hLs1129, hLs1121, hLs1113, hLs1105, hLs1097, hLs1089, hls1612]; simp only [List.reduceReplicate, List.set_cons_zero, List.set_cons_succ, List.map_cons, List.map_nil]] at q
    rw [lls1612]
    exact q
  have y1614 : Fld Z h1604 b1078 "java/lang/String" "value" "[B" .null := ((((((((((((((((((((((((((((((((((((((((((((((((((((((((((((((((((y1081.ext E1085).other W1092 (Or.inl (Nat.ne_of_lt (Nat.lt_of_lt_of_le A1078.lt (Nat.le_of_eq gb1085.symm))))).other W1100 (Or.inl (Nat.ne_of_lt (Nat.lt_of_lt_of_le A1078.lt (Nat.le_of_eq gb1085.symm))))).other W1108 (Or.inl (Nat.ne_of_lt (Nat.lt_of_lt_of_le A1078.lt (Nat.le_of_eq gb1085.symm))))).other W1116 (Or.inl (Nat.ne_of_lt (Nat.lt_of_lt_of_le A1078.lt (Nat.le_of_eq gb1085.symm))))).other W1124 (Or.inl (Nat.ne_of_lt (Nat.lt_of_lt_of_le A1078.lt (Nat.le_of_eq gb1085.symm))))).other W1132 (Or.inl (Nat.ne_of_lt (Nat.lt_of_lt_of_le A1078.lt (Nat.le_of_eq gb1085.symm))))).other W1140 (Or.inl (Nat.ne_of_lt (Nat.lt_of_lt_of_le A1078.lt (Nat.le_of_eq gb1085.symm))))).other W1148 (Or.inl (Nat.ne_of_lt (Nat.lt_of_lt_of_le A1078.lt (Nat.le_of_eq gb1085.symm))))).other W1156 (Or.inl (Nat.ne_of_lt (Nat.lt_of_lt_of_le A1078.lt (Nat.le_of_eq gb1085.symm))))).other W1164 (Or.inl (Nat.ne_of_lt (Nat.lt_of_lt_of_le A1078.lt (Nat.le_of_eq gb1085.symm))))).other W1172 (Or.inl (Nat.ne_of_lt (Nat.lt_of_lt_of_le A1078.lt (Nat.le_of_eq gb1085.symm))))).other W1180 (Or.inl (Nat.ne_of_lt (Nat.lt_of_lt_of_le A1078.lt (Nat.le_of_eq gb1085.symm))))).other W1188 (Or.inl (Nat.ne_of_lt (Nat.lt_of_lt_of_le A1078.lt (Nat.le_of_eq gb1085.symm))))).other W1196 (Or.inl (Nat.ne_of_lt (Nat.lt_of_lt_of_le A1078.lt (Nat.le_of_eq gb1085.symm))))).other W1204 (Or.inl (Nat.ne_of_lt (Nat.lt_of_lt_of_le A1078.lt (Nat.le_of_eq gb1085.symm))))).other W1212 (Or.inl (Nat.ne_of_lt (Nat.lt_of_lt_of_le A1078.lt (Nat.le_of_eq gb1085.symm))))).other W1220 (Or.inl (Nat.ne_of_lt (Nat.lt_of_lt_of_le A1078.lt (Nat.le_of_eq gb1085.symm))))).other W1228 (Or.inl (Nat.ne_of_lt (Nat.lt_of_lt_of_le A1078.lt (Nat.le_of_eq gb1085.symm))))).other W1236 (Or.inl (Nat.ne_of_lt (Nat.lt_of_lt_of_le A1078.lt (Nat.le_of_eq gb1085.symm))))).other W1244 (Or.inl (Nat.ne_of_lt (Nat.lt_of_lt_of_le A1078.lt (Nat.le_of_eq gb1085.symm))))).other W1252 (Or.inl (Nat.ne_of_lt (Nat.lt_of_lt_of_le A1078.lt (Nat.le_of_eq gb1085.symm))))).other W1260 (Or.inl (Nat.ne_of_lt (Nat.lt_of_lt_of_le A1078.lt (Nat.le_of_eq gb1085.symm))))).other W1268 (Or.inl (Nat.ne_of_lt (Nat.lt_of_lt_of_le A1078.lt (Nat.le_of_eq gb1085.symm))))).other W1276 (Or.inl (Nat.ne_of_lt (Nat.lt_of_lt_of_le A1078.lt (Nat.le_of_eq gb1085.symm))))).other W1284 (Or.inl (Nat.ne_of_lt (Nat.lt_of_lt_of_le A1078.lt (Nat.le_of_eq gb1085.symm))))).other W1292 (Or.inl (Nat.ne_of_lt (Nat.lt_of_lt_of_le A1078.lt (Nat.le_of_eq gb1085.symm))))).other W1300 (Or.inl (Nat.ne_of_lt (Nat.lt_of_lt_of_le A1078.lt (Nat.le_of_eq gb1085.symm))))).other W1308 (Or.inl (Nat.ne_of_lt (Nat.lt_of_lt_of_le A1078.lt (Nat.le_of_eq gb1085.symm))))).other W1316 (Or.inl (Nat.ne_of_lt (Nat.lt_of_lt_of_le A1078.lt (Nat.le_of_eq gb1085.symm))))).other W1324 (Or.inl (Nat.ne_of_lt (Nat.lt_of_lt_of_le A1078.lt (Nat.le_of_eq gb1085.symm))))).other W1332 (Or.inl (Nat.ne_of_lt (Nat.lt_of_lt_of_le A1078.lt (Nat.le_of_eq gb1085.symm))))).other W1340 (Or.inl (Nat.ne_of_lt (Nat.lt_of_lt_of_le A1078.lt (Nat.le_of_eq gb1085.symm))))).other W1348 (Or.inl (Nat.ne_of_lt (Nat.lt_of_lt_of_le A1078.lt (Nat.le_of_eq gb1085.symm))))).other W1356 (Or.inl (Nat.ne_of_lt (Nat.lt_of_lt_of_le A1078.lt (Nat.le_of_eq gb1085.symm))))).other W1364 (Or.inl (Nat.ne_of_lt (Nat.lt_of_lt_of_le A1078.lt (Nat.le_of_eq gb1085.symm))))).other W1372 (Or.inl (Nat.ne_of_lt (Nat.lt_of_lt_of_le A1078.lt (Nat.le_of_eq gb1085.symm))))).other W1380 (Or.inl (Nat.ne_of_lt (Nat.lt_of_lt_of_le A1078.lt (Nat.le_of_eq gb1085.symm))))).other W1388 (Or.inl (Nat.ne_of_lt (Nat.lt_of_lt_of_le A1078.lt (Nat.le_of_eq gb1085.symm))))).other W1396 (Or.inl (Nat.ne_of_lt (Nat.lt_of_lt_of_le A1078.lt (Nat.le_of_eq gb1085.symm))))).other W1404 (Or.inl (Nat.ne_of_lt (Nat.lt_of_lt_of_le A1078.lt (Nat.le_of_eq gb1085.symm))))).other W1412 (Or.inl (Nat.ne_of_lt (Nat.lt_of_lt_of_le A1078.lt (Nat.le_of_eq gb1085.symm))))).other W1420 (Or.inl (Nat.ne_of_lt (Nat.lt_of_lt_of_le A1078.lt (Nat.le_of_eq gb1085.symm))))).other W1428 (Or.inl (Nat.ne_of_lt (Nat.lt_of_lt_of_le A1078.lt (Nat.le_of_eq gb1085.symm))))).other W1436 (Or.inl (Nat.ne_of_lt (Nat.lt_of_lt_of_le A1078.lt (Nat.le_of_eq gb1085.symm))))).other W1444 (Or.inl (Nat.ne_of_lt (Nat.lt_of_lt_of_le A1078.lt (Nat.le_of_eq gb1085.symm))))).other W1452 (Or.inl (Nat.ne_of_lt (Nat.lt_of_lt_of_le A1078.lt (Nat.le_of_eq gb1085.symm))))).other W1460 (Or.inl (Nat.ne_of_lt (Nat.lt_of_lt_of_le A1078.lt (Nat.le_of_eq gb1085.symm))))).other W1468 (Or.inl (Nat.ne_of_lt (Nat.lt_of_lt_of_le A1078.lt (Nat.le_of_eq gb1085.symm))))).other W1476 (Or.inl (Nat.ne_of_lt (Nat.lt_of_lt_of_le A1078.lt (Nat.le_of_eq gb1085.symm))))).other W1484 (Or.inl (Nat.ne_of_lt (Nat.lt_of_lt_of_le A1078.lt (Nat.le_of_eq gb1085.symm))))).other W1492 (Or.inl (Nat.ne_of_lt (Nat.lt_of_lt_of_le A1078.lt (Nat.le_of_eq gb1085.symm))))).other W1500 (Or.inl (Nat.ne_of_lt (Nat.lt_of_lt_of_le A1078.lt (Nat.le_of_eq gb1085.symm))))).other W1508 (Or.inl (Nat.ne_of_lt (Nat.lt_of_lt_of_le A1078.lt (Nat.le_of_eq gb1085.symm))))).other W1516 (Or.inl (Nat.ne_of_lt (Nat.lt_of_lt_of_le A1078.lt (Nat.le_of_eq gb1085.symm))))).other W1524 (Or.inl (Nat.ne_of_lt (Nat.lt_of_lt_of_le A1078.lt (Nat.le_of_eq gb1085.symm))))).other W1532 (Or.inl (Nat.ne_of_lt (Nat.lt_of_lt_of_le A1078.lt (Nat.le_of_eq gb1085.symm))))).other W1540 (Or.inl (Nat.ne_of_lt (Nat.lt_of_lt_of_le A1078.lt (Nat.le_of_eq gb1085.symm))))).other W1548 (Or.inl (Nat.ne_of_lt (Nat.lt_of_lt_of_le A1078.lt (Nat.le_of_eq gb1085.symm))))).other W1556 (Or.inl (Nat.ne_of_lt (Nat.lt_of_lt_of_le A1078.lt (Nat.le_of_eq gb1085.symm))))).other W1564 (Or.inl (Nat.ne_of_lt (Nat.lt_of_lt_of_le A1078.lt (Nat.le_of_eq gb1085.symm))))).other W1572 (Or.inl (Nat.ne_of_lt (Nat.lt_of_lt_of_le A1078.lt (Nat.le_of_eq gb1085.symm))))).other W1580 (Or.inl (Nat.ne_of_lt (Nat.lt_of_lt_of_le A1078.lt (Nat.le_of_eq gb1085.symm))))).other W1588 (Or.inl (Nat.ne_of_lt (Nat.lt_of_lt_of_le A1078.lt (Nat.le_of_eq gb1085.symm))))).other W1596 (Or.inl (Nat.ne_of_lt (Nat.lt_of_lt_of_le A1078.lt (Nat.le_of_eq gb1085.symm))))).other W1604 (Or.inl (Nat.ne_of_lt (Nat.lt_of_lt_of_le A1078.lt (Nat.le_of_eq gb1085.symm)))))
  have y1615 : Fld Z h1604 b1078 "java/lang/String" "coder" "B" (.int (0 : Int32)) := ((((((((((((((((((((((((((((((((((((((((((((((((((((((((((((((((((y1082.ext E1085).other W1092 (Or.inl (Nat.ne_of_lt (Nat.lt_of_lt_of_le A1078.lt (Nat.le_of_eq gb1085.symm))))).other W1100 (Or.inl (Nat.ne_of_lt (Nat.lt_of_lt_of_le A1078.lt (Nat.le_of_eq gb1085.symm))))).other W1108 (Or.inl (Nat.ne_of_lt (Nat.lt_of_lt_of_le A1078.lt (Nat.le_of_eq gb1085.symm))))).other W1116 (Or.inl (Nat.ne_of_lt (Nat.lt_of_lt_of_le A1078.lt (Nat.le_of_eq gb1085.symm))))).other W1124 (Or.inl (Nat.ne_of_lt (Nat.lt_of_lt_of_le A1078.lt (Nat.le_of_eq gb1085.symm))))).other W1132 (Or.inl (Nat.ne_of_lt (Nat.lt_of_lt_of_le A1078.lt (Nat.le_of_eq gb1085.symm))))).other W1140 (Or.inl (Nat.ne_of_lt (Nat.lt_of_lt_of_le A1078.lt (Nat.le_of_eq gb1085.symm))))).other W1148 (Or.inl (Nat.ne_of_lt (Nat.lt_of_lt_of_le A1078.lt (Nat.le_of_eq gb1085.symm))))).other W1156 (Or.inl (Nat.ne_of_lt (Nat.lt_of_lt_of_le A1078.lt (Nat.le_of_eq gb1085.symm))))).other W1164 (Or.inl (Nat.ne_of_lt (Nat.lt_of_lt_of_le A1078.lt (Nat.le_of_eq gb1085.symm))))).other W1172 (Or.inl (Nat.ne_of_lt (Nat.lt_of_lt_of_le A1078.lt (Nat.le_of_eq gb1085.symm))))).other W1180 (Or.inl (Nat.ne_of_lt (Nat.lt_of_lt_of_le A1078.lt (Nat.le_of_eq gb1085.symm))))).other W1188 (Or.inl (Nat.ne_of_lt (Nat.lt_of_lt_of_le A1078.lt (Nat.le_of_eq gb1085.symm))))).other W1196 (Or.inl (Nat.ne_of_lt (Nat.lt_of_lt_of_le A1078.lt (Nat.le_of_eq gb1085.symm))))).other W1204 (Or.inl (Nat.ne_of_lt (Nat.lt_of_lt_of_le A1078.lt (Nat.le_of_eq gb1085.symm))))).other W1212 (Or.inl (Nat.ne_of_lt (Nat.lt_of_lt_of_le A1078.lt (Nat.le_of_eq gb1085.symm))))).other W1220 (Or.inl (Nat.ne_of_lt (Nat.lt_of_lt_of_le A1078.lt (Nat.le_of_eq gb1085.symm))))).other W1228 (Or.inl (Nat.ne_of_lt (Nat.lt_of_lt_of_le A1078.lt (Nat.le_of_eq gb1085.symm))))).other W1236 (Or.inl (Nat.ne_of_lt (Nat.lt_of_lt_of_le A1078.lt (Nat.le_of_eq gb1085.symm))))).other W1244 (Or.inl (Nat.ne_of_lt (Nat.lt_of_lt_of_le A1078.lt (Nat.le_of_eq gb1085.symm))))).other W1252 (Or.inl (Nat.ne_of_lt (Nat.lt_of_lt_of_le A1078.lt (Nat.le_of_eq gb1085.symm))))).other W1260 (Or.inl (Nat.ne_of_lt (Nat.lt_of_lt_of_le A1078.lt (Nat.le_of_eq gb1085.symm))))).other W1268 (Or.inl (Nat.ne_of_lt (Nat.lt_of_lt_of_le A1078.lt (Nat.le_of_eq gb1085.symm))))).other W1276 (Or.inl (Nat.ne_of_lt (Nat.lt_of_lt_of_le A1078.lt (Nat.le_of_eq gb1085.symm))))).other W1284 (Or.inl (Nat.ne_of_lt (Nat.lt_of_lt_of_le A1078.lt (Nat.le_of_eq gb1085.symm))))).other W1292 (Or.inl (Nat.ne_of_lt (Nat.lt_of_lt_of_le A1078.lt (Nat.le_of_eq gb1085.symm))))).other W1300 (Or.inl (Nat.ne_of_lt (Nat.lt_of_lt_of_le A1078.lt (Nat.le_of_eq gb1085.symm))))).other W1308 (Or.inl (Nat.ne_of_lt (Nat.lt_of_lt_of_le A1078.lt (Nat.le_of_eq gb1085.symm))))).other W1316 (Or.inl (Nat.ne_of_lt (Nat.lt_of_lt_of_le A1078.lt (Nat.le_of_eq gb1085.symm))))).other W1324 (Or.inl (Nat.ne_of_lt (Nat.lt_of_lt_of_le A1078.lt (Nat.le_of_eq gb1085.symm))))).other W1332 (Or.inl (Nat.ne_of_lt (Nat.lt_of_lt_of_le A1078.lt (Nat.le_of_eq gb1085.symm))))).other W1340 (Or.inl (Nat.ne_of_lt (Nat.lt_of_lt_of_le A1078.lt (Nat.le_of_eq gb1085.symm))))).other W1348 (Or.inl (Nat.ne_of_lt (Nat.lt_of_lt_of_le A1078.lt (Nat.le_of_eq gb1085.symm))))).other W1356 (Or.inl (Nat.ne_of_lt (Nat.lt_of_lt_of_le A1078.lt (Nat.le_of_eq gb1085.symm))))).other W1364 (Or.inl (Nat.ne_of_lt (Nat.lt_of_lt_of_le A1078.lt (Nat.le_of_eq gb1085.symm))))).other W1372 (Or.inl (Nat.ne_of_lt (Nat.lt_of_lt_of_le A1078.lt (Nat.le_of_eq gb1085.symm))))).other W1380 (Or.inl (Nat.ne_of_lt (Nat.lt_of_lt_of_le A1078.lt (Nat.le_of_eq gb1085.symm))))).other W1388 (Or.inl (Nat.ne_of_lt (Nat.lt_of_lt_of_le A1078.lt (Nat.le_of_eq gb1085.symm))))).other W1396 (Or.inl (Nat.ne_of_lt (Nat.lt_of_lt_of_le A1078.lt (Nat.le_of_eq gb1085.symm))))).other W1404 (Or.inl (Nat.ne_of_lt (Nat.lt_of_lt_of_le A1078.lt (Nat.le_of_eq gb1085.symm))))).other W1412 (Or.inl (Nat.ne_of_lt (Nat.lt_of_lt_of_le A1078.lt (Nat.le_of_eq gb1085.symm))))).other W1420 (Or.inl (Nat.ne_of_lt (Nat.lt_of_lt_of_le A1078.lt (Nat.le_of_eq gb1085.symm))))).other W1428 (Or.inl (Nat.ne_of_lt (Nat.lt_of_lt_of_le A1078.lt (Nat.le_of_eq gb1085.symm))))).other W1436 (Or.inl (Nat.ne_of_lt (Nat.lt_of_lt_of_le A1078.lt (Nat.le_of_eq gb1085.symm))))).other W1444 (Or.inl (Nat.ne_of_lt (Nat.lt_of_lt_of_le A1078.lt (Nat.le_of_eq gb1085.symm))))).other W1452 (Or.inl (Nat.ne_of_lt (Nat.lt_of_lt_of_le A1078.lt (Nat.le_of_eq gb1085.symm))))).other W1460 (Or.inl (Nat.ne_of_lt (Nat.lt_of_lt_of_le A1078.lt (Nat.le_of_eq gb1085.symm))))).other W1468 (Or.inl (Nat.ne_of_lt (Nat.lt_of_lt_of_le A1078.lt (Nat.le_of_eq gb1085.symm))))).other W1476 (Or.inl (Nat.ne_of_lt (Nat.lt_of_lt_of_le A1078.lt (Nat.le_of_eq gb1085.symm))))).other W1484 (Or.inl (Nat.ne_of_lt (Nat.lt_of_lt_of_le A1078.lt (Nat.le_of_eq gb1085.symm))))).other W1492 (Or.inl (Nat.ne_of_lt (Nat.lt_of_lt_of_le A1078.lt (Nat.le_of_eq gb1085.symm))))).other W1500 (Or.inl (Nat.ne_of_lt (Nat.lt_of_lt_of_le A1078.lt (Nat.le_of_eq gb1085.symm))))).other W1508 (Or.inl (Nat.ne_of_lt (Nat.lt_of_lt_of_le A1078.lt (Nat.le_of_eq gb1085.symm))))).other W1516 (Or.inl (Nat.ne_of_lt (Nat.lt_of_lt_of_le A1078.lt (Nat.le_of_eq gb1085.symm))))).other W1524 (Or.inl (Nat.ne_of_lt (Nat.lt_of_lt_of_le A1078.lt (Nat.le_of_eq gb1085.symm))))).other W1532 (Or.inl (Nat.ne_of_lt (Nat.lt_of_lt_of_le A1078.lt (Nat.le_of_eq gb1085.symm))))).other W1540 (Or.inl (Nat.ne_of_lt (Nat.lt_of_lt_of_le A1078.lt (Nat.le_of_eq gb1085.symm))))).other W1548 (Or.inl (Nat.ne_of_lt (Nat.lt_of_lt_of_le A1078.lt (Nat.le_of_eq gb1085.symm))))).other W1556 (Or.inl (Nat.ne_of_lt (Nat.lt_of_lt_of_le A1078.lt (Nat.le_of_eq gb1085.symm))))).other W1564 (Or.inl (Nat.ne_of_lt (Nat.lt_of_lt_of_le A1078.lt (Nat.le_of_eq gb1085.symm))))).other W1572 (Or.inl (Nat.ne_of_lt (Nat.lt_of_lt_of_le A1078.lt (Nat.le_of_eq gb1085.symm))))).other W1580 (Or.inl (Nat.ne_of_lt (Nat.lt_of_lt_of_le A1078.lt (Nat.le_of_eq gb1085.symm))))).other W1588 (Or.inl (Nat.ne_of_lt (Nat.lt_of_lt_of_le A1078.lt (Nat.le_of_eq gb1085.symm))))).other W1596 (Or.inl (Nat.ne_of_lt (Nat.lt_of_lt_of_le A1078.lt (Nat.le_of_eq gb1085.symm))))).other W1604 (Or.inl (Nat.ne_of_lt (Nat.lt_of_lt_of_le A1078.lt (Nat.le_of_eq gb1085.symm)))))
  have y1616 : Exa Z h1604 b1078 "java/lang/String" := ((((((((((((((((((((((((((((((((((((((((((((((((((((((((((((((((((A1078.ext E1085).wr W1092).wr W1100).wr W1108).wr W1116).wr W1124).wr W1132).wr W1140).wr W1148).wr W1156).wr W1164).wr W1172).wr W1180).wr W1188).wr W1196).wr W1204).wr W1212).wr W1220).wr W1228).wr W1236).wr W1244).wr W1252).wr W1260).wr W1268).wr W1276).wr W1284).wr W1292).wr W1300).wr W1308).wr W1316).wr W1324).wr W1332).wr W1340).wr W1348).wr W1356).wr W1364).wr W1372).wr W1380).wr W1388).wr W1396).wr W1404).wr W1412).wr W1420).wr W1428).wr W1436).wr W1444).wr W1452).wr W1460).wr W1468).wr W1476).wr W1484).wr W1492).wr W1500).wr W1508).wr W1516).wr W1524).wr W1532).wr W1540).wr W1548).wr W1556).wr W1564).wr W1572).wr W1580).wr W1588).wr W1596).wr W1604)
  have ge1617 : n0 ≤ b1078 := Nat.le_trans (own_old_le O0) (Nat.le_of_eq gb1078.symm)
  obtain ⟨_, _, ⟨T1611, L1611, k1611, n1611⟩, -, X1611, ⟨Lc1611, hQ1611, l1611, y1611, z1611⟩, st1611⟩ := X1604.specialBack hx (y := (⟨"java/lang/String", "<init>", "([C)V"⟩ : MethodName)) rfl hown (mvT hZ (hw _ (List.mem_of_getElem? (i := 5) rfl))) (mvT hZ (hw _ (List.mem_of_getElem? (i := 6) rfl))) (mvT hZ (hw _ (List.mem_of_getElem? (i := 7) rfl))) (by decide) (backOf (W := 1) (rm_sIniG l Z a0 hw [] b1078 b1085 k1085 ls1612 i_COMPACT_STRINGS h1604 n0 O1607 y1614 y1615 y1616 ge1617 y1613 (by rw [lls1612]; decide) (by rw [lls1612]; decide) (by rw [hls1612]; exact (own_ccons ⟨z_ca, b_ca⟩ (own_ccons ⟨z_cb, b_cb⟩ (own_ccons ⟨by decide, by decide⟩ (own_ccons ⟨by decide, by decide⟩ (own_ccons ⟨by decide, by decide⟩ (own_ccons ⟨by decide, by decide⟩ (own_ccons ⟨by decide, by decide⟩ (own_ccons ⟨by decide, by decide⟩ (own_ccons ⟨by decide, by decide⟩ (own_ccons ⟨by decide, by decide⟩ (own_ccons ⟨by decide, by decide⟩ (own_ccons ⟨by decide, by decide⟩ (own_ccons ⟨by decide, by decide⟩ (own_ccons ⟨by decide, by decide⟩ (own_ccons ⟨by decide, by decide⟩ (own_ccons ⟨by decide, by decide⟩ (own_ccons ⟨by decide, by decide⟩ (own_ccons ⟨by decide, by decide⟩ (own_ccons ⟨by decide, by decide⟩ (own_ccons ⟨by decide, by decide⟩ (own_ccons ⟨by decide, by decide⟩ (own_ccons ⟨by decide, by decide⟩ (own_ccons ⟨by decide, by decide⟩ (own_ccons ⟨by decide, by decide⟩ (own_ccons ⟨by decide, by decide⟩ (own_ccons ⟨by decide, by decide⟩ (own_ccons ⟨by decide, by decide⟩ (own_ccons ⟨by decide, by decide⟩ (own_ccons ⟨by decide, by decide⟩ (own_ccons ⟨by decide, by decide⟩ (own_ccons ⟨by decide, by decide⟩ (own_ccons ⟨by decide, by decide⟩ (own_ccons ⟨z_cc, b_cc⟩ (own_ccons ⟨by decide, by decide⟩ (own_ccons ⟨by decide, by decide⟩ (own_ccons ⟨by decide, by decide⟩ (own_ccons ⟨by decide, by decide⟩ (own_ccons ⟨by decide, by decide⟩ (own_ccons ⟨by decide, by decide⟩ (own_ccons ⟨by decide, by decide⟩ (own_ccons ⟨by decide, by decide⟩ (own_ccons ⟨by decide, by decide⟩ (own_ccons ⟨by decide, by decide⟩ (own_ccons ⟨by decide, by decide⟩ (own_ccons ⟨by decide, by decide⟩ (own_ccons ⟨by decide, by decide⟩ (own_ccons ⟨by decide, by decide⟩ (own_ccons ⟨by decide, by decide⟩ (own_ccons ⟨by decide, by decide⟩ (own_ccons ⟨by decide, by decide⟩ (own_ccons ⟨by decide, by decide⟩ (own_ccons ⟨by decide, by decide⟩ (own_ccons ⟨by decide, by decide⟩ (own_ccons ⟨by decide, by decide⟩ (own_ccons ⟨by decide, by decide⟩ (own_ccons ⟨by decide, by decide⟩ (own_ccons ⟨by decide, by decide⟩ (own_ccons ⟨by decide, by decide⟩ (own_ccons ⟨by decide, by decide⟩ (own_ccons ⟨by decide, by decide⟩ (own_ccons ⟨by decide, by decide⟩ (own_ccons ⟨by decide, by decide⟩ (own_ccons ⟨by decide, by decide⟩ (own_ccons ⟨by decide, by decide⟩ (own_ccons ⟨z_cd_, b_cd_⟩ own_cnil)))))))))))))))))))))))))))))))))))))))))))))))))))))))))))))))))) S0_ hcs S4_ S5_ S6_) hZ (hw _ (List.mem_of_getElem? (i := 7) rfl)) (hw _ (List.mem_of_getElem? (i := 3) rfl)) (by decide) (by decide)) (g := (mkF m 1134 #[iv p0, iv p1, iv p2, iv p3, iv p4, iv ca, iv cb, iv cc, iv cd_, iv (95 : Int32), iv sel, .unset, .unset] [(.ref b1085), (.ref b1078), (.ref b1078)])) rfl (by rw [hml]; rfl) (Steps.refl _) (a := b1078) (argsL := [(.ref b1085)]) (rest := [(.ref b1078)]) (lenOf pd_17 rfl) rfl (by show 2 * 0 + _ ≤ _; exact Nat.le_of_eq rfl) (hb hby at_1134) (fun _ _ => ⟨rfl, e1604, (by decide : 2 + 2 ≤ _), (by decide : 69 + 195 ≤ _)⟩)
  dsimp only [Pt.U, Pt.locs, Pt.cells, Pt.slots] at X1611 l1611 y1611 z1611 st1611 hQ1611
  subst y1611 z1611
  obtain ⟨r1618, r1619, r1620, r1621, r1622, rfl, M1611, K1611, y1623, y1624, y1625, y1626, y1627, y1628⟩ := hQ1611
  have N1611 : Fr n0 L1611 := by rw [l1611]; exact Fr.app N1604 M1611
  have sf1630 : Safe Z consts_1 s.vm h1604 b1078 := (Safe.wr W1604 sf1606 R1597.1 (Safe.wr W1596 sf1598 R1589.1 (Safe.wr W1588 sf1590 R1581.1 (Safe.wr W1580 sf1582 R1573.1 (Safe.wr W1572 sf1574 R1565.1 (Safe.wr W1564 sf1566 R1557.1 (Safe.wr W1556 sf1558 R1549.1 (Safe.wr W1548 sf1550 R1541.1 (Safe.wr W1540 sf1542 R1533.1 (Safe.wr W1532 sf1534 R1525.1 (Safe.wr W1524 sf1526 R1517.1 (Safe.wr W1516 sf1518 R1509.1 (Safe.wr W1508 sf1510 R1501.1 (Safe.wr W1500 sf1502 R1493.1 (Safe.wr W1492 sf1494 R1485.1 (Safe.wr W1484 sf1486 R1477.1 (Safe.wr W1476 sf1478 R1469.1 (Safe.wr W1468 sf1470 R1461.1 (Safe.wr W1460 sf1462 R1453.1 (Safe.wr W1452 sf1454 R1445.1 (Safe.wr W1444 sf1446 R1437.1 (Safe.wr W1436 sf1438 R1429.1 (Safe.wr W1428 sf1430 R1421.1 (Safe.wr W1420 sf1422 R1413.1 (Safe.wr W1412 sf1414 R1405.1 (Safe.wr W1404 sf1406 R1397.1 (Safe.wr W1396 sf1398 R1389.1 (Safe.wr W1388 sf1390 R1381.1 (Safe.wr W1380 sf1382 R1373.1 (Safe.wr W1372 sf1374 R1365.1 (Safe.wr W1364 sf1366 R1357.1 (Safe.wr W1356 sf1358 R1349.1 (Safe.wr W1348 sf1350 R1341.1 (Safe.wr W1340 sf1342 R1333.1 (Safe.wr W1332 sf1334 R1325.1 (Safe.wr W1324 sf1326 R1317.1 (Safe.wr W1316 sf1318 R1309.1 (Safe.wr W1308 sf1310 R1301.1 (Safe.wr W1300 sf1302 R1293.1 (Safe.wr W1292 sf1294 R1285.1 (Safe.wr W1284 sf1286 R1277.1 (Safe.wr W1276 sf1278 R1269.1 (Safe.wr W1268 sf1270 R1261.1 (Safe.wr W1260 sf1262 R1253.1 (Safe.wr W1252 sf1254 R1245.1 (Safe.wr W1244 sf1246 R1237.1 (Safe.wr W1236 sf1238 R1229.1 (Safe.wr W1228 sf1230 R1221.1 (Safe.wr W1220 sf1222 R1213.1 (Safe.wr W1212 sf1214 R1205.1 (Safe.wr W1204 sf1206 R1197.1 (Safe.wr W1196 sf1198 R1189.1 (Safe.wr W1188 sf1190 R1181.1 (Safe.wr W1180 sf1182 R1173.1 (Safe.wr W1172 sf1174 R1165.1 (Safe.wr W1164 sf1166 R1157.1 (Safe.wr W1156 sf1158 R1149.1 (Safe.wr W1148 sf1150 R1141.1 (Safe.wr W1140 sf1142 R1133.1 (Safe.wr W1132 sf1134 R1125.1 (Safe.wr W1124 sf1126 R1117.1 (Safe.wr W1116 sf1118 R1109.1 (Safe.wr W1108 sf1110 R1101.1 (Safe.wr W1100 sf1102 R1094.1 (Safe.wr W1092 (Safe.ext E1085 R1079.1 (Safe.new (Nat.le_of_eq gb1085.symm))) R1086.1 (Safe.ext E1085 R1079.1 (Safe.ext E1078 R0.1 (Safe.new (Nat.le_of_eq gb1078.symm)))))))))))))))))))))))))))))))))))))))))))))))))))))))))))))))))))))
  have R1629 : CHr Z consts_1 s.vm h0 s.vm T1611.heap := R1605.trans (CHr.keep K1611 (sfS sf1630 sf0) R1605.1)
  have O1631 := O1607.keep K1611 (allS ge1617 all0)
  have g1632 : Go p e below T1611 (mkF m 1137 #[iv p0, iv p1, iv p2, iv p3, iv p4, iv ca, iv cb, iv cc, iv cd_, iv (95 : Int32), iv sel, .unset, .unset] [(.ref b1078)]) A0 := fun t kont => g1610 t (st1611.trans kont)
  have g1633 : Go p e below T1611 (mkF m 1144 #[iv p0, iv p1, iv p2, iv p3, iv p4, iv ca, iv cb, iv cc, iv cd_, iv (95 : Int32), iv sel, rv b1078, iv (0 : Int32)] [(.ref b1078)]) A0 := by
    intro t kont
    refine g1632 t ?_
    refine XS.astore X1611.here hx rfl (hb hby at_1137) rfl rfl (l' := #[iv p0, iv p1, iv p2, iv p3, iv p4, iv ca, iv cb, iv cc, iv cd_, iv (95 : Int32), iv sel, rv b1078, .unset]) rfl ?_
    refine XS.iconst X1611.here hx rfl (hb hby at_1139) ?_
    refine XS.istore X1611.here hx rfl (hb hby at_1140) rfl (l' := #[iv p0, iv p1, iv p2, iv p3, iv p4, iv ca, iv cb, iv cc, iv cd_, iv (95 : Int32), iv sel, rv b1078, iv (0 : Int32)]) rfl ?_
    refine XS.aload X1611.here hx rfl (hb hby at_1142) rfl rfl ?_
    exact kont
  obtain ⟨_, _, ⟨T1634, L1634, k1634, n1634⟩, -, X1634, ⟨Lc1634, hQ1634, l1634, y1634, z1634⟩, st1634⟩ := Jvm.LawKit.callS X1611 hx (y := (⟨"com/example/clear_fault/clearfault/Fault", "isValidCode", "(Ljava/lang/String;)Z"⟩ : MethodName)) hown (mvT hZ (hw _ (List.mem_of_getElem? (i := 23) rfl))) (mvT hZ (hw _ (List.mem_of_getElem? (i := 24) rfl))) (mvT hZ (hw _ (List.mem_of_getElem? (i := 25) rfl))) (mvT hZ (hw _ (List.mem_of_getElem? (i := 26) rfl))) (by decide) (backOf (W := 0) (rm_isV l Z a0 hw [] b1078 r1618 r1619 i_COMPACT_STRINGS v_SIOOBE_FORMATTER r1620 r1621 r1622 ls1612 T1611.heap n0 O1631 S0_ hcs y1623 y1625 y1624 y1627 y1628 (by rw [lls1612]; decide) (by rw [lls1612]; decide) (by rw [hls1612]; exact (own_ccons ⟨z_ca, b_ca⟩ (own_ccons ⟨z_cb, b_cb⟩ (own_ccons ⟨by decide, by decide⟩ (own_ccons ⟨by decide, by decide⟩ (own_ccons ⟨by decide, by decide⟩ (own_ccons ⟨by decide, by decide⟩ (own_ccons ⟨by decide, by decide⟩ (own_ccons ⟨by decide, by decide⟩ (own_ccons ⟨by decide, by decide⟩ (own_ccons ⟨by decide, by decide⟩ (own_ccons ⟨by decide, by decide⟩ (own_ccons ⟨by decide, by decide⟩ (own_ccons ⟨by decide, by decide⟩ (own_ccons ⟨by decide, by decide⟩ (own_ccons ⟨by decide, by decide⟩ (own_ccons ⟨by decide, by decide⟩ (own_ccons ⟨by decide, by decide⟩ (own_ccons ⟨by decide, by decide⟩ (own_ccons ⟨by decide, by decide⟩ (own_ccons ⟨by decide, by decide⟩ (own_ccons ⟨by decide, by decide⟩ (own_ccons ⟨by decide, by decide⟩ (own_ccons ⟨by decide, by decide⟩ (own_ccons ⟨by decide, by decide⟩ (own_ccons ⟨by decide, by decide⟩ (own_ccons ⟨by decide, by decide⟩ (own_ccons ⟨by decide, by decide⟩ (own_ccons ⟨by decide, by decide⟩ (own_ccons ⟨by decide, by decide⟩ (own_ccons ⟨by decide, by decide⟩ (own_ccons ⟨by decide, by decide⟩ (own_ccons ⟨by decide, by decide⟩ (own_ccons ⟨z_cc, b_cc⟩ (own_ccons ⟨by decide, by decide⟩ (own_ccons ⟨by decide, by decide⟩ (own_ccons ⟨by decide, by decide⟩ (own_ccons ⟨by decide, by decide⟩ (own_ccons ⟨by decide, by decide⟩ (own_ccons ⟨by decide, by decide⟩ (own_ccons ⟨by decide, by decide⟩ (own_ccons ⟨by decide, by decide⟩ (own_ccons ⟨by decide, by decide⟩ (own_ccons ⟨by decide, by decide⟩ (own_ccons ⟨by decide, by decide⟩ (own_ccons ⟨by decide, by decide⟩ (own_ccons ⟨by decide, by decide⟩ (own_ccons ⟨by decide, by decide⟩ (own_ccons ⟨by decide, by decide⟩ (own_ccons ⟨by decide, by decide⟩ (own_ccons ⟨by decide, by decide⟩ (own_ccons ⟨by decide, by decide⟩ (own_ccons ⟨by decide, by decide⟩ (own_ccons ⟨by decide, by decide⟩ (own_ccons ⟨by decide, by decide⟩ (own_ccons ⟨by decide, by decide⟩ (own_ccons ⟨by decide, by decide⟩ (own_ccons ⟨by decide, by decide⟩ (own_ccons ⟨by decide, by decide⟩ (own_ccons ⟨by decide, by decide⟩ (own_ccons ⟨by decide, by decide⟩ (own_ccons ⟨by decide, by decide⟩ (own_ccons ⟨by decide, by decide⟩ (own_ccons ⟨by decide, by decide⟩ (own_ccons ⟨by decide, by decide⟩ (own_ccons ⟨z_cd_, b_cd_⟩ own_cnil)))))))))))))))))))))))))))))))))))))))))))))))))))))))))))))))))) S2_ hfm S4_ S5_ S6_) hZ (hw _ (List.mem_of_getElem? (i := 26) rfl)) (hw _ (List.mem_of_getElem? (i := 25) rfl)) (by decide) (by decide)) (g := (mkF m 1144 #[iv p0, iv p1, iv p2, iv p3, iv p4, iv ca, iv cb, iv cc, iv cd_, iv (95 : Int32), iv sel, rv b1078, iv (0 : Int32)] [(.ref b1078)])) rfl (by rw [hml]; rfl) (argsL := [(.ref b1078)]) (rest := []) (lenOf pd_18 rfl) rfl (by show 2 * 0 + _ ≤ _; exact Nat.le_of_eq rfl) (hb hby at_1144) (fun _ _ => ⟨rfl, rfl, (by decide : 4 + 0 ≤ _), (by decide : 264 + 0 ≤ _)⟩)
  dsimp only [Pt.U, Pt.locs, Pt.cells, Pt.slots] at X1634 l1634 y1634 z1634 st1634 hQ1634
  subst y1634 z1634
  obtain ⟨r1635, rfl, M1634, e1634, y1636, y1637⟩ := hQ1634
  have N1634 : Fr n0 L1634 := by rw [l1634]; exact Fr.app N1611 M1634
  have g1638 : Go p e below T1634 (mkF m 1147 #[iv p0, iv p1, iv p2, iv p3, iv p4, iv ca, iv cb, iv cc, iv cd_, iv (95 : Int32), iv sel, rv b1078, iv (0 : Int32)] [(.int r1635)]) A0 := fun t kont => g1633 t (st1634 t kont)
  have g1639 : Go p e below T1634 (mkF m 1157 #[iv p0, iv p1, iv p2, iv p3, iv p4, iv ca, iv cb, iv cc, iv cd_, iv (95 : Int32), iv sel, rv b1078, iv (0 : Int32)] [(.int (1 : Int32))]) A0 := by
    intro t kont
    refine g1638 t ?_
    refine XS.iload X1634.here hx rfl (hb hby at_1147) rfl ?_
    refine XS.icmpNo X1634.here hx rfl (hb hby at_1149) rfl (teq (own_r0 y1636 y1637 (fun q => absurd q.1 (by rw [lls1612]; decide)) : r1635 = (0 : Int32))).2 ?_
    refine XS.iconst X1634.here hx rfl (hb hby at_1152) ?_
    refine XS.goto X1634.here hx rfl (pc0 := 1153) (pc' := 1157) rfl (hb hby at_1153) (by decide) (by decide) ?_
    exact kont
  obtain ⟨fs, hr, hrun, hended, hRW⟩ := X1634.leaveW hS (by rw [e1634]; exact (Nat.le_trans hk (Nat.le_trans (Nat.le_trans (Nat.le_trans (Nat.le_trans (Nat.le_trans (Nat.le_trans (Nat.le_trans (Nat.le_trans (Nat.le_trans (Nat.le_trans (Nat.le_trans (Nat.le_trans (Nat.le_trans (Nat.le_trans (Nat.le_trans (Nat.le_trans (Nat.le_trans (Nat.le_trans (Nat.le_trans (Nat.le_trans (Nat.le_trans (Nat.le_trans (Nat.le_trans (Nat.le_trans (Nat.le_trans (Nat.le_trans (Nat.le_trans (Nat.le_trans (Nat.le_trans (Nat.le_trans (Nat.le_trans (Nat.le_trans (Nat.le_trans (Nat.le_trans (Nat.le_trans (Nat.le_trans (Nat.le_trans (Nat.le_trans (Nat.le_trans (Nat.le_trans (Nat.le_trans (Nat.le_trans (Nat.le_trans (Nat.le_trans (Nat.le_trans (Nat.le_trans (Nat.le_trans (Nat.le_trans (Nat.le_trans (Nat.le_trans (Nat.le_trans (Nat.le_trans (Nat.le_trans (Nat.le_trans (Nat.le_trans (Nat.le_trans (Nat.le_trans (Nat.le_trans (Nat.le_trans (Nat.le_trans (Nat.le_trans (Nat.le_trans (Nat.le_trans (Nat.le_trans (Nat.le_trans (Nat.le_trans (Nat.le_trans E1078.1 E1085.1) (Keep.of_wr W1092).1) (Keep.of_wr W1100).1) (Keep.of_wr W1108).1) (Keep.of_wr W1116).1) (Keep.of_wr W1124).1) (Keep.of_wr W1132).1) (Keep.of_wr W1140).1) (Keep.of_wr W1148).1) (Keep.of_wr W1156).1) (Keep.of_wr W1164).1) (Keep.of_wr W1172).1) (Keep.of_wr W1180).1) (Keep.of_wr W1188).1) (Keep.of_wr W1196).1) (Keep.of_wr W1204).1) (Keep.of_wr W1212).1) (Keep.of_wr W1220).1) (Keep.of_wr W1228).1) (Keep.of_wr W1236).1) (Keep.of_wr W1244).1) (Keep.of_wr W1252).1) (Keep.of_wr W1260).1) (Keep.of_wr W1268).1) (Keep.of_wr W1276).1) (Keep.of_wr W1284).1) (Keep.of_wr W1292).1) (Keep.of_wr W1300).1) (Keep.of_wr W1308).1) (Keep.of_wr W1316).1) (Keep.of_wr W1324).1) (Keep.of_wr W1332).1) (Keep.of_wr W1340).1) (Keep.of_wr W1348).1) (Keep.of_wr W1356).1) (Keep.of_wr W1364).1) (Keep.of_wr W1372).1) (Keep.of_wr W1380).1) (Keep.of_wr W1388).1) (Keep.of_wr W1396).1) (Keep.of_wr W1404).1) (Keep.of_wr W1412).1) (Keep.of_wr W1420).1) (Keep.of_wr W1428).1) (Keep.of_wr W1436).1) (Keep.of_wr W1444).1) (Keep.of_wr W1452).1) (Keep.of_wr W1460).1) (Keep.of_wr W1468).1) (Keep.of_wr W1476).1) (Keep.of_wr W1484).1) (Keep.of_wr W1492).1) (Keep.of_wr W1500).1) (Keep.of_wr W1508).1) (Keep.of_wr W1516).1) (Keep.of_wr W1524).1) (Keep.of_wr W1532).1) (Keep.of_wr W1540).1) (Keep.of_wr W1548).1) (Keep.of_wr W1556).1) (Keep.of_wr W1564).1) (Keep.of_wr W1572).1) (Keep.of_wr W1580).1) (Keep.of_wr W1588).1) (Keep.of_wr W1596).1) (Keep.of_wr W1604).1) K1611.1))) (v := some (.int (1 : Int32))) (fun h => by rw [Bd.returns] at h; cases h)
  refine ⟨_, _, g1639 _ (retN X1634 hx (t := .boolean) Bd.returns (by simp) (hb hby at_1157) hr), hrun, hended, _, _, rfl, ?_, ?_, hRW.1, hRW.2.1, hRW.2.2.1, hRW.2.2.2.mono (by decide) (by decide)⟩
  ·
    show Q_law Z p0 p1 p2 p3 p4 i_COMPACT_STRINGS v_SIOOBE_FORMATTER h0 n0 _ T1634.heap _
    rw [e1634]
    exact ⟨rfl, N1634⟩
  ·
    rw [hh]
    show CHr Z consts_1 s.vm h0 T1634.vm T1634.heap
    rw [e1634]
    exact R1629.trans (CHv.at X1634 hZ (own_EW hw) R1629.1)
set_option maxRecDepth 65536 in
set_option maxHeartbeats 40000000 in
theorem comes_1 {Post : Tables → Env → Array Value → State → Outcome → State → Prop} (hpost : ∀ tb e args s v u, (limb_1_1.after args s (.returned v) u = true ∧ limb_1_2.after args s (.returned v) u = true ∧ True) → ReturnedEndW s (.returned v) u (Jvm.fieldLocs frame_1_writes args s ++ Jvm.arrayLocs frame_1_arrays args s ++ Jvm.staticLocs frame_1_statics s) 24 1664 → Post tb e args s (.returned v) u) :
    ArmFor flags0 classFile x code maxLocals ret World_1 tables_1 room_1 Calls_1 rest_1 Pre_1 Post := by
  intro l hfl _ _ p e ha hc hk s m args below hf hA hF happ hP
  obtain ⟨hcalls, hrest, hpre⟩ := hP
  obtain ⟨-, -, -, hnamed, -, -, -, hat⟩ := (Spec.applies_iff hf).mp happ
  obtain ⟨hg, hn⟩ := and_e (Cond.before_iff.mp (show (Jvm.Cond.and given_1 narrow_1).before args s = true from hpre))
  obtain ⟨hcount, hg⟩ := and_e hg
  obtain ⟨ha0, hg⟩ := and_e hg
  obtain ⟨ha1, hg⟩ := and_e hg
  obtain ⟨ha2, hg⟩ := and_e hg
  obtain ⟨ha3, hg⟩ := and_e hg
  have ha4 := hg
  obtain ⟨w0, w1, w2, w3, w4, rfl⟩ : ∃ w0 w1 w2 w3 w4 : Value, args = #[w0, w1, w2, w3, w4] := by
    have hs : args.size = 5 := by simpa [Cond.value, given_1] using hcount
    obtain ⟨L⟩ := args
    match L, hs with
    | [w0, w1, w2, w3, w4], _ => exact ⟨w0, w1, w2, w3, w4, rfl⟩
  have hw := fun d (hd : d ∈ tables_1) => atoms_spec (ws := Jvm.Cond.code x code maxLocals ret :: tables_1) hat d (List.mem_cons_of_mem _ hd)
  obtain ⟨hsets, hown0⟩ := atoms_of _ (rest_1_c_eq ▸ (show rest_1_c.before _ s = true from hrest))
  have hfit : Fit s := fun {y c} hc i hi => by
    obtain ⟨ha, rfl⟩ := Array.getElem?_eq_some_iff.mp hc
    have q := List.all_eq_true.mp ((Array.all_eq_true_iff_forall_mem.mp hF) _ (Array.getElem_mem ha)) i (List.mem_range.mpr hi)
    simpa [Array.getElem?_eq_getElem hi] using q
  obtain ⟨p0, ea0⟩ := is_v ha0
  obtain rfl : w0 = (.int p0) := Option.some.inj ea0
  obtain ⟨p1, ea1⟩ := is_v ha1
  obtain rfl : w1 = (.int p1) := Option.some.inj ea1
  obtain ⟨p2, ea2⟩ := is_v ha2
  obtain rfl : w2 = (.int p2) := Option.some.inj ea2
  obtain ⟨p3, ea3⟩ := is_v ha3
  obtain rfl : w3 = (.int p3) := Option.some.inj ea3
  obtain ⟨p4, ea4⟩ := is_v ha4
  obtain rfl : w4 = (.int p4) := Option.some.inj ea4
  obtain ⟨i_COMPACT_STRINGS, ev_COMPACT_STRINGS⟩ := is_v (Cond.before_iff.mp (hsets _ (List.mem_of_getElem? (i := 1) rfl)))
  obtain ⟨v_SIOOBE_FORMATTER, ev_SIOOBE_FORMATTER, r_SIOOBE_FORMATTER⟩ := isR_v (Cond.before_iff.mp (hsets _ (List.mem_of_getElem? (i := 8) rfl)))
  have ev_StringUTF16__assertionsDisabled := own_eqint (Cond.before_iff.mp (hsets _ (List.mem_of_getElem? (i := 12) rfl)))
  have ev_StringUTF16_HI_BYTE_SHIFT := own_eqint (Cond.before_iff.mp (hsets _ (List.mem_of_getElem? (i := 15) rfl)))
  have ev_StringUTF16_LO_BYTE_SHIFT := own_eqint (Cond.before_iff.mp (hsets _ (List.mem_of_getElem? (i := 18) rfl)))
  have S_COMPACT_STRINGS : Sta s s.heap "java/lang/String" "COMPACT_STRINGS" "Z" (.int i_COMPACT_STRINGS) := Sta.start ev_COMPACT_STRINGS (Or.inl (hsets _ (List.mem_of_getElem? (i := 0) rfl)))
  have S_SIOOBE_FORMATTER : Sta s s.heap "jdk/internal/util/Preconditions" "SIOOBE_FORMATTER" "Ljava/util/function/BiFunction;" v_SIOOBE_FORMATTER := Sta.start ev_SIOOBE_FORMATTER (Or.inl (hsets _ (List.mem_of_getElem? (i := 7) rfl)))
  have S_StringUTF16__assertionsDisabled : Sta s s.heap "java/lang/StringUTF16" "$assertionsDisabled" "Z" (.int (1 : Int32)) := Sta.start ev_StringUTF16__assertionsDisabled (Or.inl (hsets _ (List.mem_of_getElem? (i := 11) rfl)))
  have S_StringUTF16_HI_BYTE_SHIFT : Sta s s.heap "java/lang/StringUTF16" "HI_BYTE_SHIFT" "I" (.int (0 : Int32)) := Sta.start ev_StringUTF16_HI_BYTE_SHIFT (Or.inl (hsets _ (List.mem_of_getElem? (i := 14) rfl)))
  have S_StringUTF16_LO_BYTE_SHIFT : Sta s s.heap "java/lang/StringUTF16" "LO_BYTE_SHIFT" "I" (.int (8 : Int32)) := Sta.start ev_StringUTF16_LO_BYTE_SHIFT (Or.inl (hsets _ (List.mem_of_getElem? (i := 17) rfl)))
  have c_COMPACT_STRINGS : ¬ (i_COMPACT_STRINGS = (0 : Int32)) := gotF (Cond.eq_ints ev_COMPACT_STRINGS (Term.int_eval (0))) (not_v (Cond.before_iff.mp (hsets _ (List.mem_of_getElem? (i := 2) rfl))))
  have hch : CHv s consts_1 s.vm s.heap := CHv.start (own_EW hw) (fun p hp => hcalls.1 p hp) (own_compact hsets) (hw _ (List.mem_of_getElem? (i := 16) rfl)) (hw _ (List.mem_of_getElem? (i := 2) rfl))
  obtain ⟨n, o, h1, h2, h3, _, L, rfl, ⟨rfl, N⟩, -, hq⟩ := rm_law l s _ hw tables_1 p0 p1 p2 p3 p4 i_COMPACT_STRINGS v_SIOOBE_FORMATTER s.heap s.heap.size (Old.start s) S_COMPACT_STRINGS c_COMPACT_STRINGS S_SIOOBE_FORMATTER r_SIOOBE_FORMATTER S_StringUTF16__assertionsDisabled S_StringUTF16_HI_BYTE_SHIFT S_StringUTF16_LO_BYTE_SHIFT p e ha hc hk s m _ below hf ((Spec.applies_iff_loose hf).mp happ).1 ⟨rfl, State.Warmed39.refl s, rfl, hch⟩ trivial
  refine ⟨n, _, h1, h2, h3, hpost _ _ _ _ _ _ ⟨Cond.after_iff.mpr rfl, Cond.after_iff.mpr (eq_i res_at (Term.int_eval (1)) rfl), trivial⟩ ⟨hq.1, hq.2.1, hq.2.2.1, (hq.2.2.2.sift fun y hy => Or.inr (N y hy)).mono (by decide) (by decide)⟩⟩
theorem main_1_1 : Claimed_1_1 := comes_1 fun _ _ _ _ _ _ h hF => ⟨h.1, hF⟩
theorem main_1_2 : Claimed_1_2 := comes_1 fun _ _ _ _ _ _ h hF => ⟨h.2.1, hF⟩
end Jvm.Pilot.@@N@@
namespace Jvm.Pilot.@@N@@
open Jvm Jvm.ClassFile Sem Op Lib Jvm.Free Jvm.Stand Jvm.Pilot.@@N@@.Jvm.D
/-! MADE BY PROGRAM (witnessworld.py) out of the Statement's table words and the real class files: 23 classes; the members and pool entries that the words name. The judged class is class 1, her method 3. -/
namespace start1
open Jvm.ClassFile
def u (s : String) : CpInfo := .utf8 (stringToUtf16 s)
/-- a pool by its gaps: so many unusable entries, then the entry; so many at the end -/
def gap : Nat → List CpInfo → List CpInfo
  | 0, r => r
  | n + 1, r => .unusable :: gap n r
def poolList (es : List (Nat × CpInfo)) (last : Nat) : List CpInfo := es.foldr (fun e r => gap e.1 (e.2 :: r)) (gap last [])
def pool (es : List (Nat × CpInfo)) (last : Nat) : Array CpInfo := ⟨poolList es last⟩
def fileOf (pool : Array CpInfo) (this : Nat) (attrs : Array Attribute := #[]) (ms : Array MethodInfo := #[]) (fl : Nat := 33) (sup : Nat := 0) (ifs : Array Nat := #[]) (fds : Array FieldInfo := #[]) : ClassFile where
  minorVersion := 0
  majorVersion := 65
  constantPool := pool
  accessFlags := fl
  thisClass := this
  superClass := sup
  interfaces := ifs
  fields := fds
  methods := ms
  attributes := attrs
def plain (name : String) (sup : Option ClassId) : Class where
  name := name
  kind := .ordinary
  loader := none
  accessFlags := 33
  super := sup
  interfaces := #[]
  cf := none
  fields := #[]
  methods := #[]
  instanceTypes := #[]
  staticTypes := #[]
  resolved := #[]
  callSites := []
  init := .initialized
  statics := none
  mirror := none

def pool0 : Array CpInfo := pool [(5, u "<init>"), (0, u "()V"), (1, .class_ 10), (1, u "java/lang/Object")] 113

def k0c0 : Code := { maxStack := 0, maxLocals := 1, code := object_method_1_code, exceptionTable := #[], attributes := #[] }
def k0m0 : Method := { name := "<init>", desc := "()V", sig := { parameters := [], returnType := none }, accessFlags := 1, code := some k0c0 }
/-- java/lang/Object -/
def k0 : Class := { plain "java/lang/Object" none with
  accessFlags := 33
  interfaces := #[]
  cf := some (fileOf pool0 8 #[] #[{ accessFlags := 1, nameIndex := 5, descriptorIndex := 6, attributes := #[] }] 33 0 #[] #[])
  fields := #[]
  methods := #[k0m0]
  instanceTypes := #[]
  staticTypes := #[]
  resolved := Array.replicate 124 none
  statics := none }

def pool1 : Array CpInfo := pool [(2, .class_ 4), (1, u "java/lang/Object"), (0, u "<init>"), (0, u "()V"), (0, .methodref 8 9), (0, .class_ 10), (0, .nameAndType 11 12), (0, u "com/example/clear_fault/clearfault/FaultIsValidCodePinLaw"), (0, u "lower"), (0, u "(C)Z"), (0, .integer 65535), (0, .class_ 15), (0, u "java/lang/String"), (0, .methodref 14 17), (0, .nameAndType 5 18), (0, u "([C)V"), (0, .methodref 8 20), (0, .nameAndType 21 12), (0, u "tail"), (0, .methodref 23 24), (0, .class_ 25), (0, .nameAndType 26 27), (0, u "com/example/clear_fault/clearfault/Fault"), (0, u "isValidCode"), (0, u "(Ljava/lang/String;)Z"), (3, u "law"), (0, u "(IIIII)Z")] 2

def k1m0 : Method := { name := "<init>", desc := "()V", sig := { parameters := [], returnType := none }, accessFlags := 1, code := none }
def k1c1 : Code := { maxStack := 2, maxLocals := 1, code := method_2_code, exceptionTable := #[], attributes := #[] }
def k1m1 : Method := { name := "lower", desc := "(C)Z", sig := { parameters := [.char], returnType := some .boolean }, accessFlags := 10, code := some k1c1 }
def k1c2 : Code := { maxStack := 2, maxLocals := 1, code := method_3_code, exceptionTable := #[], attributes := #[] }
def k1m2 : Method := { name := "tail", desc := "(C)Z", sig := { parameters := [.char], returnType := some .boolean }, accessFlags := 10, code := some k1c2 }
def k1c3 : Code := { maxStack := 6, maxLocals := 13, code := code, exceptionTable := #[], attributes := #[] }
def k1m3 : Method := { name := "law", desc := "(IIIII)Z", sig := { parameters := [.int, .int, .int, .int, .int], returnType := some .boolean }, accessFlags := 9, code := some k1c3 }
/-- com/example/clear_fault/clearfault/FaultIsValidCodePinLaw -/
def k1 : Class := { plain "com/example/clear_fault/clearfault/FaultIsValidCodePinLaw" (some 0) with
  accessFlags := 49
  interfaces := #[]
  cf := some (fileOf pool1 8 #[] #[{ accessFlags := 1, nameIndex := 5, descriptorIndex := 6, attributes := #[] }, { accessFlags := 10, nameIndex := 11, descriptorIndex := 12, attributes := #[] }, { accessFlags := 10, nameIndex := 21, descriptorIndex := 12, attributes := #[] }, { accessFlags := 9, nameIndex := 31, descriptorIndex := 32, attributes := #[] }] 49 2 #[] #[])
  fields := #[]
  methods := #[k1m0, k1m1, k1m2, k1m3]
  instanceTypes := #[]
  staticTypes := #[]
  resolved := Array.replicate 35 none
  statics := none }

def pool2 : Array CpInfo := pool [(1, .class_ 2), (0, u "java/io/Serializable"), (0, .class_ 4), (0, u "java/lang/Object")] 2

/-- java/io/Serializable -/
def k2 : Class := { plain "java/io/Serializable" (some 0) with
  accessFlags := 1537
  interfaces := #[]
  cf := some (fileOf pool2 1 #[] #[] 1537 3 #[] #[])
  fields := #[]
  methods := #[]
  instanceTypes := #[]
  staticTypes := #[]
  resolved := Array.replicate 7 none
  statics := none }

def pool3 : Array CpInfo := pool [(1, .class_ 2), (0, u "java/lang/Comparable"), (0, .class_ 4), (0, u "java/lang/Object")] 7

/-- java/lang/Comparable -/
def k3 : Class := { plain "java/lang/Comparable" (some 0) with
  accessFlags := 1537
  interfaces := #[]
  cf := some (fileOf pool3 1 #[] #[] 1537 3 #[] #[])
  fields := #[]
  methods := #[]
  instanceTypes := #[]
  staticTypes := #[]
  resolved := Array.replicate 12 none
  statics := none }

def pool4 : Array CpInfo := pool [(2, .class_ 4), (1, u "java/lang/CharSequence"), (42, .class_ 48), (0, u "java/lang/CharSequence$1CodePointIterator"), (10, .class_ 60), (0, u "java/lang/CharSequence$1CharIterator"), (5, .class_ 67), (0, u "java/lang/Object")] 63

/-- java/lang/CharSequence -/
def k4 : Class := { plain "java/lang/CharSequence" (some 0) with
  accessFlags := 1537
  interfaces := #[]
  cf := some (fileOf pool4 2 #[.nestMembers #[47, 59]] #[] 1537 66 #[] #[])
  fields := #[]
  methods := #[]
  instanceTypes := #[]
  staticTypes := #[]
  resolved := Array.replicate 131 none
  statics := none }

def pool5 : Array CpInfo := pool [(1, .class_ 2), (0, u "java/lang/constant/Constable"), (0, .class_ 4), (0, u "java/lang/Object")] 6

/-- java/lang/constant/Constable -/
def k5 : Class := { plain "java/lang/constant/Constable" (some 0) with
  accessFlags := 1537
  interfaces := #[]
  cf := some (fileOf pool5 1 #[] #[] 1537 3 #[] #[])
  fields := #[]
  methods := #[]
  instanceTypes := #[]
  staticTypes := #[]
  resolved := Array.replicate 11 none
  statics := none }

def pool6 : Array CpInfo := pool [(1, .class_ 2), (0, u "java/lang/constant/ConstantDesc"), (0, .class_ 4), (0, u "java/lang/Object")] 32

/-- java/lang/constant/ConstantDesc -/
def k6 : Class := { plain "java/lang/constant/ConstantDesc" (some 0) with
  accessFlags := 1537
  interfaces := #[]
  cf := some (fileOf pool6 1 #[] #[] 1537 3 #[] #[])
  fields := #[]
  methods := #[]
  instanceTypes := #[]
  staticTypes := #[]
  resolved := Array.replicate 37 none
  statics := none }

def pool7 : Array CpInfo := pool [(1, .methodref 2 3), (0, .class_ 4), (0, .nameAndType 5 6), (0, u "java/lang/Object"), (0, u "<init>"), (0, u "()V"), (0, .string 8), (0, u ""), (0, .fieldref 10 11), (0, .class_ 12), (0, .nameAndType 13 14), (0, u "java/lang/String"), (0, u "value"), (0, u "[B"), (0, .fieldref 10 16), (0, .nameAndType 17 18), (0, u "coder"), (0, u "B"), (2, u "hash"), (0, u "I"), (2, u "hashIsZero"), (0, u "Z"), (0, .methodref 10 28), (0, .nameAndType 5 29), (0, u "([CIILjava/lang/Void;)V"), (8, .fieldref 10 39), (0, .nameAndType 40 26), (0, u "COMPACT_STRINGS"), (1, .class_ 44), (1, u "java/lang/StringUTF16"), (0, u "compress"), (1, .methodref 42 48), (0, .nameAndType 49 50), (0, u "coderFromArrayLen"), (0, u "([BI)B"), (56, .class_ 109), (1, u "java/lang/StringLatin1"), (32, u "()Z"), (34, .methodref 42 178), (0, .nameAndType 45 179), (0, u "([CII)[B"), (154, u "()I"), (0, .methodref 10 336), (0, .nameAndType 17 337), (0, u "()B"), (25, u "([BI)C"), (27, u "(II)V"), (35, u "(I)C"), (64, .methodref 10 493), (0, .nameAndType 494 142), (0, u "isLatin1"), (0, .methodref 107 496), (0, .nameAndType 497 363), (0, u "charAt"), (0, .methodref 42 496), (2, u "checkIndex"), (5, u "length"), (67, .class_ 576), (0, u "java/lang/CharSequence"), (22, u "CASE_INSENSITIVE_ORDER"), (0, u "Ljava/util/Comparator;"), (91, u "isEmpty"), (317, u "([C)V"), (42, .fieldref 1054 1055), (0, .class_ 1056), (0, .nameAndType 1057 1058), (0, u "jdk/internal/util/Preconditions"), (0, u "SIOOBE_FORMATTER"), (0, u "Ljava/util/function/BiFunction;"), (0, .methodref 1054 1060), (0, .nameAndType 501 1061), (0, u "(IILjava/util/function/BiFunction;)I"), (39, u "serialPersistentFields"), (0, u "[Ljava/io/ObjectStreamField;"), (0, .class_ 1104), (0, u "java/lang/String$CaseInsensitiveComparator"), (1, .class_ 1107), (0, u "java/io/Serializable"), (0, .class_ 1109), (0, u "java/lang/Comparable"), (0, .class_ 1111), (0, u "java/lang/constant/Constable"), (0, .class_ 1113), (0, u "java/lang/constant/ConstantDesc"), (2, u "serialVersionUID"), (0, u "J"), (3, u "REPL"), (0, u "C"), (2, u "LATIN1"), (1, u "UTF16")] 323

def k7m0 : Method := { name := "<init>", desc := "()V", sig := { parameters := [], returnType := none }, accessFlags := 1, code := none }
def k7c1 : Code := { maxStack := 5, maxLocals := 2, code := jdk_42_method_3_code, exceptionTable := #[], attributes := #[] }
def k7m1 : Method := { name := "<init>", desc := "([C)V", sig := { parameters := [(.array .char)], returnType := none }, accessFlags := 1, code := some k7c1 }
def k7c2 : Code := { maxStack := 2, maxLocals := 1, code := jdk_42_method_54_code, exceptionTable := #[], attributes := #[] }
def k7m2 : Method := { name := "length", desc := "()I", sig := { parameters := [], returnType := some .int }, accessFlags := 1, code := some k7c2 }
def k7c3 : Code := { maxStack := 1, maxLocals := 1, code := jdk_42_method_55_code, exceptionTable := #[], attributes := #[] }
def k7m3 : Method := { name := "isEmpty", desc := "()Z", sig := { parameters := [], returnType := some .boolean }, accessFlags := 1, code := some k7c3 }
def k7c4 : Code := { maxStack := 2, maxLocals := 2, code := jdk_42_method_56_code, exceptionTable := #[], attributes := #[] }
def k7m4 : Method := { name := "charAt", desc := "(I)C", sig := { parameters := [.int], returnType := some .char }, accessFlags := 1, code := some k7c4 }
def k7c5 : Code := { maxStack := 4, maxLocals := 6, code := jdk_42_method_149_code, exceptionTable := #[], attributes := #[] }
def k7m5 : Method := { name := "<init>", desc := "([CIILjava/lang/Void;)V", sig := { parameters := [(.array .char), .int, .int, (.object "java/lang/Void")], returnType := none }, accessFlags := 2, code := some k7c5 }
def k7c6 : Code := { maxStack := 1, maxLocals := 1, code := jdk_42_method_152_code, exceptionTable := #[], attributes := #[] }
def k7m6 : Method := { name := "coder", desc := "()B", sig := { parameters := [], returnType := some .byte }, accessFlags := 0, code := some k7c6 }
def k7c7 : Code := { maxStack := 1, maxLocals := 1, code := jdk_42_method_154_code, exceptionTable := #[], attributes := #[] }
def k7m7 : Method := { name := "isLatin1", desc := "()Z", sig := { parameters := [], returnType := some .boolean }, accessFlags := 0, code := some k7c7 }
def k7c8 : Code := { maxStack := 3, maxLocals := 2, code := jdk_42_method_155_code, exceptionTable := #[], attributes := #[] }
def k7m8 : Method := { name := "checkIndex", desc := "(II)V", sig := { parameters := [.int, .int], returnType := none }, accessFlags := 8, code := some k7c8 }
/-- java/lang/String -/
def k7 : Class := { plain "java/lang/String" (some 0) with
  accessFlags := 49
  interfaces := #[2, 3, 4, 5, 6]
  cf := some (fileOf pool7 10 #[.nestMembers #[1103]] #[{ accessFlags := 1, nameIndex := 5, descriptorIndex := 6, attributes := #[] }, { accessFlags := 1, nameIndex := 5, descriptorIndex := 1010, attributes := #[] }, { accessFlags := 1, nameIndex := 507, descriptorIndex := 334, attributes := #[] }, { accessFlags := 1, nameIndex := 692, descriptorIndex := 142, attributes := #[] }, { accessFlags := 1, nameIndex := 497, descriptorIndex := 427, attributes := #[] }, { accessFlags := 2, nameIndex := 5, descriptorIndex := 29, attributes := #[] }, { accessFlags := 0, nameIndex := 17, descriptorIndex := 337, attributes := #[] }, { accessFlags := 0, nameIndex := 494, descriptorIndex := 142, attributes := #[] }, { accessFlags := 8, nameIndex := 501, descriptorIndex := 391, attributes := #[] }] 49 2 #[1106, 1108, 575, 1110, 1112] #[{ accessFlags := 18, nameIndex := 13, descriptorIndex := 14, attributes := #[] }, { accessFlags := 18, nameIndex := 17, descriptorIndex := 18, attributes := #[] }, { accessFlags := 2, nameIndex := 21, descriptorIndex := 22, attributes := #[] }, { accessFlags := 2, nameIndex := 25, descriptorIndex := 26, attributes := #[] }, { accessFlags := 26, nameIndex := 1116, descriptorIndex := 1117, attributes := #[] }, { accessFlags := 24, nameIndex := 40, descriptorIndex := 26, attributes := #[] }, { accessFlags := 26, nameIndex := 1101, descriptorIndex := 1102, attributes := #[] }, { accessFlags := 26, nameIndex := 1121, descriptorIndex := 1122, attributes := #[] }, { accessFlags := 25, nameIndex := 599, descriptorIndex := 600, attributes := #[] }, { accessFlags := 24, nameIndex := 1125, descriptorIndex := 18, attributes := #[] }, { accessFlags := 24, nameIndex := 1127, descriptorIndex := 18, attributes := #[] }])
  fields := #[{ name := "value", type := (.array .byte), accessFlags := 18, slot := 0, constantValue := 0 }, { name := "coder", type := .byte, accessFlags := 18, slot := 1, constantValue := 0 }, { name := "hash", type := .int, accessFlags := 2, slot := 2, constantValue := 0 }, { name := "hashIsZero", type := .boolean, accessFlags := 2, slot := 3, constantValue := 0 }, { name := "serialVersionUID", type := .long, accessFlags := 26, slot := 0, constantValue := 0 }, { name := "COMPACT_STRINGS", type := .boolean, accessFlags := 24, slot := 1, constantValue := 0 }, { name := "serialPersistentFields", type := (.array (.object "java/io/ObjectStreamField")), accessFlags := 26, slot := 2, constantValue := 0 }, { name := "REPL", type := .char, accessFlags := 26, slot := 3, constantValue := 0 }, { name := "CASE_INSENSITIVE_ORDER", type := (.object "java/util/Comparator"), accessFlags := 25, slot := 4, constantValue := 0 }, { name := "LATIN1", type := .byte, accessFlags := 24, slot := 5, constantValue := 0 }, { name := "UTF16", type := .byte, accessFlags := 24, slot := 6, constantValue := 0 }]
  methods := #[k7m0, k7m1, k7m2, k7m3, k7m4, k7m5, k7m6, k7m7, k7m8]
  instanceTypes := #[(.array .byte), .byte, .int, .boolean]
  staticTypes := #[.long, .boolean, (.array (.object "java/io/ObjectStreamField")), .char, (.object "java/util/Comparator"), .byte, .byte]
  resolved := Array.replicate 1451 none
  statics := some 0 }

def pool8 : Array CpInfo := pool [(2, .class_ 4), (1, u "java/lang/Object"), (0, u "<init>"), (0, u "()V"), (1, .class_ 10), (1, u "java/lang/Throwable"), (0, u "cause"), (0, u "Ljava/lang/Throwable;"), (2, u "UNASSIGNED_STACK"), (0, u "[Ljava/lang/StackTraceElement;"), (2, u "stackTrace"), (2, u "SUPPRESSED_SENTINEL"), (0, u "Ljava/util/List;"), (2, u "suppressedExceptions"), (6, u "detailMessage"), (0, u "Ljava/lang/String;"), (58, .class_ 94), (0, u "java/lang/Throwable$WrappedPrintStream"), (6, .class_ 103), (1, u "java/lang/Throwable$PrintStreamOrWriter"), (61, u "$assertionsDisabled"), (0, u "Z"), (26, .class_ 194), (0, u "java/lang/Throwable$WrappedPrintWriter"), (5, u "backtrace"), (0, u "Ljava/lang/Object;"), (9, u "depth"), (0, u "I"), (56, .class_ 271), (1, u "java/lang/Throwable$SentinelHolder"), (32, u "EMPTY_THROWABLE_ARRAY"), (0, u "[Ljava/lang/Throwable;"), (12, .class_ 319), (0, u "java/io/Serializable"), (0, u "serialVersionUID"), (0, u "J"), (5, u "NULL_CAUSE_MESSAGE"), (0, u "SELF_SUPPRESSION_MESSAGE"), (0, u "CAUSE_CAPTION"), (0, u "SUPPRESSED_CAPTION")] 73

def k8m0 : Method := { name := "<init>", desc := "()V", sig := { parameters := [], returnType := none }, accessFlags := 1, code := none }
/-- java/lang/Throwable -/
def k8 : Class := { plain "java/lang/Throwable" (some 0) with
  accessFlags := 33
  interfaces := #[2]
  cf := some (fileOf pool8 8 #[.nestMembers #[193, 93, 101, 269]] #[{ accessFlags := 1, nameIndex := 5, descriptorIndex := 6, attributes := #[] }] 33 2 #[318] #[{ accessFlags := 26, nameIndex := 320, descriptorIndex := 321, attributes := #[] }, { accessFlags := 130, nameIndex := 200, descriptorIndex := 201, attributes := #[] }, { accessFlags := 2, nameIndex := 33, descriptorIndex := 34, attributes := #[] }, { accessFlags := 26, nameIndex := 15, descriptorIndex := 16, attributes := #[] }, { accessFlags := 2, nameIndex := 11, descriptorIndex := 12, attributes := #[] }, { accessFlags := 2, nameIndex := 19, descriptorIndex := 16, attributes := #[] }, { accessFlags := 130, nameIndex := 211, descriptorIndex := 212, attributes := #[] }, { accessFlags := 26, nameIndex := 22, descriptorIndex := 23, attributes := #[] }, { accessFlags := 2, nameIndex := 26, descriptorIndex := 23, attributes := #[] }, { accessFlags := 26, nameIndex := 327, descriptorIndex := 34, attributes := #[] }, { accessFlags := 26, nameIndex := 328, descriptorIndex := 34, attributes := #[] }, { accessFlags := 26, nameIndex := 329, descriptorIndex := 34, attributes := #[] }, { accessFlags := 26, nameIndex := 330, descriptorIndex := 34, attributes := #[] }, { accessFlags := 26, nameIndex := 304, descriptorIndex := 305, attributes := #[] }, { accessFlags := 4120, nameIndex := 165, descriptorIndex := 166, attributes := #[] }])
  fields := #[{ name := "serialVersionUID", type := .long, accessFlags := 26, slot := 0, constantValue := 0 }, { name := "backtrace", type := (.object "java/lang/Object"), accessFlags := 130, slot := 0, constantValue := 0 }, { name := "detailMessage", type := (.object "java/lang/String"), accessFlags := 2, slot := 1, constantValue := 0 }, { name := "UNASSIGNED_STACK", type := (.array (.object "java/lang/StackTraceElement")), accessFlags := 26, slot := 1, constantValue := 0 }, { name := "cause", type := (.object "java/lang/Throwable"), accessFlags := 2, slot := 2, constantValue := 0 }, { name := "stackTrace", type := (.array (.object "java/lang/StackTraceElement")), accessFlags := 2, slot := 3, constantValue := 0 }, { name := "depth", type := .int, accessFlags := 130, slot := 4, constantValue := 0 }, { name := "SUPPRESSED_SENTINEL", type := (.object "java/util/List"), accessFlags := 26, slot := 2, constantValue := 0 }, { name := "suppressedExceptions", type := (.object "java/util/List"), accessFlags := 2, slot := 5, constantValue := 0 }, { name := "NULL_CAUSE_MESSAGE", type := (.object "java/lang/String"), accessFlags := 26, slot := 3, constantValue := 0 }, { name := "SELF_SUPPRESSION_MESSAGE", type := (.object "java/lang/String"), accessFlags := 26, slot := 4, constantValue := 0 }, { name := "CAUSE_CAPTION", type := (.object "java/lang/String"), accessFlags := 26, slot := 5, constantValue := 0 }, { name := "SUPPRESSED_CAPTION", type := (.object "java/lang/String"), accessFlags := 26, slot := 6, constantValue := 0 }, { name := "EMPTY_THROWABLE_ARRAY", type := (.array (.object "java/lang/Throwable")), accessFlags := 26, slot := 7, constantValue := 0 }, { name := "$assertionsDisabled", type := .boolean, accessFlags := 4120, slot := 8, constantValue := 0 }]
  methods := #[k8m0]
  instanceTypes := #[(.object "java/lang/Object"), (.object "java/lang/String"), (.object "java/lang/Throwable"), (.array (.object "java/lang/StackTraceElement")), .int, (.object "java/util/List")]
  staticTypes := #[.long, (.array (.object "java/lang/StackTraceElement")), (.object "java/util/List"), (.object "java/lang/String"), (.object "java/lang/String"), (.object "java/lang/String"), (.object "java/lang/String"), (.array (.object "java/lang/Throwable")), .boolean]
  resolved := Array.replicate 404 none
  statics := none }

def pool9 : Array CpInfo := pool [(2, .class_ 4), (1, u "java/lang/Throwable"), (0, u "<init>"), (0, u "()V"), (12, .class_ 20), (0, u "java/lang/Exception"), (0, u "serialVersionUID"), (0, u "J")] 17

def k9m0 : Method := { name := "<init>", desc := "()V", sig := { parameters := [], returnType := none }, accessFlags := 1, code := none }
/-- java/lang/Exception -/
def k9 : Class := { plain "java/lang/Exception" (some 8) with
  accessFlags := 33
  interfaces := #[]
  cf := some (fileOf pool9 19 #[] #[{ accessFlags := 1, nameIndex := 5, descriptorIndex := 6, attributes := #[] }] 33 2 #[] #[{ accessFlags := 24, nameIndex := 21, descriptorIndex := 22, attributes := #[] }])
  fields := #[{ name := "serialVersionUID", type := .long, accessFlags := 24, slot := 0, constantValue := 0 }]
  methods := #[k9m0]
  instanceTypes := #[(.object "java/lang/Object"), (.object "java/lang/String"), (.object "java/lang/Throwable"), (.array (.object "java/lang/StackTraceElement")), .int, (.object "java/util/List")]
  staticTypes := #[.long]
  resolved := Array.replicate 40 none
  statics := none }

def pool10 : Array CpInfo := pool [(2, .class_ 4), (1, u "java/lang/Exception"), (0, u "<init>"), (0, u "()V"), (12, .class_ 20), (0, u "java/lang/RuntimeException"), (0, u "serialVersionUID"), (0, u "J")] 17

def k10m0 : Method := { name := "<init>", desc := "()V", sig := { parameters := [], returnType := none }, accessFlags := 1, code := none }
/-- java/lang/RuntimeException -/
def k10 : Class := { plain "java/lang/RuntimeException" (some 9) with
  accessFlags := 33
  interfaces := #[]
  cf := some (fileOf pool10 19 #[] #[{ accessFlags := 1, nameIndex := 5, descriptorIndex := 6, attributes := #[] }] 33 2 #[] #[{ accessFlags := 24, nameIndex := 21, descriptorIndex := 22, attributes := #[] }])
  fields := #[{ name := "serialVersionUID", type := .long, accessFlags := 24, slot := 0, constantValue := 0 }]
  methods := #[k10m0]
  instanceTypes := #[(.object "java/lang/Object"), (.object "java/lang/String"), (.object "java/lang/Throwable"), (.array (.object "java/lang/StackTraceElement")), .int, (.object "java/util/List")]
  staticTypes := #[.long]
  resolved := Array.replicate 40 none
  statics := none }

def pool11 : Array CpInfo := pool [(2, .class_ 4), (1, u "com/example/clear_fault/clearfault/Fault"), (3, .class_ 10), (1, u "com/example/clear_fault/clearfault/Fault$Builder"), (4, u "kind"), (0, u "Lcom/example/clear_fault/clearfault/FaultKind;"), (5, u "()I"), (1, .class_ 26), (1, u "java/lang/RuntimeException"), (5, u "code"), (0, u "Ljava/lang/String;"), (3, u "publicMessage"), (0, u "Lcom/example/clear_fault/clearfault/PublicMessage;"), (3, u "internalMessage"), (3, u "challenge"), (3, u "fieldErrors"), (0, u "Ljava/util/List;"), (23, .methodref 76 77), (0, .class_ 78), (0, .nameAndType 79 80), (0, u "java/lang/String"), (0, u "isEmpty"), (0, u "()Z"), (0, .methodref 76 82), (0, .nameAndType 83 22), (0, u "length"), (0, .methodref 76 85), (0, .nameAndType 86 87), (0, u "charAt"), (0, u "(I)C"), (3, u "isValidCode"), (0, u "(Ljava/lang/String;)Z"), (31, u "serialVersionUID"), (0, u "J"), (3, u "MAX_CODE_LENGTH"), (0, u "I"), (21, .class_ 153), (0, u "com/example/clear_fault/clearfault/Fault$FieldError")] 17

def k11c0 : Code := { maxStack := 2, maxLocals := 3, code := prog_8_method_9_code, exceptionTable := #[], attributes := #[] }
def k11m0 : Method := { name := "isValidCode", desc := "(Ljava/lang/String;)Z", sig := { parameters := [(.object "java/lang/String")], returnType := some .boolean }, accessFlags := 9, code := some k11c0 }
/-- com/example/clear_fault/clearfault/Fault -/
def k11 : Class := { plain "com/example/clear_fault/clearfault/Fault" (some 10) with
  accessFlags := 33
  interfaces := #[]
  cf := some (fileOf pool11 2 #[.nestMembers #[152, 8]] #[{ accessFlags := 9, nameIndex := 91, descriptorIndex := 92, attributes := #[] }] 33 24 #[] #[{ accessFlags := 26, nameIndex := 124, descriptorIndex := 125, attributes := #[] }, { accessFlags := 26, nameIndex := 129, descriptorIndex := 130, attributes := #[] }, { accessFlags := 18, nameIndex := 15, descriptorIndex := 16, attributes := #[] }, { accessFlags := 18, nameIndex := 32, descriptorIndex := 33, attributes := #[] }, { accessFlags := 18, nameIndex := 37, descriptorIndex := 38, attributes := #[] }, { accessFlags := 18, nameIndex := 42, descriptorIndex := 33, attributes := #[] }, { accessFlags := 18, nameIndex := 46, descriptorIndex := 33, attributes := #[] }, { accessFlags := 18, nameIndex := 50, descriptorIndex := 51, attributes := #[] }])
  fields := #[{ name := "serialVersionUID", type := .long, accessFlags := 26, slot := 0, constantValue := 0 }, { name := "MAX_CODE_LENGTH", type := .int, accessFlags := 26, slot := 1, constantValue := 0 }, { name := "kind", type := (.object "com/example/clear_fault/clearfault/FaultKind"), accessFlags := 18, slot := 6, constantValue := 0 }, { name := "code", type := (.object "java/lang/String"), accessFlags := 18, slot := 7, constantValue := 0 }, { name := "publicMessage", type := (.object "com/example/clear_fault/clearfault/PublicMessage"), accessFlags := 18, slot := 8, constantValue := 0 }, { name := "internalMessage", type := (.object "java/lang/String"), accessFlags := 18, slot := 9, constantValue := 0 }, { name := "challenge", type := (.object "java/lang/String"), accessFlags := 18, slot := 10, constantValue := 0 }, { name := "fieldErrors", type := (.object "java/util/List"), accessFlags := 18, slot := 11, constantValue := 0 }]
  methods := #[k11m0]
  instanceTypes := #[(.object "java/lang/Object"), (.object "java/lang/String"), (.object "java/lang/Throwable"), (.array (.object "java/lang/StackTraceElement")), .int, (.object "java/util/List"), (.object "com/example/clear_fault/clearfault/FaultKind"), (.object "java/lang/String"), (.object "com/example/clear_fault/clearfault/PublicMessage"), (.object "java/lang/String"), (.object "java/lang/String"), (.object "java/util/List")]
  staticTypes := #[.long, .int]
  resolved := Array.replicate 171 none
  statics := none }

def pool12 : Array CpInfo := pool [(3, .class_ 4), (0, u "java/lang/String"), (1, .class_ 8), (1, u "java/lang/Object"), (0, u "<init>"), (0, u "()V"), (0, .methodref 12 13), (0, .class_ 14), (0, .nameAndType 15 16), (0, u "java/lang/StringUTF16"), (0, u "newBytesLength"), (0, u "(I)I"), (3, .integer 1073741823), (23, .fieldref 12 45), (0, .nameAndType 46 47), (0, u "$assertionsDisabled"), (0, u "Z"), (0, .methodref 12 49), (0, .nameAndType 50 51), (0, u "length"), (0, u "([B)I"), (7, .fieldref 12 60), (0, .nameAndType 61 62), (0, u "HI_BYTE_SHIFT"), (0, u "I"), (0, .fieldref 12 64), (0, .nameAndType 65 62), (0, u "LO_BYTE_SHIFT"), (1, .methodref 12 68), (0, .nameAndType 69 70), (0, u "checkIndex"), (0, u "(I[B)V"), (0, .methodref 12 72), (0, .nameAndType 73 74), (0, u "getChar"), (0, u "([BI)C"), (32, .methodref 12 108), (0, .nameAndType 109 110), (0, u "newBytesFor"), (0, u "(I)[B"), (0, .methodref 12 112), (0, .nameAndType 113 114), (0, u "putChar"), (0, u "([BII)V"), (0, .methodref 12 116), (0, .nameAndType 117 118), (0, u "compress"), (0, u "([CI[BII)I"), (0, .methodref 12 120), (0, .nameAndType 121 122), (0, u "toBytes"), (0, u "([CII)[B"), (138, u "coderFromArrayLen"), (0, u "([BI)B"), (106, .class_ 371), (1, u "java/lang/StringUTF16$LinesSpliterator"), (20, u "charAt"), (21, .methodref 3 415), (0, .nameAndType 69 416), (0, u "(II)V"), (13, u "MAX_LENGTH"), (196, .class_ 628), (0, u "java/lang/StringUTF16$CodePointsSpliterator"), (0, .class_ 630), (0, u "java/lang/StringUTF16$CharsSpliterator")] 4

def k12m0 : Method := { name := "<init>", desc := "()V", sig := { parameters := [], returnType := none }, accessFlags := 0, code := none }
def k12c1 : Code := { maxStack := 1, maxLocals := 1, code := jdk_52_method_2_code, exceptionTable := #[], attributes := #[] }
def k12m1 : Method := { name := "newBytesFor", desc := "(I)[B", sig := { parameters := [.int], returnType := some (.array .byte) }, accessFlags := 9, code := some k12c1 }
def k12c2 : Code := { maxStack := 4, maxLocals := 1, code := jdk_52_method_3_code, exceptionTable := #[], attributes := #[] }
def k12m2 : Method := { name := "newBytesLength", desc := "(I)I", sig := { parameters := [.int], returnType := some .int }, accessFlags := 9, code := some k12c2 }
def k12c3 : Code := { maxStack := 4, maxLocals := 3, code := jdk_52_method_4_code, exceptionTable := #[], attributes := #[] }
def k12m3 : Method := { name := "putChar", desc := "([BII)V", sig := { parameters := [(.array .byte), .int, .int], returnType := none }, accessFlags := 8, code := some k12c3 }
def k12c4 : Code := { maxStack := 3, maxLocals := 2, code := jdk_52_method_5_code, exceptionTable := #[], attributes := #[] }
def k12m4 : Method := { name := "getChar", desc := "([BI)C", sig := { parameters := [(.array .byte), .int], returnType := some .char }, accessFlags := 8, code := some k12c4 }
def k12c5 : Code := { maxStack := 2, maxLocals := 1, code := jdk_52_method_6_code, exceptionTable := #[], attributes := #[] }
def k12m5 : Method := { name := "length", desc := "([B)I", sig := { parameters := [(.array .byte)], returnType := some .int }, accessFlags := 9, code := some k12c5 }
def k12c6 : Code := { maxStack := 4, maxLocals := 5, code := jdk_52_method_14_code, exceptionTable := #[], attributes := #[] }
def k12m6 : Method := { name := "toBytes", desc := "([CII)[B", sig := { parameters := [(.array .char), .int, .int], returnType := some (.array .byte) }, accessFlags := 9, code := some k12c6 }
def k12c7 : Code := { maxStack := 2, maxLocals := 2, code := jdk_52_method_15_code, exceptionTable := #[], attributes := #[] }
def k12m7 : Method := { name := "coderFromArrayLen", desc := "([BI)B", sig := { parameters := [(.array .byte), .int], returnType := some .byte }, accessFlags := 8, code := some k12c7 }
def k12c8 : Code := { maxStack := 5, maxLocals := 6, code := jdk_52_method_16_code, exceptionTable := #[], attributes := #[] }
def k12m8 : Method := { name := "compress", desc := "([CII)[B", sig := { parameters := [(.array .char), .int, .int], returnType := some (.array .byte) }, accessFlags := 9, code := some k12c8 }
def k12c9 : Code := { maxStack := 3, maxLocals := 7, code := jdk_52_method_21_code, exceptionTable := #[], attributes := #[] }
def k12m9 : Method := { name := "compress", desc := "([CI[BII)I", sig := { parameters := [(.array .char), .int, (.array .byte), .int, .int], returnType := some .int }, accessFlags := 9, code := some k12c9 }
def k12c10 : Code := { maxStack := 2, maxLocals := 2, code := jdk_52_method_83_code, exceptionTable := #[], attributes := #[] }
def k12m10 : Method := { name := "charAt", desc := "([BI)C", sig := { parameters := [(.array .byte), .int], returnType := some .char }, accessFlags := 9, code := some k12c10 }
def k12c11 : Code := { maxStack := 2, maxLocals := 2, code := jdk_52_method_91_code, exceptionTable := #[], attributes := #[] }
def k12m11 : Method := { name := "checkIndex", desc := "(I[B)V", sig := { parameters := [.int, (.array .byte)], returnType := none }, accessFlags := 9, code := some k12c11 }
/-- java/lang/StringUTF16 -/
def k12 : Class := { plain "java/lang/StringUTF16" (some 0) with
  accessFlags := 48
  interfaces := #[]
  cf := some (fileOf pool12 12 #[.nestMembers #[627, 629, 369]] #[{ accessFlags := 0, nameIndex := 9, descriptorIndex := 10, attributes := #[] }, { accessFlags := 9, nameIndex := 109, descriptorIndex := 110, attributes := #[] }, { accessFlags := 9, nameIndex := 15, descriptorIndex := 16, attributes := #[] }, { accessFlags := 8, nameIndex := 113, descriptorIndex := 114, attributes := #[] }, { accessFlags := 8, nameIndex := 73, descriptorIndex := 74, attributes := #[] }, { accessFlags := 9, nameIndex := 50, descriptorIndex := 51, attributes := #[] }, { accessFlags := 9, nameIndex := 121, descriptorIndex := 122, attributes := #[] }, { accessFlags := 8, nameIndex := 261, descriptorIndex := 262, attributes := #[] }, { accessFlags := 9, nameIndex := 117, descriptorIndex := 122, attributes := #[] }, { accessFlags := 9, nameIndex := 117, descriptorIndex := 118, attributes := #[] }, { accessFlags := 9, nameIndex := 392, descriptorIndex := 74, attributes := #[] }, { accessFlags := 9, nameIndex := 69, descriptorIndex := 70, attributes := #[] }] 48 6 #[] #[{ accessFlags := 26, nameIndex := 61, descriptorIndex := 62, attributes := #[] }, { accessFlags := 26, nameIndex := 65, descriptorIndex := 62, attributes := #[] }, { accessFlags := 24, nameIndex := 430, descriptorIndex := 62, attributes := #[] }, { accessFlags := 4120, nameIndex := 46, descriptorIndex := 47, attributes := #[] }])
  fields := #[{ name := "HI_BYTE_SHIFT", type := .int, accessFlags := 26, slot := 0, constantValue := 0 }, { name := "LO_BYTE_SHIFT", type := .int, accessFlags := 26, slot := 1, constantValue := 0 }, { name := "MAX_LENGTH", type := .int, accessFlags := 24, slot := 2, constantValue := 0 }, { name := "$assertionsDisabled", type := .boolean, accessFlags := 4120, slot := 3, constantValue := 0 }]
  methods := #[k12m0, k12m1, k12m2, k12m3, k12m4, k12m5, k12m6, k12m7, k12m8, k12m9, k12m10, k12m11]
  instanceTypes := #[]
  staticTypes := #[.int, .int, .int, .boolean]
  resolved := Array.replicate 635 none
  statics := some 1 }

def pool13 : Array CpInfo := pool [(1, .class_ 2), (0, u "java/lang/String"), (1, .class_ 6), (1, u "java/lang/Object"), (0, u "<init>"), (0, u "()V"), (0, .methodref 1 10), (0, .nameAndType 11 12), (0, u "checkIndex"), (0, u "(II)V"), (1, .class_ 16), (1, u "java/lang/StringLatin1"), (36, u "([BI)C"), (67, u "$assertionsDisabled"), (0, u "Z"), (98, .class_ 223), (1, u "java/lang/StringLatin1$LinesSpliterator"), (28, u "charAt"), (137, .class_ 391), (0, u "java/lang/StringLatin1$CharsSpliterator")] 3

def k13m0 : Method := { name := "<init>", desc := "()V", sig := { parameters := [], returnType := none }, accessFlags := 0, code := none }
def k13c1 : Code := { maxStack := 2, maxLocals := 2, code := jdk_43_method_2_code, exceptionTable := #[], attributes := #[] }
def k13m1 : Method := { name := "charAt", desc := "([BI)C", sig := { parameters := [(.array .byte), .int], returnType := some .char }, accessFlags := 9, code := some k13c1 }
/-- java/lang/StringLatin1 -/
def k13 : Class := { plain "java/lang/StringLatin1" (some 0) with
  accessFlags := 48
  interfaces := #[]
  cf := some (fileOf pool13 14 #[.nestMembers #[390, 221]] #[{ accessFlags := 0, nameIndex := 7, descriptorIndex := 8, attributes := #[] }, { accessFlags := 9, nameIndex := 252, descriptorIndex := 53, attributes := #[] }] 48 4 #[] #[{ accessFlags := 4120, nameIndex := 121, descriptorIndex := 122, attributes := #[] }])
  fields := #[{ name := "$assertionsDisabled", type := .boolean, accessFlags := 4120, slot := 0, constantValue := 0 }]
  methods := #[k13m0, k13m1]
  instanceTypes := #[]
  staticTypes := #[.boolean]
  resolved := Array.replicate 395 none
  statics := none }

def pool14 : Array CpInfo := pool [(2, .class_ 4), (1, u "java/lang/Object"), (0, u "<init>"), (0, u "()V"), (17, .class_ 26), (1, u "jdk/internal/util/Preconditions"), (6, u "checkIndex"), (21, .class_ 56), (0, u "jdk/internal/util/Preconditions$4"), (57, .class_ 115), (0, u "jdk/internal/util/Preconditions$1"), (7, u "SIOOBE_FORMATTER"), (0, u "Ljava/util/function/BiFunction;"), (0, .class_ 126), (0, u "jdk/internal/util/Preconditions$2"), (3, u "AIOOBE_FORMATTER"), (0, .class_ 132), (0, u "jdk/internal/util/Preconditions$3"), (3, u "IOOBE_FORMATTER"), (41, u "(IILjava/util/function/BiFunction;)I")] 15

def k14m0 : Method := { name := "<init>", desc := "()V", sig := { parameters := [], returnType := none }, accessFlags := 1, code := none }
def k14c1 : Code := { maxStack := 3, maxLocals := 3, code := jdk_41_method_11_code, exceptionTable := #[], attributes := #[] }
def k14m1 : Method := { name := "checkIndex", desc := "(IILjava/util/function/BiFunction;)I", sig := { parameters := [.int, .int, (.object "java/util/function/BiFunction")], returnType := some .int }, accessFlags := 9, code := some k14c1 }
/-- jdk/internal/util/Preconditions -/
def k14 : Class := { plain "jdk/internal/util/Preconditions" (some 0) with
  accessFlags := 33
  interfaces := #[]
  cf := some (fileOf pool14 24 #[.nestMembers #[55, 131, 125, 114]] #[{ accessFlags := 1, nameIndex := 5, descriptorIndex := 6, attributes := #[] }, { accessFlags := 9, nameIndex := 33, descriptorIndex := 178, attributes := #[] }] 33 2 #[] #[{ accessFlags := 25, nameIndex := 123, descriptorIndex := 124, attributes := #[] }, { accessFlags := 25, nameIndex := 130, descriptorIndex := 124, attributes := #[] }, { accessFlags := 25, nameIndex := 136, descriptorIndex := 124, attributes := #[] }])
  fields := #[{ name := "SIOOBE_FORMATTER", type := (.object "java/util/function/BiFunction"), accessFlags := 25, slot := 0, constantValue := 0 }, { name := "AIOOBE_FORMATTER", type := (.object "java/util/function/BiFunction"), accessFlags := 25, slot := 1, constantValue := 0 }, { name := "IOOBE_FORMATTER", type := (.object "java/util/function/BiFunction"), accessFlags := 25, slot := 2, constantValue := 0 }]
  methods := #[k14m0, k14m1]
  instanceTypes := #[]
  staticTypes := #[(.object "java/util/function/BiFunction"), (.object "java/util/function/BiFunction"), (.object "java/util/function/BiFunction")]
  resolved := Array.replicate 194 none
  statics := some 2 }

def pool15 : Array CpInfo := pool [(9, u "<init>"), (6, .class_ 18), (1, u "java/lang/Object"), (0, u "()V"), (1, .class_ 23), (1, u "jdk/internal/util/ArraysSupport"), (0, u "LOG2_ARRAY_LONG_INDEX_SCALE"), (0, u "I"), (2, u "U"), (0, u "Ljdk/internal/misc/Unsafe;"), (8, u "BIG_ENDIAN"), (0, u "Z"), (8, u "LOG2_BYTE_BIT_SIZE"), (4, u "LOG2_ARRAY_INT_INDEX_SCALE"), (54, u "JLA"), (0, u "Ljdk/internal/access/JavaLangAccess;"), (11, u "LOG2_ARRAY_BOOLEAN_INDEX_SCALE"), (9, u "LOG2_ARRAY_BYTE_INDEX_SCALE"), (5, u "LOG2_ARRAY_CHAR_INDEX_SCALE"), (5, u "LOG2_ARRAY_SHORT_INDEX_SCALE"), (18, u "LOG2_ARRAY_FLOAT_INDEX_SCALE"), (24, u "LOG2_ARRAY_DOUBLE_INDEX_SCALE"), (89, u "T_BOOLEAN"), (2, u "T_CHAR"), (1, u "T_FLOAT"), (1, u "T_DOUBLE"), (1, u "T_BYTE"), (1, u "T_SHORT"), (1, u "T_INT"), (1, u "T_LONG"), (1, u "SOFT_MAX_ARRAY_LENGTH")] 83

def k15m0 : Method := { name := "<init>", desc := "()V", sig := { parameters := [], returnType := none }, accessFlags := 2, code := none }
/-- jdk/internal/util/ArraysSupport -/
def k15 : Class := { plain "jdk/internal/util/ArraysSupport" (some 0) with
  accessFlags := 33
  interfaces := #[]
  cf := some (fileOf pool15 21 #[] #[{ accessFlags := 2, nameIndex := 9, descriptorIndex := 19, attributes := #[] }] 33 16 #[] #[{ accessFlags := 24, nameIndex := 28, descriptorIndex := 29, attributes := #[] }, { accessFlags := 26, nameIndex := 38, descriptorIndex := 39, attributes := #[] }, { accessFlags := 25, nameIndex := 121, descriptorIndex := 25, attributes := #[] }, { accessFlags := 25, nameIndex := 131, descriptorIndex := 25, attributes := #[] }, { accessFlags := 25, nameIndex := 137, descriptorIndex := 25, attributes := #[] }, { accessFlags := 25, nameIndex := 143, descriptorIndex := 25, attributes := #[] }, { accessFlags := 25, nameIndex := 53, descriptorIndex := 25, attributes := #[] }, { accessFlags := 25, nameIndex := 24, descriptorIndex := 25, attributes := #[] }, { accessFlags := 25, nameIndex := 162, descriptorIndex := 25, attributes := #[] }, { accessFlags := 25, nameIndex := 187, descriptorIndex := 25, attributes := #[] }, { accessFlags := 26, nameIndex := 48, descriptorIndex := 25, attributes := #[] }, { accessFlags := 25, nameIndex := 277, descriptorIndex := 25, attributes := #[] }, { accessFlags := 25, nameIndex := 280, descriptorIndex := 25, attributes := #[] }, { accessFlags := 25, nameIndex := 282, descriptorIndex := 25, attributes := #[] }, { accessFlags := 25, nameIndex := 284, descriptorIndex := 25, attributes := #[] }, { accessFlags := 25, nameIndex := 286, descriptorIndex := 25, attributes := #[] }, { accessFlags := 25, nameIndex := 288, descriptorIndex := 25, attributes := #[] }, { accessFlags := 25, nameIndex := 290, descriptorIndex := 25, attributes := #[] }, { accessFlags := 25, nameIndex := 292, descriptorIndex := 25, attributes := #[] }, { accessFlags := 26, nameIndex := 108, descriptorIndex := 109, attributes := #[] }, { accessFlags := 25, nameIndex := 294, descriptorIndex := 25, attributes := #[] }])
  fields := #[{ name := "U", type := (.object "jdk/internal/misc/Unsafe"), accessFlags := 24, slot := 0, constantValue := 0 }, { name := "BIG_ENDIAN", type := .boolean, accessFlags := 26, slot := 1, constantValue := 0 }, { name := "LOG2_ARRAY_BOOLEAN_INDEX_SCALE", type := .int, accessFlags := 25, slot := 2, constantValue := 0 }, { name := "LOG2_ARRAY_BYTE_INDEX_SCALE", type := .int, accessFlags := 25, slot := 3, constantValue := 0 }, { name := "LOG2_ARRAY_CHAR_INDEX_SCALE", type := .int, accessFlags := 25, slot := 4, constantValue := 0 }, { name := "LOG2_ARRAY_SHORT_INDEX_SCALE", type := .int, accessFlags := 25, slot := 5, constantValue := 0 }, { name := "LOG2_ARRAY_INT_INDEX_SCALE", type := .int, accessFlags := 25, slot := 6, constantValue := 0 }, { name := "LOG2_ARRAY_LONG_INDEX_SCALE", type := .int, accessFlags := 25, slot := 7, constantValue := 0 }, { name := "LOG2_ARRAY_FLOAT_INDEX_SCALE", type := .int, accessFlags := 25, slot := 8, constantValue := 0 }, { name := "LOG2_ARRAY_DOUBLE_INDEX_SCALE", type := .int, accessFlags := 25, slot := 9, constantValue := 0 }, { name := "LOG2_BYTE_BIT_SIZE", type := .int, accessFlags := 26, slot := 10, constantValue := 0 }, { name := "T_BOOLEAN", type := .int, accessFlags := 25, slot := 11, constantValue := 0 }, { name := "T_CHAR", type := .int, accessFlags := 25, slot := 12, constantValue := 0 }, { name := "T_FLOAT", type := .int, accessFlags := 25, slot := 13, constantValue := 0 }, { name := "T_DOUBLE", type := .int, accessFlags := 25, slot := 14, constantValue := 0 }, { name := "T_BYTE", type := .int, accessFlags := 25, slot := 15, constantValue := 0 }, { name := "T_SHORT", type := .int, accessFlags := 25, slot := 16, constantValue := 0 }, { name := "T_INT", type := .int, accessFlags := 25, slot := 17, constantValue := 0 }, { name := "T_LONG", type := .int, accessFlags := 25, slot := 18, constantValue := 0 }, { name := "JLA", type := (.object "jdk/internal/access/JavaLangAccess"), accessFlags := 26, slot := 19, constantValue := 0 }, { name := "SOFT_MAX_ARRAY_LENGTH", type := .int, accessFlags := 25, slot := 20, constantValue := 0 }]
  methods := #[k15m0]
  instanceTypes := #[]
  staticTypes := #[(.object "jdk/internal/misc/Unsafe"), .boolean, .int, .int, .int, .int, .int, .int, .int, .int, .int, .int, .int, .int, .int, .int, .int, .int, .int, (.object "jdk/internal/access/JavaLangAccess"), .int]
  resolved := Array.replicate 378 none
  statics := none }

def pool16 : Array CpInfo := pool [(1, u "java/lang/Cloneable"), (0, .class_ 1), (0, u "java/lang/Object"), (0, .class_ 3)] 3

/-- java/lang/Cloneable -/
def k16 : Class := { plain "java/lang/Cloneable" (some 0) with
  accessFlags := 1537
  interfaces := #[]
  cf := some (fileOf pool16 2 #[] #[] 1537 4 #[] #[])
  fields := #[]
  methods := #[]
  instanceTypes := #[]
  staticTypes := #[]
  resolved := Array.replicate 8 none
  statics := none }

/-- the primitive byte -/
def k17 : Class := { plain "byte" none with kind := .primitive 'B', accessFlags := 0x411 }
/-- [B -/
def k18 : Class := { plain "[B" (some 0) with kind := .array 17 .byte, interfaces := #[16, 2], accessFlags := 1041 }

/-- the primitive char -/
def k19 : Class := { plain "char" none with kind := .primitive 'C', accessFlags := 0x411 }
/-- [C -/
def k20 : Class := { plain "[C" (some 0) with kind := .array 19 .char, interfaces := #[16, 2], accessFlags := 1041 }

/-- the primitive int -/
def k21 : Class := { plain "int" none with kind := .primitive 'I', accessFlags := 0x411 }
/-- [I -/
def k22 : Class := { plain "[I" (some 0) with kind := .array 21 .int, interfaces := #[16, 2], accessFlags := 1041 }

def heap : Heap := #[{ cls := 7, slots := #[.long 0, .int 1, .null, .int 0, .null, .int 0, .int 0], vm := .statics 7 },
  { cls := 12, slots := #[.int 0, .int 8, .int 0, .int 1], vm := .statics 12 },
  { cls := 14, slots := #[.null, .null, .null], vm := .statics 14 }]
def classes : Array Class := #[k0, k1, k2, k3, k4, k5, k6, k7, k8, k9, k10, k11, k12, k13, k14, k15, k16, k17, k18, k19, k20, k21, k22]
def interned : List (Array UInt16 × Addr) := []
def slotsUsed : Nat := 14
def theMethod : MethodId := ⟨1, 3⟩
def args0 : Array Value := #[.int 97, .int 98, .int 99, .int 100, .int 2]
def aboutOver (below : List Frame) : State where
  vm := { classes := classes, interned := interned.toArray }
  heap := heap
  slotsUsed := slotsUsed
  threads := #[{ frames := .invoking theMethod args0 :: below }]
def below0 : List Frame := [.native { method := ⟨0, 0⟩, args := #[] }]
def about1 : State := aboutOver below0
def p0 : Program := .bare "" "" ""
def e0 : Env := launch0.env 0 0 0
theorem w_frames : about1.frames = Frame.invoking theMethod args0 :: below0 := rfl
set_option maxRecDepth 65536 in
theorem w_args : argsFit about1.vm theMethod args0 = true := by decide +kernel
set_option maxRecDepth 65536 in
theorem w_heap : heapFits about1 = true := by decide +kernel
set_option maxRecDepth 65536 in
theorem w_runnable : about1.curStatus? = some .runnable := by decide +kernel
set_option maxRecDepth 65536 in
theorem w_alone : about1.alone = true := by decide +kernel
set_option maxRecDepth 65536 in
theorem w_named : about1.methodNamed? x = some theMethod := by decide +kernel
set_option maxRecDepth 65536 in
theorem w_hears : about1.hears theMethod below0 = true := by decide +kernel
set_option maxRecDepth 65536 in
theorem w_ripe : about1.ripe theMethod args0 below0 = true := by decide +kernel
theorem w_running : about1.status = .running := rfl
set_option maxRecDepth 65536 in
theorem w_room : about1.hasRoom e0.platform room_1 = true :=
  launch0.hasRoom_least _ room_1 (by decide +kernel) (by decide +kernel) (by decide +kernel) (by decide +kernel) (by decide +kernel) (by decide +kernel)
theorem allAtoms_all (ts : List Jvm.Cond) (a : Array Jvm.Value) (st : Jvm.State) : (allAtoms ts).before a st = ts.all (fun c => c.before a st) := by
  induction ts with
  | nil => rfl
  | cons c t ih =>
    show (Jvm.Cond.and c (allAtoms t)).before a st = _
    rw [Jvm.Cond.before_and, ih, List.all_cons]
def words1 : List Jvm.Cond := Jvm.Cond.code x code maxLocals ret :: tables_1
/-- a 'code' word, met by the world's own term for the bytes: nothing is compared byte by byte -/
theorem code_word {y : MethodName} {bytes : ByteArray} {mx : Nat} {rt : Option FieldType} {a : Array Value} {s : State} {m : MethodId} {meth : Method} {c : Code} (h1 : s.methodNamed? y = some m) (h2 : s.vm.method? m = some meth) (h3 : meth.code = some c) (h4 : c.code = bytes)
    (h5 : (c.maxLocals == mx && c.exceptionTable.isEmpty && decide (c.maxStack ≤ mostOperands) && decide (meth.sig.returnType = rt) && !meth.locks && decide (parseMethodDescriptor y.desc = some meth.sig)) = true) : (Jvm.Cond.code y bytes mx rt).before a s = true := by
  simp only [Bool.and_eq_true, beq_iff_eq, Bool.not_eq_true', decide_eq_true_eq] at h5
  obtain ⟨⟨⟨⟨⟨g1, g2⟩, g3⟩, g4⟩, g5⟩, g6⟩ := h5
  simp [Cond.before, Cond.holds, Cond.value, h1, h2, h3, h4, g1, g2, g3, g4, g5, g6]
def isCode : Jvm.Cond → Bool
  | .code _ _ _ _ => true
  | _ => false
theorem all_split {L : List Jvm.Cond} {P : Jvm.Cond → Bool} (h1 : L.all (fun c => isCode c || P c) = true) (h2 : ∀ c ∈ L.filter isCode, P c = true) : L.all P = true := by
  refine List.all_eq_true.mpr fun c hc => ?_
  have h := List.all_eq_true.mp h1 c hc
  rcases Bool.eq_false_or_eq_true (isCode c) with hi | hi
  · exact h2 c (List.mem_filter.mpr ⟨hc, hi⟩)
  · simpa [hi] using h
set_option maxRecDepth 65536 in
theorem w_c0 : (Jvm.Cond.code x code maxLocals ret).before args0 about1 = true := code_word (m := ⟨1, 3⟩) (meth := k1m3) (c := k1c3) (by decide +kernel) rfl rfl rfl (by decide +kernel)
set_option maxRecDepth 65536 in
theorem w_c1 : (Jvm.Cond.code ({ cls := "java/lang/String", name := "<init>", desc := "([C)V" } : Jvm.MethodName) jdk_42_method_3_code (2 : Nat) (Option.none : Option Jvm.ClassFile.FieldType)).before args0 about1 = true := code_word (m := ⟨7, 1⟩) (meth := k7m1) (c := k7c1) (by decide +kernel) rfl rfl rfl (by decide +kernel)
set_option maxRecDepth 65536 in
theorem w_c2 : (Jvm.Cond.code ({ cls := "java/lang/String", name := "<init>", desc := "([CIILjava/lang/Void;)V" } : Jvm.MethodName) jdk_42_method_149_code (6 : Nat) (Option.none : Option Jvm.ClassFile.FieldType)).before args0 about1 = true := code_word (m := ⟨7, 5⟩) (meth := k7m5) (c := k7c5) (by decide +kernel) rfl rfl rfl (by decide +kernel)
set_option maxRecDepth 65536 in
theorem w_c3 : (Jvm.Cond.code ({ cls := "java/lang/Object", name := "<init>", desc := "()V" } : Jvm.MethodName) object_method_1_code (1 : Nat) (Option.none : Option Jvm.ClassFile.FieldType)).before args0 about1 = true := code_word (m := ⟨0, 0⟩) (meth := k0m0) (c := k0c0) (by decide +kernel) rfl rfl rfl (by decide +kernel)
set_option maxRecDepth 65536 in
theorem w_c4 : (Jvm.Cond.code ({ cls := "com/example/clear_fault/clearfault/Fault", name := "isValidCode", desc := "(Ljava/lang/String;)Z" } : Jvm.MethodName) prog_8_method_9_code (3 : Nat) (Option.some Jvm.ClassFile.FieldType.boolean)).before args0 about1 = true := code_word (m := ⟨11, 0⟩) (meth := k11m0) (c := k11c0) (by decide +kernel) rfl rfl rfl (by decide +kernel)
set_option maxRecDepth 65536 in
theorem w_c5 : (Jvm.Cond.code ({ cls := "java/lang/String", name := "isEmpty", desc := "()Z" } : Jvm.MethodName) jdk_42_method_55_code (1 : Nat) (Option.some Jvm.ClassFile.FieldType.boolean)).before args0 about1 = true := code_word (m := ⟨7, 3⟩) (meth := k7m3) (c := k7c3) (by decide +kernel) rfl rfl rfl (by decide +kernel)
set_option maxRecDepth 65536 in
theorem w_c6 : (Jvm.Cond.code ({ cls := "java/lang/StringUTF16", name := "compress", desc := "([CII)[B" } : Jvm.MethodName) jdk_52_method_16_code (6 : Nat) (Option.some (Jvm.ClassFile.FieldType.array Jvm.ClassFile.FieldType.byte))).before args0 about1 = true := code_word (m := ⟨12, 8⟩) (meth := k12m8) (c := k12c8) (by decide +kernel) rfl rfl rfl (by decide +kernel)
set_option maxRecDepth 65536 in
theorem w_c7 : (Jvm.Cond.code ({ cls := "java/lang/StringUTF16", name := "compress", desc := "([CI[BII)I" } : Jvm.MethodName) jdk_52_method_21_code (7 : Nat) (Option.some Jvm.ClassFile.FieldType.int)).before args0 about1 = true := code_word (m := ⟨12, 9⟩) (meth := k12m9) (c := k12c9) (by decide +kernel) rfl rfl rfl (by decide +kernel)
set_option maxRecDepth 65536 in
theorem w_c8 : (Jvm.Cond.code ({ cls := "java/lang/StringUTF16", name := "coderFromArrayLen", desc := "([BI)B" } : Jvm.MethodName) jdk_52_method_15_code (2 : Nat) (Option.some Jvm.ClassFile.FieldType.byte)).before args0 about1 = true := code_word (m := ⟨12, 7⟩) (meth := k12m7) (c := k12c7) (by decide +kernel) rfl rfl rfl (by decide +kernel)
set_option maxRecDepth 65536 in
theorem w_c9 : (Jvm.Cond.code ({ cls := "java/lang/String", name := "length", desc := "()I" } : Jvm.MethodName) jdk_42_method_54_code (1 : Nat) (Option.some Jvm.ClassFile.FieldType.int)).before args0 about1 = true := code_word (m := ⟨7, 2⟩) (meth := k7m2) (c := k7c2) (by decide +kernel) rfl rfl rfl (by decide +kernel)
set_option maxRecDepth 65536 in
theorem w_c10 : (Jvm.Cond.code ({ cls := "java/lang/String", name := "coder", desc := "()B" } : Jvm.MethodName) jdk_42_method_152_code (1 : Nat) (Option.some Jvm.ClassFile.FieldType.byte)).before args0 about1 = true := code_word (m := ⟨7, 6⟩) (meth := k7m6) (c := k7c6) (by decide +kernel) rfl rfl rfl (by decide +kernel)
set_option maxRecDepth 65536 in
theorem w_c11 : (Jvm.Cond.code ({ cls := "com/example/clear_fault/clearfault/FaultIsValidCodePinLaw", name := "lower", desc := "(C)Z" } : Jvm.MethodName) method_2_code (1 : Nat) (Option.some Jvm.ClassFile.FieldType.boolean)).before args0 about1 = true := code_word (m := ⟨1, 1⟩) (meth := k1m1) (c := k1c1) (by decide +kernel) rfl rfl rfl (by decide +kernel)
set_option maxRecDepth 65536 in
theorem w_c12 : (Jvm.Cond.code ({ cls := "java/lang/String", name := "charAt", desc := "(I)C" } : Jvm.MethodName) jdk_42_method_56_code (2 : Nat) (Option.some Jvm.ClassFile.FieldType.char)).before args0 about1 = true := code_word (m := ⟨7, 4⟩) (meth := k7m4) (c := k7c4) (by decide +kernel) rfl rfl rfl (by decide +kernel)
set_option maxRecDepth 65536 in
theorem w_c13 : (Jvm.Cond.code ({ cls := "java/lang/String", name := "isLatin1", desc := "()Z" } : Jvm.MethodName) jdk_42_method_154_code (1 : Nat) (Option.some Jvm.ClassFile.FieldType.boolean)).before args0 about1 = true := code_word (m := ⟨7, 7⟩) (meth := k7m7) (c := k7c7) (by decide +kernel) rfl rfl rfl (by decide +kernel)
set_option maxRecDepth 65536 in
theorem w_c14 : (Jvm.Cond.code ({ cls := "java/lang/StringLatin1", name := "charAt", desc := "([BI)C" } : Jvm.MethodName) jdk_43_method_2_code (2 : Nat) (Option.some Jvm.ClassFile.FieldType.char)).before args0 about1 = true := code_word (m := ⟨13, 1⟩) (meth := k13m1) (c := k13c1) (by decide +kernel) rfl rfl rfl (by decide +kernel)
set_option maxRecDepth 65536 in
theorem w_c15 : (Jvm.Cond.code ({ cls := "java/lang/String", name := "checkIndex", desc := "(II)V" } : Jvm.MethodName) jdk_42_method_155_code (2 : Nat) (Option.none : Option Jvm.ClassFile.FieldType)).before args0 about1 = true := code_word (m := ⟨7, 8⟩) (meth := k7m8) (c := k7c8) (by decide +kernel) rfl rfl rfl (by decide +kernel)
set_option maxRecDepth 65536 in
theorem w_c16 : (Jvm.Cond.code ({ cls := "jdk/internal/util/Preconditions", name := "checkIndex", desc := "(IILjava/util/function/BiFunction;)I" } : Jvm.MethodName) jdk_41_method_11_code (3 : Nat) (Option.some Jvm.ClassFile.FieldType.int)).before args0 about1 = true := code_word (m := ⟨14, 1⟩) (meth := k14m1) (c := k14c1) (by decide +kernel) rfl rfl rfl (by decide +kernel)
set_option maxRecDepth 65536 in
theorem w_c17 : (Jvm.Cond.code ({ cls := "java/lang/StringUTF16", name := "toBytes", desc := "([CII)[B" } : Jvm.MethodName) jdk_52_method_14_code (5 : Nat) (Option.some (Jvm.ClassFile.FieldType.array Jvm.ClassFile.FieldType.byte))).before args0 about1 = true := code_word (m := ⟨12, 6⟩) (meth := k12m6) (c := k12c6) (by decide +kernel) rfl rfl rfl (by decide +kernel)
set_option maxRecDepth 65536 in
theorem w_c18 : (Jvm.Cond.code ({ cls := "java/lang/StringUTF16", name := "newBytesFor", desc := "(I)[B" } : Jvm.MethodName) jdk_52_method_2_code (1 : Nat) (Option.some (Jvm.ClassFile.FieldType.array Jvm.ClassFile.FieldType.byte))).before args0 about1 = true := code_word (m := ⟨12, 1⟩) (meth := k12m1) (c := k12c1) (by decide +kernel) rfl rfl rfl (by decide +kernel)
set_option maxRecDepth 65536 in
theorem w_c19 : (Jvm.Cond.code ({ cls := "java/lang/StringUTF16", name := "newBytesLength", desc := "(I)I" } : Jvm.MethodName) jdk_52_method_3_code (1 : Nat) (Option.some Jvm.ClassFile.FieldType.int)).before args0 about1 = true := code_word (m := ⟨12, 2⟩) (meth := k12m2) (c := k12c2) (by decide +kernel) rfl rfl rfl (by decide +kernel)
set_option maxRecDepth 65536 in
theorem w_c20 : (Jvm.Cond.code ({ cls := "java/lang/StringUTF16", name := "putChar", desc := "([BII)V" } : Jvm.MethodName) jdk_52_method_4_code (3 : Nat) (Option.none : Option Jvm.ClassFile.FieldType)).before args0 about1 = true := code_word (m := ⟨12, 3⟩) (meth := k12m3) (c := k12c3) (by decide +kernel) rfl rfl rfl (by decide +kernel)
set_option maxRecDepth 65536 in
theorem w_c21 : (Jvm.Cond.code ({ cls := "java/lang/StringUTF16", name := "getChar", desc := "([BI)C" } : Jvm.MethodName) jdk_52_method_5_code (2 : Nat) (Option.some Jvm.ClassFile.FieldType.char)).before args0 about1 = true := code_word (m := ⟨12, 4⟩) (meth := k12m4) (c := k12c4) (by decide +kernel) rfl rfl rfl (by decide +kernel)
set_option maxRecDepth 65536 in
theorem w_c22 : (Jvm.Cond.code ({ cls := "java/lang/StringUTF16", name := "charAt", desc := "([BI)C" } : Jvm.MethodName) jdk_52_method_83_code (2 : Nat) (Option.some Jvm.ClassFile.FieldType.char)).before args0 about1 = true := code_word (m := ⟨12, 10⟩) (meth := k12m10) (c := k12c10) (by decide +kernel) rfl rfl rfl (by decide +kernel)
set_option maxRecDepth 65536 in
theorem w_c23 : (Jvm.Cond.code ({ cls := "java/lang/StringUTF16", name := "checkIndex", desc := "(I[B)V" } : Jvm.MethodName) jdk_52_method_91_code (2 : Nat) (Option.none : Option Jvm.ClassFile.FieldType)).before args0 about1 = true := code_word (m := ⟨12, 11⟩) (meth := k12m11) (c := k12c11) (by decide +kernel) rfl rfl rfl (by decide +kernel)
set_option maxRecDepth 65536 in
theorem w_c24 : (Jvm.Cond.code ({ cls := "java/lang/StringUTF16", name := "length", desc := "([B)I" } : Jvm.MethodName) jdk_52_method_6_code (1 : Nat) (Option.some Jvm.ClassFile.FieldType.int)).before args0 about1 = true := code_word (m := ⟨12, 5⟩) (meth := k12m5) (c := k12c5) (by decide +kernel) rfl rfl rfl (by decide +kernel)
set_option maxRecDepth 65536 in
theorem w_c25 : (Jvm.Cond.code ({ cls := "com/example/clear_fault/clearfault/FaultIsValidCodePinLaw", name := "tail", desc := "(C)Z" } : Jvm.MethodName) method_3_code (1 : Nat) (Option.some Jvm.ClassFile.FieldType.boolean)).before args0 about1 = true := code_word (m := ⟨1, 2⟩) (meth := k1m2) (c := k1c2) (by decide +kernel) rfl rfl rfl (by decide +kernel)
def codes1 : List Jvm.Cond := [Jvm.Cond.code x code maxLocals ret, Jvm.Cond.code ({ cls := "java/lang/String", name := "<init>", desc := "([C)V" } : Jvm.MethodName) jdk_42_method_3_code (2 : Nat) (Option.none : Option Jvm.ClassFile.FieldType), Jvm.Cond.code ({ cls := "java/lang/String", name := "<init>", desc := "([CIILjava/lang/Void;)V" } : Jvm.MethodName) jdk_42_method_149_code (6 : Nat) (Option.none : Option Jvm.ClassFile.FieldType), Jvm.Cond.code ({ cls := "java/lang/Object", name := "<init>", desc := "()V" } : Jvm.MethodName) object_method_1_code (1 : Nat) (Option.none : Option Jvm.ClassFile.FieldType), Jvm.Cond.code ({ cls := "com/example/clear_fault/clearfault/Fault", name := "isValidCode", desc := "(Ljava/lang/String;)Z" } : Jvm.MethodName) prog_8_method_9_code (3 : Nat) (Option.some Jvm.ClassFile.FieldType.boolean), Jvm.Cond.code ({ cls := "java/lang/String", name := "isEmpty", desc := "()Z" } : Jvm.MethodName) jdk_42_method_55_code (1 : Nat) (Option.some Jvm.ClassFile.FieldType.boolean), Jvm.Cond.code ({ cls := "java/lang/StringUTF16", name := "compress", desc := "([CII)[B" } : Jvm.MethodName) jdk_52_method_16_code (6 : Nat) (Option.some (Jvm.ClassFile.FieldType.array Jvm.ClassFile.FieldType.byte)), Jvm.Cond.code ({ cls := "java/lang/StringUTF16", name := "compress", desc := "([CI[BII)I" } : Jvm.MethodName) jdk_52_method_21_code (7 : Nat) (Option.some Jvm.ClassFile.FieldType.int), Jvm.Cond.code ({ cls := "java/lang/StringUTF16", name := "coderFromArrayLen", desc := "([BI)B" } : Jvm.MethodName) jdk_52_method_15_code (2 : Nat) (Option.some Jvm.ClassFile.FieldType.byte), Jvm.Cond.code ({ cls := "java/lang/String", name := "length", desc := "()I" } : Jvm.MethodName) jdk_42_method_54_code (1 : Nat) (Option.some Jvm.ClassFile.FieldType.int), Jvm.Cond.code ({ cls := "java/lang/String", name := "coder", desc := "()B" } : Jvm.MethodName) jdk_42_method_152_code (1 : Nat) (Option.some Jvm.ClassFile.FieldType.byte), Jvm.Cond.code ({ cls := "com/example/clear_fault/clearfault/FaultIsValidCodePinLaw", name := "lower", desc := "(C)Z" } : Jvm.MethodName) method_2_code (1 : Nat) (Option.some Jvm.ClassFile.FieldType.boolean), Jvm.Cond.code ({ cls := "java/lang/String", name := "charAt", desc := "(I)C" } : Jvm.MethodName) jdk_42_method_56_code (2 : Nat) (Option.some Jvm.ClassFile.FieldType.char), Jvm.Cond.code ({ cls := "java/lang/String", name := "isLatin1", desc := "()Z" } : Jvm.MethodName) jdk_42_method_154_code (1 : Nat) (Option.some Jvm.ClassFile.FieldType.boolean), Jvm.Cond.code ({ cls := "java/lang/StringLatin1", name := "charAt", desc := "([BI)C" } : Jvm.MethodName) jdk_43_method_2_code (2 : Nat) (Option.some Jvm.ClassFile.FieldType.char), Jvm.Cond.code ({ cls := "java/lang/String", name := "checkIndex", desc := "(II)V" } : Jvm.MethodName) jdk_42_method_155_code (2 : Nat) (Option.none : Option Jvm.ClassFile.FieldType), Jvm.Cond.code ({ cls := "jdk/internal/util/Preconditions", name := "checkIndex", desc := "(IILjava/util/function/BiFunction;)I" } : Jvm.MethodName) jdk_41_method_11_code (3 : Nat) (Option.some Jvm.ClassFile.FieldType.int), Jvm.Cond.code ({ cls := "java/lang/StringUTF16", name := "toBytes", desc := "([CII)[B" } : Jvm.MethodName) jdk_52_method_14_code (5 : Nat) (Option.some (Jvm.ClassFile.FieldType.array Jvm.ClassFile.FieldType.byte)), Jvm.Cond.code ({ cls := "java/lang/StringUTF16", name := "newBytesFor", desc := "(I)[B" } : Jvm.MethodName) jdk_52_method_2_code (1 : Nat) (Option.some (Jvm.ClassFile.FieldType.array Jvm.ClassFile.FieldType.byte)), Jvm.Cond.code ({ cls := "java/lang/StringUTF16", name := "newBytesLength", desc := "(I)I" } : Jvm.MethodName) jdk_52_method_3_code (1 : Nat) (Option.some Jvm.ClassFile.FieldType.int), Jvm.Cond.code ({ cls := "java/lang/StringUTF16", name := "putChar", desc := "([BII)V" } : Jvm.MethodName) jdk_52_method_4_code (3 : Nat) (Option.none : Option Jvm.ClassFile.FieldType), Jvm.Cond.code ({ cls := "java/lang/StringUTF16", name := "getChar", desc := "([BI)C" } : Jvm.MethodName) jdk_52_method_5_code (2 : Nat) (Option.some Jvm.ClassFile.FieldType.char), Jvm.Cond.code ({ cls := "java/lang/StringUTF16", name := "charAt", desc := "([BI)C" } : Jvm.MethodName) jdk_52_method_83_code (2 : Nat) (Option.some Jvm.ClassFile.FieldType.char), Jvm.Cond.code ({ cls := "java/lang/StringUTF16", name := "checkIndex", desc := "(I[B)V" } : Jvm.MethodName) jdk_52_method_91_code (2 : Nat) (Option.none : Option Jvm.ClassFile.FieldType), Jvm.Cond.code ({ cls := "java/lang/StringUTF16", name := "length", desc := "([B)I" } : Jvm.MethodName) jdk_52_method_6_code (1 : Nat) (Option.some Jvm.ClassFile.FieldType.int), Jvm.Cond.code ({ cls := "com/example/clear_fault/clearfault/FaultIsValidCodePinLaw", name := "tail", desc := "(C)Z" } : Jvm.MethodName) method_3_code (1 : Nat) (Option.some Jvm.ClassFile.FieldType.boolean)]
set_option maxRecDepth 65536 in
theorem codes_eq : words1.filter isCode = codes1 := rfl
theorem w_codes : ∀ c ∈ words1.filter isCode, c.before args0 about1 = true := by
  rw [codes_eq]
  intro c hc
  simp only [codes1, List.mem_cons, List.not_mem_nil, or_false] at hc
  rcases hc with rfl | rfl | rfl | rfl | rfl | rfl | rfl | rfl | rfl | rfl | rfl | rfl | rfl | rfl | rfl | rfl | rfl | rfl | rfl | rfl | rfl | rfl | rfl | rfl | rfl | rfl
  · exact w_c0
  · exact w_c1
  · exact w_c2
  · exact w_c3
  · exact w_c4
  · exact w_c5
  · exact w_c6
  · exact w_c7
  · exact w_c8
  · exact w_c9
  · exact w_c10
  · exact w_c11
  · exact w_c12
  · exact w_c13
  · exact w_c14
  · exact w_c15
  · exact w_c16
  · exact w_c17
  · exact w_c18
  · exact w_c19
  · exact w_c20
  · exact w_c21
  · exact w_c22
  · exact w_c23
  · exact w_c24
  · exact w_c25
set_option maxRecDepth 65536 in
theorem w_t1 : (words1.take 24).all (fun c => isCode c || c.before args0 about1) = true := by decide +kernel
set_option maxRecDepth 65536 in
theorem w_t2 : ((words1.drop 24).take 24).all (fun c => isCode c || c.before args0 about1) = true := by decide +kernel
set_option maxRecDepth 65536 in
theorem w_t3 : (((words1.drop 24).drop 24).take 24).all (fun c => isCode c || c.before args0 about1) = true := by decide +kernel
set_option maxRecDepth 65536 in
theorem w_t4 : ((((words1.drop 24).drop 24).drop 24).take 24).all (fun c => isCode c || c.before args0 about1) = true := by decide +kernel
set_option maxRecDepth 65536 in
theorem w_t5 : ((((words1.drop 24).drop 24).drop 24).drop 24).all (fun c => isCode c || c.before args0 about1) = true := by decide +kernel
theorem w_tables : (allAtoms (Jvm.Cond.code x code maxLocals ret :: tables_1)).before args0 about1 = true := by
  rw [allAtoms_all]
  show words1.all (fun c => c.before args0 about1) = true
  refine all_split ?_ w_codes
  rw [← List.take_append_drop 24 words1, List.all_append, w_t1, ← List.take_append_drop 24 (words1.drop 24), List.all_append, w_t2, ← List.take_append_drop 24 ((words1.drop 24).drop 24), List.all_append, w_t3, ← List.take_append_drop 24 (((words1.drop 24).drop 24).drop 24), List.all_append, w_t4, w_t5]
  rfl
set_option maxRecDepth 65536 in
theorem w_rest : rest_1_c.before args0 about1 = true := by decide +kernel
set_option maxRecDepth 65536 in
theorem w_case : (Jvm.Cond.and given_1 narrow_1).before args0 about1 = true := by decide +kernel
set_option maxRecDepth 65536 in
theorem w_consts : constsHeld consts_1 about1 := Jvm.Lit.constsHeldB_iff.mp (by decide +kernel)
theorem w_applies : (headSpec (Jvm.Cond.code x code maxLocals ret :: tables_1) room_1).applies x e0.platform about1 = true :=
  (Spec.applies_iff w_frames).mpr ⟨w_running, w_runnable, w_alone, w_named, w_hears, w_ripe, w_room, w_tables⟩
theorem atStart : AtStart classFile x code maxLocals ret World_1 tables_1 room_1 Calls_1 rest_1 Pre_1 launch0 p0 e0 about1 theMethod args0 below0 :=
  ⟨lists_1, trivial, launch0.admits_env _ _ _, launch0.least_env, fairChoices_fair.cas, fairChoices_fair.clock, w_frames, w_args, w_heap, w_applies, ⟨w_consts, trivial⟩, w_rest, w_case⟩
end start1
theorem witness_1 : WitnessClaimed_1 := ⟨start1.p0, start1.e0, start1.about1, start1.theMethod, start1.args0, start1.below0, start1.atStart⟩
end Jvm.Pilot.@@N@@
