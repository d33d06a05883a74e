import JvmDerived
import JvmDerived.Pilot.@@N@@Statement
import JvmDerived.Pilot.@@N@@Code
set_option linter.unusedVariables false
set_option linter.unusedSimpArgs false
namespace Jvm.RoadKit
open Sem ClassFile Op Lib Jvm.Stand Jvm.Free Jvm.LawKit
section New
variable {p : Program} {l : Launch} {e : Env} {R : Room} {s : State} {m : MethodId} {args : Array Value} {below : List Frame} {meth : Method} {c : Code} {T : State} {locs : List Loc} {cells slots : Nat}
theorem retI (X : Stand p l e R s m args below meth c T locs cells slots) (hx : p.tables.exec = Jvm.exec) {pc : Nat} {Ls : Array Slot} {z : Int32} {rest : List Value} (hret : meth.sig.returnType = some .int) (hd : decode c.code pc = .ok (.ireturn, 1)) {fs : List Frame}
    (hl : ∀ (f : JFrame) (acts : List Action), f.method = m → f.locked = none → f.entered = [] → (doReturn e (T.setTop f) acts (some (.int z))).1 = T.setFrames fs) : Steps p.tables e below (T.setTop (mkF m pc Ls (.int z :: rest))) (T.setFrames fs) := by
  have hm' : T.vm.method? m = some meth := X.method'
  have hn : narrow .int (.int z) = .int z := rfl
  show Steps p.tables e below (T.setTop { method := m, pc := pc, locals := Ls, stack := _ :: rest, locked := none }) _
  jvm_step X.here [X.here.top, hx, hd, hm', hret, hn]
  first | (intro acts; rw [hl _ acts rfl rfl rfl]) | rw [hl _ _ rfl rfl rfl]
  exact Steps.refl _
end New
abbrev Go (p : Program) (e : Env) (below : List Frame) (T : State) (f : JFrame) (A : State) : Prop := ∀ t, Steps p.tables e below (T.setTop f) t → Steps p.tables e below A t
theorem own_retA (w : Value) (h : w.isRef = true) (t : FieldType) (ht : t.isReference = true) : narrow t w = w := by
  cases w <;> simp [Value.isRef] at h <;> cases t <;> simp [FieldType.isReference] at ht <;> rfl
theorem own_fitA (w : Value) (h : w.isRef = true) (t : FieldType) (ht : t.isReference = true) : fits t w = true := by
  cases w <;> simp [Value.isRef] at h <;> cases t <;> simp [FieldType.isReference] at ht <;> rfl
theorem own_narb (x : Int32) : nar .byte (x.toInt8.toInt32) = x.toInt8.toInt32 := by
  show x.toInt8.toInt32.toInt8.toInt32 = _
  simp
theorem own_ft_byte {z y : Int32} (e : nar .byte z = y) : fits .byte (.int y) = true := by rw [← e]; exact fits_nar_byte z
theorem own_ft_char {z y : Int32} (e : nar .char z = y) : fits .char (.int y) = true := by rw [← e]; exact fits_nar_char z
theorem own_ft_short {z y : Int32} (e : nar .short z = y) : fits .short (.int y) = true := by rw [← e]; exact fits_nar_short z
theorem own_ft_boolean {z y : Int32} (e : nar .boolean z = y) : fits .boolean (.int y) = true := by rw [← e]; exact fits_nar_bool z
theorem own_nw_byte {z y : Int32} (e : nar .byte z = y) : narrow .byte (.int z) = .int y := by rw [← e]; rfl
theorem own_nw_char {z y : Int32} (e : nar .char z = y) : narrow .char (.int z) = .int y := by rw [← e]; rfl
theorem own_nw_short {z y : Int32} (e : nar .short z = y) : narrow .short (.int z) = .int y := by rw [← e]; rfl
theorem own_nw_boolean {z y : Int32} (e : nar .boolean z = y) : narrow .boolean (.int z) = .int y := by rw [← e]; rfl
theorem own_narc (x : Int32) : nar .char (x.toUInt32.toUInt16.toUInt32.toInt32) = x.toUInt32.toUInt16.toUInt32.toInt32 := by
  show x.toUInt32.toUInt16.toUInt32.toInt32.toUInt32.toUInt16.toUInt32.toInt32 = _
  have q := c_i2c x
  have r := c_i2c x.toUInt32.toUInt16.toUInt32.toInt32
  apply Int32.toInt_inj.mp
  omega
theorem own_ext_refl {h : Heap} : Ext h h := ⟨Nat.le_refl _, fun _ _ q => q⟩
theorem own_ext_trans {h h' h2 : Heap} (A : Ext h h') (B : Ext h' h2) : Ext h h2 := ⟨Nat.le_trans A.1 B.1, fun a c q => B.2 a c (A.2 a c q)⟩
theorem own_ext_keep {h h' : Heap} (K : Keep h h' []) : Ext h h' := ⟨K.1, fun a c q => K.2.1 a c q nin0⟩
theorem own_lcmp_self (x : Int64) : lcmpW x x = (0 : Int32) := by rw [lcW]; exact (lc_eq x x).mpr rfl
theorem own_catV {v : Value} (h : v.isRef = true) : v.category = 1 := by cases v <;> simp [Value.isRef] at h <;> rfl
end Jvm.RoadKit
namespace Jvm.RoadKit
open Sem ClassFile Op Lib Jvm.Stand Jvm.Free Jvm.LawKit
theorem own_old_le {Z : State} {n0 : Nat} {h : Heap} (O : Old Z n0 h) : n0 ≤ h.size := O.1 ▸ O.2.1
theorem own_fld_int {args : Array Value} {s : State} {t : Term} {C n d : String} {k : Int32} {a : Addr} (h : (Cond.eq (.field t C n d) (.int k)).value args s none s [] = some true) (ev : t.eval args s none [] s = some (.ref a)) : Fld s s.heap a C n d (.int k) := by
  obtain ⟨x, y, h1, h2, -, k2⟩ := cmp_v (Or.inl h)
  cases h2.symm.trans (Term.int_eval k)
  obtain ⟨z, rfl⟩ := k2
  have e : z = k := gotT (Cond.eq_ints h1 h2) h
  subst e
  exact Fld.start ((fld_at ev).symm.trans h1)
theorem own_eqint {args : Array Value} {s : State} {t : Term} {k : Int32} (h : (Cond.eq t (.int k)).value args s none s [] = some true) : t.eval args s none [] s = some (.int k) := by
  obtain ⟨x, y, h1, h2, -, k2⟩ := cmp_v (Or.inl h)
  cases h2.symm.trans (Term.int_eval k)
  obtain ⟨z, rfl⟩ := k2
  have e : z = k := gotT (Cond.eq_ints h1 h2) h
  subst e
  exact h1
end Jvm.RoadKit
namespace Jvm.RoadKit
open Sem ClassFile Op Lib Jvm.Stand Jvm.Free Jvm.LawKit
theorem own_c255 (x : Int32) : ¬ ((255 : Int32) < ((x &&& (255 : Int32)).toUInt32.toUInt16.toUInt32.toInt32)) := by
  rw [i2c_mask, Int32.lt_iff_toInt_lt]
  have h : (x &&& 255).toInt ≤ 255 := (c_and x 255 (by decide)).2
  show ¬ (255 < (x &&& 255).toInt)
  omega
theorem own_c0 (x : Int32) : ¬ (((x &&& (255 : Int32)).toUInt32.toUInt16.toUInt32.toInt32) < (0 : Int32)) := by
  rw [i2c_mask, Int32.lt_iff_toInt_lt]
  have h : 0 ≤ (x &&& 255).toInt := (c_and x 255 (by decide)).1
  show ¬ ((x &&& 255).toInt < 0)
  omega
end Jvm.RoadKit
namespace Jvm.RoadKit
open Sem ClassFile Op Lib Jvm.Stand Jvm.Free Jvm.LawKit
theorem own_safe_null {Z : State} {EL : List (String × Nat)} {vm : Vm} {h : Heap} {x : Addr} (hal : Z.vm.Alike vm) (E : Exa Z h x "java/lang/String") (F : Fld Z h x "java/lang/String" "value" "[B" .null) : Safe Z EL vm h x := fun B => by
  obtain ⟨p, -, u, a, -, q, -, G, rfl | rfl⟩ := B
  · obtain ⟨cS, ⟨⟨s1, s2, s3, ⟨cv, kv, iv, s4, s4'⟩, -, s6, s7, s8, -⟩, hfS, hcS⟩, -⟩ := G
    obtain ⟨cell, cf, k, i, f, h1, h2, h3, h4, h5, h6, h7⟩ := F
    obtain ⟨k', z4⟩ := ff_back (U := Wst Z vm h) hal s4
    cases (show h[q.sa]? = some q.sC from s1).symm.trans h1
    cases h2.symm.trans z4
    cases h7.symm.trans s8
  · obtain ⟨cell, k, e1, e2, e3, -, -⟩ := E
    cases (show h[q.sd]? = some q.SA from G.hd).symm.trans e1
    obtain ⟨cS, -, -, f, -⟩ := G
    have f : vm.findClass "[B" = some q.SA.cls := f
    rw [hal.findClass] at f
    obtain ⟨k1, q1, q2⟩ := Vm.findClass_spec f
    obtain ⟨k2, q3, q4⟩ := Vm.findClass_spec e2
    cases q1.symm.trans q3
    exact absurd (q2.symm.trans q4) (by decide)
end Jvm.RoadKit
namespace Jvm.RoadKit
open Sem ClassFile Op Lib Jvm.Stand Jvm.Free Jvm.LawKit
theorem own_narid {c : Int32} (h0 : ¬ (c < (0 : Int32))) (h1 : ¬ ((65535 : Int32) < c)) : nar .char c = c := by
  show c.toUInt32.toUInt16.toUInt32.toInt32 = c
  have q := c_i2c c
  have a' : ¬ (c.toInt < 0) := fun z => h0 (Int32.lt_iff_toInt_lt.mpr z)
  have b' : ¬ (65535 < c.toInt) := fun z => h1 (Int32.lt_iff_toInt_lt.mpr z)
  apply Int32.toInt_inj.mp
  omega
theorem own_w255 {c : Int32} (h : ¬ ((255 : Int32) < c)) : ¬ ((65535 : Int32) < c) := by
  intro q
  have b' : ¬ (255 < c.toInt) := fun z => h (Int32.lt_iff_toInt_lt.mpr z)
  have q' : 65535 < c.toInt := Int32.lt_iff_toInt_lt.mp q
  omega
theorem own_i2c0 (x : Int32) : ¬ (x.toUInt32.toUInt16.toUInt32.toInt32 < (0 : Int32)) := by
  intro z
  have q := c_i2c x
  have z' : x.toUInt32.toUInt16.toUInt32.toInt32.toInt < 0 := Int32.lt_iff_toInt_lt.mp z
  omega
theorem own_i2c1 (x : Int32) : ¬ ((65535 : Int32) < x.toUInt32.toUInt16.toUInt32.toInt32) := by
  intro z
  have q := c_i2c x
  have z' : 65535 < x.toUInt32.toUInt16.toUInt32.toInt32.toInt := Int32.lt_iff_toInt_lt.mp z
  omega
theorem own_rec8 {c : Int32} (h0 : ¬ (c < (0 : Int32))) (h1 : ¬ ((255 : Int32) < c)) : (c.toInt8.toInt32 &&& (255 : Int32)).toUInt32.toUInt16.toUInt32.toInt32 = c := by
  rw [i2c_mask]
  have q := c_i2b c
  have r : (c.toInt8.toInt32 &&& (255 : Int32)).toInt = c.toInt8.toInt32.toInt % 256 := c_mask c.toInt8.toInt32 255 8 (by decide) (by decide)
  have a' : ¬ (c.toInt < 0) := fun z => h0 (Int32.lt_iff_toInt_lt.mpr z)
  have b' : ¬ (255 < c.toInt) := fun z => h1 (Int32.lt_iff_toInt_lt.mpr z)
  apply Int32.toInt_inj.mp
  omega
theorem own_rec16 {c : Int32} (h0 : ¬ (c < (0 : Int32))) (h1 : ¬ ((65535 : Int32) < c)) :
    ((((c >>> ((0 : Int32) &&& 31)).toInt8.toInt32 &&& (255 : Int32)) <<< ((0 : Int32) &&& 31)) ||| (((c >>> ((8 : Int32) &&& 31)).toInt8.toInt32 &&& (255 : Int32)) <<< ((8 : Int32) &&& 31))).toUInt32.toUInt16.toUInt32.toInt32 = c := by
  have a' : ¬ (c.toInt < 0) := fun z => h0 (Int32.lt_iff_toInt_lt.mpr z)
  have b' : ¬ (65535 < c.toInt) := fun z => h1 (Int32.lt_iff_toInt_lt.mpr z)
  have a1 : (c >>> ((0 : Int32) &&& 31)).toInt = c.toInt / 1 := c_ishr c 0 0 (by decide)
  have a2 : (c >>> ((8 : Int32) &&& 31)).toInt = c.toInt / 256 := c_ishr c 8 8 (by decide)
  have b1 := c_i2b (c >>> ((0 : Int32) &&& 31))
  have b2 := c_i2b (c >>> ((8 : Int32) &&& 31))
  have d1 : ((c >>> ((0 : Int32) &&& 31)).toInt8.toInt32 &&& (255 : Int32)).toInt = (c >>> ((0 : Int32) &&& 31)).toInt8.toInt32.toInt % 256 := c_mask _ 255 8 (by decide) (by decide)
  have d2 : ((c >>> ((8 : Int32) &&& 31)).toInt8.toInt32 &&& (255 : Int32)).toInt = (c >>> ((8 : Int32) &&& 31)).toInt8.toInt32.toInt % 256 := c_mask _ 255 8 (by decide) (by decide)
  generalize (c >>> ((0 : Int32) &&& 31)).toInt8.toInt32 &&& (255 : Int32) = u at *
  generalize (c >>> ((8 : Int32) &&& 31)).toInt8.toInt32 &&& (255 : Int32) = w at *
  have f1 : (u <<< ((0 : Int32) &&& 31)) = u := by rw [shlm (m := 1) (by decide)]; simp
  have f2 : (w <<< ((8 : Int32) &&& 31)) = w * 256 := shlm (by decide)
  rw [f1, f2]
  have g2 : ((w * 256).toInt - (w.toInt * 256)) % 4294967296 = 0 := c_imul w 256
  have r2 := rng32 (w * 256)
  have m1 : (w * 256).toInt = w.toInt * 256 := by omega
  have k := c_or' u (w * 256) 8 (by decide) 256 (by decide)
  have o := c_i2c (u ||| w * 256)
  have ro := rng32 (u ||| w * 256)
  apply Int32.toInt_inj.mp
  have := k (by omega) (by omega) (by omega)
  omega
end Jvm.RoadKit
namespace Jvm.RoadKit
open Sem ClassFile Op Lib Jvm.Stand Jvm.Free Jvm.LawKit
theorem own_nn {k : Nat} (h : k < 2147483648) : (Int32.ofNat k).toInt = k := Int32.toInt_ofNat_of_lt h
theorem own_lt {a b : Nat} (h : a < b) (hb : b < 2147483648) : Int32.ofNat a < Int32.ofNat b := by
  rw [Int32.lt_iff_toInt_lt, own_nn (by omega), own_nn hb]; omega
theorem own_nlt {a b : Nat} (h : b ≤ a) (ha : a < 2147483648) : ¬ (Int32.ofNat a < Int32.ofNat b) := by
  rw [Int32.lt_iff_toInt_lt, own_nn ha, own_nn (by omega)]; omega
theorem own_nonneg {k : Nat} (h : k < 2147483648) : ¬ (Int32.ofNat k < (0 : Int32)) := by
  intro q
  have q' : (Int32.ofNat k).toInt < 0 := Int32.lt_iff_toInt_lt.mp q
  rw [own_nn h] at q'; omega
theorem own_clamp {k : Nat} (h : k < 2147483648) : (Int32.ofNat k).toNatClampNeg = k := by
  simp only [Int32.toNatClampNeg, own_nn h]; rfl
theorem own_succ (k : Nat) : Int32.ofNat k + (1 : Int32) = Int32.ofNat (k + 1) := (Int32.ofNat_add k 1).symm
theorem own_inj {a b : Nat} (ha : a < 2147483648) (hb : b < 2147483648) (h : ¬ (a = b)) : ¬ (Int32.ofNat a = Int32.ofNat b) := fun q => h (by
  have := congrArg Int32.toInt q
  rw [own_nn ha, own_nn hb] at this; omega)
theorem own_getc (ls : List Int32) (i : Nat) : (ls.map Value.int).getD i (.int 0) = .int (ls.getD i 0) := by
  simp only [List.getD_eq_getElem?_getD, List.getElem?_map]
  cases ls[i]? <;> rfl
def own_b8 (c : Int32) : Int32 := c.toInt8.toInt32
def own_lo (c : Int32) : Int32 := (c >>> ((0 : Int32) &&& 31)).toInt8.toInt32
def own_hi (c : Int32) : Int32 := (c >>> ((8 : Int32) &&& 31)).toInt8.toInt32
def own_lb (ls : List Int32) : List Value := ls.map (fun c => .int (own_b8 c))
def own_wb : List Int32 → List Value
  | [] => []
  | c :: r => .int (own_lo c) :: .int (own_hi c) :: own_wb r
theorem own_lb_len (ls : List Int32) : (own_lb ls).length = ls.length := by simp [own_lb]
theorem own_wb_len : ∀ ls : List Int32, (own_wb ls).length = 2 * ls.length
  | [] => rfl
  | c :: r => by simp [own_wb, own_wb_len r]; omega
theorem own_lb_get {ls : List Int32} {i : Nat} (h : i < ls.length) : (own_lb ls).getD i (.int 0) = .int ((ls.getD i 0).toInt8.toInt32) := by
  simp [own_lb, List.getD_eq_getElem?_getD, h, own_b8]
theorem own_wb_get0 : ∀ {ls : List Int32} {i : Nat}, i < ls.length → (own_wb ls).getD (2 * i) (.int 0) = .int (((ls.getD i 0) >>> ((0 : Int32) &&& 31)).toInt8.toInt32)
  | c :: r, 0, _ => by simp [own_wb, own_lo]
  | c :: r, i + 1, h => by
    have := own_wb_get0 (ls := r) (i := i) (by simpa using h)
    simpa [own_wb, Nat.mul_add] using this
theorem own_wb_get1 : ∀ {ls : List Int32} {i : Nat}, i < ls.length → (own_wb ls).getD (2 * i + 1) (.int 0) = .int (((ls.getD i 0) >>> ((8 : Int32) &&& 31)).toInt8.toInt32)
  | c :: r, 0, _ => by simp [own_wb, own_hi]
  | c :: r, i + 1, h => by
    have := own_wb_get1 (ls := r) (i := i) (by simpa using h)
    simpa [own_wb, Nat.mul_add] using this
def own_F (ls : List Int32) (k : Nat) : List Value := own_lb (ls.take k) ++ List.replicate (ls.length - k) (.int 0)
theorem own_F0 (ls : List Int32) : own_F ls 0 = List.replicate ls.length (.int 0) := by simp [own_F, own_lb]
theorem own_Fn (ls : List Int32) : own_F ls ls.length = own_lb ls := by simp [own_F]
theorem own_Flen {ls : List Int32} {k : Nat} (h : k ≤ ls.length) : (own_F ls k).length = ls.length := by simp [own_F, own_lb]; omega
theorem own_FS {ls : List Int32} {k : Nat} (h : k < ls.length) : (own_F ls k).set k (.int ((ls.getD k 0).toInt8.toInt32)) = own_F ls (k + 1) := by
  have e : ls.length - k = (ls.length - (k + 1)) + 1 := by omega
  have t : (own_lb (ls.take k)).length = k := by rw [own_lb_len, List.length_take]; omega
  unfold own_F
  rw [List.set_append_right k _ (by omega), t, Nat.sub_self, e, List.replicate_succ, List.set_cons_zero]
  have u : ls.take (k + 1) = ls.take k ++ [ls.getD k 0] := by
    rw [List.take_add_one, List.getD_eq_getElem?_getD, List.getElem?_eq_getElem h]; rfl
  rw [u]
  simp [own_lb, own_b8]
def own_G (ls : List Int32) (k : Nat) : List Value := own_wb (ls.take k) ++ List.replicate (2 * (ls.length - k)) (.int 0)
theorem own_G0 (ls : List Int32) : own_G ls 0 = List.replicate (2 * ls.length) (.int 0) := by simp [own_G, own_wb]
theorem own_Gn (ls : List Int32) : own_G ls ls.length = own_wb ls := by simp [own_G]
theorem own_Glen {ls : List Int32} {k : Nat} (h : k ≤ ls.length) : (own_G ls k).length = 2 * ls.length := by simp [own_G, own_wb_len]; omega
theorem own_wb_app : ∀ (a b : List Int32), own_wb (a ++ b) = own_wb a ++ own_wb b
  | [], b => rfl
  | c :: r, b => by simp [own_wb, own_wb_app r b]
theorem own_GS {ls : List Int32} {k : Nat} (h : k < ls.length) : ((own_G ls k).set (2 * k) (.int (((ls.getD k 0) >>> ((0 : Int32) &&& 31)).toInt8.toInt32))).set (2 * k + 1) (.int (((ls.getD k 0) >>> ((8 : Int32) &&& 31)).toInt8.toInt32)) = own_G ls (k + 1) := by
  have e : 2 * (ls.length - k) = (2 * (ls.length - (k + 1))) + 1 + 1 := by omega
  have t : (own_wb (ls.take k)).length = 2 * k := by rw [own_wb_len, List.length_take]; omega
  unfold own_G
  rw [List.set_append_right _ _ (by omega), t, Nat.sub_self, e, List.replicate_succ, List.replicate_succ, List.set_cons_zero, List.set_append_right _ _ (by omega), t]
  have u : ls.take (k + 1) = ls.take k ++ [ls.getD k 0] := by
    rw [List.take_add_one, List.getD_eq_getElem?_getD, List.getElem?_eq_getElem h]; rfl
  rw [u, own_wb_app, show 2 * k + 1 - 2 * k = 1 by omega, List.set_cons_succ, List.set_cons_zero]
  simp [own_wb, own_lo, own_hi]
theorem own_first (P : Nat → Prop) (n : Nat) (h : ¬ ∀ i, i < n → ¬ P i) : ∃ r, r < n ∧ P r ∧ ∀ i, i < r → ¬ P i := by
  induction n with
  | zero => exact absurd (fun i hi => absurd hi (Nat.not_lt_zero i)) h
  | succ n ih =>
    by_cases q : ∀ i, i < n → ¬ P i
    · refine ⟨n, by omega, Classical.byContradiction fun z => h fun i hi => ?_, q⟩
      by_cases e : i = n
      · subst e; exact z
      · exact q i (by omega)
    · obtain ⟨r, h1, h2, h3⟩ := ih q
      exact ⟨r, by omega, h2, h3⟩
theorem own_dbl {n : Nat} (h : 2 * n < 2147483648) : Int32.ofNat n <<< ((1 : Int32) &&& 31) = Int32.ofNat (2 * n) := by
  have e : Int32.ofNat n <<< ((1 : Int32) &&& 31) = Int32.ofNat n * 2 := shlm (by decide)
  rw [e, Nat.mul_comm]; exact (Int32.ofNat_mul n 2).symm
theorem own_half {n : Nat} (h : 2 * n < 2147483648) : Int32.ofNat (2 * n) >>> ((1 : Int32) &&& 31) = Int32.ofNat n := by
  apply Int32.toInt_inj.mp
  have e : (Int32.ofNat (2 * n) >>> ((1 : Int32) &&& 31)).toInt = (Int32.ofNat (2 * n)).toInt / 2 := c_ishr _ 1 1 (by decide)
  rw [e, own_nn h, own_nn (by omega)]; omega
theorem own_shr0 (x : Int32) : x >>> ((0 : Int32) &&& 31) = x := by
  apply Int32.toInt_inj.mp
  have e : (x >>> ((0 : Int32) &&& 31)).toInt = x.toInt / 1 := c_ishr _ 0 0 (by decide)
  rw [e]; omega
theorem own_cfa0 (x : Int32) : (((x - x).toUInt32 >>> ((31 : Int32) &&& 31).toUInt32).toInt32).toInt8.toInt32 = (0 : Int32) := by
  rw [Int32.sub_self]; decide
theorem own_cfa1 {n : Nat} (h0 : 0 < n) (h : 2 * n < 2147483648) : (((Int32.ofNat n - Int32.ofNat (2 * n)).toUInt32 >>> ((31 : Int32) &&& 31).toUInt32).toInt32).toInt8.toInt32 = (1 : Int32) := by
  have b := c_isub (Int32.ofNat n) (Int32.ofNat (2 * n))
  rw [own_nn (by omega), own_nn h] at b
  have r := rng32 (Int32.ofNat n - Int32.ofNat (2 * n))
  have u : (((Int32.ofNat n - Int32.ofNat (2 * n)).toUInt32 >>> ((31 : Int32) &&& 31).toUInt32).toInt32).toInt = ((Int32.ofNat n - Int32.ofNat (2 * n)).toInt % 4294967296) / 2147483648 := c_iushr _ 31 31 (by decide) (by decide)
  have v : (((Int32.ofNat n - Int32.ofNat (2 * n)).toUInt32 >>> ((31 : Int32) &&& 31).toUInt32).toInt32) = 1 := by
    apply Int32.toInt_inj.mp
    show _ = 1
    omega
  rw [v]; decide
def own_chars (ls : List Int32) : Prop := ∀ i, i < ls.length → ¬ (ls.getD i 0 < (0 : Int32)) ∧ ¬ ((65535 : Int32) < ls.getD i 0)
def own_lat (ls : List Int32) : Prop := ∀ i, i < ls.length → ¬ ((255 : Int32) < ls.getD i 0)
def own_cod (ls : List Int32) (cd z : Int32) (vs : List Value) : Prop := (cd = (0 : Int32) ∧ z = Int32.ofNat ls.length ∧ vs = own_lb ls ∧ own_lat ls) ∨ (cd = (1 : Int32) ∧ z = Int32.ofNat (2 * ls.length) ∧ vs = own_wb ls)
theorem own_cod01 {ls : List Int32} {cd z : Int32} {vs : List Value} (h : own_cod ls cd z vs) : cd = (0 : Int32) ∨ cd = (1 : Int32) := h.imp (·.1) (·.1)
theorem own_codz {ls : List Int32} {cd z : Int32} {vs : List Value} (h : own_cod ls cd z vs) (h0 : 0 < ls.length) (hB : ls.length ≤ 4000) : ¬ (z = (0 : Int32)) := by
  rcases h with ⟨-, rfl, -⟩ | ⟨-, rfl, -⟩
  · exact own_inj (b := 0) (by omega) (by omega) (by omega)
  · exact own_inj (b := 0) (by omega) (by omega) (by omega)
theorem own_cdlen {ls : List Int32} {cd z : Int32} {vs : List Value} (h : own_cod ls cd z vs) (hB : ls.length ≤ 4000) : z >>> (cd &&& 31) = Int32.ofNat ls.length := by
  rcases h with ⟨rfl, rfl, -⟩ | ⟨rfl, rfl, -⟩
  · exact own_shr0 _
  · exact own_half (by omega)
theorem own_cnil : own_chars [] := fun i h => absurd h (Nat.not_lt_zero i)
theorem own_ccons {c : Int32} {r : List Int32} (h : ¬ (c < (0 : Int32)) ∧ ¬ ((65535 : Int32) < c)) (t : own_chars r) : own_chars (c :: r) := by
  intro i hi
  cases i with
  | zero => exact h
  | succ i => exact t i (by simpa using hi)
theorem own_nar01 {c : Int32} (h : c = (0 : Int32) ∨ c = (1 : Int32)) : nar .byte c = c := by rcases h with rfl | rfl <;> decide
end Jvm.RoadKit
namespace Jvm.RoadKit
open Sem ClassFile Op Lib Jvm.Stand Jvm.Free Jvm.LawKit
theorem own_inj8 {x y : Int32} (x0 : ¬ (x < (0 : Int32))) (x1 : ¬ ((255 : Int32) < x)) (y0 : ¬ (y < (0 : Int32))) (y1 : ¬ ((255 : Int32) < y)) (h : x.toInt8.toInt32 = y.toInt8.toInt32) : x = y := by
  have a := own_rec8 x0 x1
  have b := own_rec8 y0 y1
  rw [h] at a
  exact a.symm.trans b
theorem own_ofinj {a b : Nat} (ha : a < 2147483648) (hb : b < 2147483648) (q : Int32.ofNat a = Int32.ofNat b) : a = b := Decidable.byContradiction fun h => own_inj ha hb h q
theorem own_list_ne {xs ys : List Int32} (hl : xs.length = ys.length) (h : ¬ (xs = ys)) : ¬ ∀ i, i < xs.length → ¬ ¬ (xs.getD i 0 = ys.getD i 0) := fun q => h (by
  refine List.ext_getElem hl fun i h1 h2 => ?_
  have z := Decidable.of_not_not (q i h1)
  simpa [List.getD, List.getElem?_eq_getElem h1, List.getElem?_eq_getElem h2] using z)
theorem own_clampN {n : Nat} (h : n < 2147483648) : (Int32.ofNat n).toNatClampNeg = n := own_clamp h
theorem own_seq_ne {Z : State} {h : Heap} {a b u v : Addr} {k1 k2 : ClassId} {xs ys : List Int32} (F : Fld Z h a "java/lang/String" "value" "[B" (.ref u)) (G : Fld Z h b "java/lang/String" "value" "[B" (.ref v)) (A : Arv Z h u k1 .byte (Int32.ofNat xs.length) (own_lb xs) (.int (0 : Int32))) (B : Arv Z h v k2 .byte (Int32.ofNat ys.length) (own_lb ys) (.int (0 : Int32))) (hx : xs.length ≤ 4000) (hy : ys.length ≤ 4000) (cx : own_chars xs) (cy : own_chars ys) (lx : own_lat xs) (ly : own_lat ys) (hne : ¬ (xs = ys)) : ¬ (a = b) := by
  refine Fld.ne F G (fun q => ?_)
  refine (arv_ne A B ?_) (Value.ref.inj q)
  rw [own_clampN (by omega), own_clampN (by omega)]
  by_cases hl : xs.length = ys.length
  · refine .inr ?_
    obtain ⟨r, h1, h2, -⟩ := own_first (fun i => ¬ (xs.getD i 0 = ys.getD i 0)) xs.length (own_list_ne hl hne)
    refine ⟨r, h1, ?_⟩
    rw [own_lb_get h1, own_lb_get (hl ▸ h1)]
    intro z
    exact h2 (own_inj8 (cx r h1).1 (lx r h1) (cy r (hl ▸ h1)).1 (ly r (hl ▸ h1)) (Value.int.inj z))
  · exact .inl hl
end Jvm.RoadKit
namespace Jvm.RoadKit
open Sem ClassFile Op Lib Jvm.Stand Jvm.Free Jvm.LawKit
def own_html : List Int32 := [116, 101, 120, 116, 47, 104, 116, 109, 108]
theorem own_html_c : own_chars own_html := by unfold own_chars; decide
theorem own_html_l : own_lat own_html := by unfold own_lat; decide
def own_xhtml : List Int32 := [97, 112, 112, 108, 105, 99, 97, 116, 105, 111, 110, 47, 120, 104, 116, 109, 108, 43, 120, 109, 108]
theorem own_xhtml_c : own_chars own_xhtml := by unfold own_chars; decide
theorem own_xhtml_l : own_lat own_xhtml := by unfold own_lat; decide
def own_l17 : List Int32 := [116, 101, 120, 116, 47, 104, 116, 109]
theorem own_l17_c : own_chars own_l17 := by unfold own_chars; decide
theorem own_l17_l : own_lat own_l17 := by unfold own_lat; decide
def own_l19 : List Int32 := [97, 112, 112, 108, 105, 99, 97, 116, 105, 111, 110, 47, 120, 104, 116, 109, 108, 43, 120, 109]
theorem own_l19_c : own_chars own_l19 := by unfold own_chars; decide
theorem own_l19_l : own_lat own_l19 := by unfold own_lat; decide
def own_l21 : List Int32 := [116, 101, 120, 116, 47, 120, 109, 108]
theorem own_l21_c : own_chars own_l21 := by unfold own_chars; decide
theorem own_l21_l : own_lat own_l21 := by unfold own_lat; decide
def own_l23 : List Int32 := [97, 112, 112, 108, 105, 99, 97, 116, 105, 111, 110, 47, 120, 109, 108]
theorem own_l23_c : own_chars own_l23 := by unfold own_chars; decide
theorem own_l23_l : own_lat own_l23 := by unfold own_lat; decide
def own_l25 : List Int32 := [116, 101, 120, 116, 47, 112, 108, 97, 105, 110]
theorem own_l25_c : own_chars own_l25 := by unfold own_chars; decide
theorem own_l25_l : own_lat own_l25 := by unfold own_lat; decide
def own_l27 : List Int32 := [97, 112, 112, 108, 105, 99, 97, 116, 105, 111, 110, 47, 120, 104, 116, 109, 108]
theorem own_l27_c : own_chars own_l27 := by unfold own_chars; decide
theorem own_l27_l : own_lat own_l27 := by unfold own_lat; decide
def own_l29 : List Int32 := []
theorem own_l29_c : own_chars own_l29 := by unfold own_chars; decide
theorem own_l29_l : own_lat own_l29 := by unfold own_lat; decide
def own_l31 : List Int32 := [97, 112, 112, 108, 105, 99, 97, 116, 105, 111, 110, 47, 104, 116, 109, 108]
theorem own_l31_c : own_chars own_l31 := by unfold own_chars; decide
theorem own_l31_l : own_lat own_l31 := by unfold own_lat; decide
def own_l33 : List Int32 := [116, 101, 120, 116, 47, 120, 104, 116, 109, 108, 43, 120, 109, 108]
theorem own_l33_c : own_chars own_l33 := by unfold own_chars; decide
theorem own_l33_l : own_lat own_l33 := by unfold own_lat; decide
theorem own_lnil : own_lat [] := fun i h => absurd h (Nat.not_lt_zero i)
theorem own_lcons {c : Int32} {r : List Int32} (h : ¬ ((255 : Int32) < c)) (t : own_lat r) : own_lat (c :: r) := by
  intro i hi
  cases i with
  | zero => exact h
  | succ i => exact t i (by simpa using hi)
theorem own_setg {ls : List Int32} {n i : Nat} {c : Int32} (h : i < ls.length) : (ls.set n c).getD i 0 = c ∨ (ls.set n c).getD i 0 = ls.getD i 0 := by
  by_cases e : n = i
  · subst e; exact .inl (by simp [List.getD, List.getElem?_set, h])
  · exact .inr (by simp [List.getD, List.getElem?_set, e])
theorem own_setc {ls : List Int32} {n : Nat} {c : Int32} (h : own_chars ls) (h0 : ¬ (c < (0 : Int32))) (h1 : ¬ ((65535 : Int32) < c)) : own_chars (ls.set n c) := by
  intro i hi
  rw [List.length_set] at hi
  rcases own_setg (n := n) (c := c) hi with q | q <;> rw [q]
  · exact ⟨h0, h1⟩
  · exact h i hi
theorem own_setl {ls : List Int32} {n : Nat} {c : Int32} (h : own_lat ls) (h1 : ¬ ((255 : Int32) < c)) : own_lat (ls.set n c) := by
  intro i hi
  rw [List.length_set] at hi
  rcases own_setg (n := n) (c := c) hi with q | q <;> rw [q]
  · exact h1
  · exact h i hi
theorem own_pn (p : Int32) {n : Nat} (h0 : 0 < n) (h1 : n < 1000) : ∃ k : Nat, (p &&& (2147483647 : Int32)) % (Int32.ofNat n) = Int32.ofNat k ∧ k < n := by
  have a := c_and p 2147483647 (by decide)
  have e : (Int32.ofNat n).toInt = n := own_nn (by omega)
  have b := (c_irem (p &&& 2147483647) (Int32.ofNat n) n e).1 a.1
  have g0 := Int.emod_nonneg (p &&& 2147483647).toInt (show (n : Int) ≠ 0 by omega)
  have g1 := Int.emod_lt_of_pos (p &&& 2147483647).toInt (show (0 : Int) < n by omega)
  refine ⟨((p &&& 2147483647) % Int32.ofNat n).toInt.toNat, ?_, by omega⟩
  apply Int32.toInt_inj.mp
  rw [own_nn (by omega)]
  omega
theorem own_len {xs : List Int32} {n : Nat} (h : xs.length = n) (h9 : n ≠ 9 := by decide) (h21 : n ≠ 21 := by decide) : ¬ (xs = own_html ∨ xs = own_xhtml) := by
  rintro (q | q)
  · exact h9 (h.symm.trans (by rw [q]; rfl))
  · exact h21 (h.symm.trans (by rw [q]; rfl))
theorem own_setself {ls : List Int32} {n : Nat} {c : Int32} (h : ls.getD n 0 = c) (hn : n < ls.length) : ls.set n c = ls := by
  rw [← h]; simp [List.getD, List.getElem?_eq_getElem hn]
theorem own_setne {ls : List Int32} {n : Nat} {c : Int32} (h : ¬ (ls.getD n 0 = c)) (hn : n < ls.length) : ¬ (ls.set n c = ls) := fun q => h (by
  rw [← q]; simp [List.getD, hn])
theorem own_hit0 {xs : List Int32} {n : Nat} {c : Int32} (e : xs = own_html.set n c) (h : own_html.getD n 0 = c) (hn : n < 9) : xs = own_html ∨ xs = own_xhtml := .inl (e.trans (own_setself h hn))
theorem own_hit1 {xs : List Int32} {n : Nat} {c : Int32} (e : xs = own_xhtml.set n c) (h : own_xhtml.getD n 0 = c) (hn : n < 21) : xs = own_html ∨ xs = own_xhtml := .inr (e.trans (own_setself h hn))
theorem own_mis0 {xs : List Int32} {n : Nat} {c : Int32} (e : xs = own_html.set n c) (h : ¬ (own_html.getD n 0 = c)) (hn : n < 9) : ¬ (xs = own_html ∨ xs = own_xhtml) := by
  rintro (q | q)
  · exact own_setne h hn (e.symm.trans q)
  · have := congrArg List.length (e.symm.trans q); rw [List.length_set] at this; exact absurd this (by decide)
theorem own_mis1 {xs : List Int32} {n : Nat} {c : Int32} (e : xs = own_xhtml.set n c) (h : ¬ (own_xhtml.getD n 0 = c)) (hn : n < 21) : ¬ (xs = own_html ∨ xs = own_xhtml) := by
  rintro (q | q)
  · have := congrArg List.length (e.symm.trans q); rw [List.length_set] at this; exact absurd this (by decide)
  · exact own_setne h hn (e.symm.trans q)
theorem own_and7 {p k : Int32} (e : k = p &&& (7 : Int32)) : k = (0 : Int32) ∨ k = (1 : Int32) ∨ k = (2 : Int32) ∨ k = (3 : Int32) ∨ k = (4 : Int32) ∨ k = (5 : Int32) ∨ k = (6 : Int32) ∨ k = (7 : Int32) := by
  have a := c_and p 7 (by decide)
  have h7 : (7 : Int32).toInt = 7 := rfl
  rw [← e, h7] at a
  have f : ∀ j : Int32, k.toInt = j.toInt → k = j := fun j q => Int32.toInt_inj.mp q
  rcases (show k.toInt = 0 ∨ k.toInt = 1 ∨ k.toInt = 2 ∨ k.toInt = 3 ∨ k.toInt = 4 ∨ k.toInt = 5 ∨ k.toInt = 6 ∨ k.toInt = 7 by omega) with q | q | q | q | q | q | q | q
  · exact .inl (f 0 q)
  · exact .inr (.inl (f 1 q))
  · exact .inr (.inr (.inl (f 2 q)))
  · exact .inr (.inr (.inr (.inl (f 3 q))))
  · exact .inr (.inr (.inr (.inr (.inl (f 4 q)))))
  · exact .inr (.inr (.inr (.inr (.inr (.inl (f 5 q))))))
  · exact .inr (.inr (.inr (.inr (.inr (.inr (.inl (f 6 q)))))))
  · exact .inr (.inr (.inr (.inr (.inr (.inr (.inr (f 7 q)))))))
theorem own_b1n {b : Int32} (h : b = (1 : Int32)) : ¬ (b = (0 : Int32)) := by rw [h]; decide
theorem own_b0n {b : Int32} {P : Prop} (h01 : b = (0 : Int32) ∨ b = (1 : Int32)) (h : b = (1 : Int32) ↔ P) (n : ¬ P) : b = (0 : Int32) := h01.resolve_right (fun q => n (h.mp q))
end Jvm.RoadKit
namespace Jvm.Pilot.@@N@@
open Jvm Jvm.ClassFile Sem Op Lib Jvm.Free Jvm.Stand Jvm.LawKit Jvm.RoadKit Bundle Jvm.Pilot.@@N@@.Jvm.D
theorem own_EW {Z : State} {a0 : Array Value} (hw : ∀ d ∈ tables_1, d.before a0 Z = true) : EW Z a0 consts_1 := (EW.cons (hw _ (List.mem_of_getElem? (i := 52) rfl)) (by decide) (EW.cons (hw _ (List.mem_of_getElem? (i := 65) rfl)) (by decide) (EW.cons (hw _ (List.mem_of_getElem? (i := 79) rfl)) (by decide) (EW.cons (hw _ (List.mem_of_getElem? (i := 82) rfl)) (by decide) (EW.cons (hw _ (List.mem_of_getElem? (i := 86) rfl)) (by decide) (EW.cons (hw _ (List.mem_of_getElem? (i := 83) rfl)) (by decide) (EW.cons (hw _ (List.mem_of_getElem? (i := 81) rfl)) (by decide) (EW.cons (hw _ (List.mem_of_getElem? (i := 85) rfl)) (by decide) (EW.cons (hw _ (List.mem_of_getElem? (i := 80) rfl)) (by decide) (EW.cons (hw _ (List.mem_of_getElem? (i := 78) rfl)) (by decide) (EW.cons (hw _ (List.mem_of_getElem? (i := 84) rfl)) (by decide) EW.nil)))))))))))
theorem own_wS {Z : State} {a0 : Array Value} (hw : ∀ d ∈ tables_1, d.before a0 Z = true) : ∀ a ∈ Bundle.stringAtoms, a.before a0 Z = true := by
  intro a ha
  simp only [Bundle.stringAtoms, Bundle.sN, List.mem_cons, List.not_mem_nil, or_false] at ha
  rcases ha with rfl | rfl | rfl | rfl | rfl | rfl | rfl
  · exact (hw _ (List.mem_of_getElem? (i := 4) rfl))
  · exact (hw _ (List.mem_of_getElem? (i := 3) rfl))
  · exact (hw _ (List.mem_of_getElem? (i := 20) rfl))
  · exact (hw _ (List.mem_of_getElem? (i := 30) rfl))
  · exact (hw _ (List.mem_of_getElem? (i := 28) rfl))
  · exact (hw _ (List.mem_of_getElem? (i := 53) rfl))
  · exact (hw _ (List.mem_of_getElem? (i := 54) rfl))
theorem own_compact {Z : State} {a0 : Array Value} (hsets : ∀ d ∈ jdkStatics_1, d.before a0 Z = true) : Jvm.Lit.compactW.before a0 Z = true := hsets _ (List.mem_of_getElem? (i := 2) rfl)
theorem d13_0 : decode jdk_43_method_3_code 0 = .ok (.iload_n 0, 1) := by decide +kernel
theorem d13_1 : decode jdk_43_method_3_code 1 = .ok (.sipush 255, 3) := by decide +kernel
theorem d13_4 : decode jdk_43_method_3_code 4 = .ok (.if_icmp .gt 7, 3) := by decide +kernel
theorem d13_7 : decode jdk_43_method_3_code 7 = .ok (.iconst 1, 1) := by decide +kernel
theorem d13_8 : decode jdk_43_method_3_code 8 = .ok (.goto 4, 3) := by decide +kernel
theorem d13_12 : decode jdk_43_method_3_code 12 = .ok (.ireturn, 1) := by decide +kernel
theorem pn_java_lang_StringLatin1 : plainName "java/lang/StringLatin1" = true := by first | (simp [plainName, overriddenIn]; done) | decide +kernel
theorem ef_canE (m : MethodId) (x0 : Int32)  : entryFrame m #[(.int x0)] 1 = mkF m 0 #[.val (.int x0)] [] := by first | (simp [entryFrame, mkF, argsToLocals, Value.category]; done) | rfl
def Q_canE (Z : State) (ch : Int32) (h0 : Heap) (n0 : Nat) (v : Option Value) (h : Heap) (L : List Loc) : Prop := v = some (.int (1 : Int32)) ∧ Fr n0 L ∧ h = h0
set_option maxRecDepth 65536 in
set_option maxHeartbeats 40000000 in
theorem rm_canE (l : Launch) (Z : State) (a0 : Array Value) (hw : ∀ d ∈ tables_1, d.before a0 Z = true) (ws : List Jvm.Cond) (ch : Int32) (h0 : Heap) (n0 : Nat) (O0 : Old Z n0 h0) (h1 : ¬ ((255 : Int32) < ch)) :
    MetFree l (⟨"java/lang/StringLatin1", "canEncode", "(C)Z"⟩ : MethodName) (head1 (Jvm.Cond.code (⟨"java/lang/StringLatin1", "canEncode", "(C)Z"⟩ : MethodName) jdk_43_method_3_code 1 (some .boolean) :: ws) ({ frames := 0, cells := 0, slots := 0, locals := 0 } : Room)) (fun a U => a = #[(.int ch)] ∧ Z.Warmed39 U.vm ∧ U.heap = h0) (fun _ _ _ _ _ => True) (fun _ U o U' => ∃ v L, o = .returned v ∧ Q_canE Z ch h0 n0 v U'.heap L ∧ FrameEnd U o U' L ({ frames := 0, cells := 0, slots := 0, locals := 0 } : Room).cells ({ frames := 0, cells := 0, slots := 0, locals := 0 } : Room).slots) := by
  refine MetFree.of_bodySF (plainFor_of_name pn_java_lang_StringLatin1) hisR ?_
  intro p e s m args below meth c s₁ Bd hml0 hP hK
  obtain ⟨rfl, hZ, hh⟩ := hP
  have hx := Bd.exec
  have hby := Bd.bytes
  have hml : c.maxLocals = 1 := hml0
  have hown : s.vm.findClass "java/lang/StringLatin1" = some m.cls := findClass_of_methodNamed Bd.named
  have hnm := (name_of_methodNamed Bd.named Bd.method).1
  have X0 : Stand p l e ({ frames := 0, cells := 0, slots := 0, locals := 0 } : Room) s m #[(.int ch)] below meth c s₁ [] 0 0 := Stand.of_body Bd
  have e0 : s₁.heap = h0 := by rw [← hh, Bd.state]; rfl
  have N0 := Fr.nil n0
  have g0 : Go p e below s₁ (mkF m 0 #[iv ch] []) (s₁.setTop (entryFrame m #[(.int ch)] 1)) := fun t kont => castTop (ef_canE m ch ) kont
  generalize s₁.setTop (entryFrame m #[(.int ch)] 1) = A0 at g0 ⊢
  have g101 : Go p e below s₁ (mkF m 12 #[iv ch] [(.int (1 : Int32))]) A0 := by
    intro t kont
    refine g0 t ?_
    refine XS.iloadN X0.here hx rfl (hb hby d13_0) rfl ?_
    refine XS.sipush X0.here hx rfl (hb hby d13_1) ?_
    refine XS.icmpNo X0.here hx rfl (hb hby d13_4) rfl (flt h1).2.2.1 ?_
    refine XS.iconst X0.here hx rfl (hb hby d13_7) ?_
    refine XS.goto X0.here hx rfl (pc0 := 8) (pc' := 12) rfl (hb hby d13_8) (by decide) (by decide) ?_
    exact kont
  obtain ⟨fs, hr, hrun, hended, hW, hsame⟩ := X0.leave (v := some (.int (1 : Int32))) (fun h => by rw [Bd.returns] at h; cases h)
  refine ⟨_, _, g101 _ (retN X0 hx (t := .boolean) Bd.returns (by simp) (hb hby d13_12) hr), hrun, hended, _, _, rfl, ?_, ⟨_, rfl⟩, hW, hsame.mono (by decide) (by decide)⟩
  show Q_canE Z ch h0 n0 _ s₁.heap _
  rw [e0]
  exact ⟨rfl, N0, rfl⟩
theorem d14_0 : decode jdk_43_method_46_code 0 = .ok (.iconst 1, 1) := by decide +kernel
theorem d14_1 : decode jdk_43_method_46_code 1 = .ok (.newarray .byte, 2) := by decide +kernel
theorem d14_3 : decode jdk_43_method_46_code 3 = .ok (.dup, 1) := by decide +kernel
theorem d14_4 : decode jdk_43_method_46_code 4 = .ok (.iconst 0, 1) := by decide +kernel
theorem d14_5 : decode jdk_43_method_46_code 5 = .ok (.iload_n 0, 1) := by decide +kernel
theorem d14_6 : decode jdk_43_method_46_code 6 = .ok (.i2b, 1) := by decide +kernel
theorem d14_7 : decode jdk_43_method_46_code 7 = .ok (.bastore, 1) := by decide +kernel
theorem d14_8 : decode jdk_43_method_46_code 8 = .ok (.areturn, 1) := by decide +kernel
theorem ef_toB (m : MethodId) (x0 : Int32)  : entryFrame m #[(.int x0)] 1 = mkF m 0 #[.val (.int x0)] [] := by first | (simp [entryFrame, mkF, argsToLocals, Value.category]; done) | rfl
def Q_toB (Z : State) (ch : Int32) (h0 : Heap) (n0 : Nat) (v : Option Value) (h : Heap) (L : List Loc) : Prop := ∃ (r : Addr), ∃ (kid : ClassId), v = some (.ref r) ∧ Fr n0 L ∧ Keep h0 h [] ∧ h0.size ≤ r ∧ (Exa Z h r "[B") ∧ (Arv Z h r kid .byte (1 : Int32) [(.int (ch.toInt8.toInt32))] (.int (0 : Int32)))
set_option maxRecDepth 65536 in
set_option maxHeartbeats 40000000 in
theorem rm_toB (l : Launch) (Z : State) (a0 : Array Value) (hw : ∀ d ∈ tables_1, d.before a0 Z = true) (ws : List Jvm.Cond) (ch : Int32) (h0 : Heap) (n0 : Nat) (O0 : Old Z n0 h0)  :
    MetFree l (⟨"java/lang/StringLatin1", "toBytes", "(C)[B"⟩ : MethodName) (head1 (Jvm.Cond.code (⟨"java/lang/StringLatin1", "toBytes", "(C)[B"⟩ : MethodName) jdk_43_method_46_code 1 (some (.array .byte)) :: ws) ({ frames := 0, cells := 1, slots := 1, locals := 0 } : Room)) (fun a U => a = #[(.int ch)] ∧ Z.Warmed39 U.vm ∧ U.heap = h0) (fun _ _ _ _ _ => True) (fun _ U o U' => ∃ v L, o = .returned v ∧ Q_toB Z ch h0 n0 v U'.heap L ∧ FrameEnd U o U' L ({ frames := 0, cells := 1, slots := 1, locals := 0 } : Room).cells ({ frames := 0, cells := 1, slots := 1, locals := 0 } : Room).slots) := by
  refine MetFree.of_bodySF (plainFor_of_name pn_java_lang_StringLatin1) hisR ?_
  intro p e s m args below meth c s₁ Bd hml0 hP hK
  obtain ⟨rfl, hZ, hh⟩ := hP
  have hx := Bd.exec
  have hby := Bd.bytes
  have hml : c.maxLocals = 1 := hml0
  have hown : s.vm.findClass "java/lang/StringLatin1" = some m.cls := findClass_of_methodNamed Bd.named
  have hnm := (name_of_methodNamed Bd.named Bd.method).1
  have X0 : Stand p l e ({ frames := 0, cells := 1, slots := 1, locals := 0 } : Room) s m #[(.int ch)] below meth c s₁ [] 0 0 := Stand.of_body Bd
  have e0 : s₁.heap = h0 := by rw [← hh, Bd.state]; rfl
  have N0 := Fr.nil n0
  have g0 : Go p e below s₁ (mkF m 0 #[iv ch] []) (s₁.setTop (entryFrame m #[(.int ch)] 1)) := fun t kont => castTop (ef_toB m ch ) kont
  generalize s₁.setTop (entryFrame m #[(.int ch)] 1) = A0 at g0 ⊢
  have g101 : Go p e below s₁ (mkF m 1 #[iv ch] [(.int (1 : Int32))]) A0 := by
    intro t kont
    refine g0 t ?_
    refine XS.iconst X0.here hx rfl (hb hby d14_0) ?_
    exact kont
  obtain ⟨T102, h102, k102, X102, e102, E102, A102, F102, st102⟩ := newPE X0 hx hZ (hw _ (List.mem_of_getElem? (i := 20) rfl)) e0 (g := (mkF m 1 #[iv ch] [(.int (1 : Int32))])) rfl (hb hby d14_1) rfl (by decide) (cap := 1) (by decide) (by decide) (by decide) (by decide) (ad := "[B") (by decide)
  obtain ⟨b102, gb102⟩ : ∃ z, z = h0.size := ⟨_, rfl⟩
  rw [← gb102] at A102 F102 st102
  have O103 := O0.ext E102
  have y104 : Arv Z h102 b102 k102 .byte (1 : Int32) [(.int (0 : Int32))] (.int (0 : Int32)) := (Arv.new A102 (by decide)).pad (pad_rep [] (.int (0 : Int32)) 1)
  have g105 : Go p e below T102 (mkF m 3 #[iv ch] [(.ref b102)]) A0 := fun t kont => g101 t (st102 t kont)
  have g106 : Go p e below T102 (mkF m 7 #[iv ch] [(.int (ch.toInt8.toInt32)), (.int (0 : Int32)), (.ref b102), (.ref b102)]) A0 := by
    intro t kont
    refine g105 t ?_
    refine XS.dup X102.here hx rfl (hb hby d14_3) rfl rfl ?_
    refine XS.iconst X102.here hx rfl (hb hby d14_4) ?_
    refine XS.iloadN X102.here hx rfl (hb hby d14_5) rfl ?_
    refine XS.i2b X102.here hx rfl (hb hby d14_6) rfl ?_
    exact kont
  have ge108 : n0 ≤ b102 := Nat.le_trans (own_old_le O0) (Nat.le_of_eq gb102.symm)
  have zz107 := y104
  obtain ⟨cl107, Ar107, q107, S107, M107, H107, G107⟩ := zz107
  have in107 : ¬ ((0 : Int32) < 0 ∨ cl107.slots.size ≤ ((0 : Int32)).toNatClampNeg) := inb_of S107 ⟨by decide, by decide⟩
  obtain ⟨T107, h107, X107, e107, W107, st107⟩ := stB X102 hx hZ e102 Ar107 (j := (0 : Int32)) in107 (g := (mkF m 7 #[iv ch] [(.int (ch.toInt8.toInt32)), (.int (0 : Int32)), (.ref b102), (.ref b102)])) rfl rfl (hb hby d14_7)
  rw [show nar .byte (ch.toInt8.toInt32) = (ch.toInt8.toInt32) from (own_narb _)] at W107
  have O109 := O103.wr W107 ge108
  have y110 : Arv Z h107 b102 k102 .byte (1 : Int32) [(.int (ch.toInt8.toInt32))] (.int (0 : Int32)) := Arv.set Ar107 q107 S107 M107 H107 G107 (own_ft_byte (z := (ch.toInt8.toInt32)) (own_narb _)) W107 0 rfl (Nat.le_of_ble_eq_true rfl)
  have N107 := Fr.snoc X107 N0 ge108
  have g111 : Go p e below T107 (mkF m 8 #[iv ch] [(.ref b102)]) A0 := fun t kont => g106 t (st107 t kont)
  have K112 : Keep h0 h107 [] := (((Keep.refl h0 []).ext E102).wr W107 (Or.inr (Nat.le_of_eq gb102.symm)))
  have y113 : Exa Z h107 b102 "[B" := (F102.wr W107)
  obtain ⟨fs, hr, hrun, hended, hW, hsame⟩ := X107.leave (v := some (.ref b102)) (fun h => by rw [Bd.returns] at h; cases h)
  refine ⟨_, _, g111 _ (retOut X107 hx Bd.returns rfl (Or.inr (Or.inr (Or.inr (Or.inr ⟨rfl, rfl, rfl⟩)))) (hb hby d14_8) hr), hrun, hended, _, _, rfl, ?_, ⟨_, rfl⟩, hW, hsame.mono (by decide) (by decide)⟩
  show Q_toB Z ch h0 n0 _ T107.heap _
  rw [e107]
  exact ⟨b102, k102, rfl, N107, K112, (Nat.le_of_eq gb102.symm), y113, y110⟩
theorem d15_0 : decode jdk_42_method_151_code 0 = .ok (.aload_n 0, 1) := by decide +kernel
theorem d15_1 : decode jdk_42_method_151_code 1 = .ok (.invokespecial 1, 3) := by decide +kernel
theorem d15_4 : decode jdk_42_method_151_code 4 = .ok (.aload_n 0, 1) := by decide +kernel
theorem d15_5 : decode jdk_42_method_151_code 5 = .ok (.aload_n 1, 1) := by decide +kernel
theorem d15_6 : decode jdk_42_method_151_code 6 = .ok (.putfield 9, 3) := by decide +kernel
theorem d15_9 : decode jdk_42_method_151_code 9 = .ok (.aload_n 0, 1) := by decide +kernel
theorem d15_10 : decode jdk_42_method_151_code 10 = .ok (.iload_n 2, 1) := by decide +kernel
theorem d15_11 : decode jdk_42_method_151_code 11 = .ok (.putfield 15, 3) := by decide +kernel
theorem d15_14 : decode jdk_42_method_151_code 14 = .ok (.return_, 1) := by decide +kernel
theorem pn_java_lang_String : plainName "java/lang/String" = true := by first | (simp [plainName, overriddenIn]; done) | decide +kernel
theorem ef_strI (m : MethodId) (x0 : Addr) (x1 : Addr) (x2 : Int32)  : entryFrame m #[(.ref x0), (.ref x1), (.int x2)] 3 = mkF m 0 #[.val (.ref x0), .val (.ref x1), .val (.int x2)] [] := by first | (simp [entryFrame, mkF, argsToLocals, Value.category]; done) | rfl
def Q_strI (Z : State) (a1 : Addr) (b1 : Addr) (h0 : Heap) (n0 : Nat) (v : Option Value) (h : Heap) (L : List Loc) : Prop := v = none ∧ Fr n0 L ∧ Keep h0 h [a1] ∧ (Exa Z h a1 "java/lang/String") ∧ (Fld Z h a1 "java/lang/String" "value" "[B" (.ref b1)) ∧ (Fld Z h a1 "java/lang/String" "coder" "B" (.int (0 : Int32)))
set_option maxRecDepth 65536 in
set_option maxHeartbeats 40000000 in
theorem rm_strI (l : Launch) (Z : State) (a0 : Array Value) (hw : ∀ d ∈ tables_1, d.before a0 Z = true) (ws : List Jvm.Cond) (a1 : Addr) (b1 : Addr) (h0 : Heap) (n0 : Nat) (O0 : Old Z n0 h0) (F0_ : Fld Z h0 a1 "java/lang/String" "value" "[B" .null) (F1_ : Fld Z h0 a1 "java/lang/String" "coder" "B" (.int (0 : Int32))) (E2_ : Exa Z h0 a1 "java/lang/String") (G3_ : n0 ≤ a1) :
    MetFree l (⟨"java/lang/String", "<init>", "([BB)V"⟩ : MethodName) (head1 (Jvm.Cond.code (⟨"java/lang/String", "<init>", "([BB)V"⟩ : MethodName) jdk_42_method_151_code 3 none :: ws) ({ frames := 1, cells := 0, slots := 0, locals := 12 } : Room)) (fun a U => a = #[(.ref a1), (.ref b1), (.int (0 : Int32))] ∧ Z.Warmed39 U.vm ∧ U.heap = h0) (fun _ _ _ _ _ => True) (fun _ U o U' => ∃ v L, o = .returned v ∧ Q_strI Z a1 b1 h0 n0 v U'.heap L ∧ FrameEnd U o U' L ({ frames := 1, cells := 0, slots := 0, locals := 12 } : Room).cells ({ frames := 1, cells := 0, slots := 0, locals := 12 } : Room).slots) := by
  refine MetFree.of_bodySF (plainFor_of_name pn_java_lang_String) hisR ?_
  intro p e s m args below meth c s₁ Bd hml0 hP hK
  obtain ⟨rfl, hZ, hh⟩ := hP
  have hx := Bd.exec
  have hby := Bd.bytes
  have hml : c.maxLocals = 3 := hml0
  have hown : s.vm.findClass "java/lang/String" = some m.cls := findClass_of_methodNamed Bd.named
  have hnm := (name_of_methodNamed Bd.named Bd.method).1
  have X0 : Stand p l e ({ frames := 1, cells := 0, slots := 0, locals := 12 } : Room) s m #[(.ref a1), (.ref b1), (.int (0 : Int32))] below meth c s₁ [] 0 0 := Stand.of_body Bd
  have e0 : s₁.heap = h0 := by rw [← hh, Bd.state]; rfl
  have N0 := Fr.nil n0
  have g0 : Go p e below s₁ (mkF m 0 #[rv a1, rv b1, iv (0 : Int32)] []) (s₁.setTop (entryFrame m #[(.ref a1), (.ref b1), (.int (0 : Int32))] 3)) := fun t kont => castTop (ef_strI m a1 b1 (0 : Int32) ) kont
  generalize s₁.setTop (entryFrame m #[(.ref a1), (.ref b1), (.int (0 : Int32))] 3) = A0 at g0 ⊢
  have g101 : Go p e below s₁ (mkF m 1 #[rv a1, rv b1, iv (0 : Int32)] [(.ref a1)]) A0 := by
    intro t kont
    refine g0 t ?_
    refine XS.aloadN X0.here hx rfl (hb hby d15_0) rfl rfl ?_
    exact kont
  obtain ⟨T102, X102, e102, st102⟩ := initO X0 hx hZ hown (hw _ (List.mem_of_getElem? (i := 12) rfl)) (hw _ (List.mem_of_getElem? (i := 13) rfl)) (hw _ (List.mem_of_getElem? (i := 14) rfl)) e0 (g := (mkF m 1 #[rv a1, rv b1, iv (0 : Int32)] [(.ref a1)])) rfl (by rw [hml]; rfl) rfl (hb hby d15_1) (by decide) (W := 0) (by show 2 * 0 + _ ≤ _; exact Nat.le_of_eq rfl) (by decide)
  have g103 : Go p e below T102 (mkF m 4 #[rv a1, rv b1, iv (0 : Int32)] []) A0 := fun t kont => g101 t (st102 t kont)
  have g104 : Go p e below T102 (mkF m 6 #[rv a1, rv b1, iv (0 : Int32)] [(.ref b1), (.ref a1)]) A0 := by
    intro t kont
    refine g103 t ?_
    refine XS.aloadN X102.here hx rfl (hb hby d15_4) rfl rfl ?_
    refine XS.aloadN X102.here hx rfl (hb hby d15_5) rfl rfl ?_
    exact kont
  obtain ⟨T105, h105, X105, e105, W105, st105⟩ := putF X102 hx hZ hown (host := "") (Or.inl (hw _ (List.mem_of_getElem? (i := 29) rfl))) Via.refl e102 F0_ E2_ (Or.inr ⟨(hw _ (List.mem_of_getElem? (i := 30) rfl)), rfl, hnm⟩) (hw _ (List.mem_of_getElem? (i := 3) rfl)) (ty := (.array .byte)) (by decide) rfl rfl (g := (mkF m 6 #[rv a1, rv b1, iv (0 : Int32)] [(.ref b1), (.ref a1)])) rfl rfl (hb hby d15_6)
  have O106 := O0.wr W105 G3_
  have y107 : Fld Z h105 a1 "java/lang/String" "value" "[B" (.ref b1) := F0_.same W105
  have N105 := Fr.snoc X105 N0 G3_
  have g108 : Go p e below T105 (mkF m 9 #[rv a1, rv b1, iv (0 : Int32)] []) A0 := fun t kont => g104 t (st105 t kont)
  have g109 : Go p e below T105 (mkF m 11 #[rv a1, rv b1, iv (0 : Int32)] [(.int (0 : Int32)), (.ref a1)]) A0 := by
    intro t kont
    refine g108 t ?_
    refine XS.aloadN X105.here hx rfl (hb hby d15_9) rfl rfl ?_
    refine XS.iloadN X105.here hx rfl (hb hby d15_10) rfl ?_
    exact kont
  have y110 : Exa Z h105 a1 "java/lang/String" := (E2_.wr W105)
  have y111 : Fld Z h105 a1 "java/lang/String" "coder" "B" (.int (0 : Int32)) := (F1_.other W105 (Or.inr (slot_ne (Or.inr (hw _ (List.mem_of_getElem? (i := 28) rfl))) (Or.inr (hw _ (List.mem_of_getElem? (i := 30) rfl))) (by decide) (t := .byte) (t' := (.array .byte)) (by decide) (by decide))))
  obtain ⟨T112, h112, X112, e112, W112, st112⟩ := putFN X105 hx hZ hown (hw _ (List.mem_of_getElem? (i := 27) rfl)) Via.refl e105 y111 y110 (Or.inr ⟨(hw _ (List.mem_of_getElem? (i := 28) rfl)), rfl, hnm⟩) (hw _ (List.mem_of_getElem? (i := 3) rfl)) (ty := .byte) (v := (.int (0 : Int32))) (v' := (.int (0 : Int32))) (by decide) (own_nw_byte (by decide : nar .byte (0 : Int32) = (0 : Int32))) (own_ft_byte (by decide : nar .byte (0 : Int32) = (0 : Int32))) (g := (mkF m 11 #[rv a1, rv b1, iv (0 : Int32)] [(.int (0 : Int32)), (.ref a1)])) rfl rfl (hb hby d15_11)
  have O113 := O106.wr W112 G3_
  have y114 : Fld Z h112 a1 "java/lang/String" "coder" "B" (.int (0 : Int32)) := y111.same W112
  have N112 := Fr.snoc X112 N105 G3_
  have g115 : Go p e below T112 (mkF m 14 #[rv a1, rv b1, iv (0 : Int32)] []) A0 := fun t kont => g109 t (st112 t kont)
  have K116 : Keep h0 h112 [a1] := (((Keep.refl h0 [a1]).wr W105 (Or.inl (List.mem_of_getElem? (i := 0) rfl))).wr W112 (Or.inl (List.mem_of_getElem? (i := 0) rfl)))
  have y117 : Exa Z h112 a1 "java/lang/String" := (y110.wr W112)
  have y118 : Fld Z h112 a1 "java/lang/String" "value" "[B" (.ref b1) := (y107.other W112 (Or.inr (slot_ne (Or.inr (hw _ (List.mem_of_getElem? (i := 30) rfl))) (Or.inr (hw _ (List.mem_of_getElem? (i := 28) rfl))) (by decide) (t := (.array .byte)) (t' := .byte) (by decide) (by decide))))
  obtain ⟨fs, hr, hrun, hended, hW, hsame⟩ := X112.leave (v := none) (fun _ => rfl)
  refine ⟨_, _, g115 _ (X112.returnOut hx Bd.returns (hb hby d15_14) hr), hrun, hended, _, _, rfl, ?_, ⟨_, rfl⟩, hW, hsame.mono (by decide) (by decide)⟩
  show Q_strI Z a1 b1 h0 n0 _ T112.heap _
  rw [e112]
  exact ⟨rfl, N112, K116, y117, y118, y114⟩
theorem d12_0 : decode jdk_42_method_139_code 0 = .ok (.getstatic 38, 3) := by decide +kernel
theorem d12_3 : decode jdk_42_method_139_code 3 = .ok (.ifCond .eq 23, 3) := by decide +kernel
theorem d12_6 : decode jdk_42_method_139_code 6 = .ok (.iload_n 0, 1) := by decide +kernel
theorem d12_7 : decode jdk_42_method_139_code 7 = .ok (.invokestatic 1015, 3) := by decide +kernel
theorem pd_0 : parseMethodDescriptor "(C)Z" = some ⟨[.char], some .boolean⟩ := by decide +kernel
theorem d12_10 : decode jdk_42_method_139_code 10 = .ok (.ifCond .eq 16, 3) := by decide +kernel
theorem d12_13 : decode jdk_42_method_139_code 13 = .ok (.new 10, 3) := by decide +kernel
theorem d12_16 : decode jdk_42_method_139_code 16 = .ok (.dup, 1) := by decide +kernel
theorem d12_17 : decode jdk_42_method_139_code 17 = .ok (.iload_n 0, 1) := by decide +kernel
theorem d12_18 : decode jdk_42_method_139_code 18 = .ok (.invokestatic 1018, 3) := by decide +kernel
theorem pd_1 : parseMethodDescriptor "(C)[B" = some ⟨[.char], some (.array .byte)⟩ := by decide +kernel
theorem d12_21 : decode jdk_42_method_139_code 21 = .ok (.iconst 0, 1) := by decide +kernel
theorem d12_22 : decode jdk_42_method_139_code 22 = .ok (.invokespecial 209, 3) := by decide +kernel
theorem pd_2 : parseMethodDescriptor "([BB)V" = some ⟨[(.array .byte), .byte], none⟩ := by decide +kernel
theorem d12_25 : decode jdk_42_method_139_code 25 = .ok (.areturn, 1) := by decide +kernel
theorem ef_valC (m : MethodId) (x0 : Int32)  : entryFrame m #[(.int x0)] 1 = mkF m 0 #[.val (.int x0)] [] := by first | (simp [entryFrame, mkF, argsToLocals, Value.category]; done) | rfl
def Q_valC (Z : State) (ch : Int32) (cs : Int32) (h0 : Heap) (n0 : Nat) (v : Option Value) (h : Heap) (L : List Loc) : Prop := ∃ (r : Addr), ∃ (b : Addr), ∃ (kid : ClassId), v = some (.ref r) ∧ Fr n0 L ∧ Keep h0 h [] ∧ h0.size ≤ r ∧ (Exa Z h r "java/lang/String") ∧ (Fld Z h r "java/lang/String" "coder" "B" (.int (0 : Int32))) ∧ (Fld Z h r "java/lang/String" "value" "[B" (.ref b)) ∧ h0.size ≤ b ∧ (Arv Z h b kid .byte (1 : Int32) [(.int (ch.toInt8.toInt32))] (.int (0 : Int32)))
set_option maxRecDepth 65536 in
set_option maxHeartbeats 40000000 in
theorem rm_valC (l : Launch) (Z : State) (a0 : Array Value) (hw : ∀ d ∈ tables_1, d.before a0 Z = true) (ws : List Jvm.Cond) (ch : Int32) (cs : Int32) (h0 : Heap) (n0 : Nat) (O0 : Old Z n0 h0) (S0_ : Sta Z Z.heap "java/lang/String" "COMPACT_STRINGS" "Z" (.int cs)) (hcs : ¬ (cs = (0 : Int32))) (h1 : ¬ ((255 : Int32) < ch)) :
    MetFree l (⟨"java/lang/String", "valueOf", "(C)Ljava/lang/String;"⟩ : MethodName) (head1 (Jvm.Cond.code (⟨"java/lang/String", "valueOf", "(C)Ljava/lang/String;"⟩ : MethodName) jdk_42_method_139_code 1 (some (.object "java/lang/String")) :: ws) ({ frames := 2, cells := 2, slots := 5, locals := 27 } : Room)) (fun a U => a = #[(.int ch)] ∧ Z.Warmed39 U.vm ∧ U.heap = h0) (fun _ _ _ _ _ => True) (fun _ U o U' => ∃ v L, o = .returned v ∧ Q_valC Z ch cs h0 n0 v U'.heap L ∧ FrameEnd U o U' L ({ frames := 2, cells := 2, slots := 5, locals := 27 } : Room).cells ({ frames := 2, cells := 2, slots := 5, locals := 27 } : Room).slots) := by
  refine MetFree.of_bodySF (plainFor_of_name pn_java_lang_String) hisR ?_
  intro p e s m args below meth c s₁ Bd hml0 hP hK
  obtain ⟨rfl, hZ, hh⟩ := hP
  have hx := Bd.exec
  have hby := Bd.bytes
  have hml : c.maxLocals = 1 := hml0
  have hown : s.vm.findClass "java/lang/String" = some m.cls := findClass_of_methodNamed Bd.named
  have hnm := (name_of_methodNamed Bd.named Bd.method).1
  have X0 : Stand p l e ({ frames := 2, cells := 2, slots := 5, locals := 27 } : Room) s m #[(.int ch)] below meth c s₁ [] 0 0 := Stand.of_body Bd
  have e0 : s₁.heap = h0 := by rw [← hh, Bd.state]; rfl
  have N0 := Fr.nil n0
  have g0 : Go p e below s₁ (mkF m 0 #[iv ch] []) (s₁.setTop (entryFrame m #[(.int ch)] 1)) := fun t kont => castTop (ef_valC m ch ) kont
  generalize s₁.setTop (entryFrame m #[(.int ch)] 1) = A0 at g0 ⊢
  have y101 : Sta Z h0 "java/lang/String" "COMPACT_STRINGS" "Z" (.int cs) := S0_.ext O0.2
  obtain ⟨T102, X102, e102, st102⟩ := getS2 X0 hx hZ hown (host := "") (Or.inl (hw _ (List.mem_of_getElem? (i := 15) rfl))) Via.refl e0 y101 (g := (mkF m 0 #[iv ch] [])) rfl (hb hby d12_0)
  have g103 : Go p e below T102 (mkF m 3 #[iv ch] [(.int cs)]) A0 := fun t kont => g0 t (st102 t kont)
  have g104 : Go p e below T102 (mkF m 7 #[iv ch] [(.int ch)]) A0 := by
    intro t kont
    refine g103 t ?_
    refine XS.ifNo X102.here hx rfl (hb hby d12_3) rfl ((if0 _ _).trans (feq hcs).1) ?_
    refine XS.iloadN X102.here hx rfl (hb hby d12_6) rfl ?_
    exact kont
  obtain ⟨_, _, ⟨T105, L105, k105, n105⟩, -, X105, ⟨Lc105, hQ105, l105, y105, z105⟩, st105⟩ := Jvm.LawKit.callS X102 hx (y := (⟨"java/lang/StringLatin1", "canEncode", "(C)Z"⟩ : MethodName)) hown (mvT hZ (hw _ (List.mem_of_getElem? (i := 69) rfl))) (mvT hZ (hw _ (List.mem_of_getElem? (i := 70) rfl))) (mvT hZ (hw _ (List.mem_of_getElem? (i := 63) rfl))) (mvT hZ (hw _ (List.mem_of_getElem? (i := 71) rfl))) (by decide) (backOf (W := 0) (rm_canE l Z a0 hw [] ch h0 n0 O0 h1) hZ (hw _ (List.mem_of_getElem? (i := 71) rfl)) (hw _ (List.mem_of_getElem? (i := 63) rfl)) (by decide) (by decide)) (g := (mkF m 7 #[iv ch] [(.int ch)])) rfl (by rw [hml]; rfl) (argsL := [(.int ch)]) (rest := []) (lenOf pd_0 rfl) rfl (by show 2 * 0 + _ ≤ _; exact Nat.le_of_eq rfl) (hb hby d12_7) (fun _ _ => ⟨rfl, e102, (by decide : 0 + 0 ≤ _), (by decide : 0 + 0 ≤ _)⟩)
  dsimp only [Pt.U, Pt.locs, Pt.cells, Pt.slots] at X105 l105 y105 z105 st105 hQ105
  subst y105 z105
  obtain ⟨rfl, M105, e105⟩ := hQ105
  have N105 : Fr n0 L105 := by rw [l105]; exact Fr.app N0 M105
  have g106 : Go p e below T105 (mkF m 10 #[iv ch] [(.int (1 : Int32))]) A0 := fun t kont => g104 t (st105 t kont)
  have g107 : Go p e below T105 (mkF m 13 #[iv ch] []) A0 := by
    intro t kont
    refine g106 t ?_
    refine XS.ifNo X105.here hx rfl (hb hby d12_10) rfl ((if0 _ _).trans (feq (by decide : ¬ ((1 : Int32) = (0 : Int32)))).1) ?_
    exact kont
  obtain ⟨T108, h108, X108, e108, E108, A108, D108, -, st108⟩ := newO X105 hx hZ hown (hw _ (List.mem_of_getElem? (i := 60) rfl)) (hw _ (List.mem_of_getElem? (i := 3) rfl)) (hw _ (List.mem_of_getElem? (i := 4) rfl)) e105 (g := (mkF m 13 #[iv ch] [])) rfl (hb hby d12_13) (by decide) (by decide)
  obtain ⟨b108, gb108⟩ : ∃ z, z = h0.size := ⟨_, rfl⟩
  rw [← gb108] at A108 D108 st108
  have O109 := O0.ext E108
  have y110 : Fld Z h108 b108 "java/lang/String" "coder" "B" (.int (0 : Int32)) := D108 (Or.inr (hw _ (List.mem_of_getElem? (i := 28) rfl))) (ty := .byte) (by decide)
  have y111 : Fld Z h108 b108 "java/lang/String" "value" "[B" .null := D108 (Or.inr (hw _ (List.mem_of_getElem? (i := 30) rfl))) (ty := (.array .byte)) (by decide)
  have g112 : Go p e below T108 (mkF m 16 #[iv ch] [(.ref b108)]) A0 := fun t kont => g107 t (st108 t kont)
  have g113 : Go p e below T108 (mkF m 18 #[iv ch] [(.int ch), (.ref b108), (.ref b108)]) A0 := by
    intro t kont
    refine g112 t ?_
    refine XS.dup X108.here hx rfl (hb hby d12_16) rfl rfl ?_
    refine XS.iloadN X108.here hx rfl (hb hby d12_17) rfl ?_
    exact kont
  obtain ⟨_, _, ⟨T114, L114, k114, n114⟩, -, X114, ⟨Lc114, hQ114, l114, y114, z114⟩, st114⟩ := Jvm.LawKit.callS X108 hx (y := (⟨"java/lang/StringLatin1", "toBytes", "(C)[B"⟩ : MethodName)) hown (mvT hZ (hw _ (List.mem_of_getElem? (i := 72) rfl))) (mvT hZ (hw _ (List.mem_of_getElem? (i := 73) rfl))) (mvT hZ (hw _ (List.mem_of_getElem? (i := 63) rfl))) (mvT hZ (hw _ (List.mem_of_getElem? (i := 74) rfl))) (by decide) (backOf (W := 2) (rm_toB l Z a0 hw [] ch h108 n0 O109 ) hZ (hw _ (List.mem_of_getElem? (i := 74) rfl)) (hw _ (List.mem_of_getElem? (i := 63) rfl)) (by decide) (by decide)) (g := (mkF m 18 #[iv ch] [(.int ch), (.ref b108), (.ref b108)])) rfl (by rw [hml]; rfl) (argsL := [(.int ch)]) (rest := [(.ref b108), (.ref b108)]) (lenOf pd_1 rfl) rfl (by show 2 * 0 + _ ≤ _; exact Nat.le_of_eq rfl) (hb hby d12_18) (fun _ _ => ⟨rfl, e108, (by decide : 1 + 1 ≤ _), (by decide : 4 + 1 ≤ _)⟩)
  dsimp only [Pt.U, Pt.locs, Pt.cells, Pt.slots] at X114 l114 y114 z114 st114 hQ114
  subst y114 z114
  obtain ⟨r115, r116, rfl, M114, K114, y117, y118, y119⟩ := hQ114
  have N114 : Fr n0 L114 := by rw [l114]; exact Fr.app N105 M114
  have O120 := O109.keep K114 all0
  have g121 : Go p e below T114 (mkF m 21 #[iv ch] [(.ref r115), (.ref b108), (.ref b108)]) A0 := fun t kont => g113 t (st114 t kont)
  have g122 : Go p e below T114 (mkF m 22 #[iv ch] [(.int (0 : Int32)), (.ref r115), (.ref b108), (.ref b108)]) A0 := by
    intro t kont
    refine g121 t ?_
    refine XS.iconst X114.here hx rfl (hb hby d12_21) ?_
    exact kont
  have y124 : Fld Z T114.heap b108 "java/lang/String" "value" "[B" .null := (y111.keep K114 nin0)
  have y125 : Fld Z T114.heap b108 "java/lang/String" "coder" "B" (.int (0 : Int32)) := (y110.keep K114 nin0)
  have y126 : Exa Z T114.heap b108 "java/lang/String" := (A108.keep K114)
  have ge127 : n0 ≤ b108 := Nat.le_trans (own_old_le O0) (Nat.le_of_eq gb108.symm)
  obtain ⟨_, _, ⟨T123, L123, k123, n123⟩, -, X123, ⟨Lc123, hQ123, l123, y123, z123⟩, st123⟩ := X114.specialBack hx (y := (⟨"java/lang/String", "<init>", "([BB)V"⟩ : MethodName)) rfl hown (mvT hZ (hw _ (List.mem_of_getElem? (i := 75) rfl))) (mvT hZ (hw _ (List.mem_of_getElem? (i := 76) rfl))) (mvT hZ (hw _ (List.mem_of_getElem? (i := 77) rfl))) (by decide) (backOf (W := 1) (rm_strI l Z a0 hw [] b108 r115 T114.heap n0 O120 y124 y125 y126 ge127) hZ (hw _ (List.mem_of_getElem? (i := 77) rfl)) (hw _ (List.mem_of_getElem? (i := 4) rfl)) (by decide) (by decide)) (g := (mkF m 22 #[iv ch] [(.int (0 : Int32)), (.ref r115), (.ref b108), (.ref b108)])) rfl (by rw [hml]; rfl) (Steps.refl _) (a := b108) (argsL := [(.ref r115), (.int (0 : Int32))]) (rest := [(.ref b108)]) (lenOf pd_2 rfl) rfl (by show 2 * 0 + _ ≤ _; exact Nat.le_of_eq rfl) (hb hby d12_22) (fun _ _ => ⟨rfl, rfl, (by decide : 2 + 0 ≤ _), (by decide : 5 + 0 ≤ _)⟩)
  dsimp only [Pt.U, Pt.locs, Pt.cells, Pt.slots] at X123 l123 y123 z123 st123 hQ123
  subst y123 z123
  obtain ⟨rfl, M123, K123, y128, y129, y130⟩ := hQ123
  have N123 : Fr n0 L123 := by rw [l123]; exact Fr.app N114 M123
  have O131 := O120.keep K123 (allS ge127 all0)
  have g132 : Go p e below T123 (mkF m 25 #[iv ch] [(.ref b108)]) A0 := fun t kont => g122 t (st123.trans kont)
  have K133 : Keep h0 T123.heap [] := ((((Keep.refl h0 []).ext E108).trans K114 (fun x hx => nomatch hx)).trans K123 (allS (P := fun x => x ∈ [] ∨ h0.size ≤ x) (Or.inr (Nat.le_of_eq gb108.symm)) all0))
  have y134 : Arv Z T123.heap r115 r116 .byte (1 : Int32) [(.int (ch.toInt8.toInt32))] (.int (0 : Int32)) := (y119.keep K123 (ninS (Ne.symm (Nat.ne_of_lt (Nat.lt_of_lt_of_le A108.lt y117))) nin0))
  obtain ⟨fs, hr, hrun, hended, hW, hsame⟩ := X123.leave (v := some (.ref b108)) (fun h => by rw [Bd.returns] at h; cases h)
  refine ⟨_, _, g132 _ (retOut X123 hx Bd.returns rfl (Or.inr (Or.inr (Or.inr (Or.inr ⟨rfl, rfl, rfl⟩)))) (hb hby d12_25) hr), hrun, hended, _, _, rfl, ?_, ⟨_, rfl⟩, hW, hsame.mono (by decide) (by decide)⟩
  show Q_valC Z ch cs h0 n0 _ T123.heap _
  exact ⟨b108, r115, r116, rfl, N123, K133, (Nat.le_of_eq gb108.symm), y128, y130, y129, (Nat.le_trans E108.1 y117), y134⟩
theorem d5_0 : decode jdk_52_method_21_code 0 = .ok (.iconst 0, 1) := by decide +kernel
theorem d5_1 : decode jdk_52_method_21_code 1 = .ok (.istore 5, 2) := by decide +kernel
theorem d5_3 : decode jdk_52_method_21_code 3 = .ok (.iload 5, 2) := by decide +kernel
theorem d5_5 : decode jdk_52_method_21_code 5 = .ok (.iload 4, 2) := by decide +kernel
theorem d5_7 : decode jdk_52_method_21_code 7 = .ok (.if_icmp .ge 37, 3) := by decide +kernel
theorem d5_10 : decode jdk_52_method_21_code 10 = .ok (.aload_n 0, 1) := by decide +kernel
theorem d5_11 : decode jdk_52_method_21_code 11 = .ok (.iload_n 1, 1) := by decide +kernel
theorem d5_12 : decode jdk_52_method_21_code 12 = .ok (.caload, 1) := by decide +kernel
theorem d5_13 : decode jdk_52_method_21_code 13 = .ok (.istore 6, 2) := by decide +kernel
theorem d5_15 : decode jdk_52_method_21_code 15 = .ok (.iload 6, 2) := by decide +kernel
theorem d5_17 : decode jdk_52_method_21_code 17 = .ok (.sipush 255, 3) := by decide +kernel
theorem d5_20 : decode jdk_52_method_21_code 20 = .ok (.if_icmp .le 6, 3) := by decide +kernel
theorem d5_26 : decode jdk_52_method_21_code 26 = .ok (.aload_n 2, 1) := by decide +kernel
theorem d5_27 : decode jdk_52_method_21_code 27 = .ok (.iload_n 3, 1) := by decide +kernel
theorem d5_28 : decode jdk_52_method_21_code 28 = .ok (.iload 6, 2) := by decide +kernel
theorem d5_30 : decode jdk_52_method_21_code 30 = .ok (.i2b, 1) := by decide +kernel
theorem d5_31 : decode jdk_52_method_21_code 31 = .ok (.bastore, 1) := by decide +kernel
theorem d5_32 : decode jdk_52_method_21_code 32 = .ok (.iinc 1 1, 3) := by decide +kernel
theorem d5_35 : decode jdk_52_method_21_code 35 = .ok (.iinc 3 1, 3) := by decide +kernel
theorem d5_38 : decode jdk_52_method_21_code 38 = .ok (.iinc 5 1, 3) := by decide +kernel
theorem d5_41 : decode jdk_52_method_21_code 41 = .ok (.goto (-38), 3) := by decide +kernel
theorem d5_23 : decode jdk_52_method_21_code 23 = .ok (.iload 5, 2) := by decide +kernel
theorem d5_25 : decode jdk_52_method_21_code 25 = .ok (.ireturn, 1) := by decide +kernel
theorem d5_44 : decode jdk_52_method_21_code 44 = .ok (.iload 4, 2) := by decide +kernel
theorem d5_46 : decode jdk_52_method_21_code 46 = .ok (.ireturn, 1) := by decide +kernel
theorem pn_java_lang_StringUTF16 : plainName "java/lang/StringUTF16" = true := by first | (simp [plainName, overriddenIn]; done) | decide +kernel
theorem ef_cmpG (m : MethodId) (x0 : Addr) (x1 : Int32) (x2 : Addr) (x3 : Int32) (x4 : Int32)  : entryFrame m #[(.ref x0), (.int x1), (.ref x2), (.int x3), (.int x4)] 7 = mkF m 0 #[.val (.ref x0), .val (.int x1), .val (.ref x2), .val (.int x3), .val (.int x4), .unset, .unset] [] := by first | (simp [entryFrame, mkF, argsToLocals, Value.category]; done) | rfl
def Q_cmpG (Z : State) (s1 : Addr) (d1 : Addr) (ks : ClassId) (kd : ClassId) (ls : List Int32) (rn : Nat) (h0 : Heap) (n0 : Nat) (v : Option Value) (h : Heap) (L : List Loc) : Prop := v = some (.int (Int32.ofNat rn)) ∧ Fr n0 L ∧ Keep h0 h [d1] ∧ (Arv Z h d1 kd .byte (Int32.ofNat ls.length) (own_F ls rn) (.int (0 : Int32)))
set_option maxRecDepth 65536 in
set_option maxHeartbeats 40000000 in
theorem rm_cmpG (l : Launch) (Z : State) (a0 : Array Value) (hw : ∀ d ∈ tables_1, d.before a0 Z = true) (ws : List Jvm.Cond) (s1 : Addr) (d1 : Addr) (ks : ClassId) (kd : ClassId) (ls : List Int32) (rn : Nat) (h0 : Heap) (n0 : Nat) (O0 : Old Z n0 h0) (A0_ : Arv Z h0 s1 ks .char (Int32.ofNat ls.length) (ls.map Value.int) (.int (0 : Int32))) (A1_ : Arv Z h0 d1 kd .byte (Int32.ofNat ls.length) (List.replicate ls.length (.int (0 : Int32))) (.int (0 : Int32))) (G2_ : n0 ≤ d1) (NE3_ : ¬ (s1 = d1)) (hB : ls.length ≤ 22) (hr : rn ≤ ls.length) (hl : ∀ i, i < rn → ¬ ((255 : Int32) < ls.getD i 0)) (hwd : rn < ls.length → (255 : Int32) < ls.getD rn 0) :
    MetFree l (⟨"java/lang/StringUTF16", "compress", "([CI[BII)I"⟩ : MethodName) (head1 (Jvm.Cond.code (⟨"java/lang/StringUTF16", "compress", "([CI[BII)I"⟩ : MethodName) jdk_52_method_21_code 7 (some .int) :: ws) ({ frames := 0, cells := 0, slots := 0, locals := 0 } : Room)) (fun a U => a = #[(.ref s1), (.int (0 : Int32)), (.ref d1), (.int (0 : Int32)), (.int (Int32.ofNat ls.length))] ∧ Z.Warmed39 U.vm ∧ U.heap = h0) (fun _ _ _ _ _ => True) (fun _ U o U' => ∃ v L, o = .returned v ∧ Q_cmpG Z s1 d1 ks kd ls rn h0 n0 v U'.heap L ∧ FrameEnd U o U' L ({ frames := 0, cells := 0, slots := 0, locals := 0 } : Room).cells ({ frames := 0, cells := 0, slots := 0, locals := 0 } : Room).slots) := by
  refine MetFree.of_bodySF (plainFor_of_name pn_java_lang_StringUTF16) hisR ?_
  intro p e s m args below meth c s₁ Bd hml0 hP hK
  obtain ⟨rfl, hZ, hh⟩ := hP
  have hx := Bd.exec
  have hby := Bd.bytes
  have hml : c.maxLocals = 7 := hml0
  have hown : s.vm.findClass "java/lang/StringUTF16" = some m.cls := findClass_of_methodNamed Bd.named
  have hnm := (name_of_methodNamed Bd.named Bd.method).1
  have X0 : Stand p l e ({ frames := 0, cells := 0, slots := 0, locals := 0 } : Room) s m #[(.ref s1), (.int (0 : Int32)), (.ref d1), (.int (0 : Int32)), (.int (Int32.ofNat ls.length))] below meth c s₁ [] 0 0 := Stand.of_body Bd
  have e0 : s₁.heap = h0 := by rw [← hh, Bd.state]; rfl
  have N0 := Fr.nil n0
  have g0 : Go p e below s₁ (mkF m 0 #[rv s1, iv (0 : Int32), rv d1, iv (0 : Int32), iv (Int32.ofNat ls.length), .unset, .unset] []) (s₁.setTop (entryFrame m #[(.ref s1), (.int (0 : Int32)), (.ref d1), (.int (0 : Int32)), (.int (Int32.ofNat ls.length))] 7)) := fun t kont => castTop (ef_cmpG m s1 (0 : Int32) d1 (0 : Int32) (Int32.ofNat ls.length) ) kont
  generalize s₁.setTop (entryFrame m #[(.ref s1), (.int (0 : Int32)), (.ref d1), (.int (0 : Int32)), (.int (Int32.ofNat ls.length))] 7) = A0 at g0 ⊢
  have g101 : Go p e below s₁ (mkF m 3 #[rv s1, iv (0 : Int32), rv d1, iv (0 : Int32), iv (Int32.ofNat ls.length), iv (0 : Int32), .unset] []) A0 := by
    intro t kont
    refine g0 t ?_
    refine XS.iconst X0.here hx rfl (hb hby d5_0) ?_
    refine XS.istore X0.here hx rfl (hb hby d5_1) rfl (l' := #[rv s1, iv (0 : Int32), rv d1, iv (0 : Int32), iv (Int32.ofNat ls.length), iv (0 : Int32), .unset]) rfl ?_
    exact kont
  have loop102 : ∀ k : Nat, k ≤ rn → ∃ (T102 : State) (lc102 : List Loc) (h102 : Heap) (sl6 : Slot), Stand p l e ({ frames := 0, cells := 0, slots := 0, locals := 0 } : Room) s m #[(.ref s1), (.int (0 : Int32)), (.ref d1), (.int (0 : Int32)), (.int (Int32.ofNat ls.length))] below meth c T102 lc102 0 0 ∧ T102.heap = h102 ∧ Keep h0 h102 [d1] ∧ Fr n0 lc102 ∧ One sl6 ∧ (Arv Z h102 d1 kd .byte (Int32.ofNat ls.length) (own_F ls k) (.int (0 : Int32))) ∧ Go p e below T102 (mkF m 3 #[rv s1, iv (Int32.ofNat k), rv d1, iv (Int32.ofNat k), iv (Int32.ofNat ls.length), iv (Int32.ofNat k), sl6] []) A0 := by
    intro k
    induction k with
    | zero =>
      intro _
      exact ⟨_, _, _, .unset, X0, e0, (Keep.refl _ _), N0, One.u, (by rw [own_F0]; exact A1_), g101⟩
    | succ k ih =>
      intro hk_k
      obtain ⟨T103, lc103, h103, sl6, X103, e103, K103, N103, One_sl6, y104, g103⟩ := ih (Nat.le_of_succ_le hk_k)
      have O105 := O0.keep K103 (allS G2_ all0)
      have g106 : Go p e below T103 (mkF m 12 #[rv s1, iv (Int32.ofNat k), rv d1, iv (Int32.ofNat k), iv (Int32.ofNat ls.length), iv (Int32.ofNat k), sl6] [(.int (Int32.ofNat k)), (.ref s1)]) A0 := by
        intro t kont
        refine g103 t ?_
        refine XS.iload X103.here hx rfl (hb hby d5_3) rfl ?_
        refine XS.iload X103.here hx rfl (hb hby d5_5) rfl ?_
        refine XS.icmpNo X103.here hx rfl (hb hby d5_7) rfl (tlt (own_lt (by omega) (by omega) : (Int32.ofNat k) < (Int32.ofNat ls.length))).2.1 ?_
        refine XS.aloadN X103.here hx rfl (hb hby d5_10) rfl rfl ?_
        refine XS.iloadN X103.here hx rfl (hb hby d5_11) rfl ?_
        exact kont
      have y107 : Arv Z h103 s1 ks .char (Int32.ofNat ls.length) (ls.map Value.int) (.int (0 : Int32)) := (A0_.keep K103 (ninS NE3_ nin0))
      have zz108 := y107
      obtain ⟨cl108, Ar108, q108, S108, M108, H108, G108⟩ := zz108
      have in108 : ¬ ((Int32.ofNat k) < 0 ∨ cl108.slots.size ≤ ((Int32.ofNat k)).toNatClampNeg) := inb_of S108 ⟨own_nonneg (by omega), own_lt (by omega) (by omega)⟩
      have at108 : cl108.slots[((Int32.ofNat k)).toNatClampNeg]? = some (.int (ls.getD k 0)) := Has.at H108 in108 (by rw [own_clamp (by omega)]; exact own_getc ls k)
      have g109 : Go p e below T103 (mkF m 13 #[rv s1, iv (Int32.ofNat k), rv d1, iv (Int32.ofNat k), iv (Int32.ofNat ls.length), iv (Int32.ofNat k), sl6] [(.int (ls.getD k 0))]) A0 := fun t kont => g106 t (X103.caload hx (j := (Int32.ofNat k)) (v := (.int (ls.getD k 0))) (by rw [e103]; exact Ar108.1) (State.isArrayOf_alike hZ.alike Ar108.2.1) Ar108.2.2 in108 at108 (g := (mkF m 12 #[rv s1, iv (Int32.ofNat k), rv d1, iv (Int32.ofNat k), iv (Int32.ofNat ls.length), iv (Int32.ofNat k), sl6] [(.int (Int32.ofNat k)), (.ref s1)])) rfl rfl (hb hby d5_12) t kont)
      have g110 : Go p e below T103 (mkF m 31 #[rv s1, iv (Int32.ofNat k), rv d1, iv (Int32.ofNat k), iv (Int32.ofNat ls.length), iv (Int32.ofNat k), iv (ls.getD k 0)] [(.int ((ls.getD k 0).toInt8.toInt32)), (.int (Int32.ofNat k)), (.ref d1)]) A0 := by
        intro t kont
        refine g109 t ?_
        refine XS.istore X103.here hx rfl (hb hby d5_13) rfl (l' := #[rv s1, iv (Int32.ofNat k), rv d1, iv (Int32.ofNat k), iv (Int32.ofNat ls.length), iv (Int32.ofNat k), iv (ls.getD k 0)]) (XS.store1 (o := sl6) rfl One_sl6 rfl) ?_
        refine XS.iload X103.here hx rfl (hb hby d5_15) rfl ?_
        refine XS.sipush X103.here hx rfl (hb hby d5_17) ?_
        refine XS.icmpYes X103.here hx rfl (pc0 := 20) (pc' := 26) rfl (hb hby d5_20) rfl (flt (hl k (by omega) : ¬ ((255 : Int32) < (ls.getD k 0)))).2.2.2 (by decide) (by decide) ?_
        refine XS.aloadN X103.here hx rfl (hb hby d5_26) rfl rfl ?_
        refine XS.iloadN X103.here hx rfl (hb hby d5_27) rfl ?_
        refine XS.iload X103.here hx rfl (hb hby d5_28) rfl ?_
        refine XS.i2b X103.here hx rfl (hb hby d5_30) rfl ?_
        exact kont
      have zz111 := y104
      obtain ⟨cl111, Ar111, q111, S111, M111, H111, G111⟩ := zz111
      have in111 : ¬ ((Int32.ofNat k) < 0 ∨ cl111.slots.size ≤ ((Int32.ofNat k)).toNatClampNeg) := inb_of S111 ⟨own_nonneg (by omega), own_lt (by omega) (by omega)⟩
      obtain ⟨T111, h111, X111, e111, W111, st111⟩ := stB X103 hx hZ e103 Ar111 (j := (Int32.ofNat k)) in111 (g := (mkF m 31 #[rv s1, iv (Int32.ofNat k), rv d1, iv (Int32.ofNat k), iv (Int32.ofNat ls.length), iv (Int32.ofNat k), iv (ls.getD k 0)] [(.int ((ls.getD k 0).toInt8.toInt32)), (.int (Int32.ofNat k)), (.ref d1)])) rfl rfl (hb hby d5_31)
      rw [show nar .byte ((ls.getD k 0).toInt8.toInt32) = ((ls.getD k 0).toInt8.toInt32) from (own_narb _)] at W111
      have O112 := O105.wr W111 G2_
      have y113 : Arv Z h111 d1 kd .byte (Int32.ofNat ls.length) ((own_F ls k).set k (.int ((ls.getD k 0).toInt8.toInt32))) (.int (0 : Int32)) := Arv.set Ar111 q111 S111 M111 H111 G111 (own_ft_byte (z := ((ls.getD k 0).toInt8.toInt32)) (own_narb _)) W111 k (own_clamp (by omega)) (by rw [own_Flen (by omega)]; omega)
      have N111 := Fr.snoc X111 N103 G2_
      have g114 : Go p e below T111 (mkF m 32 #[rv s1, iv (Int32.ofNat k), rv d1, iv (Int32.ofNat k), iv (Int32.ofNat ls.length), iv (Int32.ofNat k), iv (ls.getD k 0)] []) A0 := fun t kont => g110 t (st111 t kont)
      have g115 : Go p e below T111 (mkF m 3 #[rv s1, iv ((Int32.ofNat k) + (1 : Int32)), rv d1, iv ((Int32.ofNat k) + (1 : Int32)), iv (Int32.ofNat ls.length), iv ((Int32.ofNat k) + (1 : Int32)), iv (ls.getD k 0)] []) A0 := by
        intro t kont
        refine g114 t ?_
        refine XS.iinc X111.here hx rfl (hb hby d5_32) rfl (l' := #[rv s1, iv ((Int32.ofNat k) + (1 : Int32)), rv d1, iv (Int32.ofNat k), iv (Int32.ofNat ls.length), iv (Int32.ofNat k), iv (ls.getD k 0)]) rfl ?_
        refine XS.iinc X111.here hx rfl (hb hby d5_35) rfl (l' := #[rv s1, iv ((Int32.ofNat k) + (1 : Int32)), rv d1, iv ((Int32.ofNat k) + (1 : Int32)), iv (Int32.ofNat ls.length), iv (Int32.ofNat k), iv (ls.getD k 0)]) rfl ?_
        refine XS.iinc X111.here hx rfl (hb hby d5_38) rfl (l' := #[rv s1, iv ((Int32.ofNat k) + (1 : Int32)), rv d1, iv ((Int32.ofNat k) + (1 : Int32)), iv (Int32.ofNat ls.length), iv ((Int32.ofNat k) + (1 : Int32)), iv (ls.getD k 0)]) rfl ?_
        refine XS.goto X111.here hx rfl (pc0 := 41) (pc' := 3) rfl (hb hby d5_41) (by decide) (by decide) ?_
        exact kont
      have g116 : Go p e below T111 (mkF m 3 #[rv s1, iv (Int32.ofNat (k + 1)), rv d1, iv (Int32.ofNat (k + 1)), iv (Int32.ofNat ls.length), iv (Int32.ofNat (k + 1)), iv (ls.getD k 0)] []) A0 := by rw [← own_succ k]; exact g115
      exact ⟨_, _, _, (iv (ls.getD k 0)), X111, e111, (((Keep.refl h0 [d1]).trans K103 (allS (P := fun x => x ∈ [d1] ∨ h0.size ≤ x) (Or.inl (List.mem_of_getElem? (i := 0) rfl)) all0)).wr W111 (Or.inl (List.mem_of_getElem? (i := 0) rfl))), N111, (One.val rfl), (by rw [← own_FS (show k < ls.length by omega)]; exact y113), g116⟩
  obtain ⟨T117, lc117, h117, sl6, X117, e117, K117, N117, One_sl6, y118, g117⟩ := loop102 rn (Nat.le_refl _)
  have O119 := O0.keep K117 (allS G2_ all0)
  by_cases c120 : rn < ls.length
  ·
    have g121 : Go p e below T117 (mkF m 12 #[rv s1, iv (Int32.ofNat rn), rv d1, iv (Int32.ofNat rn), iv (Int32.ofNat ls.length), iv (Int32.ofNat rn), sl6] [(.int (Int32.ofNat rn)), (.ref s1)]) A0 := by
      intro t kont
      refine g117 t ?_
      refine XS.iload X117.here hx rfl (hb hby d5_3) rfl ?_
      refine XS.iload X117.here hx rfl (hb hby d5_5) rfl ?_
      refine XS.icmpNo X117.here hx rfl (hb hby d5_7) rfl (tlt (own_lt (by omega) (by omega) : (Int32.ofNat rn) < (Int32.ofNat ls.length))).2.1 ?_
      refine XS.aloadN X117.here hx rfl (hb hby d5_10) rfl rfl ?_
      refine XS.iloadN X117.here hx rfl (hb hby d5_11) rfl ?_
      exact kont
    have y122 : Arv Z h117 s1 ks .char (Int32.ofNat ls.length) (ls.map Value.int) (.int (0 : Int32)) := (A0_.keep K117 (ninS NE3_ nin0))
    have zz123 := y122
    obtain ⟨cl123, Ar123, q123, S123, M123, H123, G123⟩ := zz123
    have in123 : ¬ ((Int32.ofNat rn) < 0 ∨ cl123.slots.size ≤ ((Int32.ofNat rn)).toNatClampNeg) := inb_of S123 ⟨own_nonneg (by omega), own_lt (by omega) (by omega)⟩
    have at123 : cl123.slots[((Int32.ofNat rn)).toNatClampNeg]? = some (.int (ls.getD rn 0)) := Has.at H123 in123 (by rw [own_clamp (by omega)]; exact own_getc ls rn)
    have g124 : Go p e below T117 (mkF m 13 #[rv s1, iv (Int32.ofNat rn), rv d1, iv (Int32.ofNat rn), iv (Int32.ofNat ls.length), iv (Int32.ofNat rn), sl6] [(.int (ls.getD rn 0))]) A0 := fun t kont => g121 t (X117.caload hx (j := (Int32.ofNat rn)) (v := (.int (ls.getD rn 0))) (by rw [e117]; exact Ar123.1) (State.isArrayOf_alike hZ.alike Ar123.2.1) Ar123.2.2 in123 at123 (g := (mkF m 12 #[rv s1, iv (Int32.ofNat rn), rv d1, iv (Int32.ofNat rn), iv (Int32.ofNat ls.length), iv (Int32.ofNat rn), sl6] [(.int (Int32.ofNat rn)), (.ref s1)])) rfl rfl (hb hby d5_12) t kont)
    have g125 : Go p e below T117 (mkF m 25 #[rv s1, iv (Int32.ofNat rn), rv d1, iv (Int32.ofNat rn), iv (Int32.ofNat ls.length), iv (Int32.ofNat rn), iv (ls.getD rn 0)] [(.int (Int32.ofNat rn))]) A0 := by
      intro t kont
      refine g124 t ?_
      refine XS.istore X117.here hx rfl (hb hby d5_13) rfl (l' := #[rv s1, iv (Int32.ofNat rn), rv d1, iv (Int32.ofNat rn), iv (Int32.ofNat ls.length), iv (Int32.ofNat rn), iv (ls.getD rn 0)]) (XS.store1 (o := sl6) rfl One_sl6 rfl) ?_
      refine XS.iload X117.here hx rfl (hb hby d5_15) rfl ?_
      refine XS.sipush X117.here hx rfl (hb hby d5_17) ?_
      refine XS.icmpNo X117.here hx rfl (hb hby d5_20) rfl (tlt (hwd c120 : (255 : Int32) < (ls.getD rn 0))).2.2.2 ?_
      refine XS.iload X117.here hx rfl (hb hby d5_23) rfl ?_
      exact kont
    have K126 : Keep h0 h117 [d1] := ((Keep.refl h0 [d1]).trans K117 (allS (P := fun x => x ∈ [d1] ∨ h0.size ≤ x) (Or.inl (List.mem_of_getElem? (i := 0) rfl)) all0))
    obtain ⟨fs, hr, hrun, hended, hW, hsame⟩ := X117.leave (v := some (.int (Int32.ofNat rn))) (fun h => by rw [Bd.returns] at h; cases h)
    refine ⟨_, _, g125 _ (retI X117 hx Bd.returns (hb hby d5_25) hr), hrun, hended, _, _, rfl, ?_, ⟨_, rfl⟩, hW, hsame.mono (by decide) (by decide)⟩
    show Q_cmpG Z s1 d1 ks kd ls rn h0 n0 _ T117.heap _
    rw [e117]
    exact ⟨rfl, N117, K126, y118⟩
  have g127 : Go p e below T117 (mkF m 46 #[rv s1, iv (Int32.ofNat rn), rv d1, iv (Int32.ofNat rn), iv (Int32.ofNat ls.length), iv (Int32.ofNat rn), sl6] [(.int (Int32.ofNat ls.length))]) A0 := by
    intro t kont
    refine g117 t ?_
    refine XS.iload X117.here hx rfl (hb hby d5_3) rfl ?_
    refine XS.iload X117.here hx rfl (hb hby d5_5) rfl ?_
    refine XS.icmpYes X117.here hx rfl (pc0 := 7) (pc' := 44) rfl (hb hby d5_7) rfl (flt (own_nlt (by omega) (by omega) : ¬ ((Int32.ofNat rn) < (Int32.ofNat ls.length)))).2.1 (by decide) (by decide) ?_
    refine XS.iload X117.here hx rfl (hb hby d5_44) rfl ?_
    exact kont
  have K128 : Keep h0 h117 [d1] := ((Keep.refl h0 [d1]).trans K117 (allS (P := fun x => x ∈ [d1] ∨ h0.size ≤ x) (Or.inl (List.mem_of_getElem? (i := 0) rfl)) all0))
  obtain ⟨fs, hr, hrun, hended, hW, hsame⟩ := X117.leave (v := some (.int (Int32.ofNat ls.length))) (fun h => by rw [Bd.returns] at h; cases h)
  refine ⟨_, _, g127 _ (retI X117 hx Bd.returns (hb hby d5_46) hr), hrun, hended, _, _, rfl, ?_, ⟨_, rfl⟩, hW, hsame.mono (by decide) (by decide)⟩
  show Q_cmpG Z s1 d1 ks kd ls rn h0 n0 _ T117.heap _
  rw [e117]
  exact ⟨congrArg (fun z => some (Value.int z)) (congrArg Int32.ofNat (show ls.length = rn by omega)), N117, K128, y118⟩
theorem d4_0 : decode jdk_52_method_16_code 0 = .ok (.iload_n 2, 1) := by decide +kernel
theorem d4_1 : decode jdk_52_method_16_code 1 = .ok (.newarray .byte, 2) := by decide +kernel
theorem d4_3 : decode jdk_52_method_16_code 3 = .ok (.astore_n 3, 1) := by decide +kernel
theorem d4_4 : decode jdk_52_method_16_code 4 = .ok (.aload_n 0, 1) := by decide +kernel
theorem d4_5 : decode jdk_52_method_16_code 5 = .ok (.iload_n 1, 1) := by decide +kernel
theorem d4_6 : decode jdk_52_method_16_code 6 = .ok (.aload_n 3, 1) := by decide +kernel
theorem d4_7 : decode jdk_52_method_16_code 7 = .ok (.iconst 0, 1) := by decide +kernel
theorem d4_8 : decode jdk_52_method_16_code 8 = .ok (.iload_n 2, 1) := by decide +kernel
theorem d4_9 : decode jdk_52_method_16_code 9 = .ok (.invokestatic 115, 3) := by decide +kernel
theorem pd_3 : parseMethodDescriptor "([CI[BII)I" = some ⟨[(.array .char), .int, (.array .byte), .int, .int], some .int⟩ := by decide +kernel
theorem d4_12 : decode jdk_52_method_16_code 12 = .ok (.istore 4, 2) := by decide +kernel
theorem d4_14 : decode jdk_52_method_16_code 14 = .ok (.iload 4, 2) := by decide +kernel
theorem d4_16 : decode jdk_52_method_16_code 16 = .ok (.iload_n 2, 1) := by decide +kernel
theorem d4_17 : decode jdk_52_method_16_code 17 = .ok (.if_icmp .eq 40, 3) := by decide +kernel
theorem d4_57 : decode jdk_52_method_16_code 57 = .ok (.aload_n 3, 1) := by decide +kernel
theorem d4_58 : decode jdk_52_method_16_code 58 = .ok (.areturn, 1) := by decide +kernel
theorem ef_comL (m : MethodId) (x0 : Addr) (x1 : Int32) (x2 : Int32)  : entryFrame m #[(.ref x0), (.int x1), (.int x2)] 6 = mkF m 0 #[.val (.ref x0), .val (.int x1), .val (.int x2), .unset, .unset, .unset] [] := by first | (simp [entryFrame, mkF, argsToLocals, Value.category]; done) | rfl
def Q_comL (Z : State) (s1 : Addr) (ks : ClassId) (ls : List Int32) (h0 : Heap) (n0 : Nat) (v : Option Value) (h : Heap) (L : List Loc) : Prop := ∃ (r : Addr), ∃ (kid : ClassId), v = some (.ref r) ∧ Fr n0 L ∧ Keep h0 h [] ∧ h0.size ≤ r ∧ (Exa Z h r "[B") ∧ (Arv Z h r kid .byte (Int32.ofNat ls.length) (own_lb ls) (.int (0 : Int32)))
set_option maxRecDepth 65536 in
set_option maxHeartbeats 40000000 in
theorem rm_comL (l : Launch) (Z : State) (a0 : Array Value) (hw : ∀ d ∈ tables_1, d.before a0 Z = true) (ws : List Jvm.Cond) (s1 : Addr) (ks : ClassId) (ls : List Int32) (h0 : Heap) (n0 : Nat) (O0 : Old Z n0 h0) (A0_ : Arv Z h0 s1 ks .char (Int32.ofNat ls.length) (ls.map Value.int) (.int (0 : Int32))) (hB : ls.length ≤ 22) (hlat : own_lat ls) :
    MetFree l (⟨"java/lang/StringUTF16", "compress", "([CII)[B"⟩ : MethodName) (head1 (Jvm.Cond.code (⟨"java/lang/StringUTF16", "compress", "([CII)[B"⟩ : MethodName) jdk_52_method_16_code 6 (some (.array .byte)) :: ws) ({ frames := 1, cells := 1, slots := 22, locals := 18 } : Room)) (fun a U => a = #[(.ref s1), (.int (0 : Int32)), (.int (Int32.ofNat ls.length))] ∧ Z.Warmed39 U.vm ∧ U.heap = h0) (fun _ _ _ _ _ => True) (fun _ U o U' => ∃ v L, o = .returned v ∧ Q_comL Z s1 ks ls h0 n0 v U'.heap L ∧ FrameEnd U o U' L ({ frames := 1, cells := 1, slots := 22, locals := 18 } : Room).cells ({ frames := 1, cells := 1, slots := 22, locals := 18 } : Room).slots) := by
  refine MetFree.of_bodySF (plainFor_of_name pn_java_lang_StringUTF16) hisR ?_
  intro p e s m args below meth c s₁ Bd hml0 hP hK
  obtain ⟨rfl, hZ, hh⟩ := hP
  have hx := Bd.exec
  have hby := Bd.bytes
  have hml : c.maxLocals = 6 := hml0
  have hown : s.vm.findClass "java/lang/StringUTF16" = some m.cls := findClass_of_methodNamed Bd.named
  have hnm := (name_of_methodNamed Bd.named Bd.method).1
  have X0 : Stand p l e ({ frames := 1, cells := 1, slots := 22, locals := 18 } : Room) s m #[(.ref s1), (.int (0 : Int32)), (.int (Int32.ofNat ls.length))] below meth c s₁ [] 0 0 := Stand.of_body Bd
  have e0 : s₁.heap = h0 := by rw [← hh, Bd.state]; rfl
  have N0 := Fr.nil n0
  have g0 : Go p e below s₁ (mkF m 0 #[rv s1, iv (0 : Int32), iv (Int32.ofNat ls.length), .unset, .unset, .unset] []) (s₁.setTop (entryFrame m #[(.ref s1), (.int (0 : Int32)), (.int (Int32.ofNat ls.length))] 6)) := fun t kont => castTop (ef_comL m s1 (0 : Int32) (Int32.ofNat ls.length) ) kont
  generalize s₁.setTop (entryFrame m #[(.ref s1), (.int (0 : Int32)), (.int (Int32.ofNat ls.length))] 6) = A0 at g0 ⊢
  have g101 : Go p e below s₁ (mkF m 1 #[rv s1, iv (0 : Int32), iv (Int32.ofNat ls.length), .unset, .unset, .unset] [(.int (Int32.ofNat ls.length))]) A0 := by
    intro t kont
    refine g0 t ?_
    refine XS.iloadN X0.here hx rfl (hb hby d4_0) rfl ?_
    exact kont
  obtain ⟨T102, h102, k102, X102, e102, E102, A102, F102, st102⟩ := newPE X0 hx hZ (hw _ (List.mem_of_getElem? (i := 20) rfl)) e0 (g := (mkF m 1 #[rv s1, iv (0 : Int32), iv (Int32.ofNat ls.length), .unset, .unset, .unset] [(.int (Int32.ofNat ls.length))])) rfl (hb hby d4_1) rfl (own_nonneg (by omega)) (cap := 22) (by rw [own_clamp (by omega)]; omega) (by decide) (by decide) (by decide) (ad := "[B") (by decide)
  obtain ⟨b102, gb102⟩ : ∃ z, z = h0.size := ⟨_, rfl⟩
  rw [← gb102] at A102 F102 st102
  have O103 := O0.ext E102
  have y104 : Arv Z h102 b102 k102 .byte (Int32.ofNat ls.length) (List.replicate ls.length (.int (0 : Int32))) (.int (0 : Int32)) := (Arv.new A102 (own_nonneg (by omega))).pad (pad_rep [] (.int (0 : Int32)) ls.length)
  have g105 : Go p e below T102 (mkF m 3 #[rv s1, iv (0 : Int32), iv (Int32.ofNat ls.length), .unset, .unset, .unset] [(.ref b102)]) A0 := fun t kont => g101 t (st102 t kont)
  have g106 : Go p e below T102 (mkF m 9 #[rv s1, iv (0 : Int32), iv (Int32.ofNat ls.length), rv b102, .unset, .unset] [(.int (Int32.ofNat ls.length)), (.int (0 : Int32)), (.ref b102), (.int (0 : Int32)), (.ref s1)]) A0 := by
    intro t kont
    refine g105 t ?_
    refine XS.astoreN X102.here hx rfl (hb hby d4_3) rfl rfl (l' := #[rv s1, iv (0 : Int32), iv (Int32.ofNat ls.length), rv b102, .unset, .unset]) rfl ?_
    refine XS.aloadN X102.here hx rfl (hb hby d4_4) rfl rfl ?_
    refine XS.iloadN X102.here hx rfl (hb hby d4_5) rfl ?_
    refine XS.aloadN X102.here hx rfl (hb hby d4_6) rfl rfl ?_
    refine XS.iconst X102.here hx rfl (hb hby d4_7) ?_
    refine XS.iloadN X102.here hx rfl (hb hby d4_8) rfl ?_
    exact kont
  have y108 : Arv Z h102 s1 ks .char (Int32.ofNat ls.length) (ls.map Value.int) (.int (0 : Int32)) := (A0_.ext E102)
  have ge109 : n0 ≤ b102 := Nat.le_trans (own_old_le O0) (Nat.le_of_eq gb102.symm)
  obtain ⟨_, _, ⟨T107, L107, k107, n107⟩, -, X107, ⟨Lc107, hQ107, l107, y107, z107⟩, st107⟩ := Jvm.LawKit.callS X102 hx (y := (⟨"java/lang/StringUTF16", "compress", "([CI[BII)I"⟩ : MethodName)) hown (mvT hZ (hw _ (List.mem_of_getElem? (i := 21) rfl))) (mvT hZ (hw _ (List.mem_of_getElem? (i := 22) rfl))) (mvT hZ (hw _ (List.mem_of_getElem? (i := 18) rfl))) (mvT hZ (hw _ (List.mem_of_getElem? (i := 23) rfl))) (by decide) (backOf (W := 0) (rm_cmpG l Z a0 hw [] s1 b102 ks k102 ls ls.length h102 n0 O103 y108 y104 ge109 (Nat.ne_of_lt (Nat.lt_of_lt_of_le A0_.lt (Nat.le_of_eq gb102.symm))) hB (Nat.le_refl _) (hlat) (fun q => absurd q (Nat.lt_irrefl _))) hZ (hw _ (List.mem_of_getElem? (i := 23) rfl)) (hw _ (List.mem_of_getElem? (i := 18) rfl)) (by decide) (by decide)) (g := (mkF m 9 #[rv s1, iv (0 : Int32), iv (Int32.ofNat ls.length), rv b102, .unset, .unset] [(.int (Int32.ofNat ls.length)), (.int (0 : Int32)), (.ref b102), (.int (0 : Int32)), (.ref s1)])) rfl (by rw [hml]; rfl) (argsL := [(.ref s1), (.int (0 : Int32)), (.ref b102), (.int (0 : Int32)), (.int (Int32.ofNat ls.length))]) (rest := []) (lenOf pd_3 rfl) rfl (by show 2 * 0 + _ ≤ _; exact Nat.le_of_eq rfl) (hb hby d4_9) (fun _ _ => ⟨rfl, e102, (by decide : 1 + 0 ≤ _), (by decide : 22 + 0 ≤ _)⟩)
  dsimp only [Pt.U, Pt.locs, Pt.cells, Pt.slots] at X107 l107 y107 z107 st107 hQ107
  subst y107 z107
  obtain ⟨rfl, M107, K107, y110⟩ := hQ107
  have N107 : Fr n0 L107 := by rw [l107]; exact Fr.app N0 M107
  have O111 := O103.keep K107 (allS ge109 all0)
  have g112 : Go p e below T107 (mkF m 12 #[rv s1, iv (0 : Int32), iv (Int32.ofNat ls.length), rv b102, .unset, .unset] [(.int (Int32.ofNat ls.length))]) A0 := fun t kont => g106 t (st107 t kont)
  have y113 : Arv Z T107.heap b102 k102 .byte (Int32.ofNat ls.length) (own_lb ls) (.int (0 : Int32)) := (own_Fn ls) ▸ y110
  have g114 : Go p e below T107 (mkF m 58 #[rv s1, iv (0 : Int32), iv (Int32.ofNat ls.length), rv b102, iv (Int32.ofNat ls.length), .unset] [(.ref b102)]) A0 := by
    intro t kont
    refine g112 t ?_
    refine XS.istore X107.here hx rfl (hb hby d4_12) rfl (l' := #[rv s1, iv (0 : Int32), iv (Int32.ofNat ls.length), rv b102, iv (Int32.ofNat ls.length), .unset]) rfl ?_
    refine XS.iload X107.here hx rfl (hb hby d4_14) rfl ?_
    refine XS.iloadN X107.here hx rfl (hb hby d4_16) rfl ?_
    refine XS.icmpYes X107.here hx rfl (pc0 := 17) (pc' := 57) rfl (hb hby d4_17) rfl (teq (rfl : (Int32.ofNat ls.length) = (Int32.ofNat ls.length))).1 (by decide) (by decide) ?_
    refine XS.aloadN X107.here hx rfl (hb hby d4_57) rfl rfl ?_
    exact kont
  have K115 : Keep h0 T107.heap [] := (((Keep.refl h0 []).ext E102).trans K107 (allS (P := fun x => x ∈ [] ∨ h0.size ≤ x) (Or.inr (Nat.le_of_eq gb102.symm)) all0))
  have y116 : Exa Z T107.heap b102 "[B" := (F102.keep K107)
  obtain ⟨fs, hr, hrun, hended, hW, hsame⟩ := X107.leave (v := some (.ref b102)) (fun h => by rw [Bd.returns] at h; cases h)
  refine ⟨_, _, g114 _ (retOut X107 hx Bd.returns rfl (Or.inr (Or.inr (Or.inr (Or.inr ⟨rfl, rfl, rfl⟩)))) (hb hby d4_58) hr), hrun, hended, _, _, rfl, ?_, ⟨_, rfl⟩, hW, hsame.mono (by decide) (by decide)⟩
  show Q_comL Z s1 ks ls h0 n0 _ T107.heap _
  exact ⟨b102, k102, rfl, N107, K115, (Nat.le_of_eq gb102.symm), y116, y113⟩
theorem d6_0 : decode jdk_52_method_15_code 0 = .ok (.iload_n 1, 1) := by decide +kernel
theorem d6_1 : decode jdk_52_method_15_code 1 = .ok (.aload_n 0, 1) := by decide +kernel
theorem d6_2 : decode jdk_52_method_15_code 2 = .ok (.arraylength, 1) := by decide +kernel
theorem d6_3 : decode jdk_52_method_15_code 3 = .ok (.isub, 1) := by decide +kernel
theorem d6_4 : decode jdk_52_method_15_code 4 = .ok (.bipush 31, 2) := by decide +kernel
theorem d6_6 : decode jdk_52_method_15_code 6 = .ok (.iushr, 1) := by decide +kernel
theorem d6_7 : decode jdk_52_method_15_code 7 = .ok (.i2b, 1) := by decide +kernel
theorem d6_8 : decode jdk_52_method_15_code 8 = .ok (.ireturn, 1) := by decide +kernel
theorem ef_cfaL (m : MethodId) (x0 : Addr) (x1 : Int32)  : entryFrame m #[(.ref x0), (.int x1)] 2 = mkF m 0 #[.val (.ref x0), .val (.int x1)] [] := by first | (simp [entryFrame, mkF, argsToLocals, Value.category]; done) | rfl
def Q_cfaL (Z : State) (b1 : Addr) (kid : ClassId) (vs : List Value) (ls : List Int32) (h0 : Heap) (n0 : Nat) (v : Option Value) (h : Heap) (L : List Loc) : Prop := v = some (.int (0 : Int32)) ∧ Fr n0 L ∧ h = h0
set_option maxRecDepth 65536 in
set_option maxHeartbeats 40000000 in
theorem rm_cfaL (l : Launch) (Z : State) (a0 : Array Value) (hw : ∀ d ∈ tables_1, d.before a0 Z = true) (ws : List Jvm.Cond) (b1 : Addr) (kid : ClassId) (vs : List Value) (ls : List Int32) (h0 : Heap) (n0 : Nat) (O0 : Old Z n0 h0) (A0_ : Arv Z h0 b1 kid .byte (Int32.ofNat ls.length) vs (.int (0 : Int32))) :
    MetFree l (⟨"java/lang/StringUTF16", "coderFromArrayLen", "([BI)B"⟩ : MethodName) (head1 (Jvm.Cond.code (⟨"java/lang/StringUTF16", "coderFromArrayLen", "([BI)B"⟩ : MethodName) jdk_52_method_15_code 2 (some .byte) :: ws) ({ frames := 0, cells := 0, slots := 0, locals := 0 } : Room)) (fun a U => a = #[(.ref b1), (.int (Int32.ofNat ls.length))] ∧ Z.Warmed39 U.vm ∧ U.heap = h0) (fun _ _ _ _ _ => True) (fun _ U o U' => ∃ v L, o = .returned v ∧ Q_cfaL Z b1 kid vs ls h0 n0 v U'.heap L ∧ FrameEnd U o U' L ({ frames := 0, cells := 0, slots := 0, locals := 0 } : Room).cells ({ frames := 0, cells := 0, slots := 0, locals := 0 } : Room).slots) := by
  refine MetFree.of_bodySF (plainFor_of_name pn_java_lang_StringUTF16) hisR ?_
  intro p e s m args below meth c s₁ Bd hml0 hP hK
  obtain ⟨rfl, hZ, hh⟩ := hP
  have hx := Bd.exec
  have hby := Bd.bytes
  have hml : c.maxLocals = 2 := hml0
  have hown : s.vm.findClass "java/lang/StringUTF16" = some m.cls := findClass_of_methodNamed Bd.named
  have hnm := (name_of_methodNamed Bd.named Bd.method).1
  have X0 : Stand p l e ({ frames := 0, cells := 0, slots := 0, locals := 0 } : Room) s m #[(.ref b1), (.int (Int32.ofNat ls.length))] below meth c s₁ [] 0 0 := Stand.of_body Bd
  have e0 : s₁.heap = h0 := by rw [← hh, Bd.state]; rfl
  have N0 := Fr.nil n0
  have g0 : Go p e below s₁ (mkF m 0 #[rv b1, iv (Int32.ofNat ls.length)] []) (s₁.setTop (entryFrame m #[(.ref b1), (.int (Int32.ofNat ls.length))] 2)) := fun t kont => castTop (ef_cfaL m b1 (Int32.ofNat ls.length) ) kont
  generalize s₁.setTop (entryFrame m #[(.ref b1), (.int (Int32.ofNat ls.length))] 2) = A0 at g0 ⊢
  have g101 : Go p e below s₁ (mkF m 2 #[rv b1, iv (Int32.ofNat ls.length)] [(.ref b1), (.int (Int32.ofNat ls.length))]) A0 := by
    intro t kont
    refine g0 t ?_
    refine XS.iloadN X0.here hx rfl (hb hby d6_0) rfl ?_
    refine XS.aloadN X0.here hx rfl (hb hby d6_1) rfl rfl ?_
    exact kont
  have zz102 := A0_
  obtain ⟨cl102, Ar102, -, S102, M102, -, -⟩ := zz102
  have g103 : Go p e below s₁ (mkF m 3 #[rv b1, iv (Int32.ofNat ls.length)] [(.int (Int32.ofNat ls.length)), (.int (Int32.ofNat ls.length))]) A0 := by
    intro t kont
    refine g101 t ?_
    refine X0.arraylength hx (by rw [e0]; exact Ar102.1) (State.isArrayOf_alike hZ.alike Ar102.2.1) (g := (mkF m 2 #[rv b1, iv (Int32.ofNat ls.length)] [(.ref b1), (.int (Int32.ofNat ls.length))])) rfl rfl (hb hby d6_2) _ ?_
    rw [len_of S102 M102]
    exact kont
  have g104 : Go p e below s₁ (mkF m 8 #[rv b1, iv (Int32.ofNat ls.length)] [(.int (((((Int32.ofNat ls.length) - (Int32.ofNat ls.length)).toUInt32 >>> ((31 : Int32) &&& 31).toUInt32).toInt32).toInt8.toInt32))]) A0 := by
    intro t kont
    refine g103 t ?_
    refine XS.isub X0.here hx rfl (hb hby d6_3) rfl ?_
    refine XS.bipush X0.here hx rfl (hb hby d6_4) ?_
    refine XS.iushr X0.here hx rfl (hb hby d6_6) rfl ?_
    refine XS.i2b X0.here hx rfl (hb hby d6_7) rfl ?_
    exact kont
  obtain ⟨fs, hr, hrun, hended, hW, hsame⟩ := X0.leave (v := some (.int (((((Int32.ofNat ls.length) - (Int32.ofNat ls.length)).toUInt32 >>> ((31 : Int32) &&& 31).toUInt32).toInt32).toInt8.toInt32))) (fun h => by rw [Bd.returns] at h; cases h)
  refine ⟨_, _, g104 _ (retN X0 hx (t := .byte) Bd.returns (by simp) (hb hby d6_8) (by rw [(own_narb _)]; exact hr)), hrun, hended, _, _, rfl, ?_, ⟨_, rfl⟩, hW, hsame.mono (by decide) (by decide)⟩
  show Q_cfaL Z b1 kid vs ls h0 n0 _ s₁.heap _
  rw [e0]
  exact ⟨congrArg (fun z => some (Value.int z)) (own_cfa0 _), N0, rfl⟩
theorem d2_0 : decode jdk_42_method_149_code 0 = .ok (.aload_n 0, 1) := by decide +kernel
theorem d2_1 : decode jdk_42_method_149_code 1 = .ok (.invokespecial 1, 3) := by decide +kernel
theorem d2_4 : decode jdk_42_method_149_code 4 = .ok (.iload_n 3, 1) := by decide +kernel
theorem d2_5 : decode jdk_42_method_149_code 5 = .ok (.ifCond .ne 22, 3) := by decide +kernel
theorem d2_27 : decode jdk_42_method_149_code 27 = .ok (.getstatic 38, 3) := by decide +kernel
theorem d2_30 : decode jdk_42_method_149_code 30 = .ok (.ifCond .eq 28, 3) := by decide +kernel
theorem d2_33 : decode jdk_42_method_149_code 33 = .ok (.aload_n 1, 1) := by decide +kernel
theorem d2_34 : decode jdk_42_method_149_code 34 = .ok (.iload_n 2, 1) := by decide +kernel
theorem d2_35 : decode jdk_42_method_149_code 35 = .ok (.iload_n 3, 1) := by decide +kernel
theorem d2_36 : decode jdk_42_method_149_code 36 = .ok (.invokestatic 177, 3) := by decide +kernel
theorem pd_4 : parseMethodDescriptor "([CII)[B" = some ⟨[(.array .char), .int, .int], some (.array .byte)⟩ := by decide +kernel
theorem d2_39 : decode jdk_42_method_149_code 39 = .ok (.astore 5, 2) := by decide +kernel
theorem d2_41 : decode jdk_42_method_149_code 41 = .ok (.aload_n 0, 1) := by decide +kernel
theorem d2_42 : decode jdk_42_method_149_code 42 = .ok (.aload 5, 2) := by decide +kernel
theorem d2_44 : decode jdk_42_method_149_code 44 = .ok (.iload_n 3, 1) := by decide +kernel
theorem d2_45 : decode jdk_42_method_149_code 45 = .ok (.invokestatic 47, 3) := by decide +kernel
theorem pd_5 : parseMethodDescriptor "([BI)B" = some ⟨[(.array .byte), .int], some .byte⟩ := by decide +kernel
theorem d2_48 : decode jdk_42_method_149_code 48 = .ok (.putfield 15, 3) := by decide +kernel
theorem d2_51 : decode jdk_42_method_149_code 51 = .ok (.aload_n 0, 1) := by decide +kernel
theorem d2_52 : decode jdk_42_method_149_code 52 = .ok (.aload 5, 2) := by decide +kernel
theorem d2_54 : decode jdk_42_method_149_code 54 = .ok (.putfield 9, 3) := by decide +kernel
theorem d2_57 : decode jdk_42_method_149_code 57 = .ok (.return_, 1) := by decide +kernel
theorem ef_sinL (m : MethodId) (x0 : Addr) (x1 : Addr) (x2 : Int32) (x3 : Int32)  : entryFrame m #[(.ref x0), (.ref x1), (.int x2), (.int x3), .null] 6 = mkF m 0 #[.val (.ref x0), .val (.ref x1), .val (.int x2), .val (.int x3), .val .null, .unset] [] := by first | (simp [entryFrame, mkF, argsToLocals, Value.category]; done) | rfl
def Q_sinL (Z : State) (a1 : Addr) (s1 : Addr) (ks : ClassId) (ls : List Int32) (cs : Int32) (h0 : Heap) (n0 : Nat) (v : Option Value) (h : Heap) (L : List Loc) : Prop := ∃ (r : Addr), ∃ (kid : ClassId), v = none ∧ Fr n0 L ∧ Keep h0 h [a1] ∧ (Exa Z h a1 "java/lang/String") ∧ (Fld Z h a1 "java/lang/String" "coder" "B" (.int (0 : Int32))) ∧ (Fld Z h a1 "java/lang/String" "value" "[B" (.ref r)) ∧ h0.size ≤ r ∧ (Arv Z h r kid .byte (Int32.ofNat ls.length) (own_lb ls) (.int (0 : Int32)))
set_option maxRecDepth 65536 in
set_option maxHeartbeats 40000000 in
theorem rm_sinL (l : Launch) (Z : State) (a0 : Array Value) (hw : ∀ d ∈ tables_1, d.before a0 Z = true) (ws : List Jvm.Cond) (a1 : Addr) (s1 : Addr) (ks : ClassId) (ls : List Int32) (cs : Int32) (h0 : Heap) (n0 : Nat) (O0 : Old Z n0 h0) (F0_ : Fld Z h0 a1 "java/lang/String" "value" "[B" .null) (F1_ : Fld Z h0 a1 "java/lang/String" "coder" "B" (.int (0 : Int32))) (E2_ : Exa Z h0 a1 "java/lang/String") (G3_ : n0 ≤ a1) (A4_ : Arv Z h0 s1 ks .char (Int32.ofNat ls.length) (ls.map Value.int) (.int (0 : Int32))) (hB : ls.length ≤ 22) (hn0 : 0 < ls.length) (hlat : own_lat ls) (S8_ : Sta Z Z.heap "java/lang/String" "COMPACT_STRINGS" "Z" (.int cs)) (hcs : ¬ (cs = (0 : Int32))) :
    MetFree l (⟨"java/lang/String", "<init>", "([CIILjava/lang/Void;)V"⟩ : MethodName) (head1 (Jvm.Cond.code (⟨"java/lang/String", "<init>", "([CIILjava/lang/Void;)V"⟩ : MethodName) jdk_42_method_149_code 6 none :: ws) ({ frames := 2, cells := 1, slots := 22, locals := 35 } : Room)) (fun a U => a = #[(.ref a1), (.ref s1), (.int (0 : Int32)), (.int (Int32.ofNat ls.length)), .null] ∧ Z.Warmed39 U.vm ∧ U.heap = h0) (fun _ _ _ _ _ => True) (fun _ U o U' => ∃ v L, o = .returned v ∧ Q_sinL Z a1 s1 ks ls cs h0 n0 v U'.heap L ∧ FrameEnd U o U' L ({ frames := 2, cells := 1, slots := 22, locals := 35 } : Room).cells ({ frames := 2, cells := 1, slots := 22, locals := 35 } : Room).slots) := by
  refine MetFree.of_bodySF (plainFor_of_name pn_java_lang_String) hisR ?_
  intro p e s m args below meth c s₁ Bd hml0 hP hK
  obtain ⟨rfl, hZ, hh⟩ := hP
  have hx := Bd.exec
  have hby := Bd.bytes
  have hml : c.maxLocals = 6 := hml0
  have hown : s.vm.findClass "java/lang/String" = some m.cls := findClass_of_methodNamed Bd.named
  have hnm := (name_of_methodNamed Bd.named Bd.method).1
  have X0 : Stand p l e ({ frames := 2, cells := 1, slots := 22, locals := 35 } : Room) s m #[(.ref a1), (.ref s1), (.int (0 : Int32)), (.int (Int32.ofNat ls.length)), .null] below meth c s₁ [] 0 0 := Stand.of_body Bd
  have e0 : s₁.heap = h0 := by rw [← hh, Bd.state]; rfl
  have N0 := Fr.nil n0
  have g0 : Go p e below s₁ (mkF m 0 #[rv a1, rv s1, iv (0 : Int32), iv (Int32.ofNat ls.length), .val .null, .unset] []) (s₁.setTop (entryFrame m #[(.ref a1), (.ref s1), (.int (0 : Int32)), (.int (Int32.ofNat ls.length)), .null] 6)) := fun t kont => castTop (ef_sinL m a1 s1 (0 : Int32) (Int32.ofNat ls.length) ) kont
  generalize s₁.setTop (entryFrame m #[(.ref a1), (.ref s1), (.int (0 : Int32)), (.int (Int32.ofNat ls.length)), .null] 6) = A0 at g0 ⊢
  have g101 : Go p e below s₁ (mkF m 1 #[rv a1, rv s1, iv (0 : Int32), iv (Int32.ofNat ls.length), .val .null, .unset] [(.ref a1)]) A0 := by
    intro t kont
    refine g0 t ?_
    refine XS.aloadN X0.here hx rfl (hb hby d2_0) rfl rfl ?_
    exact kont
  obtain ⟨T102, X102, e102, st102⟩ := initO X0 hx hZ hown (hw _ (List.mem_of_getElem? (i := 12) rfl)) (hw _ (List.mem_of_getElem? (i := 13) rfl)) (hw _ (List.mem_of_getElem? (i := 14) rfl)) e0 (g := (mkF m 1 #[rv a1, rv s1, iv (0 : Int32), iv (Int32.ofNat ls.length), .val .null, .unset] [(.ref a1)])) rfl (by rw [hml]; rfl) rfl (hb hby d2_1) (by decide) (W := 0) (by show 2 * 0 + _ ≤ _; exact Nat.le_of_eq rfl) (by decide)
  have g103 : Go p e below T102 (mkF m 4 #[rv a1, rv s1, iv (0 : Int32), iv (Int32.ofNat ls.length), .val .null, .unset] []) A0 := fun t kont => g101 t (st102 t kont)
  have g104 : Go p e below T102 (mkF m 27 #[rv a1, rv s1, iv (0 : Int32), iv (Int32.ofNat ls.length), .val .null, .unset] []) A0 := by
    intro t kont
    refine g103 t ?_
    refine XS.iloadN X102.here hx rfl (hb hby d2_4) rfl ?_
    refine XS.ifYes X102.here hx rfl (pc0 := 5) (pc' := 27) rfl (hb hby d2_5) rfl ((if0 _ _).trans (feq (own_inj (b := 0) (by omega) (by omega) (by omega) : ¬ ((Int32.ofNat ls.length) = (0 : Int32)))).2) (by decide) (by decide) ?_
    exact kont
  have y105 : Sta Z h0 "java/lang/String" "COMPACT_STRINGS" "Z" (.int cs) := S8_.ext O0.2
  obtain ⟨T106, X106, e106, st106⟩ := getS2 X102 hx hZ hown (host := "") (Or.inl (hw _ (List.mem_of_getElem? (i := 15) rfl))) Via.refl e102 y105 (g := (mkF m 27 #[rv a1, rv s1, iv (0 : Int32), iv (Int32.ofNat ls.length), .val .null, .unset] [])) rfl (hb hby d2_27)
  have g107 : Go p e below T106 (mkF m 30 #[rv a1, rv s1, iv (0 : Int32), iv (Int32.ofNat ls.length), .val .null, .unset] [(.int cs)]) A0 := fun t kont => g104 t (st106 t kont)
  have g108 : Go p e below T106 (mkF m 36 #[rv a1, rv s1, iv (0 : Int32), iv (Int32.ofNat ls.length), .val .null, .unset] [(.int (Int32.ofNat ls.length)), (.int (0 : Int32)), (.ref s1)]) A0 := by
    intro t kont
    refine g107 t ?_
    refine XS.ifNo X106.here hx rfl (hb hby d2_30) rfl ((if0 _ _).trans (feq hcs).1) ?_
    refine XS.aloadN X106.here hx rfl (hb hby d2_33) rfl rfl ?_
    refine XS.iloadN X106.here hx rfl (hb hby d2_34) rfl ?_
    refine XS.iloadN X106.here hx rfl (hb hby d2_35) rfl ?_
    exact kont
  obtain ⟨_, _, ⟨T109, L109, k109, n109⟩, -, X109, ⟨Lc109, hQ109, l109, y109, z109⟩, st109⟩ := Jvm.LawKit.callS X106 hx (y := (⟨"java/lang/StringUTF16", "compress", "([CII)[B"⟩ : MethodName)) hown (mvT hZ (hw _ (List.mem_of_getElem? (i := 16) rfl))) (mvT hZ (hw _ (List.mem_of_getElem? (i := 17) rfl))) (mvT hZ (hw _ (List.mem_of_getElem? (i := 18) rfl))) (mvT hZ (hw _ (List.mem_of_getElem? (i := 19) rfl))) (by decide) (backOf (W := 0) (rm_comL l Z a0 hw [] s1 ks ls h0 n0 O0 A4_ hB hlat) hZ (hw _ (List.mem_of_getElem? (i := 19) rfl)) (hw _ (List.mem_of_getElem? (i := 18) rfl)) (by decide) (by decide)) (g := (mkF m 36 #[rv a1, rv s1, iv (0 : Int32), iv (Int32.ofNat ls.length), .val .null, .unset] [(.int (Int32.ofNat ls.length)), (.int (0 : Int32)), (.ref s1)])) rfl (by rw [hml]; rfl) (argsL := [(.ref s1), (.int (0 : Int32)), (.int (Int32.ofNat ls.length))]) (rest := []) (lenOf pd_4 rfl) rfl (by show 2 * 0 + _ ≤ _; exact Nat.le_of_eq rfl) (hb hby d2_36) (fun _ _ => ⟨rfl, e106, (by decide : 0 + 1 ≤ _), (by decide : 0 + 22 ≤ _)⟩)
  dsimp only [Pt.U, Pt.locs, Pt.cells, Pt.slots] at X109 l109 y109 z109 st109 hQ109
  subst y109 z109
  obtain ⟨r110, r111, rfl, M109, K109, y112, y113, y114⟩ := hQ109
  have N109 : Fr n0 L109 := by rw [l109]; exact Fr.app N0 M109
  have O115 := O0.keep K109 all0
  have g116 : Go p e below T109 (mkF m 39 #[rv a1, rv s1, iv (0 : Int32), iv (Int32.ofNat ls.length), .val .null, .unset] [(.ref r110)]) A0 := fun t kont => g108 t (st109 t kont)
  have g117 : Go p e below T109 (mkF m 45 #[rv a1, rv s1, iv (0 : Int32), iv (Int32.ofNat ls.length), .val .null, rv r110] [(.int (Int32.ofNat ls.length)), (.ref r110), (.ref a1)]) A0 := by
    intro t kont
    refine g116 t ?_
    refine XS.astore X109.here hx rfl (hb hby d2_39) rfl rfl (l' := #[rv a1, rv s1, iv (0 : Int32), iv (Int32.ofNat ls.length), .val .null, rv r110]) rfl ?_
    refine XS.aloadN X109.here hx rfl (hb hby d2_41) rfl rfl ?_
    refine XS.aload X109.here hx rfl (hb hby d2_42) rfl rfl ?_
    refine XS.iloadN X109.here hx rfl (hb hby d2_44) rfl ?_
    exact kont
  obtain ⟨_, _, ⟨T118, L118, k118, n118⟩, -, X118, ⟨Lc118, hQ118, l118, y118, z118⟩, st118⟩ := Jvm.LawKit.callS X109 hx (y := (⟨"java/lang/StringUTF16", "coderFromArrayLen", "([BI)B"⟩ : MethodName)) hown (mvT hZ (hw _ (List.mem_of_getElem? (i := 24) rfl))) (mvT hZ (hw _ (List.mem_of_getElem? (i := 25) rfl))) (mvT hZ (hw _ (List.mem_of_getElem? (i := 18) rfl))) (mvT hZ (hw _ (List.mem_of_getElem? (i := 26) rfl))) (by decide) (backOf (W := 1) (rm_cfaL l Z a0 hw [] r110 r111 (own_lb ls) ls T109.heap n0 O115 y114) hZ (hw _ (List.mem_of_getElem? (i := 26) rfl)) (hw _ (List.mem_of_getElem? (i := 18) rfl)) (by decide) (by decide)) (g := (mkF m 45 #[rv a1, rv s1, iv (0 : Int32), iv (Int32.ofNat ls.length), .val .null, rv r110] [(.int (Int32.ofNat ls.length)), (.ref r110), (.ref a1)])) rfl (by rw [hml]; rfl) (argsL := [(.ref r110), (.int (Int32.ofNat ls.length))]) (rest := [(.ref a1)]) (lenOf pd_5 rfl) rfl (by show 2 * 0 + _ ≤ _; exact Nat.le_of_eq rfl) (hb hby d2_45) (fun _ _ => ⟨rfl, rfl, (by decide : 1 + 0 ≤ _), (by decide : 22 + 0 ≤ _)⟩)
  dsimp only [Pt.U, Pt.locs, Pt.cells, Pt.slots] at X118 l118 y118 z118 st118 hQ118
  subst y118 z118
  obtain ⟨rfl, M118, e118⟩ := hQ118
  have N118 : Fr n0 L118 := by rw [l118]; exact Fr.app N109 M118
  have g119 : Go p e below T118 (mkF m 48 #[rv a1, rv s1, iv (0 : Int32), iv (Int32.ofNat ls.length), .val .null, rv r110] [(.int (0 : Int32)), (.ref a1)]) A0 := fun t kont => g117 t (st118 t kont)
  have y120 : Exa Z T109.heap a1 "java/lang/String" := (E2_.keep K109)
  have y121 : Fld Z T109.heap a1 "java/lang/String" "coder" "B" (.int (0 : Int32)) := (F1_.keep K109 nin0)
  obtain ⟨T122, h122, X122, e122, W122, st122⟩ := putFN X118 hx hZ hown (hw _ (List.mem_of_getElem? (i := 27) rfl)) Via.refl e118 y121 y120 (Or.inr ⟨(hw _ (List.mem_of_getElem? (i := 28) rfl)), rfl, hnm⟩) (hw _ (List.mem_of_getElem? (i := 3) rfl)) (ty := .byte) (v := (.int (0 : Int32))) (v' := (.int (0 : Int32))) (by decide) (own_nw_byte (by decide : nar .byte (0 : Int32) = (0 : Int32))) (own_ft_byte (by decide : nar .byte (0 : Int32) = (0 : Int32))) (g := (mkF m 48 #[rv a1, rv s1, iv (0 : Int32), iv (Int32.ofNat ls.length), .val .null, rv r110] [(.int (0 : Int32)), (.ref a1)])) rfl rfl (hb hby d2_48)
  have O123 := O115.wr W122 G3_
  have y124 : Fld Z h122 a1 "java/lang/String" "coder" "B" (.int (0 : Int32)) := y121.same W122
  have N122 := Fr.snoc X122 N118 G3_
  have g125 : Go p e below T122 (mkF m 51 #[rv a1, rv s1, iv (0 : Int32), iv (Int32.ofNat ls.length), .val .null, rv r110] []) A0 := fun t kont => g119 t (st122 t kont)
  have g126 : Go p e below T122 (mkF m 54 #[rv a1, rv s1, iv (0 : Int32), iv (Int32.ofNat ls.length), .val .null, rv r110] [(.ref r110), (.ref a1)]) A0 := by
    intro t kont
    refine g125 t ?_
    refine XS.aloadN X122.here hx rfl (hb hby d2_51) rfl rfl ?_
    refine XS.aload X122.here hx rfl (hb hby d2_52) rfl rfl ?_
    exact kont
  have y127 : Exa Z h122 a1 "java/lang/String" := (y120.wr W122)
  have y128 : Fld Z h122 a1 "java/lang/String" "value" "[B" .null := ((F0_.keep K109 nin0).other W122 (Or.inr (slot_ne (Or.inr (hw _ (List.mem_of_getElem? (i := 30) rfl))) (Or.inr (hw _ (List.mem_of_getElem? (i := 28) rfl))) (by decide) (t := (.array .byte)) (t' := .byte) (by decide) (by decide))))
  obtain ⟨T129, h129, X129, e129, W129, st129⟩ := putF X122 hx hZ hown (host := "") (Or.inl (hw _ (List.mem_of_getElem? (i := 29) rfl))) Via.refl e122 y128 y127 (Or.inr ⟨(hw _ (List.mem_of_getElem? (i := 30) rfl)), rfl, hnm⟩) (hw _ (List.mem_of_getElem? (i := 3) rfl)) (ty := (.array .byte)) (by decide) rfl rfl (g := (mkF m 54 #[rv a1, rv s1, iv (0 : Int32), iv (Int32.ofNat ls.length), .val .null, rv r110] [(.ref r110), (.ref a1)])) rfl rfl (hb hby d2_54)
  have O130 := O123.wr W129 G3_
  have y131 : Fld Z h129 a1 "java/lang/String" "value" "[B" (.ref r110) := y128.same W129
  have N129 := Fr.snoc X129 N122 G3_
  have g132 : Go p e below T129 (mkF m 57 #[rv a1, rv s1, iv (0 : Int32), iv (Int32.ofNat ls.length), .val .null, rv r110] []) A0 := fun t kont => g126 t (st129 t kont)
  have K133 : Keep h0 h129 [a1] := ((((Keep.refl h0 [a1]).trans K109 (fun x hx => nomatch hx)).wr W122 (Or.inl (List.mem_of_getElem? (i := 0) rfl))).wr W129 (Or.inl (List.mem_of_getElem? (i := 0) rfl)))
  have y134 : Exa Z h129 a1 "java/lang/String" := (y127.wr W129)
  have y135 : Fld Z h129 a1 "java/lang/String" "coder" "B" (.int (0 : Int32)) := (y124.other W129 (Or.inr (slot_ne (Or.inr (hw _ (List.mem_of_getElem? (i := 28) rfl))) (Or.inr (hw _ (List.mem_of_getElem? (i := 30) rfl))) (by decide) (t := .byte) (t' := (.array .byte)) (by decide) (by decide))))
  have y136 : Arv Z h129 r110 r111 .byte (Int32.ofNat ls.length) (own_lb ls) (.int (0 : Int32)) := ((y114.other W122 (Ne.symm (Nat.ne_of_lt (Nat.lt_of_lt_of_le F0_.lt y112)))).other W129 (Ne.symm (Nat.ne_of_lt (Nat.lt_of_lt_of_le F0_.lt y112))))
  obtain ⟨fs, hr, hrun, hended, hW, hsame⟩ := X129.leave (v := none) (fun _ => rfl)
  refine ⟨_, _, g132 _ (X129.returnOut hx Bd.returns (hb hby d2_57) hr), hrun, hended, _, _, rfl, ?_, ⟨_, rfl⟩, hW, hsame.mono (by decide) (by decide)⟩
  show Q_sinL Z a1 s1 ks ls cs h0 n0 _ T129.heap _
  rw [e129]
  exact ⟨r110, r111, rfl, N129, K133, y134, y135, y131, y112, y136⟩
theorem d1_0 : decode jdk_42_method_3_code 0 = .ok (.aload_n 0, 1) := by decide +kernel
theorem d1_1 : decode jdk_42_method_3_code 1 = .ok (.aload_n 1, 1) := by decide +kernel
theorem d1_2 : decode jdk_42_method_3_code 2 = .ok (.iconst 0, 1) := by decide +kernel
theorem d1_3 : decode jdk_42_method_3_code 3 = .ok (.aload_n 1, 1) := by decide +kernel
theorem d1_4 : decode jdk_42_method_3_code 4 = .ok (.arraylength, 1) := by decide +kernel
theorem d1_5 : decode jdk_42_method_3_code 5 = .ok (.aconst_null, 1) := by decide +kernel
theorem d1_6 : decode jdk_42_method_3_code 6 = .ok (.invokespecial 27, 3) := by decide +kernel
theorem pd_6 : parseMethodDescriptor "([CIILjava/lang/Void;)V" = some ⟨[(.array .char), .int, .int, (.object "java/lang/Void")], none⟩ := by decide +kernel
theorem d1_9 : decode jdk_42_method_3_code 9 = .ok (.return_, 1) := by decide +kernel
theorem ef_sIniL (m : MethodId) (x0 : Addr) (x1 : Addr)  : entryFrame m #[(.ref x0), (.ref x1)] 2 = mkF m 0 #[.val (.ref x0), .val (.ref x1)] [] := by first | (simp [entryFrame, mkF, argsToLocals, Value.category]; done) | rfl
def Q_sIniL (Z : State) (a1 : Addr) (s1 : Addr) (ks : ClassId) (ls : List Int32) (cs : Int32) (h0 : Heap) (n0 : Nat) (v : Option Value) (h : Heap) (L : List Loc) : Prop := ∃ (r : Addr), ∃ (kid : ClassId), v = none ∧ Fr n0 L ∧ Keep h0 h [a1] ∧ (Exa Z h a1 "java/lang/String") ∧ (Fld Z h a1 "java/lang/String" "coder" "B" (.int (0 : Int32))) ∧ (Fld Z h a1 "java/lang/String" "value" "[B" (.ref r)) ∧ h0.size ≤ r ∧ (Arv Z h r kid .byte (Int32.ofNat ls.length) (own_lb ls) (.int (0 : Int32)))
set_option maxRecDepth 65536 in
set_option maxHeartbeats 40000000 in
theorem rm_sIniL (l : Launch) (Z : State) (a0 : Array Value) (hw : ∀ d ∈ tables_1, d.before a0 Z = true) (ws : List Jvm.Cond) (a1 : Addr) (s1 : Addr) (ks : ClassId) (ls : List Int32) (cs : Int32) (h0 : Heap) (n0 : Nat) (O0 : Old Z n0 h0) (F0_ : Fld Z h0 a1 "java/lang/String" "value" "[B" .null) (F1_ : Fld Z h0 a1 "java/lang/String" "coder" "B" (.int (0 : Int32))) (E2_ : Exa Z h0 a1 "java/lang/String") (G3_ : n0 ≤ a1) (A4_ : Arv Z h0 s1 ks .char (Int32.ofNat ls.length) (ls.map Value.int) (.int (0 : Int32))) (hB : ls.length ≤ 22) (hn0 : 0 < ls.length) (hlat : own_lat ls) (S8_ : Sta Z Z.heap "java/lang/String" "COMPACT_STRINGS" "Z" (.int cs)) (hcs : ¬ (cs = (0 : Int32))) :
    MetFree l (⟨"java/lang/String", "<init>", "([C)V"⟩ : MethodName) (head1 (Jvm.Cond.code (⟨"java/lang/String", "<init>", "([C)V"⟩ : MethodName) jdk_42_method_3_code 2 none :: ws) ({ frames := 3, cells := 1, slots := 22, locals := 52 } : Room)) (fun a U => a = #[(.ref a1), (.ref s1)] ∧ Z.Warmed39 U.vm ∧ U.heap = h0) (fun _ _ _ _ _ => True) (fun _ U o U' => ∃ v L, o = .returned v ∧ Q_sIniL Z a1 s1 ks ls cs h0 n0 v U'.heap L ∧ FrameEnd U o U' L ({ frames := 3, cells := 1, slots := 22, locals := 52 } : Room).cells ({ frames := 3, cells := 1, slots := 22, locals := 52 } : Room).slots) := by
  refine MetFree.of_bodySF (plainFor_of_name pn_java_lang_String) hisR ?_
  intro p e s m args below meth c s₁ Bd hml0 hP hK
  obtain ⟨rfl, hZ, hh⟩ := hP
  have hx := Bd.exec
  have hby := Bd.bytes
  have hml : c.maxLocals = 2 := hml0
  have hown : s.vm.findClass "java/lang/String" = some m.cls := findClass_of_methodNamed Bd.named
  have hnm := (name_of_methodNamed Bd.named Bd.method).1
  have X0 : Stand p l e ({ frames := 3, cells := 1, slots := 22, locals := 52 } : Room) s m #[(.ref a1), (.ref s1)] below meth c s₁ [] 0 0 := Stand.of_body Bd
  have e0 : s₁.heap = h0 := by rw [← hh, Bd.state]; rfl
  have N0 := Fr.nil n0
  have g0 : Go p e below s₁ (mkF m 0 #[rv a1, rv s1] []) (s₁.setTop (entryFrame m #[(.ref a1), (.ref s1)] 2)) := fun t kont => castTop (ef_sIniL m a1 s1 ) kont
  generalize s₁.setTop (entryFrame m #[(.ref a1), (.ref s1)] 2) = A0 at g0 ⊢
  have g101 : Go p e below s₁ (mkF m 4 #[rv a1, rv s1] [(.ref s1), (.int (0 : Int32)), (.ref s1), (.ref a1)]) A0 := by
    intro t kont
    refine g0 t ?_
    refine XS.aloadN X0.here hx rfl (hb hby d1_0) rfl rfl ?_
    refine XS.aloadN X0.here hx rfl (hb hby d1_1) rfl rfl ?_
    refine XS.iconst X0.here hx rfl (hb hby d1_2) ?_
    refine XS.aloadN X0.here hx rfl (hb hby d1_3) rfl rfl ?_
    exact kont
  have zz102 := A4_
  obtain ⟨cl102, Ar102, -, S102, M102, -, -⟩ := zz102
  have g103 : Go p e below s₁ (mkF m 5 #[rv a1, rv s1] [(.int (Int32.ofNat ls.length)), (.int (0 : Int32)), (.ref s1), (.ref a1)]) A0 := by
    intro t kont
    refine g101 t ?_
    refine X0.arraylength hx (by rw [e0]; exact Ar102.1) (State.isArrayOf_alike hZ.alike Ar102.2.1) (g := (mkF m 4 #[rv a1, rv s1] [(.ref s1), (.int (0 : Int32)), (.ref s1), (.ref a1)])) rfl rfl (hb hby d1_4) _ ?_
    rw [len_of S102 M102]
    exact kont
  have g104 : Go p e below s₁ (mkF m 6 #[rv a1, rv s1] [.null, (.int (Int32.ofNat ls.length)), (.int (0 : Int32)), (.ref s1), (.ref a1)]) A0 := by
    intro t kont
    refine g103 t ?_
    refine XS.aconstNull X0.here hx rfl (hb hby d1_5) ?_
    exact kont
  obtain ⟨_, _, ⟨T105, L105, k105, n105⟩, -, X105, ⟨Lc105, hQ105, l105, y105, z105⟩, st105⟩ := X0.specialBack hx (y := (⟨"java/lang/String", "<init>", "([CIILjava/lang/Void;)V"⟩ : MethodName)) rfl hown (mvT hZ (hw _ (List.mem_of_getElem? (i := 8) rfl))) (mvT hZ (hw _ (List.mem_of_getElem? (i := 9) rfl))) (mvT hZ (hw _ (List.mem_of_getElem? (i := 11) rfl))) (by decide) (backOf (W := 0) (rm_sinL l Z a0 hw [] a1 s1 ks ls cs h0 n0 O0 F0_ F1_ E2_ G3_ A4_ hB hn0 hlat S8_ hcs) hZ (hw _ (List.mem_of_getElem? (i := 11) rfl)) (hw _ (List.mem_of_getElem? (i := 4) rfl)) (by decide) (by decide)) (g := (mkF m 6 #[rv a1, rv s1] [.null, (.int (Int32.ofNat ls.length)), (.int (0 : Int32)), (.ref s1), (.ref a1)])) rfl (by rw [hml]; rfl) (Steps.refl _) (a := a1) (argsL := [(.ref s1), (.int (0 : Int32)), (.int (Int32.ofNat ls.length)), .null]) (rest := []) (lenOf pd_6 rfl) rfl (by show 2 * 0 + _ ≤ _; exact Nat.le_of_eq rfl) (hb hby d1_6) (fun _ _ => ⟨rfl, e0, (by decide : 0 + 1 ≤ _), (by decide : 0 + 22 ≤ _)⟩)
  dsimp only [Pt.U, Pt.locs, Pt.cells, Pt.slots] at X105 l105 y105 z105 st105 hQ105
  subst y105 z105
  obtain ⟨r106, r107, rfl, M105, K105, y108, y109, y110, y111, y112⟩ := hQ105
  have N105 : Fr n0 L105 := by rw [l105]; exact Fr.app N0 M105
  have O113 := O0.keep K105 (allS G3_ all0)
  have g114 : Go p e below T105 (mkF m 9 #[rv a1, rv s1] []) A0 := fun t kont => g104 t (st105.trans kont)
  have K115 : Keep h0 T105.heap [a1] := ((Keep.refl h0 [a1]).trans K105 (allS (P := fun x => x ∈ [a1] ∨ h0.size ≤ x) (Or.inl (List.mem_of_getElem? (i := 0) rfl)) all0))
  obtain ⟨fs, hr, hrun, hended, hW, hsame⟩ := X105.leave (v := none) (fun _ => rfl)
  refine ⟨_, _, g114 _ (X105.returnOut hx Bd.returns (hb hby d1_9) hr), hrun, hended, _, _, rfl, ?_, ⟨_, rfl⟩, hW, hsame.mono (by decide) (by decide)⟩
  show Q_sIniL Z a1 s1 ks ls cs h0 n0 _ T105.heap _
  exact ⟨r106, r107, rfl, N105, K115, y108, y109, y110, y111, y112⟩
theorem d11_0 : decode jdk_43_method_13_code 0 = .ok (.aload_n 0, 1) := by decide +kernel
theorem d11_1 : decode jdk_43_method_13_code 1 = .ok (.arraylength, 1) := by decide +kernel
theorem d11_2 : decode jdk_43_method_13_code 2 = .ok (.aload_n 1, 1) := by decide +kernel
theorem d11_3 : decode jdk_43_method_13_code 3 = .ok (.arraylength, 1) := by decide +kernel
theorem d11_4 : decode jdk_43_method_13_code 4 = .ok (.if_icmp .ne 30, 3) := by decide +kernel
theorem d11_7 : decode jdk_43_method_13_code 7 = .ok (.iconst 0, 1) := by decide +kernel
theorem d11_8 : decode jdk_43_method_13_code 8 = .ok (.istore_n 2, 1) := by decide +kernel
theorem d11_9 : decode jdk_43_method_13_code 9 = .ok (.iload_n 2, 1) := by decide +kernel
theorem d11_10 : decode jdk_43_method_13_code 10 = .ok (.aload_n 0, 1) := by decide +kernel
theorem d11_11 : decode jdk_43_method_13_code 11 = .ok (.arraylength, 1) := by decide +kernel
theorem d11_12 : decode jdk_43_method_13_code 12 = .ok (.if_icmp .ge 20, 3) := by decide +kernel
theorem d11_15 : decode jdk_43_method_13_code 15 = .ok (.aload_n 0, 1) := by decide +kernel
theorem d11_16 : decode jdk_43_method_13_code 16 = .ok (.iload_n 2, 1) := by decide +kernel
theorem d11_17 : decode jdk_43_method_13_code 17 = .ok (.baload, 1) := by decide +kernel
theorem d11_18 : decode jdk_43_method_13_code 18 = .ok (.aload_n 1, 1) := by decide +kernel
theorem d11_19 : decode jdk_43_method_13_code 19 = .ok (.iload_n 2, 1) := by decide +kernel
theorem d11_20 : decode jdk_43_method_13_code 20 = .ok (.baload, 1) := by decide +kernel
theorem d11_21 : decode jdk_43_method_13_code 21 = .ok (.if_icmp .eq 5, 3) := by decide +kernel
theorem d11_26 : decode jdk_43_method_13_code 26 = .ok (.iinc 2 1, 3) := by decide +kernel
theorem d11_29 : decode jdk_43_method_13_code 29 = .ok (.goto (-20), 3) := by decide +kernel
theorem d11_32 : decode jdk_43_method_13_code 32 = .ok (.iconst 1, 1) := by decide +kernel
theorem d11_33 : decode jdk_43_method_13_code 33 = .ok (.ireturn, 1) := by decide +kernel
theorem d11_24 : decode jdk_43_method_13_code 24 = .ok (.iconst 0, 1) := by decide +kernel
theorem d11_25 : decode jdk_43_method_13_code 25 = .ok (.ireturn, 1) := by decide +kernel
theorem d11_34 : decode jdk_43_method_13_code 34 = .ok (.iconst 0, 1) := by decide +kernel
theorem d11_35 : decode jdk_43_method_13_code 35 = .ok (.ireturn, 1) := by decide +kernel
theorem ef_leqG (m : MethodId) (x0 : Addr) (x1 : Addr)  : entryFrame m #[(.ref x0), (.ref x1)] 3 = mkF m 0 #[.val (.ref x0), .val (.ref x1), .unset] [] := by first | (simp [entryFrame, mkF, argsToLocals, Value.category]; done) | rfl
def Q_leqG (Z : State) (u1 : Addr) (v1 : Addr) (ku : ClassId) (kv : ClassId) (xs : List Int32) (ys : List Int32) (h0 : Heap) (n0 : Nat) (v : Option Value) (h : Heap) (L : List Loc) : Prop := ∃ (rr : Int32), v = some (.int rr) ∧ Fr n0 L ∧ h = h0 ∧ (rr = (0 : Int32) ∨ rr = (1 : Int32)) ∧ (rr = (1 : Int32) ↔ xs = ys)
set_option maxRecDepth 65536 in
set_option maxHeartbeats 40000000 in
theorem rm_leqG (l : Launch) (Z : State) (a0 : Array Value) (hw : ∀ d ∈ tables_1, d.before a0 Z = true) (ws : List Jvm.Cond) (u1 : Addr) (v1 : Addr) (ku : ClassId) (kv : ClassId) (xs : List Int32) (ys : List Int32) (h0 : Heap) (n0 : Nat) (O0 : Old Z n0 h0) (A0_ : Arv Z h0 u1 ku .byte (Int32.ofNat xs.length) (own_lb xs) (.int (0 : Int32))) (A1_ : Arv Z h0 v1 kv .byte (Int32.ofNat ys.length) (own_lb ys) (.int (0 : Int32))) (hbx : xs.length ≤ 22) (hby_ : ys.length ≤ 22) (cx : own_chars xs) (cy : own_chars ys) (lx : own_lat xs) (ly : own_lat ys) :
    MetFree l (⟨"java/lang/StringLatin1", "equals", "([B[B)Z"⟩ : MethodName) (head1 (Jvm.Cond.code (⟨"java/lang/StringLatin1", "equals", "([B[B)Z"⟩ : MethodName) jdk_43_method_13_code 3 (some .boolean) :: ws) ({ frames := 0, cells := 0, slots := 0, locals := 0 } : Room)) (fun a U => a = #[(.ref u1), (.ref v1)] ∧ Z.Warmed39 U.vm ∧ U.heap = h0) (fun _ _ _ _ _ => True) (fun _ U o U' => ∃ v L, o = .returned v ∧ Q_leqG Z u1 v1 ku kv xs ys h0 n0 v U'.heap L ∧ FrameEnd U o U' L ({ frames := 0, cells := 0, slots := 0, locals := 0 } : Room).cells ({ frames := 0, cells := 0, slots := 0, locals := 0 } : Room).slots) := by
  refine MetFree.of_bodySF (plainFor_of_name pn_java_lang_StringLatin1) hisR ?_
  intro p e s m args below meth c s₁ Bd hml0 hP hK
  obtain ⟨rfl, hZ, hh⟩ := hP
  have hx := Bd.exec
  have hby := Bd.bytes
  have hml : c.maxLocals = 3 := hml0
  have hown : s.vm.findClass "java/lang/StringLatin1" = some m.cls := findClass_of_methodNamed Bd.named
  have hnm := (name_of_methodNamed Bd.named Bd.method).1
  have X0 : Stand p l e ({ frames := 0, cells := 0, slots := 0, locals := 0 } : Room) s m #[(.ref u1), (.ref v1)] below meth c s₁ [] 0 0 := Stand.of_body Bd
  have e0 : s₁.heap = h0 := by rw [← hh, Bd.state]; rfl
  have N0 := Fr.nil n0
  have g0 : Go p e below s₁ (mkF m 0 #[rv u1, rv v1, .unset] []) (s₁.setTop (entryFrame m #[(.ref u1), (.ref v1)] 3)) := fun t kont => castTop (ef_leqG m u1 v1 ) kont
  generalize s₁.setTop (entryFrame m #[(.ref u1), (.ref v1)] 3) = A0 at g0 ⊢
  by_cases c101 : xs = ys
  ·
    have hl : xs.length = ys.length := by rw [c101]
    have g102 : Go p e below s₁ (mkF m 1 #[rv u1, rv v1, .unset] [(.ref u1)]) A0 := by
      intro t kont
      refine g0 t ?_
      refine XS.aloadN X0.here hx rfl (hb hby d11_0) rfl rfl ?_
      exact kont
    have zz103 := A0_
    obtain ⟨cl103, Ar103, -, S103, M103, -, -⟩ := zz103
    have g104 : Go p e below s₁ (mkF m 2 #[rv u1, rv v1, .unset] [(.int (Int32.ofNat xs.length))]) A0 := by
      intro t kont
      refine g102 t ?_
      refine X0.arraylength hx (by rw [e0]; exact Ar103.1) (State.isArrayOf_alike hZ.alike Ar103.2.1) (g := (mkF m 1 #[rv u1, rv v1, .unset] [(.ref u1)])) rfl rfl (hb hby d11_1) _ ?_
      rw [len_of S103 M103]
      exact kont
    have g105 : Go p e below s₁ (mkF m 3 #[rv u1, rv v1, .unset] [(.ref v1), (.int (Int32.ofNat xs.length))]) A0 := by
      intro t kont
      refine g104 t ?_
      refine XS.aloadN X0.here hx rfl (hb hby d11_2) rfl rfl ?_
      exact kont
    have zz106 := A1_
    obtain ⟨cl106, Ar106, -, S106, M106, -, -⟩ := zz106
    have g107 : Go p e below s₁ (mkF m 4 #[rv u1, rv v1, .unset] [(.int (Int32.ofNat ys.length)), (.int (Int32.ofNat xs.length))]) A0 := by
      intro t kont
      refine g105 t ?_
      refine X0.arraylength hx (by rw [e0]; exact Ar106.1) (State.isArrayOf_alike hZ.alike Ar106.2.1) (g := (mkF m 3 #[rv u1, rv v1, .unset] [(.ref v1), (.int (Int32.ofNat xs.length))])) rfl rfl (hb hby d11_3) _ ?_
      rw [len_of S106 M106]
      exact kont
    have g108 : Go p e below s₁ (mkF m 9 #[rv u1, rv v1, iv (0 : Int32)] []) A0 := by
      intro t kont
      refine g107 t ?_
      refine XS.icmpNo X0.here hx rfl (hb hby d11_4) rfl (teq (congrArg Int32.ofNat hl : (Int32.ofNat xs.length) = (Int32.ofNat ys.length))).2 ?_
      refine XS.iconst X0.here hx rfl (hb hby d11_7) ?_
      refine XS.istoreN X0.here hx rfl (hb hby d11_8) rfl (l' := #[rv u1, rv v1, iv (0 : Int32)]) rfl ?_
      exact kont
    have loop109 : ∀ k : Nat, k ≤ xs.length → ∃ (T109 : State) (lc109 : List Loc), Stand p l e ({ frames := 0, cells := 0, slots := 0, locals := 0 } : Room) s m #[(.ref u1), (.ref v1)] below meth c T109 lc109 0 0 ∧ T109.heap = h0 ∧ Fr n0 lc109 ∧ Go p e below T109 (mkF m 9 #[rv u1, rv v1, iv (Int32.ofNat k)] []) A0 := by
      intro k
      induction k with
      | zero =>
        intro _
        exact ⟨_, _, X0, e0, N0, g108⟩
      | succ k ih =>
        intro hk_k
        obtain ⟨T110, lc110, X110, e110, N110, g110⟩ := ih (Nat.le_of_succ_le hk_k)
        have g111 : Go p e below T110 (mkF m 11 #[rv u1, rv v1, iv (Int32.ofNat k)] [(.ref u1), (.int (Int32.ofNat k))]) A0 := by
          intro t kont
          refine g110 t ?_
          refine XS.iloadN X110.here hx rfl (hb hby d11_9) rfl ?_
          refine XS.aloadN X110.here hx rfl (hb hby d11_10) rfl rfl ?_
          exact kont
        have zz112 := A0_
        obtain ⟨cl112, Ar112, -, S112, M112, -, -⟩ := zz112
        have g113 : Go p e below T110 (mkF m 12 #[rv u1, rv v1, iv (Int32.ofNat k)] [(.int (Int32.ofNat xs.length)), (.int (Int32.ofNat k))]) A0 := by
          intro t kont
          refine g111 t ?_
          refine X110.arraylength hx (by rw [e110]; exact Ar112.1) (State.isArrayOf_alike hZ.alike Ar112.2.1) (g := (mkF m 11 #[rv u1, rv v1, iv (Int32.ofNat k)] [(.ref u1), (.int (Int32.ofNat k))])) rfl rfl (hb hby d11_11) _ ?_
          rw [len_of S112 M112]
          exact kont
        have g114 : Go p e below T110 (mkF m 17 #[rv u1, rv v1, iv (Int32.ofNat k)] [(.int (Int32.ofNat k)), (.ref u1)]) A0 := by
          intro t kont
          refine g113 t ?_
          refine XS.icmpNo X110.here hx rfl (hb hby d11_12) rfl (tlt (own_lt (by omega) (by omega) : (Int32.ofNat k) < (Int32.ofNat xs.length))).2.1 ?_
          refine XS.aloadN X110.here hx rfl (hb hby d11_15) rfl rfl ?_
          refine XS.iloadN X110.here hx rfl (hb hby d11_16) rfl ?_
          exact kont
        have zz115 := A0_
        obtain ⟨cl115, Ar115, q115, S115, M115, H115, G115⟩ := zz115
        have in115 : ¬ ((Int32.ofNat k) < 0 ∨ cl115.slots.size ≤ ((Int32.ofNat k)).toNatClampNeg) := inb_of S115 ⟨own_nonneg (by omega), own_lt (by omega) (by omega)⟩
        have at115 : cl115.slots[((Int32.ofNat k)).toNatClampNeg]? = some (.int ((xs.getD k 0).toInt8.toInt32)) := Has.at H115 in115 (by rw [own_clamp (by omega)]; exact own_lb_get (show k < xs.length by omega))
        have g116 : Go p e below T110 (mkF m 18 #[rv u1, rv v1, iv (Int32.ofNat k)] [(.int ((xs.getD k 0).toInt8.toInt32))]) A0 := fun t kont => g114 t (X110.baloadBytes hx (j := (Int32.ofNat k)) (v := (.int ((xs.getD k 0).toInt8.toInt32))) (by rw [e110]; exact Ar115.1) (State.isArrayOf_alike hZ.alike Ar115.2.1) Ar115.2.2 in115 at115 (g := (mkF m 17 #[rv u1, rv v1, iv (Int32.ofNat k)] [(.int (Int32.ofNat k)), (.ref u1)])) rfl rfl (hb hby d11_17) t kont)
        have g117 : Go p e below T110 (mkF m 20 #[rv u1, rv v1, iv (Int32.ofNat k)] [(.int (Int32.ofNat k)), (.ref v1), (.int ((xs.getD k 0).toInt8.toInt32))]) A0 := by
          intro t kont
          refine g116 t ?_
          refine XS.aloadN X110.here hx rfl (hb hby d11_18) rfl rfl ?_
          refine XS.iloadN X110.here hx rfl (hb hby d11_19) rfl ?_
          exact kont
        have zz118 := A1_
        obtain ⟨cl118, Ar118, q118, S118, M118, H118, G118⟩ := zz118
        have in118 : ¬ ((Int32.ofNat k) < 0 ∨ cl118.slots.size ≤ ((Int32.ofNat k)).toNatClampNeg) := inb_of S118 ⟨own_nonneg (by omega), own_lt (by omega) (by omega)⟩
        have at118 : cl118.slots[((Int32.ofNat k)).toNatClampNeg]? = some (.int ((ys.getD k 0).toInt8.toInt32)) := Has.at H118 in118 (by rw [own_clamp (by omega)]; exact own_lb_get (show k < ys.length by omega))
        have g119 : Go p e below T110 (mkF m 21 #[rv u1, rv v1, iv (Int32.ofNat k)] [(.int ((ys.getD k 0).toInt8.toInt32)), (.int ((xs.getD k 0).toInt8.toInt32))]) A0 := fun t kont => g117 t (X110.baloadBytes hx (j := (Int32.ofNat k)) (v := (.int ((ys.getD k 0).toInt8.toInt32))) (by rw [e110]; exact Ar118.1) (State.isArrayOf_alike hZ.alike Ar118.2.1) Ar118.2.2 in118 at118 (g := (mkF m 20 #[rv u1, rv v1, iv (Int32.ofNat k)] [(.int (Int32.ofNat k)), (.ref v1), (.int ((xs.getD k 0).toInt8.toInt32))])) rfl rfl (hb hby d11_20) t kont)
        have g120 : Go p e below T110 (mkF m 9 #[rv u1, rv v1, iv ((Int32.ofNat k) + (1 : Int32))] []) A0 := by
          intro t kont
          refine g119 t ?_
          refine XS.icmpYes X110.here hx rfl (pc0 := 21) (pc' := 26) rfl (hb hby d11_21) rfl (teq (congrArg (fun z : Int32 => z.toInt8.toInt32) (congrArg (fun z => List.getD z k 0) c101) : ((xs.getD k 0).toInt8.toInt32) = ((ys.getD k 0).toInt8.toInt32))).1 (by decide) (by decide) ?_
          refine XS.iinc X110.here hx rfl (hb hby d11_26) rfl (l' := #[rv u1, rv v1, iv ((Int32.ofNat k) + (1 : Int32))]) rfl ?_
          refine XS.goto X110.here hx rfl (pc0 := 29) (pc' := 9) rfl (hb hby d11_29) (by decide) (by decide) ?_
          exact kont
        have g121 : Go p e below T110 (mkF m 9 #[rv u1, rv v1, iv (Int32.ofNat (k + 1))] []) A0 := by rw [← own_succ k]; exact g120
        exact ⟨_, _, X110, e110, N110, g121⟩
    obtain ⟨T122, lc122, X122, e122, N122, g122⟩ := loop109 xs.length (Nat.le_refl _)
    have g123 : Go p e below T122 (mkF m 11 #[rv u1, rv v1, iv (Int32.ofNat xs.length)] [(.ref u1), (.int (Int32.ofNat xs.length))]) A0 := by
      intro t kont
      refine g122 t ?_
      refine XS.iloadN X122.here hx rfl (hb hby d11_9) rfl ?_
      refine XS.aloadN X122.here hx rfl (hb hby d11_10) rfl rfl ?_
      exact kont
    have zz124 := A0_
    obtain ⟨cl124, Ar124, -, S124, M124, -, -⟩ := zz124
    have g125 : Go p e below T122 (mkF m 12 #[rv u1, rv v1, iv (Int32.ofNat xs.length)] [(.int (Int32.ofNat xs.length)), (.int (Int32.ofNat xs.length))]) A0 := by
      intro t kont
      refine g123 t ?_
      refine X122.arraylength hx (by rw [e122]; exact Ar124.1) (State.isArrayOf_alike hZ.alike Ar124.2.1) (g := (mkF m 11 #[rv u1, rv v1, iv (Int32.ofNat xs.length)] [(.ref u1), (.int (Int32.ofNat xs.length))])) rfl rfl (hb hby d11_11) _ ?_
      rw [len_of S124 M124]
      exact kont
    have g126 : Go p e below T122 (mkF m 33 #[rv u1, rv v1, iv (Int32.ofNat xs.length)] [(.int (1 : Int32))]) A0 := by
      intro t kont
      refine g125 t ?_
      refine XS.icmpYes X122.here hx rfl (pc0 := 12) (pc' := 32) rfl (hb hby d11_12) rfl (flt (own_nlt (Nat.le_refl _) (by omega) : ¬ ((Int32.ofNat xs.length) < (Int32.ofNat xs.length)))).2.1 (by decide) (by decide) ?_
      refine XS.iconst X122.here hx rfl (hb hby d11_32) ?_
      exact kont
    obtain ⟨fs, hr, hrun, hended, hW, hsame⟩ := X122.leave (v := some (.int (1 : Int32))) (fun h => by rw [Bd.returns] at h; cases h)
    refine ⟨_, _, g126 _ (retN X122 hx (t := .boolean) Bd.returns (by simp) (hb hby d11_33) hr), hrun, hended, _, _, rfl, ?_, ⟨_, rfl⟩, hW, hsame.mono (by decide) (by decide)⟩
    show Q_leqG Z u1 v1 ku kv xs ys h0 n0 _ T122.heap _
    rw [e122]
    exact ⟨(1 : Int32), rfl, N122, rfl, Or.inr rfl, iff_of_true rfl c101⟩
  by_cases c127 : xs.length = ys.length
  ·
    have hl := c127
    obtain ⟨rn, hr1, hr2, hr3⟩ := own_first (fun i => ¬ (xs.getD i 0 = ys.getD i 0)) xs.length (own_list_ne hl c101)
    have g128 : Go p e below s₁ (mkF m 1 #[rv u1, rv v1, .unset] [(.ref u1)]) A0 := by
      intro t kont
      refine g0 t ?_
      refine XS.aloadN X0.here hx rfl (hb hby d11_0) rfl rfl ?_
      exact kont
    have zz129 := A0_
    obtain ⟨cl129, Ar129, -, S129, M129, -, -⟩ := zz129
    have g130 : Go p e below s₁ (mkF m 2 #[rv u1, rv v1, .unset] [(.int (Int32.ofNat xs.length))]) A0 := by
      intro t kont
      refine g128 t ?_
      refine X0.arraylength hx (by rw [e0]; exact Ar129.1) (State.isArrayOf_alike hZ.alike Ar129.2.1) (g := (mkF m 1 #[rv u1, rv v1, .unset] [(.ref u1)])) rfl rfl (hb hby d11_1) _ ?_
      rw [len_of S129 M129]
      exact kont
    have g131 : Go p e below s₁ (mkF m 3 #[rv u1, rv v1, .unset] [(.ref v1), (.int (Int32.ofNat xs.length))]) A0 := by
      intro t kont
      refine g130 t ?_
      refine XS.aloadN X0.here hx rfl (hb hby d11_2) rfl rfl ?_
      exact kont
    have zz132 := A1_
    obtain ⟨cl132, Ar132, -, S132, M132, -, -⟩ := zz132
    have g133 : Go p e below s₁ (mkF m 4 #[rv u1, rv v1, .unset] [(.int (Int32.ofNat ys.length)), (.int (Int32.ofNat xs.length))]) A0 := by
      intro t kont
      refine g131 t ?_
      refine X0.arraylength hx (by rw [e0]; exact Ar132.1) (State.isArrayOf_alike hZ.alike Ar132.2.1) (g := (mkF m 3 #[rv u1, rv v1, .unset] [(.ref v1), (.int (Int32.ofNat xs.length))])) rfl rfl (hb hby d11_3) _ ?_
      rw [len_of S132 M132]
      exact kont
    have g134 : Go p e below s₁ (mkF m 9 #[rv u1, rv v1, iv (0 : Int32)] []) A0 := by
      intro t kont
      refine g133 t ?_
      refine XS.icmpNo X0.here hx rfl (hb hby d11_4) rfl (teq (congrArg Int32.ofNat hl : (Int32.ofNat xs.length) = (Int32.ofNat ys.length))).2 ?_
      refine XS.iconst X0.here hx rfl (hb hby d11_7) ?_
      refine XS.istoreN X0.here hx rfl (hb hby d11_8) rfl (l' := #[rv u1, rv v1, iv (0 : Int32)]) rfl ?_
      exact kont
    have loop135 : ∀ k : Nat, k ≤ rn → ∃ (T135 : State) (lc135 : List Loc), Stand p l e ({ frames := 0, cells := 0, slots := 0, locals := 0 } : Room) s m #[(.ref u1), (.ref v1)] below meth c T135 lc135 0 0 ∧ T135.heap = h0 ∧ Fr n0 lc135 ∧ Go p e below T135 (mkF m 9 #[rv u1, rv v1, iv (Int32.ofNat k)] []) A0 := by
      intro k
      induction k with
      | zero =>
        intro _
        exact ⟨_, _, X0, e0, N0, g134⟩
      | succ k ih =>
        intro hk_k
        obtain ⟨T136, lc136, X136, e136, N136, g136⟩ := ih (Nat.le_of_succ_le hk_k)
        have g137 : Go p e below T136 (mkF m 11 #[rv u1, rv v1, iv (Int32.ofNat k)] [(.ref u1), (.int (Int32.ofNat k))]) A0 := by
          intro t kont
          refine g136 t ?_
          refine XS.iloadN X136.here hx rfl (hb hby d11_9) rfl ?_
          refine XS.aloadN X136.here hx rfl (hb hby d11_10) rfl rfl ?_
          exact kont
        have zz138 := A0_
        obtain ⟨cl138, Ar138, -, S138, M138, -, -⟩ := zz138
        have g139 : Go p e below T136 (mkF m 12 #[rv u1, rv v1, iv (Int32.ofNat k)] [(.int (Int32.ofNat xs.length)), (.int (Int32.ofNat k))]) A0 := by
          intro t kont
          refine g137 t ?_
          refine X136.arraylength hx (by rw [e136]; exact Ar138.1) (State.isArrayOf_alike hZ.alike Ar138.2.1) (g := (mkF m 11 #[rv u1, rv v1, iv (Int32.ofNat k)] [(.ref u1), (.int (Int32.ofNat k))])) rfl rfl (hb hby d11_11) _ ?_
          rw [len_of S138 M138]
          exact kont
        have g140 : Go p e below T136 (mkF m 17 #[rv u1, rv v1, iv (Int32.ofNat k)] [(.int (Int32.ofNat k)), (.ref u1)]) A0 := by
          intro t kont
          refine g139 t ?_
          refine XS.icmpNo X136.here hx rfl (hb hby d11_12) rfl (tlt (own_lt (by omega) (by omega) : (Int32.ofNat k) < (Int32.ofNat xs.length))).2.1 ?_
          refine XS.aloadN X136.here hx rfl (hb hby d11_15) rfl rfl ?_
          refine XS.iloadN X136.here hx rfl (hb hby d11_16) rfl ?_
          exact kont
        have zz141 := A0_
        obtain ⟨cl141, Ar141, q141, S141, M141, H141, G141⟩ := zz141
        have in141 : ¬ ((Int32.ofNat k) < 0 ∨ cl141.slots.size ≤ ((Int32.ofNat k)).toNatClampNeg) := inb_of S141 ⟨own_nonneg (by omega), own_lt (by omega) (by omega)⟩
        have at141 : cl141.slots[((Int32.ofNat k)).toNatClampNeg]? = some (.int ((xs.getD k 0).toInt8.toInt32)) := Has.at H141 in141 (by rw [own_clamp (by omega)]; exact own_lb_get (show k < xs.length by omega))
        have g142 : Go p e below T136 (mkF m 18 #[rv u1, rv v1, iv (Int32.ofNat k)] [(.int ((xs.getD k 0).toInt8.toInt32))]) A0 := fun t kont => g140 t (X136.baloadBytes hx (j := (Int32.ofNat k)) (v := (.int ((xs.getD k 0).toInt8.toInt32))) (by rw [e136]; exact Ar141.1) (State.isArrayOf_alike hZ.alike Ar141.2.1) Ar141.2.2 in141 at141 (g := (mkF m 17 #[rv u1, rv v1, iv (Int32.ofNat k)] [(.int (Int32.ofNat k)), (.ref u1)])) rfl rfl (hb hby d11_17) t kont)
        have g143 : Go p e below T136 (mkF m 20 #[rv u1, rv v1, iv (Int32.ofNat k)] [(.int (Int32.ofNat k)), (.ref v1), (.int ((xs.getD k 0).toInt8.toInt32))]) A0 := by
          intro t kont
          refine g142 t ?_
          refine XS.aloadN X136.here hx rfl (hb hby d11_18) rfl rfl ?_
          refine XS.iloadN X136.here hx rfl (hb hby d11_19) rfl ?_
          exact kont
        have zz144 := A1_
        obtain ⟨cl144, Ar144, q144, S144, M144, H144, G144⟩ := zz144
        have in144 : ¬ ((Int32.ofNat k) < 0 ∨ cl144.slots.size ≤ ((Int32.ofNat k)).toNatClampNeg) := inb_of S144 ⟨own_nonneg (by omega), own_lt (by omega) (by omega)⟩
        have at144 : cl144.slots[((Int32.ofNat k)).toNatClampNeg]? = some (.int ((ys.getD k 0).toInt8.toInt32)) := Has.at H144 in144 (by rw [own_clamp (by omega)]; exact own_lb_get (show k < ys.length by omega))
        have g145 : Go p e below T136 (mkF m 21 #[rv u1, rv v1, iv (Int32.ofNat k)] [(.int ((ys.getD k 0).toInt8.toInt32)), (.int ((xs.getD k 0).toInt8.toInt32))]) A0 := fun t kont => g143 t (X136.baloadBytes hx (j := (Int32.ofNat k)) (v := (.int ((ys.getD k 0).toInt8.toInt32))) (by rw [e136]; exact Ar144.1) (State.isArrayOf_alike hZ.alike Ar144.2.1) Ar144.2.2 in144 at144 (g := (mkF m 20 #[rv u1, rv v1, iv (Int32.ofNat k)] [(.int (Int32.ofNat k)), (.ref v1), (.int ((xs.getD k 0).toInt8.toInt32))])) rfl rfl (hb hby d11_20) t kont)
        have g146 : Go p e below T136 (mkF m 9 #[rv u1, rv v1, iv ((Int32.ofNat k) + (1 : Int32))] []) A0 := by
          intro t kont
          refine g145 t ?_
          refine XS.icmpYes X136.here hx rfl (pc0 := 21) (pc' := 26) rfl (hb hby d11_21) rfl (teq (congrArg (fun z : Int32 => z.toInt8.toInt32) (Decidable.of_not_not (hr3 k (by omega))) : ((xs.getD k 0).toInt8.toInt32) = ((ys.getD k 0).toInt8.toInt32))).1 (by decide) (by decide) ?_
          refine XS.iinc X136.here hx rfl (hb hby d11_26) rfl (l' := #[rv u1, rv v1, iv ((Int32.ofNat k) + (1 : Int32))]) rfl ?_
          refine XS.goto X136.here hx rfl (pc0 := 29) (pc' := 9) rfl (hb hby d11_29) (by decide) (by decide) ?_
          exact kont
        have g147 : Go p e below T136 (mkF m 9 #[rv u1, rv v1, iv (Int32.ofNat (k + 1))] []) A0 := by rw [← own_succ k]; exact g146
        exact ⟨_, _, X136, e136, N136, g147⟩
    obtain ⟨T148, lc148, X148, e148, N148, g148⟩ := loop135 rn (Nat.le_refl _)
    have g149 : Go p e below T148 (mkF m 11 #[rv u1, rv v1, iv (Int32.ofNat rn)] [(.ref u1), (.int (Int32.ofNat rn))]) A0 := by
      intro t kont
      refine g148 t ?_
      refine XS.iloadN X148.here hx rfl (hb hby d11_9) rfl ?_
      refine XS.aloadN X148.here hx rfl (hb hby d11_10) rfl rfl ?_
      exact kont
    have zz150 := A0_
    obtain ⟨cl150, Ar150, -, S150, M150, -, -⟩ := zz150
    have g151 : Go p e below T148 (mkF m 12 #[rv u1, rv v1, iv (Int32.ofNat rn)] [(.int (Int32.ofNat xs.length)), (.int (Int32.ofNat rn))]) A0 := by
      intro t kont
      refine g149 t ?_
      refine X148.arraylength hx (by rw [e148]; exact Ar150.1) (State.isArrayOf_alike hZ.alike Ar150.2.1) (g := (mkF m 11 #[rv u1, rv v1, iv (Int32.ofNat rn)] [(.ref u1), (.int (Int32.ofNat rn))])) rfl rfl (hb hby d11_11) _ ?_
      rw [len_of S150 M150]
      exact kont
    have g152 : Go p e below T148 (mkF m 17 #[rv u1, rv v1, iv (Int32.ofNat rn)] [(.int (Int32.ofNat rn)), (.ref u1)]) A0 := by
      intro t kont
      refine g151 t ?_
      refine XS.icmpNo X148.here hx rfl (hb hby d11_12) rfl (tlt (own_lt (by omega) (by omega) : (Int32.ofNat rn) < (Int32.ofNat xs.length))).2.1 ?_
      refine XS.aloadN X148.here hx rfl (hb hby d11_15) rfl rfl ?_
      refine XS.iloadN X148.here hx rfl (hb hby d11_16) rfl ?_
      exact kont
    have zz153 := A0_
    obtain ⟨cl153, Ar153, q153, S153, M153, H153, G153⟩ := zz153
    have in153 : ¬ ((Int32.ofNat rn) < 0 ∨ cl153.slots.size ≤ ((Int32.ofNat rn)).toNatClampNeg) := inb_of S153 ⟨own_nonneg (by omega), own_lt (by omega) (by omega)⟩
    have at153 : cl153.slots[((Int32.ofNat rn)).toNatClampNeg]? = some (.int ((xs.getD rn 0).toInt8.toInt32)) := Has.at H153 in153 (by rw [own_clamp (by omega)]; exact own_lb_get (show rn < xs.length by omega))
    have g154 : Go p e below T148 (mkF m 18 #[rv u1, rv v1, iv (Int32.ofNat rn)] [(.int ((xs.getD rn 0).toInt8.toInt32))]) A0 := fun t kont => g152 t (X148.baloadBytes hx (j := (Int32.ofNat rn)) (v := (.int ((xs.getD rn 0).toInt8.toInt32))) (by rw [e148]; exact Ar153.1) (State.isArrayOf_alike hZ.alike Ar153.2.1) Ar153.2.2 in153 at153 (g := (mkF m 17 #[rv u1, rv v1, iv (Int32.ofNat rn)] [(.int (Int32.ofNat rn)), (.ref u1)])) rfl rfl (hb hby d11_17) t kont)
    have g155 : Go p e below T148 (mkF m 20 #[rv u1, rv v1, iv (Int32.ofNat rn)] [(.int (Int32.ofNat rn)), (.ref v1), (.int ((xs.getD rn 0).toInt8.toInt32))]) A0 := by
      intro t kont
      refine g154 t ?_
      refine XS.aloadN X148.here hx rfl (hb hby d11_18) rfl rfl ?_
      refine XS.iloadN X148.here hx rfl (hb hby d11_19) rfl ?_
      exact kont
    have zz156 := A1_
    obtain ⟨cl156, Ar156, q156, S156, M156, H156, G156⟩ := zz156
    have in156 : ¬ ((Int32.ofNat rn) < 0 ∨ cl156.slots.size ≤ ((Int32.ofNat rn)).toNatClampNeg) := inb_of S156 ⟨own_nonneg (by omega), own_lt (by omega) (by omega)⟩
    have at156 : cl156.slots[((Int32.ofNat rn)).toNatClampNeg]? = some (.int ((ys.getD rn 0).toInt8.toInt32)) := Has.at H156 in156 (by rw [own_clamp (by omega)]; exact own_lb_get (show rn < ys.length by omega))
    have g157 : Go p e below T148 (mkF m 21 #[rv u1, rv v1, iv (Int32.ofNat rn)] [(.int ((ys.getD rn 0).toInt8.toInt32)), (.int ((xs.getD rn 0).toInt8.toInt32))]) A0 := fun t kont => g155 t (X148.baloadBytes hx (j := (Int32.ofNat rn)) (v := (.int ((ys.getD rn 0).toInt8.toInt32))) (by rw [e148]; exact Ar156.1) (State.isArrayOf_alike hZ.alike Ar156.2.1) Ar156.2.2 in156 at156 (g := (mkF m 20 #[rv u1, rv v1, iv (Int32.ofNat rn)] [(.int (Int32.ofNat rn)), (.ref v1), (.int ((xs.getD rn 0).toInt8.toInt32))])) rfl rfl (hb hby d11_20) t kont)
    have g158 : Go p e below T148 (mkF m 25 #[rv u1, rv v1, iv (Int32.ofNat rn)] [(.int (0 : Int32))]) A0 := by
      intro t kont
      refine g157 t ?_
      refine XS.icmpNo X148.here hx rfl (hb hby d11_21) rfl (feq (fun z => hr2 (own_inj8 (cx rn hr1).1 (lx rn hr1) (cy rn (by omega)).1 (ly rn (by omega)) z) : ¬ (((xs.getD rn 0).toInt8.toInt32) = ((ys.getD rn 0).toInt8.toInt32)))).1 ?_
      refine XS.iconst X148.here hx rfl (hb hby d11_24) ?_
      exact kont
    obtain ⟨fs, hr, hrun, hended, hW, hsame⟩ := X148.leave (v := some (.int (0 : Int32))) (fun h => by rw [Bd.returns] at h; cases h)
    refine ⟨_, _, g158 _ (retN X148 hx (t := .boolean) Bd.returns (by simp) (hb hby d11_25) hr), hrun, hended, _, _, rfl, ?_, ⟨_, rfl⟩, hW, hsame.mono (by decide) (by decide)⟩
    show Q_leqG Z u1 v1 ku kv xs ys h0 n0 _ T148.heap _
    rw [e148]
    exact ⟨(0 : Int32), rfl, N148, rfl, Or.inl rfl, iff_of_false (by decide) c101⟩
  have g159 : Go p e below s₁ (mkF m 1 #[rv u1, rv v1, .unset] [(.ref u1)]) A0 := by
    intro t kont
    refine g0 t ?_
    refine XS.aloadN X0.here hx rfl (hb hby d11_0) rfl rfl ?_
    exact kont
  have zz160 := A0_
  obtain ⟨cl160, Ar160, -, S160, M160, -, -⟩ := zz160
  have g161 : Go p e below s₁ (mkF m 2 #[rv u1, rv v1, .unset] [(.int (Int32.ofNat xs.length))]) A0 := by
    intro t kont
    refine g159 t ?_
    refine X0.arraylength hx (by rw [e0]; exact Ar160.1) (State.isArrayOf_alike hZ.alike Ar160.2.1) (g := (mkF m 1 #[rv u1, rv v1, .unset] [(.ref u1)])) rfl rfl (hb hby d11_1) _ ?_
    rw [len_of S160 M160]
    exact kont
  have g162 : Go p e below s₁ (mkF m 3 #[rv u1, rv v1, .unset] [(.ref v1), (.int (Int32.ofNat xs.length))]) A0 := by
    intro t kont
    refine g161 t ?_
    refine XS.aloadN X0.here hx rfl (hb hby d11_2) rfl rfl ?_
    exact kont
  have zz163 := A1_
  obtain ⟨cl163, Ar163, -, S163, M163, -, -⟩ := zz163
  have g164 : Go p e below s₁ (mkF m 4 #[rv u1, rv v1, .unset] [(.int (Int32.ofNat ys.length)), (.int (Int32.ofNat xs.length))]) A0 := by
    intro t kont
    refine g162 t ?_
    refine X0.arraylength hx (by rw [e0]; exact Ar163.1) (State.isArrayOf_alike hZ.alike Ar163.2.1) (g := (mkF m 3 #[rv u1, rv v1, .unset] [(.ref v1), (.int (Int32.ofNat xs.length))])) rfl rfl (hb hby d11_3) _ ?_
    rw [len_of S163 M163]
    exact kont
  have g165 : Go p e below s₁ (mkF m 35 #[rv u1, rv v1, .unset] [(.int (0 : Int32))]) A0 := by
    intro t kont
    refine g164 t ?_
    refine XS.icmpYes X0.here hx rfl (pc0 := 4) (pc' := 34) rfl (hb hby d11_4) rfl (feq (own_inj (by omega) (by omega) c127 : ¬ ((Int32.ofNat xs.length) = (Int32.ofNat ys.length)))).2 (by decide) (by decide) ?_
    refine XS.iconst X0.here hx rfl (hb hby d11_34) ?_
    exact kont
  obtain ⟨fs, hr, hrun, hended, hW, hsame⟩ := X0.leave (v := some (.int (0 : Int32))) (fun h => by rw [Bd.returns] at h; cases h)
  refine ⟨_, _, g165 _ (retN X0 hx (t := .boolean) Bd.returns (by simp) (hb hby d11_35) hr), hrun, hended, _, _, rfl, ?_, ⟨_, rfl⟩, hW, hsame.mono (by decide) (by decide)⟩
  show Q_leqG Z u1 v1 ku kv xs ys h0 n0 _ s₁.heap _
  rw [e0]
  exact ⟨(0 : Int32), rfl, N0, rfl, Or.inl rfl, iff_of_false (by decide) c101⟩
theorem d10_0 : decode jdk_42_method_66_code 0 = .ok (.aload_n 0, 1) := by decide +kernel
theorem d10_1 : decode jdk_42_method_66_code 1 = .ok (.aload_n 1, 1) := by decide +kernel
theorem d10_2 : decode jdk_42_method_66_code 2 = .ok (.if_acmp .ne 5, 3) := by decide +kernel
theorem d10_5 : decode jdk_42_method_66_code 5 = .ok (.iconst 1, 1) := by decide +kernel
theorem d10_6 : decode jdk_42_method_66_code 6 = .ok (.ireturn, 1) := by decide +kernel
theorem d10_7 : decode jdk_42_method_66_code 7 = .ok (.aload_n 1, 1) := by decide +kernel
theorem d10_8 : decode jdk_42_method_66_code 8 = .ok (.instanceof 10, 3) := by decide +kernel
theorem d10_11 : decode jdk_42_method_66_code 11 = .ok (.ifCond .eq 43, 3) := by decide +kernel
theorem d10_14 : decode jdk_42_method_66_code 14 = .ok (.aload_n 1, 1) := by decide +kernel
theorem d10_15 : decode jdk_42_method_66_code 15 = .ok (.checkcast 10, 3) := by decide +kernel
theorem d10_18 : decode jdk_42_method_66_code 18 = .ok (.astore_n 2, 1) := by decide +kernel
theorem d10_19 : decode jdk_42_method_66_code 19 = .ok (.getstatic 38, 3) := by decide +kernel
theorem d10_22 : decode jdk_42_method_66_code 22 = .ok (.ifCond .eq 14, 3) := by decide +kernel
theorem d10_25 : decode jdk_42_method_66_code 25 = .ok (.aload_n 0, 1) := by decide +kernel
theorem d10_26 : decode jdk_42_method_66_code 26 = .ok (.getfield 15, 3) := by decide +kernel
theorem d10_29 : decode jdk_42_method_66_code 29 = .ok (.aload_n 2, 1) := by decide +kernel
theorem d10_30 : decode jdk_42_method_66_code 30 = .ok (.getfield 15, 3) := by decide +kernel
theorem d10_33 : decode jdk_42_method_66_code 33 = .ok (.if_icmp .ne 21, 3) := by decide +kernel
theorem d10_36 : decode jdk_42_method_66_code 36 = .ok (.aload_n 0, 1) := by decide +kernel
theorem d10_37 : decode jdk_42_method_66_code 37 = .ok (.getfield 9, 3) := by decide +kernel
theorem d10_40 : decode jdk_42_method_66_code 40 = .ok (.aload_n 2, 1) := by decide +kernel
theorem d10_41 : decode jdk_42_method_66_code 41 = .ok (.getfield 9, 3) := by decide +kernel
theorem d10_44 : decode jdk_42_method_66_code 44 = .ok (.invokestatic 541, 3) := by decide +kernel
theorem pd_7 : parseMethodDescriptor "([B[B)Z" = some ⟨[(.array .byte), (.array .byte)], some .boolean⟩ := by decide +kernel
theorem d10_47 : decode jdk_42_method_66_code 47 = .ok (.ifCond .eq 7, 3) := by decide +kernel
theorem d10_50 : decode jdk_42_method_66_code 50 = .ok (.iconst 1, 1) := by decide +kernel
theorem d10_51 : decode jdk_42_method_66_code 51 = .ok (.goto 4, 3) := by decide +kernel
theorem d10_55 : decode jdk_42_method_66_code 55 = .ok (.ireturn, 1) := by decide +kernel
theorem d10_54 : decode jdk_42_method_66_code 54 = .ok (.iconst 0, 1) := by decide +kernel
theorem ef_eqG (m : MethodId) (x0 : Addr) (x1 : Addr)  : entryFrame m #[(.ref x0), (.ref x1)] 3 = mkF m 0 #[.val (.ref x0), .val (.ref x1), .unset] [] := by first | (simp [entryFrame, mkF, argsToLocals, Value.category]; done) | rfl
def Q_eqG (Z : State) (a1 : Addr) (a2 : Addr) (u1 : Addr) (v1 : Addr) (ku : ClassId) (kv : ClassId) (xs : List Int32) (ys : List Int32) (cs : Int32) (h0 : Heap) (n0 : Nat) (v : Option Value) (h : Heap) (L : List Loc) : Prop := ∃ (rr : Int32), v = some (.int rr) ∧ Fr n0 L ∧ h = h0 ∧ (rr = (0 : Int32) ∨ rr = (1 : Int32)) ∧ (rr = (1 : Int32) ↔ xs = ys)
set_option maxRecDepth 65536 in
set_option maxHeartbeats 40000000 in
theorem rm_eqG (l : Launch) (Z : State) (a0 : Array Value) (hw : ∀ d ∈ tables_1, d.before a0 Z = true) (ws : List Jvm.Cond) (a1 : Addr) (a2 : Addr) (u1 : Addr) (v1 : Addr) (ku : ClassId) (kv : ClassId) (xs : List Int32) (ys : List Int32) (cs : Int32) (h0 : Heap) (n0 : Nat) (O0 : Old Z n0 h0) (S0_ : Sta Z Z.heap "java/lang/String" "COMPACT_STRINGS" "Z" (.int cs)) (hcs : ¬ (cs = (0 : Int32))) (E2_ : Exa Z h0 a2 "java/lang/String") (F3_ : Fld Z h0 a1 "java/lang/String" "coder" "B" (.int (0 : Int32))) (F4_ : Fld Z h0 a2 "java/lang/String" "coder" "B" (.int (0 : Int32))) (F5_ : Fld Z h0 a1 "java/lang/String" "value" "[B" (.ref u1)) (F6_ : Fld Z h0 a2 "java/lang/String" "value" "[B" (.ref v1)) (A7_ : Arv Z h0 u1 ku .byte (Int32.ofNat xs.length) (own_lb xs) (.int (0 : Int32))) (A8_ : Arv Z h0 v1 kv .byte (Int32.ofNat ys.length) (own_lb ys) (.int (0 : Int32))) (hbx : xs.length ≤ 22) (hby_ : ys.length ≤ 22) (cx : own_chars xs) (cy : own_chars ys) (lx : own_lat xs) (ly : own_lat ys) :
    MetFree l (⟨"java/lang/String", "equals", "(Ljava/lang/Object;)Z"⟩ : MethodName) (head1 (Jvm.Cond.code (⟨"java/lang/String", "equals", "(Ljava/lang/Object;)Z"⟩ : MethodName) jdk_42_method_66_code 3 (some .boolean) :: ws) ({ frames := 1, cells := 0, slots := 0, locals := 14 } : Room)) (fun a U => a = #[(.ref a1), (.ref a2)] ∧ Z.Warmed39 U.vm ∧ U.heap = h0) (fun _ _ _ _ _ => True) (fun _ U o U' => ∃ v L, o = .returned v ∧ Q_eqG Z a1 a2 u1 v1 ku kv xs ys cs h0 n0 v U'.heap L ∧ FrameEnd U o U' L ({ frames := 1, cells := 0, slots := 0, locals := 14 } : Room).cells ({ frames := 1, cells := 0, slots := 0, locals := 14 } : Room).slots) := by
  refine MetFree.of_bodySF (plainFor_of_name pn_java_lang_String) hisR ?_
  intro p e s m args below meth c s₁ Bd hml0 hP hK
  obtain ⟨rfl, hZ, hh⟩ := hP
  have hx := Bd.exec
  have hby := Bd.bytes
  have hml : c.maxLocals = 3 := hml0
  have hown : s.vm.findClass "java/lang/String" = some m.cls := findClass_of_methodNamed Bd.named
  have hnm := (name_of_methodNamed Bd.named Bd.method).1
  have X0 : Stand p l e ({ frames := 1, cells := 0, slots := 0, locals := 14 } : Room) s m #[(.ref a1), (.ref a2)] below meth c s₁ [] 0 0 := Stand.of_body Bd
  have e0 : s₁.heap = h0 := by rw [← hh, Bd.state]; rfl
  have N0 := Fr.nil n0
  have g0 : Go p e below s₁ (mkF m 0 #[rv a1, rv a2, .unset] []) (s₁.setTop (entryFrame m #[(.ref a1), (.ref a2)] 3)) := fun t kont => castTop (ef_eqG m a1 a2 ) kont
  generalize s₁.setTop (entryFrame m #[(.ref a1), (.ref a2)] 3) = A0 at g0 ⊢
  by_cases c101 : xs = ys
  ·
    by_cases c102 : a1 = a2
    ·
      have g103 : Go p e below s₁ (mkF m 6 #[rv a1, rv a2, .unset] [(.int (1 : Int32))]) A0 := by
        intro t kont
        refine g0 t ?_
        refine XS.aloadN X0.here hx rfl (hb hby d10_0) rfl rfl ?_
        refine XS.aloadN X0.here hx rfl (hb hby d10_1) rfl rfl ?_
        refine Jvm.RoadKit.acmp (g := (mkF m 2 #[rv a1, rv a2, .unset] [(.ref a2), (.ref a1)])) X0 hx rfl rfl rfl (pc0 := 2) (pc' := 5) (same := true) rfl (hb hby d10_2) rfl (decide_eq_true (congrArg Value.ref c102)) (by decide) (by decide) ?_
        refine XS.iconst X0.here hx rfl (hb hby d10_5) ?_
        exact kont
      obtain ⟨fs, hr, hrun, hended, hW, hsame⟩ := X0.leave (v := some (.int (1 : Int32))) (fun h => by rw [Bd.returns] at h; cases h)
      refine ⟨_, _, g103 _ (retN X0 hx (t := .boolean) Bd.returns (by simp) (hb hby d10_6) hr), hrun, hended, _, _, rfl, ?_, ⟨_, rfl⟩, hW, hsame.mono (by decide) (by decide)⟩
      show Q_eqG Z a1 a2 u1 v1 ku kv xs ys cs h0 n0 _ s₁.heap _
      rw [e0]
      exact ⟨(1 : Int32), rfl, N0, rfl, Or.inr rfl, iff_of_true rfl c101⟩
    have g104 : Go p e below s₁ (mkF m 8 #[rv a1, rv a2, .unset] [(.ref a2)]) A0 := by
      intro t kont
      refine g0 t ?_
      refine XS.aloadN X0.here hx rfl (hb hby d10_0) rfl rfl ?_
      refine XS.aloadN X0.here hx rfl (hb hby d10_1) rfl rfl ?_
      refine Jvm.RoadKit.acmp (g := (mkF m 2 #[rv a1, rv a2, .unset] [(.ref a2), (.ref a1)])) X0 hx rfl rfl rfl (pc0 := 2) (pc' := 7) (same := false) rfl (hb hby d10_2) rfl (decide_eq_false fun q => c102 (Value.ref.inj q)) (by decide) (by decide) ?_
      refine XS.aloadN X0.here hx rfl (hb hby d10_7) rfl rfl ?_
      exact kont
    obtain ⟨T105, X105, e105, st105⟩ := instY X0 hx hZ hown (hw _ (List.mem_of_getElem? (i := 60) rfl)) e0 (Ins.self E2_) (g := (mkF m 8 #[rv a1, rv a2, .unset] [(.ref a2)])) rfl rfl (hb hby d10_8)
    have g106 : Go p e below T105 (mkF m 11 #[rv a1, rv a2, .unset] [(.int (1 : Int32))]) A0 := fun t kont => g104 t (st105 t kont)
    have g107 : Go p e below T105 (mkF m 15 #[rv a1, rv a2, .unset] [(.ref a2)]) A0 := by
      intro t kont
      refine g106 t ?_
      refine XS.ifNo X105.here hx rfl (hb hby d10_11) rfl ((if0 _ _).trans (feq (by decide : ¬ ((1 : Int32) = (0 : Int32)))).1) ?_
      refine XS.aloadN X105.here hx rfl (hb hby d10_14) rfl rfl ?_
      exact kont
    obtain ⟨T108, X108, e108, st108⟩ := castY X105 hx hZ hown (hw _ (List.mem_of_getElem? (i := 60) rfl)) e105 (Ins.self E2_) (g := (mkF m 15 #[rv a1, rv a2, .unset] [(.ref a2)])) rfl rfl (hb hby d10_15)
    have g109 : Go p e below T108 (mkF m 18 #[rv a1, rv a2, .unset] [(.ref a2)]) A0 := fun t kont => g107 t (st108 t kont)
    have g110 : Go p e below T108 (mkF m 19 #[rv a1, rv a2, rv a2] []) A0 := by
      intro t kont
      refine g109 t ?_
      refine XS.astoreN X108.here hx rfl (hb hby d10_18) rfl rfl (l' := #[rv a1, rv a2, rv a2]) rfl ?_
      exact kont
    have y111 : Sta Z h0 "java/lang/String" "COMPACT_STRINGS" "Z" (.int cs) := S0_.ext O0.2
    obtain ⟨T112, X112, e112, st112⟩ := getS2 X108 hx hZ hown (host := "") (Or.inl (hw _ (List.mem_of_getElem? (i := 15) rfl))) Via.refl e108 y111 (g := (mkF m 19 #[rv a1, rv a2, rv a2] [])) rfl (hb hby d10_19)
    have g113 : Go p e below T112 (mkF m 22 #[rv a1, rv a2, rv a2] [(.int cs)]) A0 := fun t kont => g110 t (st112 t kont)
    have g114 : Go p e below T112 (mkF m 26 #[rv a1, rv a2, rv a2] [(.ref a1)]) A0 := by
      intro t kont
      refine g113 t ?_
      refine XS.ifNo X112.here hx rfl (hb hby d10_22) rfl ((if0 _ _).trans (feq hcs).1) ?_
      refine XS.aloadN X112.here hx rfl (hb hby d10_25) rfl rfl ?_
      exact kont
    obtain ⟨T115, X115, e115, st115⟩ := getF X112 hx hZ hown (host := "") (Or.inl (hw _ (List.mem_of_getElem? (i := 27) rfl))) Via.refl e112 F3_ (g := (mkF m 26 #[rv a1, rv a2, rv a2] [(.ref a1)])) rfl rfl (hb hby d10_26)
    have g116 : Go p e below T115 (mkF m 29 #[rv a1, rv a2, rv a2] [(.int (0 : Int32))]) A0 := fun t kont => g114 t (st115 t kont)
    have g117 : Go p e below T115 (mkF m 30 #[rv a1, rv a2, rv a2] [(.ref a2), (.int (0 : Int32))]) A0 := by
      intro t kont
      refine g116 t ?_
      refine XS.aloadN X115.here hx rfl (hb hby d10_29) rfl rfl ?_
      exact kont
    obtain ⟨T118, X118, e118, st118⟩ := getF X115 hx hZ hown (host := "") (Or.inl (hw _ (List.mem_of_getElem? (i := 27) rfl))) Via.refl e115 F4_ (g := (mkF m 30 #[rv a1, rv a2, rv a2] [(.ref a2), (.int (0 : Int32))])) rfl rfl (hb hby d10_30)
    have g119 : Go p e below T118 (mkF m 33 #[rv a1, rv a2, rv a2] [(.int (0 : Int32)), (.int (0 : Int32))]) A0 := fun t kont => g117 t (st118 t kont)
    have g120 : Go p e below T118 (mkF m 37 #[rv a1, rv a2, rv a2] [(.ref a1)]) A0 := by
      intro t kont
      refine g119 t ?_
      refine XS.icmpNo X118.here hx rfl (hb hby d10_33) rfl (teq (by decide : (0 : Int32) = (0 : Int32))).2 ?_
      refine XS.aloadN X118.here hx rfl (hb hby d10_36) rfl rfl ?_
      exact kont
    obtain ⟨T121, X121, e121, st121⟩ := getF X118 hx hZ hown (host := "") (Or.inl (hw _ (List.mem_of_getElem? (i := 29) rfl))) Via.refl e118 F5_ (g := (mkF m 37 #[rv a1, rv a2, rv a2] [(.ref a1)])) rfl rfl (hb hby d10_37)
    have g122 : Go p e below T121 (mkF m 40 #[rv a1, rv a2, rv a2] [(.ref u1)]) A0 := fun t kont => g120 t (st121 t kont)
    have g123 : Go p e below T121 (mkF m 41 #[rv a1, rv a2, rv a2] [(.ref a2), (.ref u1)]) A0 := by
      intro t kont
      refine g122 t ?_
      refine XS.aloadN X121.here hx rfl (hb hby d10_40) rfl rfl ?_
      exact kont
    obtain ⟨T124, X124, e124, st124⟩ := getF X121 hx hZ hown (host := "") (Or.inl (hw _ (List.mem_of_getElem? (i := 29) rfl))) Via.refl e121 F6_ (g := (mkF m 41 #[rv a1, rv a2, rv a2] [(.ref a2), (.ref u1)])) rfl rfl (hb hby d10_41)
    have g125 : Go p e below T124 (mkF m 44 #[rv a1, rv a2, rv a2] [(.ref v1), (.ref u1)]) A0 := fun t kont => g123 t (st124 t kont)
    obtain ⟨_, _, ⟨T126, L126, k126, n126⟩, -, X126, ⟨Lc126, hQ126, l126, y126, z126⟩, st126⟩ := Jvm.LawKit.callS X124 hx (y := (⟨"java/lang/StringLatin1", "equals", "([B[B)Z"⟩ : MethodName)) hown (mvT hZ (hw _ (List.mem_of_getElem? (i := 61) rfl))) (mvT hZ (hw _ (List.mem_of_getElem? (i := 62) rfl))) (mvT hZ (hw _ (List.mem_of_getElem? (i := 63) rfl))) (mvT hZ (hw _ (List.mem_of_getElem? (i := 64) rfl))) (by decide) (backOf (W := 0) (rm_leqG l Z a0 hw [] u1 v1 ku kv xs ys h0 n0 O0 A7_ A8_ hbx hby_ cx cy lx ly) hZ (hw _ (List.mem_of_getElem? (i := 64) rfl)) (hw _ (List.mem_of_getElem? (i := 63) rfl)) (by decide) (by decide)) (g := (mkF m 44 #[rv a1, rv a2, rv a2] [(.ref v1), (.ref u1)])) rfl (by rw [hml]; rfl) (argsL := [(.ref u1), (.ref v1)]) (rest := []) (lenOf pd_7 rfl) rfl (by show 2 * 0 + _ ≤ _; exact Nat.le_of_eq rfl) (hb hby d10_44) (fun _ _ => ⟨rfl, e124, (by decide : 0 + 0 ≤ _), (by decide : 0 + 0 ≤ _)⟩)
    dsimp only [Pt.U, Pt.locs, Pt.cells, Pt.slots] at X126 l126 y126 z126 st126 hQ126
    subst y126 z126
    obtain ⟨r127, rfl, M126, e126, y128, y129⟩ := hQ126
    have N126 : Fr n0 L126 := by rw [l126]; exact Fr.app N0 M126
    have g130 : Go p e below T126 (mkF m 47 #[rv a1, rv a2, rv a2] [(.int r127)]) A0 := fun t kont => g125 t (st126 t kont)
    have g131 : Go p e below T126 (mkF m 55 #[rv a1, rv a2, rv a2] [(.int (1 : Int32))]) A0 := by
      intro t kont
      refine g130 t ?_
      refine XS.ifNo X126.here hx rfl (hb hby d10_47) rfl ((if0 _ _).trans (feq (own_b1n (y129.mpr c101) : ¬ (r127 = (0 : Int32)))).1) ?_
      refine XS.iconst X126.here hx rfl (hb hby d10_50) ?_
      refine XS.goto X126.here hx rfl (pc0 := 51) (pc' := 55) rfl (hb hby d10_51) (by decide) (by decide) ?_
      exact kont
    obtain ⟨fs, hr, hrun, hended, hW, hsame⟩ := X126.leave (v := some (.int (1 : Int32))) (fun h => by rw [Bd.returns] at h; cases h)
    refine ⟨_, _, g131 _ (retN X126 hx (t := .boolean) Bd.returns (by simp) (hb hby d10_55) hr), hrun, hended, _, _, rfl, ?_, ⟨_, rfl⟩, hW, hsame.mono (by decide) (by decide)⟩
    show Q_eqG Z a1 a2 u1 v1 ku kv xs ys cs h0 n0 _ T126.heap _
    rw [e126]
    exact ⟨(1 : Int32), rfl, N126, rfl, Or.inr rfl, iff_of_true rfl c101⟩
  have hdif := own_seq_ne F5_ F6_ A7_ A8_ (by omega) (by omega) cx cy lx ly c101
  have g132 : Go p e below s₁ (mkF m 8 #[rv a1, rv a2, .unset] [(.ref a2)]) A0 := by
    intro t kont
    refine g0 t ?_
    refine XS.aloadN X0.here hx rfl (hb hby d10_0) rfl rfl ?_
    refine XS.aloadN X0.here hx rfl (hb hby d10_1) rfl rfl ?_
    refine Jvm.RoadKit.acmp (g := (mkF m 2 #[rv a1, rv a2, .unset] [(.ref a2), (.ref a1)])) X0 hx rfl rfl rfl (pc0 := 2) (pc' := 7) (same := false) rfl (hb hby d10_2) rfl (decide_eq_false fun q => hdif (Value.ref.inj q)) (by decide) (by decide) ?_
    refine XS.aloadN X0.here hx rfl (hb hby d10_7) rfl rfl ?_
    exact kont
  obtain ⟨T133, X133, e133, st133⟩ := instY X0 hx hZ hown (hw _ (List.mem_of_getElem? (i := 60) rfl)) e0 (Ins.self E2_) (g := (mkF m 8 #[rv a1, rv a2, .unset] [(.ref a2)])) rfl rfl (hb hby d10_8)
  have g134 : Go p e below T133 (mkF m 11 #[rv a1, rv a2, .unset] [(.int (1 : Int32))]) A0 := fun t kont => g132 t (st133 t kont)
  have g135 : Go p e below T133 (mkF m 15 #[rv a1, rv a2, .unset] [(.ref a2)]) A0 := by
    intro t kont
    refine g134 t ?_
    refine XS.ifNo X133.here hx rfl (hb hby d10_11) rfl ((if0 _ _).trans (feq (by decide : ¬ ((1 : Int32) = (0 : Int32)))).1) ?_
    refine XS.aloadN X133.here hx rfl (hb hby d10_14) rfl rfl ?_
    exact kont
  obtain ⟨T136, X136, e136, st136⟩ := castY X133 hx hZ hown (hw _ (List.mem_of_getElem? (i := 60) rfl)) e133 (Ins.self E2_) (g := (mkF m 15 #[rv a1, rv a2, .unset] [(.ref a2)])) rfl rfl (hb hby d10_15)
  have g137 : Go p e below T136 (mkF m 18 #[rv a1, rv a2, .unset] [(.ref a2)]) A0 := fun t kont => g135 t (st136 t kont)
  have g138 : Go p e below T136 (mkF m 19 #[rv a1, rv a2, rv a2] []) A0 := by
    intro t kont
    refine g137 t ?_
    refine XS.astoreN X136.here hx rfl (hb hby d10_18) rfl rfl (l' := #[rv a1, rv a2, rv a2]) rfl ?_
    exact kont
  have y139 : Sta Z h0 "java/lang/String" "COMPACT_STRINGS" "Z" (.int cs) := S0_.ext O0.2
  obtain ⟨T140, X140, e140, st140⟩ := getS2 X136 hx hZ hown (host := "") (Or.inl (hw _ (List.mem_of_getElem? (i := 15) rfl))) Via.refl e136 y139 (g := (mkF m 19 #[rv a1, rv a2, rv a2] [])) rfl (hb hby d10_19)
  have g141 : Go p e below T140 (mkF m 22 #[rv a1, rv a2, rv a2] [(.int cs)]) A0 := fun t kont => g138 t (st140 t kont)
  have g142 : Go p e below T140 (mkF m 26 #[rv a1, rv a2, rv a2] [(.ref a1)]) A0 := by
    intro t kont
    refine g141 t ?_
    refine XS.ifNo X140.here hx rfl (hb hby d10_22) rfl ((if0 _ _).trans (feq hcs).1) ?_
    refine XS.aloadN X140.here hx rfl (hb hby d10_25) rfl rfl ?_
    exact kont
  obtain ⟨T143, X143, e143, st143⟩ := getF X140 hx hZ hown (host := "") (Or.inl (hw _ (List.mem_of_getElem? (i := 27) rfl))) Via.refl e140 F3_ (g := (mkF m 26 #[rv a1, rv a2, rv a2] [(.ref a1)])) rfl rfl (hb hby d10_26)
  have g144 : Go p e below T143 (mkF m 29 #[rv a1, rv a2, rv a2] [(.int (0 : Int32))]) A0 := fun t kont => g142 t (st143 t kont)
  have g145 : Go p e below T143 (mkF m 30 #[rv a1, rv a2, rv a2] [(.ref a2), (.int (0 : Int32))]) A0 := by
    intro t kont
    refine g144 t ?_
    refine XS.aloadN X143.here hx rfl (hb hby d10_29) rfl rfl ?_
    exact kont
  obtain ⟨T146, X146, e146, st146⟩ := getF X143 hx hZ hown (host := "") (Or.inl (hw _ (List.mem_of_getElem? (i := 27) rfl))) Via.refl e143 F4_ (g := (mkF m 30 #[rv a1, rv a2, rv a2] [(.ref a2), (.int (0 : Int32))])) rfl rfl (hb hby d10_30)
  have g147 : Go p e below T146 (mkF m 33 #[rv a1, rv a2, rv a2] [(.int (0 : Int32)), (.int (0 : Int32))]) A0 := fun t kont => g145 t (st146 t kont)
  have g148 : Go p e below T146 (mkF m 37 #[rv a1, rv a2, rv a2] [(.ref a1)]) A0 := by
    intro t kont
    refine g147 t ?_
    refine XS.icmpNo X146.here hx rfl (hb hby d10_33) rfl (teq (by decide : (0 : Int32) = (0 : Int32))).2 ?_
    refine XS.aloadN X146.here hx rfl (hb hby d10_36) rfl rfl ?_
    exact kont
  obtain ⟨T149, X149, e149, st149⟩ := getF X146 hx hZ hown (host := "") (Or.inl (hw _ (List.mem_of_getElem? (i := 29) rfl))) Via.refl e146 F5_ (g := (mkF m 37 #[rv a1, rv a2, rv a2] [(.ref a1)])) rfl rfl (hb hby d10_37)
  have g150 : Go p e below T149 (mkF m 40 #[rv a1, rv a2, rv a2] [(.ref u1)]) A0 := fun t kont => g148 t (st149 t kont)
  have g151 : Go p e below T149 (mkF m 41 #[rv a1, rv a2, rv a2] [(.ref a2), (.ref u1)]) A0 := by
    intro t kont
    refine g150 t ?_
    refine XS.aloadN X149.here hx rfl (hb hby d10_40) rfl rfl ?_
    exact kont
  obtain ⟨T152, X152, e152, st152⟩ := getF X149 hx hZ hown (host := "") (Or.inl (hw _ (List.mem_of_getElem? (i := 29) rfl))) Via.refl e149 F6_ (g := (mkF m 41 #[rv a1, rv a2, rv a2] [(.ref a2), (.ref u1)])) rfl rfl (hb hby d10_41)
  have g153 : Go p e below T152 (mkF m 44 #[rv a1, rv a2, rv a2] [(.ref v1), (.ref u1)]) A0 := fun t kont => g151 t (st152 t kont)
  obtain ⟨_, _, ⟨T154, L154, k154, n154⟩, -, X154, ⟨Lc154, hQ154, l154, y154, z154⟩, st154⟩ := Jvm.LawKit.callS X152 hx (y := (⟨"java/lang/StringLatin1", "equals", "([B[B)Z"⟩ : MethodName)) hown (mvT hZ (hw _ (List.mem_of_getElem? (i := 61) rfl))) (mvT hZ (hw _ (List.mem_of_getElem? (i := 62) rfl))) (mvT hZ (hw _ (List.mem_of_getElem? (i := 63) rfl))) (mvT hZ (hw _ (List.mem_of_getElem? (i := 64) rfl))) (by decide) (backOf (W := 0) (rm_leqG l Z a0 hw [] u1 v1 ku kv xs ys h0 n0 O0 A7_ A8_ hbx hby_ cx cy lx ly) hZ (hw _ (List.mem_of_getElem? (i := 64) rfl)) (hw _ (List.mem_of_getElem? (i := 63) rfl)) (by decide) (by decide)) (g := (mkF m 44 #[rv a1, rv a2, rv a2] [(.ref v1), (.ref u1)])) rfl (by rw [hml]; rfl) (argsL := [(.ref u1), (.ref v1)]) (rest := []) (lenOf pd_7 rfl) rfl (by show 2 * 0 + _ ≤ _; exact Nat.le_of_eq rfl) (hb hby d10_44) (fun _ _ => ⟨rfl, e152, (by decide : 0 + 0 ≤ _), (by decide : 0 + 0 ≤ _)⟩)
  dsimp only [Pt.U, Pt.locs, Pt.cells, Pt.slots] at X154 l154 y154 z154 st154 hQ154
  subst y154 z154
  obtain ⟨r155, rfl, M154, e154, y156, y157⟩ := hQ154
  have N154 : Fr n0 L154 := by rw [l154]; exact Fr.app N0 M154
  have g158 : Go p e below T154 (mkF m 47 #[rv a1, rv a2, rv a2] [(.int r155)]) A0 := fun t kont => g153 t (st154 t kont)
  have g159 : Go p e below T154 (mkF m 55 #[rv a1, rv a2, rv a2] [(.int (0 : Int32))]) A0 := by
    intro t kont
    refine g158 t ?_
    refine XS.ifYes X154.here hx rfl (pc0 := 47) (pc' := 54) rfl (hb hby d10_47) rfl ((if0 _ _).trans (teq (own_b0n y156 y157 c101 : r155 = (0 : Int32))).1) (by decide) (by decide) ?_
    refine XS.iconst X154.here hx rfl (hb hby d10_54) ?_
    exact kont
  obtain ⟨fs, hr, hrun, hended, hW, hsame⟩ := X154.leave (v := some (.int (0 : Int32))) (fun h => by rw [Bd.returns] at h; cases h)
  refine ⟨_, _, g159 _ (retN X154 hx (t := .boolean) Bd.returns (by simp) (hb hby d10_55) hr), hrun, hended, _, _, rfl, ?_, ⟨_, rfl⟩, hW, hsame.mono (by decide) (by decide)⟩
  show Q_eqG Z a1 a2 u1 v1 ku kv xs ys cs h0 n0 _ T154.heap _
  rw [e154]
  exact ⟨(0 : Int32), rfl, N154, rfl, Or.inl rfl, iff_of_false (by decide) c101⟩
theorem d8_0 : decode jdk_30_method_1_code 0 = .ok (.aload_n 0, 1) := by decide +kernel
theorem d8_1 : decode jdk_30_method_1_code 1 = .ok (.invokespecial 1, 3) := by decide +kernel
theorem d8_4 : decode jdk_30_method_1_code 4 = .ok (.return_, 1) := by decide +kernel
theorem pn_java_lang_Record : plainName "java/lang/Record" = true := by first | (simp [plainName, overriddenIn]; done) | decide +kernel
theorem ef_rec (m : MethodId) (x0 : Addr)  : entryFrame m #[(.ref x0)] 1 = mkF m 0 #[.val (.ref x0)] [] := by first | (simp [entryFrame, mkF, argsToLocals, Value.category]; done) | rfl
def Q_rec (Z : State) (a1 : Addr) (h0 : Heap) (n0 : Nat) (v : Option Value) (h : Heap) (L : List Loc) : Prop := v = none ∧ Fr n0 L ∧ h = h0
set_option maxRecDepth 65536 in
set_option maxHeartbeats 40000000 in
theorem rm_rec (l : Launch) (Z : State) (a0 : Array Value) (hw : ∀ d ∈ tables_1, d.before a0 Z = true) (ws : List Jvm.Cond) (a1 : Addr) (h0 : Heap) (n0 : Nat) (O0 : Old Z n0 h0)  :
    MetFree l (⟨"java/lang/Record", "<init>", "()V"⟩ : MethodName) (head1 (Jvm.Cond.code (⟨"java/lang/Record", "<init>", "()V"⟩ : MethodName) jdk_30_method_1_code 1 none :: ws) ({ frames := 1, cells := 0, slots := 0, locals := 12 } : Room)) (fun a U => a = #[(.ref a1)] ∧ Z.Warmed39 U.vm ∧ U.heap = h0) (fun _ _ _ _ _ => True) (fun _ U o U' => ∃ v L, o = .returned v ∧ Q_rec Z a1 h0 n0 v U'.heap L ∧ FrameEnd U o U' L ({ frames := 1, cells := 0, slots := 0, locals := 12 } : Room).cells ({ frames := 1, cells := 0, slots := 0, locals := 12 } : Room).slots) := by
  refine MetFree.of_bodySF (plainFor_of_name pn_java_lang_Record) hisR ?_
  intro p e s m args below meth c s₁ Bd hml0 hP hK
  obtain ⟨rfl, hZ, hh⟩ := hP
  have hx := Bd.exec
  have hby := Bd.bytes
  have hml : c.maxLocals = 1 := hml0
  have hown : s.vm.findClass "java/lang/Record" = some m.cls := findClass_of_methodNamed Bd.named
  have hnm := (name_of_methodNamed Bd.named Bd.method).1
  have X0 : Stand p l e ({ frames := 1, cells := 0, slots := 0, locals := 12 } : Room) s m #[(.ref a1)] below meth c s₁ [] 0 0 := Stand.of_body Bd
  have e0 : s₁.heap = h0 := by rw [← hh, Bd.state]; rfl
  have N0 := Fr.nil n0
  have g0 : Go p e below s₁ (mkF m 0 #[rv a1] []) (s₁.setTop (entryFrame m #[(.ref a1)] 1)) := fun t kont => castTop (ef_rec m a1 ) kont
  generalize s₁.setTop (entryFrame m #[(.ref a1)] 1) = A0 at g0 ⊢
  have g101 : Go p e below s₁ (mkF m 1 #[rv a1] [(.ref a1)]) A0 := by
    intro t kont
    refine g0 t ?_
    refine XS.aloadN X0.here hx rfl (hb hby d8_0) rfl rfl ?_
    exact kont
  obtain ⟨T102, X102, e102, st102⟩ := initO X0 hx hZ hown (hw _ (List.mem_of_getElem? (i := 42) rfl)) (hw _ (List.mem_of_getElem? (i := 13) rfl)) (hw _ (List.mem_of_getElem? (i := 14) rfl)) e0 (g := (mkF m 1 #[rv a1] [(.ref a1)])) rfl (by rw [hml]; rfl) rfl (hb hby d8_1) (by decide) (W := 0) (by show 2 * 0 + _ ≤ _; exact Nat.le_of_eq rfl) (by decide)
  have g103 : Go p e below T102 (mkF m 4 #[rv a1] []) A0 := fun t kont => g101 t (st102 t kont)
  obtain ⟨fs, hr, hrun, hended, hW, hsame⟩ := X102.leave (v := none) (fun _ => rfl)
  refine ⟨_, _, g103 _ (X102.returnOut hx Bd.returns (hb hby d8_4) hr), hrun, hended, _, _, rfl, ?_, ⟨_, rfl⟩, hW, hsame.mono (by decide) (by decide)⟩
  show Q_rec Z a1 h0 n0 _ T102.heap _
  rw [e102]
  exact ⟨rfl, N0, rfl⟩
theorem d7_0 : decode prog_3_method_1_code 0 = .ok (.aload_n 0, 1) := by decide +kernel
theorem d7_1 : decode prog_3_method_1_code 1 = .ok (.invokespecial 1, 3) := by decide +kernel
theorem pd_8 : parseMethodDescriptor "()V" = some ⟨[], none⟩ := by decide +kernel
theorem d7_4 : decode prog_3_method_1_code 4 = .ok (.aload_n 0, 1) := by decide +kernel
theorem d7_5 : decode prog_3_method_1_code 5 = .ok (.aload_n 1, 1) := by decide +kernel
theorem d7_6 : decode prog_3_method_1_code 6 = .ok (.putfield 7, 3) := by decide +kernel
theorem d7_9 : decode prog_3_method_1_code 9 = .ok (.aload_n 0, 1) := by decide +kernel
theorem d7_10 : decode prog_3_method_1_code 10 = .ok (.aload_n 2, 1) := by decide +kernel
theorem d7_11 : decode prog_3_method_1_code 11 = .ok (.putfield 13, 3) := by decide +kernel
theorem d7_14 : decode prog_3_method_1_code 14 = .ok (.return_, 1) := by decide +kernel
theorem pn_com_example_fetch_from_near_fetchfromnear_ContentType : plainName "com/example/fetch_from_near/fetchfromnear/ContentType" = true := by first | (simp [plainName, overriddenIn]; done) | decide +kernel
theorem ef_ctR (m : MethodId) (x0 : Addr) (x1 : Addr) (x2 : Value) (h2 : x2.isRef = true) : entryFrame m #[(.ref x0), (.ref x1), x2] 3 = mkF m 0 #[.val (.ref x0), .val (.ref x1), .val x2] [] := by (rcases ref_cases h2 with rfl | ⟨_, rfl⟩) <;> first | (simp [entryFrame, mkF, argsToLocals, Value.category]; done) | rfl
def Q_ctR (Z : State) (a1 : Addr) (m1 : Addr) (m2 : Value) (h0 : Heap) (n0 : Nat) (v : Option Value) (h : Heap) (L : List Loc) : Prop := v = none ∧ Fr n0 L ∧ Keep h0 h [a1] ∧ (Exa Z h a1 "com/example/fetch_from_near/fetchfromnear/ContentType") ∧ (Fld Z h a1 "com/example/fetch_from_near/fetchfromnear/ContentType" "mediaType" "Ljava/lang/String;" (.ref m1))
set_option maxRecDepth 65536 in
set_option maxHeartbeats 40000000 in
theorem rm_ctR (l : Launch) (Z : State) (a0 : Array Value) (hw : ∀ d ∈ tables_1, d.before a0 Z = true) (ws : List Jvm.Cond) (a1 : Addr) (m1 : Addr) (m2 : Value) (h0 : Heap) (n0 : Nat) (O0 : Old Z n0 h0) (E0_ : Exa Z h0 a1 "com/example/fetch_from_near/fetchfromnear/ContentType") (F1_ : Fld Z h0 a1 "com/example/fetch_from_near/fetchfromnear/ContentType" "mediaType" "Ljava/lang/String;" .null) (F2_ : Fld Z h0 a1 "com/example/fetch_from_near/fetchfromnear/ContentType" "charset" "Ljava/lang/String;" .null) (G3_ : n0 ≤ a1) (hm2 : m2.isRef = true) :
    MetFree l (⟨"com/example/fetch_from_near/fetchfromnear/ContentType", "<init>", "(Ljava/lang/String;Ljava/lang/String;)V"⟩ : MethodName) (head1 (Jvm.Cond.code (⟨"com/example/fetch_from_near/fetchfromnear/ContentType", "<init>", "(Ljava/lang/String;Ljava/lang/String;)V"⟩ : MethodName) prog_3_method_1_code 3 none :: ws) ({ frames := 2, cells := 0, slots := 0, locals := 24 } : Room)) (fun a U => a = #[(.ref a1), (.ref m1), m2] ∧ Z.Warmed39 U.vm ∧ U.heap = h0) (fun _ _ _ _ _ => True) (fun _ U o U' => ∃ v L, o = .returned v ∧ Q_ctR Z a1 m1 m2 h0 n0 v U'.heap L ∧ FrameEnd U o U' L ({ frames := 2, cells := 0, slots := 0, locals := 24 } : Room).cells ({ frames := 2, cells := 0, slots := 0, locals := 24 } : Room).slots) := by
  refine MetFree.of_bodySF (plainFor_of_name pn_com_example_fetch_from_near_fetchfromnear_ContentType) hisR ?_
  intro p e s m args below meth c s₁ Bd hml0 hP hK
  obtain ⟨rfl, hZ, hh⟩ := hP
  have hx := Bd.exec
  have hby := Bd.bytes
  have hml : c.maxLocals = 3 := hml0
  have hown : s.vm.findClass "com/example/fetch_from_near/fetchfromnear/ContentType" = some m.cls := findClass_of_methodNamed Bd.named
  have hnm := (name_of_methodNamed Bd.named Bd.method).1
  have X0 : Stand p l e ({ frames := 2, cells := 0, slots := 0, locals := 24 } : Room) s m #[(.ref a1), (.ref m1), m2] below meth c s₁ [] 0 0 := Stand.of_body Bd
  have e0 : s₁.heap = h0 := by rw [← hh, Bd.state]; rfl
  have N0 := Fr.nil n0
  have g0 : Go p e below s₁ (mkF m 0 #[rv a1, rv m1, .val m2] []) (s₁.setTop (entryFrame m #[(.ref a1), (.ref m1), m2] 3)) := fun t kont => castTop (ef_ctR m a1 m1 m2 (hm2)) kont
  generalize s₁.setTop (entryFrame m #[(.ref a1), (.ref m1), m2] 3) = A0 at g0 ⊢
  have g101 : Go p e below s₁ (mkF m 1 #[rv a1, rv m1, .val m2] [(.ref a1)]) A0 := by
    intro t kont
    refine g0 t ?_
    refine XS.aloadN X0.here hx rfl (hb hby d7_0) rfl rfl ?_
    exact kont
  obtain ⟨_, _, ⟨T102, L102, k102, n102⟩, -, X102, ⟨Lc102, hQ102, l102, y102, z102⟩, st102⟩ := X0.specialBack hx (y := (⟨"java/lang/Record", "<init>", "()V"⟩ : MethodName)) rfl hown (mvT hZ (hw _ (List.mem_of_getElem? (i := 37) rfl))) (mvT hZ (hw _ (List.mem_of_getElem? (i := 38) rfl))) (mvT hZ (hw _ (List.mem_of_getElem? (i := 41) rfl))) (by decide) (backOf (W := 0) (rm_rec l Z a0 hw [] a1 h0 n0 O0 ) hZ (hw _ (List.mem_of_getElem? (i := 41) rfl)) (hw _ (List.mem_of_getElem? (i := 40) rfl)) (by decide) (by decide)) (g := (mkF m 1 #[rv a1, rv m1, .val m2] [(.ref a1)])) rfl (by rw [hml]; rfl) (Steps.refl _) (a := a1) (argsL := []) (rest := []) (lenOf pd_8 rfl) rfl (by show 2 * 0 + _ ≤ _; exact Nat.le_of_eq rfl) (hb hby d7_1) (fun _ _ => ⟨rfl, e0, (by decide : 0 + 0 ≤ _), (by decide : 0 + 0 ≤ _)⟩)
  dsimp only [Pt.U, Pt.locs, Pt.cells, Pt.slots] at X102 l102 y102 z102 st102 hQ102
  subst y102 z102
  obtain ⟨rfl, M102, e102⟩ := hQ102
  have N102 : Fr n0 L102 := by rw [l102]; exact Fr.app N0 M102
  have g103 : Go p e below T102 (mkF m 4 #[rv a1, rv m1, .val m2] []) A0 := fun t kont => g101 t (st102.trans kont)
  have g104 : Go p e below T102 (mkF m 6 #[rv a1, rv m1, .val m2] [(.ref m1), (.ref a1)]) A0 := by
    intro t kont
    refine g103 t ?_
    refine XS.aloadN X102.here hx rfl (hb hby d7_4) rfl rfl ?_
    refine XS.aloadN X102.here hx rfl (hb hby d7_5) rfl rfl ?_
    exact kont
  obtain ⟨T105, h105, X105, e105, W105, st105⟩ := putF X102 hx hZ hown (host := "") (Or.inl (hw _ (List.mem_of_getElem? (i := 43) rfl))) Via.refl e102 F1_ E0_ (Or.inr ⟨(hw _ (List.mem_of_getElem? (i := 44) rfl)), rfl, hnm⟩) (hw _ (List.mem_of_getElem? (i := 32) rfl)) (ty := (.object "java/lang/String")) (by decide) rfl rfl (g := (mkF m 6 #[rv a1, rv m1, .val m2] [(.ref m1), (.ref a1)])) rfl rfl (hb hby d7_6)
  have O106 := O0.wr W105 G3_
  have y107 : Fld Z h105 a1 "com/example/fetch_from_near/fetchfromnear/ContentType" "mediaType" "Ljava/lang/String;" (.ref m1) := F1_.same W105
  have N105 := Fr.snoc X105 N102 G3_
  have g108 : Go p e below T105 (mkF m 9 #[rv a1, rv m1, .val m2] []) A0 := fun t kont => g104 t (st105 t kont)
  have g109 : Go p e below T105 (mkF m 11 #[rv a1, rv m1, .val m2] [m2, (.ref a1)]) A0 := by
    intro t kont
    refine g108 t ?_
    refine XS.aloadN X105.here hx rfl (hb hby d7_9) rfl rfl ?_
    refine XS.aloadN X105.here hx rfl (hb hby d7_10) rfl (hm2) ?_
    exact kont
  have y110 : Exa Z h105 a1 "com/example/fetch_from_near/fetchfromnear/ContentType" := (E0_.wr W105)
  have y111 : Fld Z h105 a1 "com/example/fetch_from_near/fetchfromnear/ContentType" "charset" "Ljava/lang/String;" .null := (F2_.other W105 (Or.inr (slot_ne (Or.inr (hw _ (List.mem_of_getElem? (i := 46) rfl))) (Or.inr (hw _ (List.mem_of_getElem? (i := 44) rfl))) (by decide) (t := (.object "java/lang/String")) (t' := (.object "java/lang/String")) (by decide) (by decide))))
  obtain ⟨T112, h112, X112, e112, W112, st112⟩ := putF X105 hx hZ hown (host := "") (Or.inl (hw _ (List.mem_of_getElem? (i := 45) rfl))) Via.refl e105 y111 y110 (Or.inr ⟨(hw _ (List.mem_of_getElem? (i := 46) rfl)), rfl, hnm⟩) (hw _ (List.mem_of_getElem? (i := 32) rfl)) (ty := (.object "java/lang/String")) (by decide) (own_retA _ (hm2) _ rfl) (own_fitA _ (hm2) _ rfl) (g := (mkF m 11 #[rv a1, rv m1, .val m2] [m2, (.ref a1)])) rfl rfl (hb hby d7_11)
  have O113 := O106.wr W112 G3_
  have y114 : Fld Z h112 a1 "com/example/fetch_from_near/fetchfromnear/ContentType" "charset" "Ljava/lang/String;" m2 := y111.same W112
  have N112 := Fr.snoc X112 N105 G3_
  have g115 : Go p e below T112 (mkF m 14 #[rv a1, rv m1, .val m2] []) A0 := fun t kont => g109 t (st112 t kont)
  have K116 : Keep h0 h112 [a1] := (((Keep.refl h0 [a1]).wr W105 (Or.inl (List.mem_of_getElem? (i := 0) rfl))).wr W112 (Or.inl (List.mem_of_getElem? (i := 0) rfl)))
  have y117 : Exa Z h112 a1 "com/example/fetch_from_near/fetchfromnear/ContentType" := (y110.wr W112)
  have y118 : Fld Z h112 a1 "com/example/fetch_from_near/fetchfromnear/ContentType" "mediaType" "Ljava/lang/String;" (.ref m1) := (y107.other W112 (Or.inr (slot_ne (Or.inr (hw _ (List.mem_of_getElem? (i := 44) rfl))) (Or.inr (hw _ (List.mem_of_getElem? (i := 46) rfl))) (by decide) (t := (.object "java/lang/String")) (t' := (.object "java/lang/String")) (by decide) (by decide))))
  obtain ⟨fs, hr, hrun, hended, hW, hsame⟩ := X112.leave (v := none) (fun _ => rfl)
  refine ⟨_, _, g115 _ (X112.returnOut hx Bd.returns (hb hby d7_14) hr), hrun, hended, _, _, rfl, ?_, ⟨_, rfl⟩, hW, hsame.mono (by decide) (by decide)⟩
  show Q_ctR Z a1 m1 m2 h0 n0 _ T112.heap _
  rw [e112]
  exact ⟨rfl, N112, K116, y117, y118⟩
theorem ef_ctN (m : MethodId) (x0 : Addr) (x2 : Value) (h2 : x2.isRef = true) : entryFrame m #[(.ref x0), .null, x2] 3 = mkF m 0 #[.val (.ref x0), .val .null, .val x2] [] := by (rcases ref_cases h2 with rfl | ⟨_, rfl⟩) <;> first | (simp [entryFrame, mkF, argsToLocals, Value.category]; done) | rfl
def Q_ctN (Z : State) (a1 : Addr) (m2 : Value) (h0 : Heap) (n0 : Nat) (v : Option Value) (h : Heap) (L : List Loc) : Prop := v = none ∧ Fr n0 L ∧ Keep h0 h [a1] ∧ (Exa Z h a1 "com/example/fetch_from_near/fetchfromnear/ContentType") ∧ (Fld Z h a1 "com/example/fetch_from_near/fetchfromnear/ContentType" "mediaType" "Ljava/lang/String;" .null)
set_option maxRecDepth 65536 in
set_option maxHeartbeats 40000000 in
theorem rm_ctN (l : Launch) (Z : State) (a0 : Array Value) (hw : ∀ d ∈ tables_1, d.before a0 Z = true) (ws : List Jvm.Cond) (a1 : Addr) (m2 : Value) (h0 : Heap) (n0 : Nat) (O0 : Old Z n0 h0) (E0_ : Exa Z h0 a1 "com/example/fetch_from_near/fetchfromnear/ContentType") (F1_ : Fld Z h0 a1 "com/example/fetch_from_near/fetchfromnear/ContentType" "mediaType" "Ljava/lang/String;" .null) (F2_ : Fld Z h0 a1 "com/example/fetch_from_near/fetchfromnear/ContentType" "charset" "Ljava/lang/String;" .null) (G3_ : n0 ≤ a1) (hm2 : m2.isRef = true) :
    MetFree l (⟨"com/example/fetch_from_near/fetchfromnear/ContentType", "<init>", "(Ljava/lang/String;Ljava/lang/String;)V"⟩ : MethodName) (head1 (Jvm.Cond.code (⟨"com/example/fetch_from_near/fetchfromnear/ContentType", "<init>", "(Ljava/lang/String;Ljava/lang/String;)V"⟩ : MethodName) prog_3_method_1_code 3 none :: ws) ({ frames := 2, cells := 0, slots := 0, locals := 24 } : Room)) (fun a U => a = #[(.ref a1), .null, m2] ∧ Z.Warmed39 U.vm ∧ U.heap = h0) (fun _ _ _ _ _ => True) (fun _ U o U' => ∃ v L, o = .returned v ∧ Q_ctN Z a1 m2 h0 n0 v U'.heap L ∧ FrameEnd U o U' L ({ frames := 2, cells := 0, slots := 0, locals := 24 } : Room).cells ({ frames := 2, cells := 0, slots := 0, locals := 24 } : Room).slots) := by
  refine MetFree.of_bodySF (plainFor_of_name pn_com_example_fetch_from_near_fetchfromnear_ContentType) hisR ?_
  intro p e s m args below meth c s₁ Bd hml0 hP hK
  obtain ⟨rfl, hZ, hh⟩ := hP
  have hx := Bd.exec
  have hby := Bd.bytes
  have hml : c.maxLocals = 3 := hml0
  have hown : s.vm.findClass "com/example/fetch_from_near/fetchfromnear/ContentType" = some m.cls := findClass_of_methodNamed Bd.named
  have hnm := (name_of_methodNamed Bd.named Bd.method).1
  have X0 : Stand p l e ({ frames := 2, cells := 0, slots := 0, locals := 24 } : Room) s m #[(.ref a1), .null, m2] below meth c s₁ [] 0 0 := Stand.of_body Bd
  have e0 : s₁.heap = h0 := by rw [← hh, Bd.state]; rfl
  have N0 := Fr.nil n0
  have g0 : Go p e below s₁ (mkF m 0 #[rv a1, .val .null, .val m2] []) (s₁.setTop (entryFrame m #[(.ref a1), .null, m2] 3)) := fun t kont => castTop (ef_ctN m a1 m2 (hm2)) kont
  generalize s₁.setTop (entryFrame m #[(.ref a1), .null, m2] 3) = A0 at g0 ⊢
  have g101 : Go p e below s₁ (mkF m 1 #[rv a1, .val .null, .val m2] [(.ref a1)]) A0 := by
    intro t kont
    refine g0 t ?_
    refine XS.aloadN X0.here hx rfl (hb hby d7_0) rfl rfl ?_
    exact kont
  obtain ⟨_, _, ⟨T102, L102, k102, n102⟩, -, X102, ⟨Lc102, hQ102, l102, y102, z102⟩, st102⟩ := X0.specialBack hx (y := (⟨"java/lang/Record", "<init>", "()V"⟩ : MethodName)) rfl hown (mvT hZ (hw _ (List.mem_of_getElem? (i := 37) rfl))) (mvT hZ (hw _ (List.mem_of_getElem? (i := 38) rfl))) (mvT hZ (hw _ (List.mem_of_getElem? (i := 41) rfl))) (by decide) (backOf (W := 0) (rm_rec l Z a0 hw [] a1 h0 n0 O0 ) hZ (hw _ (List.mem_of_getElem? (i := 41) rfl)) (hw _ (List.mem_of_getElem? (i := 40) rfl)) (by decide) (by decide)) (g := (mkF m 1 #[rv a1, .val .null, .val m2] [(.ref a1)])) rfl (by rw [hml]; rfl) (Steps.refl _) (a := a1) (argsL := []) (rest := []) (lenOf pd_8 rfl) rfl (by show 2 * 0 + _ ≤ _; exact Nat.le_of_eq rfl) (hb hby d7_1) (fun _ _ => ⟨rfl, e0, (by decide : 0 + 0 ≤ _), (by decide : 0 + 0 ≤ _)⟩)
  dsimp only [Pt.U, Pt.locs, Pt.cells, Pt.slots] at X102 l102 y102 z102 st102 hQ102
  subst y102 z102
  obtain ⟨rfl, M102, e102⟩ := hQ102
  have N102 : Fr n0 L102 := by rw [l102]; exact Fr.app N0 M102
  have g103 : Go p e below T102 (mkF m 4 #[rv a1, .val .null, .val m2] []) A0 := fun t kont => g101 t (st102.trans kont)
  have g104 : Go p e below T102 (mkF m 6 #[rv a1, .val .null, .val m2] [.null, (.ref a1)]) A0 := by
    intro t kont
    refine g103 t ?_
    refine XS.aloadN X102.here hx rfl (hb hby d7_4) rfl rfl ?_
    refine XS.aloadN X102.here hx rfl (hb hby d7_5) rfl rfl ?_
    exact kont
  obtain ⟨T105, h105, X105, e105, W105, st105⟩ := putF X102 hx hZ hown (host := "") (Or.inl (hw _ (List.mem_of_getElem? (i := 43) rfl))) Via.refl e102 F1_ E0_ (Or.inr ⟨(hw _ (List.mem_of_getElem? (i := 44) rfl)), rfl, hnm⟩) (hw _ (List.mem_of_getElem? (i := 32) rfl)) (ty := (.object "java/lang/String")) (by decide) rfl rfl (g := (mkF m 6 #[rv a1, .val .null, .val m2] [.null, (.ref a1)])) rfl rfl (hb hby d7_6)
  have O106 := O0.wr W105 G3_
  have y107 : Fld Z h105 a1 "com/example/fetch_from_near/fetchfromnear/ContentType" "mediaType" "Ljava/lang/String;" .null := F1_.same W105
  have N105 := Fr.snoc X105 N102 G3_
  have g108 : Go p e below T105 (mkF m 9 #[rv a1, .val .null, .val m2] []) A0 := fun t kont => g104 t (st105 t kont)
  have g109 : Go p e below T105 (mkF m 11 #[rv a1, .val .null, .val m2] [m2, (.ref a1)]) A0 := by
    intro t kont
    refine g108 t ?_
    refine XS.aloadN X105.here hx rfl (hb hby d7_9) rfl rfl ?_
    refine XS.aloadN X105.here hx rfl (hb hby d7_10) rfl (hm2) ?_
    exact kont
  have y110 : Exa Z h105 a1 "com/example/fetch_from_near/fetchfromnear/ContentType" := (E0_.wr W105)
  have y111 : Fld Z h105 a1 "com/example/fetch_from_near/fetchfromnear/ContentType" "charset" "Ljava/lang/String;" .null := (F2_.other W105 (Or.inr (slot_ne (Or.inr (hw _ (List.mem_of_getElem? (i := 46) rfl))) (Or.inr (hw _ (List.mem_of_getElem? (i := 44) rfl))) (by decide) (t := (.object "java/lang/String")) (t' := (.object "java/lang/String")) (by decide) (by decide))))
  obtain ⟨T112, h112, X112, e112, W112, st112⟩ := putF X105 hx hZ hown (host := "") (Or.inl (hw _ (List.mem_of_getElem? (i := 45) rfl))) Via.refl e105 y111 y110 (Or.inr ⟨(hw _ (List.mem_of_getElem? (i := 46) rfl)), rfl, hnm⟩) (hw _ (List.mem_of_getElem? (i := 32) rfl)) (ty := (.object "java/lang/String")) (by decide) (own_retA _ (hm2) _ rfl) (own_fitA _ (hm2) _ rfl) (g := (mkF m 11 #[rv a1, .val .null, .val m2] [m2, (.ref a1)])) rfl rfl (hb hby d7_11)
  have O113 := O106.wr W112 G3_
  have y114 : Fld Z h112 a1 "com/example/fetch_from_near/fetchfromnear/ContentType" "charset" "Ljava/lang/String;" m2 := y111.same W112
  have N112 := Fr.snoc X112 N105 G3_
  have g115 : Go p e below T112 (mkF m 14 #[rv a1, .val .null, .val m2] []) A0 := fun t kont => g109 t (st112 t kont)
  have K116 : Keep h0 h112 [a1] := (((Keep.refl h0 [a1]).wr W105 (Or.inl (List.mem_of_getElem? (i := 0) rfl))).wr W112 (Or.inl (List.mem_of_getElem? (i := 0) rfl)))
  have y117 : Exa Z h112 a1 "com/example/fetch_from_near/fetchfromnear/ContentType" := (y110.wr W112)
  have y118 : Fld Z h112 a1 "com/example/fetch_from_near/fetchfromnear/ContentType" "mediaType" "Ljava/lang/String;" .null := (y107.other W112 (Or.inr (slot_ne (Or.inr (hw _ (List.mem_of_getElem? (i := 44) rfl))) (Or.inr (hw _ (List.mem_of_getElem? (i := 46) rfl))) (by decide) (t := (.object "java/lang/String")) (t' := (.object "java/lang/String")) (by decide) (by decide))))
  obtain ⟨fs, hr, hrun, hended, hW, hsame⟩ := X112.leave (v := none) (fun _ => rfl)
  refine ⟨_, _, g115 _ (X112.returnOut hx Bd.returns (hb hby d7_14) hr), hrun, hended, _, _, rfl, ?_, ⟨_, rfl⟩, hW, hsame.mono (by decide) (by decide)⟩
  show Q_ctN Z a1 m2 h0 n0 _ T112.heap _
  rw [e112]
  exact ⟨rfl, N112, K116, y117, y118⟩
theorem ef_eqN (m : MethodId) (x0 : Addr)  : entryFrame m #[(.ref x0), .null] 3 = mkF m 0 #[.val (.ref x0), .val .null, .unset] [] := by first | (simp [entryFrame, mkF, argsToLocals, Value.category]; done) | rfl
def Q_eqN (Z : State) (a1 : Addr) (h0 : Heap) (n0 : Nat) (v : Option Value) (h : Heap) (L : List Loc) : Prop := v = some (.int (0 : Int32)) ∧ Fr n0 L ∧ h = h0
set_option maxRecDepth 65536 in
set_option maxHeartbeats 40000000 in
theorem rm_eqN (l : Launch) (Z : State) (a0 : Array Value) (hw : ∀ d ∈ tables_1, d.before a0 Z = true) (ws : List Jvm.Cond) (a1 : Addr) (h0 : Heap) (n0 : Nat) (O0 : Old Z n0 h0)  :
    MetFree l (⟨"java/lang/String", "equals", "(Ljava/lang/Object;)Z"⟩ : MethodName) (head1 (Jvm.Cond.code (⟨"java/lang/String", "equals", "(Ljava/lang/Object;)Z"⟩ : MethodName) jdk_42_method_66_code 3 (some .boolean) :: ws) ({ frames := 0, cells := 0, slots := 0, locals := 0 } : Room)) (fun a U => a = #[(.ref a1), .null] ∧ Z.Warmed39 U.vm ∧ U.heap = h0) (fun _ _ _ _ _ => True) (fun _ U o U' => ∃ v L, o = .returned v ∧ Q_eqN Z a1 h0 n0 v U'.heap L ∧ FrameEnd U o U' L ({ frames := 0, cells := 0, slots := 0, locals := 0 } : Room).cells ({ frames := 0, cells := 0, slots := 0, locals := 0 } : Room).slots) := by
  refine MetFree.of_bodySF (plainFor_of_name pn_java_lang_String) hisR ?_
  intro p e s m args below meth c s₁ Bd hml0 hP hK
  obtain ⟨rfl, hZ, hh⟩ := hP
  have hx := Bd.exec
  have hby := Bd.bytes
  have hml : c.maxLocals = 3 := hml0
  have hown : s.vm.findClass "java/lang/String" = some m.cls := findClass_of_methodNamed Bd.named
  have hnm := (name_of_methodNamed Bd.named Bd.method).1
  have X0 : Stand p l e ({ frames := 0, cells := 0, slots := 0, locals := 0 } : Room) s m #[(.ref a1), .null] below meth c s₁ [] 0 0 := Stand.of_body Bd
  have e0 : s₁.heap = h0 := by rw [← hh, Bd.state]; rfl
  have N0 := Fr.nil n0
  have g0 : Go p e below s₁ (mkF m 0 #[rv a1, .val .null, .unset] []) (s₁.setTop (entryFrame m #[(.ref a1), .null] 3)) := fun t kont => castTop (ef_eqN m a1 ) kont
  generalize s₁.setTop (entryFrame m #[(.ref a1), .null] 3) = A0 at g0 ⊢
  have g101 : Go p e below s₁ (mkF m 55 #[rv a1, .val .null, .unset] [(.int (0 : Int32))]) A0 := by
    intro t kont
    refine g0 t ?_
    refine XS.aloadN X0.here hx rfl (hb hby d10_0) rfl rfl ?_
    refine XS.aloadN X0.here hx rfl (hb hby d10_1) rfl rfl ?_
    refine Jvm.RoadKit.acmp (g := (mkF m 2 #[rv a1, .val .null, .unset] [.null, (.ref a1)])) X0 hx rfl rfl rfl (pc0 := 2) (pc' := 7) (same := false) rfl (hb hby d10_2) rfl (decide_eq_false nofun) (by decide) (by decide) ?_
    refine XS.aloadN X0.here hx rfl (hb hby d10_7) rfl rfl ?_
    refine X0.instanceofNull hx (g := (mkF m 8 #[rv a1, .val .null, .unset] [.null])) rfl rfl (hb hby d10_8) _ ?_
    refine XS.ifYes X0.here hx rfl (pc0 := 11) (pc' := 54) rfl (hb hby d10_11) rfl ((if0 _ _).trans (teq (by decide : (0 : Int32) = (0 : Int32))).1) (by decide) (by decide) ?_
    refine XS.iconst X0.here hx rfl (hb hby d10_54) ?_
    exact kont
  obtain ⟨fs, hr, hrun, hended, hW, hsame⟩ := X0.leave (v := some (.int (0 : Int32))) (fun h => by rw [Bd.returns] at h; cases h)
  refine ⟨_, _, g101 _ (retN X0 hx (t := .boolean) Bd.returns (by simp) (hb hby d10_55) hr), hrun, hended, _, _, rfl, ?_, ⟨_, rfl⟩, hW, hsame.mono (by decide) (by decide)⟩
  show Q_eqN Z a1 h0 n0 _ s₁.heap _
  rw [e0]
  exact ⟨rfl, N0, rfl⟩
theorem d9_0 : decode prog_3_method_3_code 0 = .ok (.ldc 69, 2) := by decide +kernel
theorem d9_2 : decode prog_3_method_3_code 2 = .ok (.aload_n 0, 1) := by decide +kernel
theorem d9_3 : decode prog_3_method_3_code 3 = .ok (.getfield 7, 3) := by decide +kernel
theorem d9_6 : decode prog_3_method_3_code 6 = .ok (.invokevirtual 71, 3) := by decide +kernel
theorem pd_9 : parseMethodDescriptor "(Ljava/lang/Object;)Z" = some ⟨[(.object "java/lang/Object")], some .boolean⟩ := by decide +kernel
theorem d9_9 : decode prog_3_method_3_code 9 = .ok (.ifCond .ne 15, 3) := by decide +kernel
theorem d9_12 : decode prog_3_method_3_code 12 = .ok (.ldc 75, 2) := by decide +kernel
theorem d9_14 : decode prog_3_method_3_code 14 = .ok (.aload_n 0, 1) := by decide +kernel
theorem d9_15 : decode prog_3_method_3_code 15 = .ok (.getfield 7, 3) := by decide +kernel
theorem d9_18 : decode prog_3_method_3_code 18 = .ok (.invokevirtual 71, 3) := by decide +kernel
theorem d9_21 : decode prog_3_method_3_code 21 = .ok (.ifCond .eq 7, 3) := by decide +kernel
theorem d9_28 : decode prog_3_method_3_code 28 = .ok (.iconst 0, 1) := by decide +kernel
theorem d9_29 : decode prog_3_method_3_code 29 = .ok (.ireturn, 1) := by decide +kernel
theorem ef_isHN (m : MethodId) (x0 : Addr)  : entryFrame m #[(.ref x0)] 1 = mkF m 0 #[.val (.ref x0)] [] := by first | (simp [entryFrame, mkF, argsToLocals, Value.category]; done) | rfl
def Q_isHN (Z : State) (a1 : Addr) (h0 : Heap) (n0 : Nat) (v : Option Value) (h : Heap) (L : List Loc) : Prop := v = some (.int (0 : Int32)) ∧ Fr n0 L ∧ Keep h0 h []
set_option maxRecDepth 65536 in
set_option maxHeartbeats 40000000 in
theorem rm_isHN (l : Launch) (Z : State) (a0 : Array Value) (hw : ∀ d ∈ tables_1, d.before a0 Z = true) (ws : List Jvm.Cond) (a1 : Addr) (h0 : Heap) (n0 : Nat) (O0 : Old Z n0 h0) (F0_ : Fld Z h0 a1 "com/example/fetch_from_near/fetchfromnear/ContentType" "mediaType" "Ljava/lang/String;" .null) (E1_ : Exa Z h0 a1 "com/example/fetch_from_near/fetchfromnear/ContentType") :
    MetFree l (⟨"com/example/fetch_from_near/fetchfromnear/ContentType", "isHtml", "()Z"⟩ : MethodName) (head1 (Jvm.Cond.code (⟨"com/example/fetch_from_near/fetchfromnear/ContentType", "isHtml", "()Z"⟩ : MethodName) prog_3_method_3_code 1 (some .boolean) :: ws) ({ frames := 1, cells := 4, slots := 128, locals := 14 } : Room)) (fun a U => a = #[(.ref a1)] ∧ Z.Warmed39 U.vm ∧ U.heap = h0 ∧ CHv Z consts_1 U.vm h0) (fun _ _ _ _ _ => True) (fun _ U o U' => ∃ v L, o = .returned v ∧ Q_isHN Z a1 h0 n0 v U'.heap L ∧ CHr Z consts_1 U.vm U.heap U'.vm U'.heap ∧ ReturnedEndW U o U' L ({ frames := 1, cells := 4, slots := 128, locals := 14 } : Room).cells ({ frames := 1, cells := 4, slots := 128, locals := 14 } : Room).slots) := by
  refine MetFree.of_bodySF (plainFor_of_name pn_com_example_fetch_from_near_fetchfromnear_ContentType) hisR ?_
  intro p e s m args below meth c s₁ Bd hml0 hP hK
  obtain ⟨rfl, hZ, hh, hC0⟩ := hP
  have hx := Bd.exec
  have hby := Bd.bytes
  have hml : c.maxLocals = 1 := hml0
  have hown : s.vm.findClass "com/example/fetch_from_near/fetchfromnear/ContentType" = some m.cls := findClass_of_methodNamed Bd.named
  have hnm := (name_of_methodNamed Bd.named Bd.method).1
  have X0 : Stand p l e ({ frames := 1, cells := 4, slots := 128, locals := 14 } : Room) (s.setVm s.vm) m #[(.ref a1)] below meth c s₁ [] 0 0 := Stand.of_body Bd
  have e0 : s₁.heap = h0 := by rw [← hh, Bd.state]; rfl
  have N0 := Fr.nil n0
  have hS : s.Since s.vm 0 := (State.WarmedH.refl s).since 0
  have hk : 0 ≤ h0.size := Nat.zero_le _
  have hZ : Z.Warmed39 (s.setVm s.vm).vm := hZ
  have hown : (s.setVm s.vm).vm.findClass "com/example/fetch_from_near/fetchfromnear/ContentType" = some m.cls := hown
  have R0 : CHr Z consts_1 s.vm h0 s.vm h0 := CHr.refl hC0
  have g0 : Go p e below s₁ (mkF m 0 #[rv a1] []) (s₁.setTop (entryFrame m #[(.ref a1)] 1)) := fun t kont => castTop (ef_isHN m a1 ) kont
  generalize s₁.setTop (entryFrame m #[(.ref a1)] 1) = A0 at g0 ⊢
  obtain ⟨b101, T101, h101, k101, c101, kc101, X101, e101, E101, hS, hk, hZ, hown, A101, F101, G101, V101, la101, lb101, C101, -, ne101, st101⟩ := ldcCH X0 hx hZ hown (hw _ (List.mem_of_getElem? (i := 52) rfl)) (own_wS hw) e0 hS hk (own_EW hw) (List.mem_of_getElem? (i := 0) rfl) R0.1 (vs := [(.int (116 : Int32)), (.int (101 : Int32)), (.int (120 : Int32)), (.int (116 : Int32)), (.int (47 : Int32)), (.int (104 : Int32)), (.int (116 : Int32)), (.int (109 : Int32)), (.int (108 : Int32))]) (z := (9 : Int32)) ⟨by decide, by decide⟩ (by decide) rfl (g := (mkF m 0 #[rv a1] [])) rfl (hb hby d9_0) (n := 36) (by decide) (by decide) (by decide) (by decide)
  have R102 : CHr Z consts_1 s.vm h0 T101.vm h101 := R0.trans C101
  have O103 := O0.ext E101
  have g104 : Go p e below T101 (mkF m 2 #[rv a1] [(.ref b101)]) A0 := fun t kont => g0 t (st101 t kont)
  have g105 : Go p e below T101 (mkF m 3 #[rv a1] [(.ref a1), (.ref b101)]) A0 := by
    intro t kont
    refine g104 t ?_
    refine XS.aloadN X101.here hx rfl (hb hby d9_2) rfl rfl ?_
    exact kont
  have y106 : Fld Z h101 a1 "com/example/fetch_from_near/fetchfromnear/ContentType" "mediaType" "Ljava/lang/String;" .null := (F0_.ext E101)
  obtain ⟨T107, X107, e107, st107⟩ := getF X101 hx hZ hown (host := "") (Or.inl (hw _ (List.mem_of_getElem? (i := 43) rfl))) Via.refl e101 y106 (g := (mkF m 3 #[rv a1] [(.ref a1), (.ref b101)])) rfl rfl (hb hby d9_3)
  have g108 : Go p e below T107 (mkF m 6 #[rv a1] [.null, (.ref b101)]) A0 := fun t kont => g105 t (st107 t kont)
  obtain ⟨cq109, kq109, q109a, q109b, q109c⟩ := isOf hZ e107 A101
  obtain ⟨_, _, ⟨T109, L109, k109, n109⟩, -, X109, ⟨Lc109, hQ109, l109, y109, z109⟩, st109⟩ := X107.virtualBack hx (y := (⟨"java/lang/String", "equals", "(Ljava/lang/Object;)Z"⟩ : MethodName)) (z := (⟨"java/lang/String", "equals", "(Ljava/lang/Object;)Z"⟩ : MethodName)) hown (mvT hZ (hw _ (List.mem_of_getElem? (i := 55) rfl))) (mvT hZ (hw _ (List.mem_of_getElem? (i := 56) rfl))) (notFace_of_selects (args := #[]) (mvT hZ (hw _ (List.mem_of_getElem? (i := 58) rfl)))) (mvT hZ (hw _ (List.mem_of_getElem? (i := 58) rfl))) (mvT hZ (hw _ (List.mem_of_getElem? (i := 57) rfl))) (by decide) (backOf (W := 0) (rm_eqN l Z a0 hw [] b101 h101 n0 O103 ) hZ (hw _ (List.mem_of_getElem? (i := 59) rfl)) (hw _ (List.mem_of_getElem? (i := 4) rfl)) (by decide) (by decide)) q109a q109c (g := (mkF m 6 #[rv a1] [.null, (.ref b101)])) rfl (by rw [hml]; rfl) (Steps.refl _) (argsL := [.null]) (rest := []) (lenOf pd_9 rfl) rfl (by show 2 * 0 + _ ≤ _; exact Nat.le_of_eq rfl) (hb hby d9_6) (fun _ _ => ⟨rfl, e107, (by decide : 2 + 0 ≤ _), (by decide : 40 + 0 ≤ _)⟩)
  dsimp only [Pt.U, Pt.locs, Pt.cells, Pt.slots] at X109 l109 y109 z109 st109 hQ109
  subst y109 z109
  obtain ⟨rfl, M109, e109⟩ := hQ109
  have N109 : Fr n0 L109 := by rw [l109]; exact Fr.app N0 M109
  have g110 : Go p e below T109 (mkF m 9 #[rv a1] [(.int (0 : Int32))]) A0 := fun t kont => g108 t (st109.trans kont)
  have g111 : Go p e below T109 (mkF m 12 #[rv a1] []) A0 := by
    intro t kont
    refine g110 t ?_
    refine XS.ifNo X109.here hx rfl (hb hby d9_9) rfl ((if0 _ _).trans (teq (by decide : (0 : Int32) = (0 : Int32))).2) ?_
    exact kont
  obtain ⟨b112, T112, h112, k112, c112, kc112, X112, e112, E112, hS, hk, hZ, hown, A112, F112, G112, V112, la112, lb112, C112, -, ne112, st112⟩ := ldcCH X109 hx hZ hown (hw _ (List.mem_of_getElem? (i := 65) rfl)) (own_wS hw) e109 hS hk (own_EW hw) (List.mem_of_getElem? (i := 1) rfl) R102.1 (vs := [(.int (97 : Int32)), (.int (112 : Int32)), (.int (112 : Int32)), (.int (108 : Int32)), (.int (105 : Int32)), (.int (99 : Int32)), (.int (97 : Int32)), (.int (116 : Int32)), (.int (105 : Int32)), (.int (111 : Int32)), (.int (110 : Int32)), (.int (47 : Int32)), (.int (120 : Int32)), (.int (104 : Int32)), (.int (116 : Int32)), (.int (109 : Int32)), (.int (108 : Int32)), (.int (43 : Int32)), (.int (120 : Int32)), (.int (109 : Int32)), (.int (108 : Int32))]) (z := (21 : Int32)) ⟨by decide, by decide⟩ (by decide) rfl (g := (mkF m 12 #[rv a1] [])) rfl (hb hby d9_12) (n := 84) (by decide) (by decide) (by decide) (by decide)
  have R113 : CHr Z consts_1 s.vm h0 T112.vm h112 := R102.trans C112
  have O114 := O103.ext E112
  have g115 : Go p e below T112 (mkF m 14 #[rv a1] [(.ref b112)]) A0 := fun t kont => g111 t (st112 t kont)
  have g116 : Go p e below T112 (mkF m 15 #[rv a1] [(.ref a1), (.ref b112)]) A0 := by
    intro t kont
    refine g115 t ?_
    refine XS.aloadN X112.here hx rfl (hb hby d9_14) rfl rfl ?_
    exact kont
  have y117 : Fld Z h112 a1 "com/example/fetch_from_near/fetchfromnear/ContentType" "mediaType" "Ljava/lang/String;" .null := (y106.ext E112)
  obtain ⟨T118, X118, e118, st118⟩ := getF X112 hx hZ hown (host := "") (Or.inl (hw _ (List.mem_of_getElem? (i := 43) rfl))) Via.refl e112 y117 (g := (mkF m 15 #[rv a1] [(.ref a1), (.ref b112)])) rfl rfl (hb hby d9_15)
  have g119 : Go p e below T118 (mkF m 18 #[rv a1] [.null, (.ref b112)]) A0 := fun t kont => g116 t (st118 t kont)
  obtain ⟨cq120, kq120, q120a, q120b, q120c⟩ := isOf hZ e118 A112
  obtain ⟨_, _, ⟨T120, L120, k120, n120⟩, -, X120, ⟨Lc120, hQ120, l120, y120, z120⟩, st120⟩ := X118.virtualBack hx (y := (⟨"java/lang/String", "equals", "(Ljava/lang/Object;)Z"⟩ : MethodName)) (z := (⟨"java/lang/String", "equals", "(Ljava/lang/Object;)Z"⟩ : MethodName)) hown (mvT hZ (hw _ (List.mem_of_getElem? (i := 55) rfl))) (mvT hZ (hw _ (List.mem_of_getElem? (i := 56) rfl))) (notFace_of_selects (args := #[]) (mvT hZ (hw _ (List.mem_of_getElem? (i := 58) rfl)))) (mvT hZ (hw _ (List.mem_of_getElem? (i := 58) rfl))) (mvT hZ (hw _ (List.mem_of_getElem? (i := 57) rfl))) (by decide) (backOf (W := 0) (rm_eqN l Z a0 hw [] b112 h112 n0 O114 ) hZ (hw _ (List.mem_of_getElem? (i := 59) rfl)) (hw _ (List.mem_of_getElem? (i := 4) rfl)) (by decide) (by decide)) q120a q120c (g := (mkF m 18 #[rv a1] [.null, (.ref b112)])) rfl (by rw [hml]; rfl) (Steps.refl _) (argsL := [.null]) (rest := []) (lenOf pd_9 rfl) rfl (by show 2 * 0 + _ ≤ _; exact Nat.le_of_eq rfl) (hb hby d9_18) (fun _ _ => ⟨rfl, e118, (by decide : 4 + 0 ≤ _), (by decide : 128 + 0 ≤ _)⟩)
  dsimp only [Pt.U, Pt.locs, Pt.cells, Pt.slots] at X120 l120 y120 z120 st120 hQ120
  subst y120 z120
  obtain ⟨rfl, M120, e120⟩ := hQ120
  have N120 : Fr n0 L120 := by rw [l120]; exact Fr.app N109 M120
  have g121 : Go p e below T120 (mkF m 21 #[rv a1] [(.int (0 : Int32))]) A0 := fun t kont => g119 t (st120.trans kont)
  have g122 : Go p e below T120 (mkF m 29 #[rv a1] [(.int (0 : Int32))]) A0 := by
    intro t kont
    refine g121 t ?_
    refine XS.ifYes X120.here hx rfl (pc0 := 21) (pc' := 28) rfl (hb hby d9_21) rfl ((if0 _ _).trans (teq (by decide : (0 : Int32) = (0 : Int32))).1) (by decide) (by decide) ?_
    refine XS.iconst X120.here hx rfl (hb hby d9_28) ?_
    exact kont
  have K123 : Keep h0 h112 [] := (((Keep.refl h0 []).ext E101).ext E112)
  obtain ⟨fs, hr, hrun, hended, hRW⟩ := X120.leaveW hS (by rw [e120]; exact hk) (v := some (.int (0 : Int32))) (fun h => by rw [Bd.returns] at h; cases h)
  refine ⟨_, _, g122 _ (retN X120 hx (t := .boolean) Bd.returns (by simp) (hb hby d9_29) hr), hrun, hended, _, _, rfl, ?_, ?_, hRW.1, hRW.2.1, hRW.2.2.1, hRW.2.2.2.mono (by decide) (by decide)⟩
  ·
    show Q_isHN Z a1 h0 n0 _ T120.heap _
    rw [e120]
    exact ⟨rfl, N120, K123⟩
  ·
    rw [hh]
    show CHr Z consts_1 s.vm h0 T120.vm T120.heap
    rw [e120]
    exact R113.trans (CHv.at X120 hZ (own_EW hw) R113.1)
theorem d9_24 : decode prog_3_method_3_code 24 = .ok (.iconst 1, 1) := by decide +kernel
theorem d9_25 : decode prog_3_method_3_code 25 = .ok (.goto 4, 3) := by decide +kernel
theorem ef_isHG (m : MethodId) (x0 : Addr)  : entryFrame m #[(.ref x0)] 1 = mkF m 0 #[.val (.ref x0)] [] := by first | (simp [entryFrame, mkF, argsToLocals, Value.category]; done) | rfl
def Q_isHG (Z : State) (a1 : Addr) (m1 : Addr) (v1 : Addr) (kv : ClassId) (xs : List Int32) (cs : Int32) (h0 : Heap) (n0 : Nat) (v : Option Value) (h : Heap) (L : List Loc) : Prop := ∃ (rr : Int32), v = some (.int rr) ∧ Fr n0 L ∧ Keep h0 h [] ∧ (rr = (0 : Int32) ∨ rr = (1 : Int32)) ∧ (rr = (1 : Int32) ↔ (xs = own_html ∨ xs = own_xhtml))
set_option maxRecDepth 65536 in
set_option maxHeartbeats 40000000 in
theorem rm_isHG (l : Launch) (Z : State) (a0 : Array Value) (hw : ∀ d ∈ tables_1, d.before a0 Z = true) (ws : List Jvm.Cond) (a1 : Addr) (m1 : Addr) (v1 : Addr) (kv : ClassId) (xs : List Int32) (cs : Int32) (h0 : Heap) (n0 : Nat) (O0 : Old Z n0 h0) (S0_ : Sta Z Z.heap "java/lang/String" "COMPACT_STRINGS" "Z" (.int cs)) (hcs : ¬ (cs = (0 : Int32))) (F2_ : Fld Z h0 a1 "com/example/fetch_from_near/fetchfromnear/ContentType" "mediaType" "Ljava/lang/String;" (.ref m1)) (E3_ : Exa Z h0 a1 "com/example/fetch_from_near/fetchfromnear/ContentType") (E4_ : Exa Z h0 m1 "java/lang/String") (F5_ : Fld Z h0 m1 "java/lang/String" "coder" "B" (.int (0 : Int32))) (F6_ : Fld Z h0 m1 "java/lang/String" "value" "[B" (.ref v1)) (A7_ : Arv Z h0 v1 kv .byte (Int32.ofNat xs.length) (own_lb xs) (.int (0 : Int32))) (hbx : xs.length ≤ 22) (cx : own_chars xs) (lx : own_lat xs) :
    MetFree l (⟨"com/example/fetch_from_near/fetchfromnear/ContentType", "isHtml", "()Z"⟩ : MethodName) (head1 (Jvm.Cond.code (⟨"com/example/fetch_from_near/fetchfromnear/ContentType", "isHtml", "()Z"⟩ : MethodName) prog_3_method_3_code 1 (some .boolean) :: ws) ({ frames := 2, cells := 4, slots := 128, locals := 28 } : Room)) (fun a U => a = #[(.ref a1)] ∧ Z.Warmed39 U.vm ∧ U.heap = h0 ∧ CHv Z consts_1 U.vm h0) (fun _ _ _ _ _ => True) (fun _ U o U' => ∃ v L, o = .returned v ∧ Q_isHG Z a1 m1 v1 kv xs cs h0 n0 v U'.heap L ∧ CHr Z consts_1 U.vm U.heap U'.vm U'.heap ∧ ReturnedEndW U o U' L ({ frames := 2, cells := 4, slots := 128, locals := 28 } : Room).cells ({ frames := 2, cells := 4, slots := 128, locals := 28 } : Room).slots) := by
  refine MetFree.of_bodySF (plainFor_of_name pn_com_example_fetch_from_near_fetchfromnear_ContentType) hisR ?_
  intro p e s m args below meth c s₁ Bd hml0 hP hK
  obtain ⟨rfl, hZ, hh, hC0⟩ := hP
  have hx := Bd.exec
  have hby := Bd.bytes
  have hml : c.maxLocals = 1 := hml0
  have hown : s.vm.findClass "com/example/fetch_from_near/fetchfromnear/ContentType" = some m.cls := findClass_of_methodNamed Bd.named
  have hnm := (name_of_methodNamed Bd.named Bd.method).1
  have X0 : Stand p l e ({ frames := 2, cells := 4, slots := 128, locals := 28 } : Room) (s.setVm s.vm) m #[(.ref a1)] below meth c s₁ [] 0 0 := Stand.of_body Bd
  have e0 : s₁.heap = h0 := by rw [← hh, Bd.state]; rfl
  have N0 := Fr.nil n0
  have hS : s.Since s.vm 0 := (State.WarmedH.refl s).since 0
  have hk : 0 ≤ h0.size := Nat.zero_le _
  have hZ : Z.Warmed39 (s.setVm s.vm).vm := hZ
  have hown : (s.setVm s.vm).vm.findClass "com/example/fetch_from_near/fetchfromnear/ContentType" = some m.cls := hown
  have R0 : CHr Z consts_1 s.vm h0 s.vm h0 := CHr.refl hC0
  have g0 : Go p e below s₁ (mkF m 0 #[rv a1] []) (s₁.setTop (entryFrame m #[(.ref a1)] 1)) := fun t kont => castTop (ef_isHG m a1 ) kont
  generalize s₁.setTop (entryFrame m #[(.ref a1)] 1) = A0 at g0 ⊢
  obtain ⟨b101, T101, h101, k101, c101, kc101, X101, e101, E101, hS, hk, hZ, hown, A101, F101, G101, V101, la101, lb101, C101, -, ne101, st101⟩ := ldcCH X0 hx hZ hown (hw _ (List.mem_of_getElem? (i := 52) rfl)) (own_wS hw) e0 hS hk (own_EW hw) (List.mem_of_getElem? (i := 0) rfl) R0.1 (vs := [(.int (116 : Int32)), (.int (101 : Int32)), (.int (120 : Int32)), (.int (116 : Int32)), (.int (47 : Int32)), (.int (104 : Int32)), (.int (116 : Int32)), (.int (109 : Int32)), (.int (108 : Int32))]) (z := (9 : Int32)) ⟨by decide, by decide⟩ (by decide) rfl (g := (mkF m 0 #[rv a1] [])) rfl (hb hby d9_0) (n := 36) (by decide) (by decide) (by decide) (by decide)
  have R102 : CHr Z consts_1 s.vm h0 T101.vm h101 := R0.trans C101
  have O103 := O0.ext E101
  have g104 : Go p e below T101 (mkF m 2 #[rv a1] [(.ref b101)]) A0 := fun t kont => g0 t (st101 t kont)
  have y105 : Arv Z h101 c101 kc101 .byte (Int32.ofNat own_html.length) (own_lb own_html) (.int (0 : Int32)) := by rw [show own_lb own_html = [(.int (116 : Int32)), (.int (101 : Int32)), (.int (120 : Int32)), (.int (116 : Int32)), (.int (47 : Int32)), (.int (104 : Int32)), (.int (116 : Int32)), (.int (109 : Int32)), (.int (108 : Int32))] from rfl]; exact V101
  have g106 : Go p e below T101 (mkF m 3 #[rv a1] [(.ref a1), (.ref b101)]) A0 := by
    intro t kont
    refine g104 t ?_
    refine XS.aloadN X101.here hx rfl (hb hby d9_2) rfl rfl ?_
    exact kont
  have y107 : Fld Z h101 a1 "com/example/fetch_from_near/fetchfromnear/ContentType" "mediaType" "Ljava/lang/String;" (.ref m1) := (F2_.ext E101)
  obtain ⟨T108, X108, e108, st108⟩ := getF X101 hx hZ hown (host := "") (Or.inl (hw _ (List.mem_of_getElem? (i := 43) rfl))) Via.refl e101 y107 (g := (mkF m 3 #[rv a1] [(.ref a1), (.ref b101)])) rfl rfl (hb hby d9_3)
  have g109 : Go p e below T108 (mkF m 6 #[rv a1] [(.ref m1), (.ref b101)]) A0 := fun t kont => g106 t (st108 t kont)
  have y111 : Exa Z h101 m1 "java/lang/String" := (E4_.ext E101)
  have y112 : Fld Z h101 m1 "java/lang/String" "coder" "B" (.int (0 : Int32)) := (F5_.ext E101)
  have y113 : Fld Z h101 m1 "java/lang/String" "value" "[B" (.ref v1) := (F6_.ext E101)
  have y114 : Arv Z h101 v1 kv .byte (Int32.ofNat xs.length) (own_lb xs) (.int (0 : Int32)) := (A7_.ext E101)
  obtain ⟨cq110, kq110, q110a, q110b, q110c⟩ := isOf hZ e108 A101
  obtain ⟨_, _, ⟨T110, L110, k110, n110⟩, -, X110, ⟨Lc110, hQ110, l110, y110, z110⟩, st110⟩ := X108.virtualBack hx (y := (⟨"java/lang/String", "equals", "(Ljava/lang/Object;)Z"⟩ : MethodName)) (z := (⟨"java/lang/String", "equals", "(Ljava/lang/Object;)Z"⟩ : MethodName)) hown (mvT hZ (hw _ (List.mem_of_getElem? (i := 55) rfl))) (mvT hZ (hw _ (List.mem_of_getElem? (i := 56) rfl))) (notFace_of_selects (args := #[]) (mvT hZ (hw _ (List.mem_of_getElem? (i := 58) rfl)))) (mvT hZ (hw _ (List.mem_of_getElem? (i := 58) rfl))) (mvT hZ (hw _ (List.mem_of_getElem? (i := 57) rfl))) (by decide) (backOf (W := 0) (rm_eqG l Z a0 hw [] b101 m1 c101 v1 kc101 kv own_html xs cs h101 n0 O103 S0_ hcs y111 F101 y112 G101 y113 y105 y114 (by decide) (hbx) (own_html_c) (cx) (own_html_l) (lx)) hZ (hw _ (List.mem_of_getElem? (i := 59) rfl)) (hw _ (List.mem_of_getElem? (i := 4) rfl)) (by decide) (by decide)) q110a q110c (g := (mkF m 6 #[rv a1] [(.ref m1), (.ref b101)])) rfl (by rw [hml]; rfl) (Steps.refl _) (argsL := [(.ref m1)]) (rest := []) (lenOf pd_9 rfl) rfl (by show 2 * 0 + _ ≤ _; exact Nat.le_of_eq rfl) (hb hby d9_6) (fun _ _ => ⟨rfl, e108, (by decide : 2 + 0 ≤ _), (by decide : 40 + 0 ≤ _)⟩)
  dsimp only [Pt.U, Pt.locs, Pt.cells, Pt.slots] at X110 l110 y110 z110 st110 hQ110
  subst y110 z110
  obtain ⟨r115, rfl, M110, e110, y116, y117⟩ := hQ110
  have N110 : Fr n0 L110 := by rw [l110]; exact Fr.app N0 M110
  have g118 : Go p e below T110 (mkF m 9 #[rv a1] [(.int r115)]) A0 := fun t kont => g109 t (st110.trans kont)
  rcases (y116 : r115 = (0 : Int32) ∨ r115 = (1 : Int32)) with c119 | c119
  ·
    subst c119
    have g120 : Go p e below T110 (mkF m 12 #[rv a1] []) A0 := by
      intro t kont
      refine g118 t ?_
      refine XS.ifNo X110.here hx rfl (hb hby d9_9) rfl ((if0 _ _).trans (teq (by decide : (0 : Int32) = (0 : Int32))).2) ?_
      exact kont
    obtain ⟨b121, T121, h121, k121, c121, kc121, X121, e121, E121, hS, hk, hZ, hown, A121, F121, G121, V121, la121, lb121, C121, -, ne121, st121⟩ := ldcCH X110 hx hZ hown (hw _ (List.mem_of_getElem? (i := 65) rfl)) (own_wS hw) e110 hS hk (own_EW hw) (List.mem_of_getElem? (i := 1) rfl) R102.1 (vs := [(.int (97 : Int32)), (.int (112 : Int32)), (.int (112 : Int32)), (.int (108 : Int32)), (.int (105 : Int32)), (.int (99 : Int32)), (.int (97 : Int32)), (.int (116 : Int32)), (.int (105 : Int32)), (.int (111 : Int32)), (.int (110 : Int32)), (.int (47 : Int32)), (.int (120 : Int32)), (.int (104 : Int32)), (.int (116 : Int32)), (.int (109 : Int32)), (.int (108 : Int32)), (.int (43 : Int32)), (.int (120 : Int32)), (.int (109 : Int32)), (.int (108 : Int32))]) (z := (21 : Int32)) ⟨by decide, by decide⟩ (by decide) rfl (g := (mkF m 12 #[rv a1] [])) rfl (hb hby d9_12) (n := 84) (by decide) (by decide) (by decide) (by decide)
    have R122 : CHr Z consts_1 s.vm h0 T121.vm h121 := R102.trans C121
    have O123 := O103.ext E121
    have g124 : Go p e below T121 (mkF m 14 #[rv a1] [(.ref b121)]) A0 := fun t kont => g120 t (st121 t kont)
    have y125 : Arv Z h121 c121 kc121 .byte (Int32.ofNat own_xhtml.length) (own_lb own_xhtml) (.int (0 : Int32)) := by rw [show own_lb own_xhtml = [(.int (97 : Int32)), (.int (112 : Int32)), (.int (112 : Int32)), (.int (108 : Int32)), (.int (105 : Int32)), (.int (99 : Int32)), (.int (97 : Int32)), (.int (116 : Int32)), (.int (105 : Int32)), (.int (111 : Int32)), (.int (110 : Int32)), (.int (47 : Int32)), (.int (120 : Int32)), (.int (104 : Int32)), (.int (116 : Int32)), (.int (109 : Int32)), (.int (108 : Int32)), (.int (43 : Int32)), (.int (120 : Int32)), (.int (109 : Int32)), (.int (108 : Int32))] from rfl]; exact V121
    have g126 : Go p e below T121 (mkF m 15 #[rv a1] [(.ref a1), (.ref b121)]) A0 := by
      intro t kont
      refine g124 t ?_
      refine XS.aloadN X121.here hx rfl (hb hby d9_14) rfl rfl ?_
      exact kont
    have y127 : Fld Z h121 a1 "com/example/fetch_from_near/fetchfromnear/ContentType" "mediaType" "Ljava/lang/String;" (.ref m1) := (y107.ext E121)
    obtain ⟨T128, X128, e128, st128⟩ := getF X121 hx hZ hown (host := "") (Or.inl (hw _ (List.mem_of_getElem? (i := 43) rfl))) Via.refl e121 y127 (g := (mkF m 15 #[rv a1] [(.ref a1), (.ref b121)])) rfl rfl (hb hby d9_15)
    have g129 : Go p e below T128 (mkF m 18 #[rv a1] [(.ref m1), (.ref b121)]) A0 := fun t kont => g126 t (st128 t kont)
    have y131 : Exa Z h121 m1 "java/lang/String" := (y111.ext E121)
    have y132 : Fld Z h121 m1 "java/lang/String" "coder" "B" (.int (0 : Int32)) := (y112.ext E121)
    have y133 : Fld Z h121 m1 "java/lang/String" "value" "[B" (.ref v1) := (y113.ext E121)
    have y134 : Arv Z h121 v1 kv .byte (Int32.ofNat xs.length) (own_lb xs) (.int (0 : Int32)) := (y114.ext E121)
    obtain ⟨cq130, kq130, q130a, q130b, q130c⟩ := isOf hZ e128 A121
    obtain ⟨_, _, ⟨T130, L130, k130, n130⟩, -, X130, ⟨Lc130, hQ130, l130, y130, z130⟩, st130⟩ := X128.virtualBack hx (y := (⟨"java/lang/String", "equals", "(Ljava/lang/Object;)Z"⟩ : MethodName)) (z := (⟨"java/lang/String", "equals", "(Ljava/lang/Object;)Z"⟩ : MethodName)) hown (mvT hZ (hw _ (List.mem_of_getElem? (i := 55) rfl))) (mvT hZ (hw _ (List.mem_of_getElem? (i := 56) rfl))) (notFace_of_selects (args := #[]) (mvT hZ (hw _ (List.mem_of_getElem? (i := 58) rfl)))) (mvT hZ (hw _ (List.mem_of_getElem? (i := 58) rfl))) (mvT hZ (hw _ (List.mem_of_getElem? (i := 57) rfl))) (by decide) (backOf (W := 0) (rm_eqG l Z a0 hw [] b121 m1 c121 v1 kc121 kv own_xhtml xs cs h121 n0 O123 S0_ hcs y131 F121 y132 G121 y133 y125 y134 (by decide) (hbx) (own_xhtml_c) (cx) (own_xhtml_l) (lx)) hZ (hw _ (List.mem_of_getElem? (i := 59) rfl)) (hw _ (List.mem_of_getElem? (i := 4) rfl)) (by decide) (by decide)) q130a q130c (g := (mkF m 18 #[rv a1] [(.ref m1), (.ref b121)])) rfl (by rw [hml]; rfl) (Steps.refl _) (argsL := [(.ref m1)]) (rest := []) (lenOf pd_9 rfl) rfl (by show 2 * 0 + _ ≤ _; exact Nat.le_of_eq rfl) (hb hby d9_18) (fun _ _ => ⟨rfl, e128, (by decide : 4 + 0 ≤ _), (by decide : 128 + 0 ≤ _)⟩)
    dsimp only [Pt.U, Pt.locs, Pt.cells, Pt.slots] at X130 l130 y130 z130 st130 hQ130
    subst y130 z130
    obtain ⟨r135, rfl, M130, e130, y136, y137⟩ := hQ130
    have N130 : Fr n0 L130 := by rw [l130]; exact Fr.app N110 M130
    have g138 : Go p e below T130 (mkF m 21 #[rv a1] [(.int r135)]) A0 := fun t kont => g129 t (st130.trans kont)
    rcases (y136 : r135 = (0 : Int32) ∨ r135 = (1 : Int32)) with c139 | c139
    ·
      subst c139
      have g140 : Go p e below T130 (mkF m 29 #[rv a1] [(.int (0 : Int32))]) A0 := by
        intro t kont
        refine g138 t ?_
        refine XS.ifYes X130.here hx rfl (pc0 := 21) (pc' := 28) rfl (hb hby d9_21) rfl ((if0 _ _).trans (teq (by decide : (0 : Int32) = (0 : Int32))).1) (by decide) (by decide) ?_
        refine XS.iconst X130.here hx rfl (hb hby d9_28) ?_
        exact kont
      have K141 : Keep h0 h121 [] := (((Keep.refl h0 []).ext E101).ext E121)
      obtain ⟨fs, hr, hrun, hended, hRW⟩ := X130.leaveW hS (by rw [e130]; exact hk) (v := some (.int (0 : Int32))) (fun h => by rw [Bd.returns] at h; cases h)
      refine ⟨_, _, g140 _ (retN X130 hx (t := .boolean) Bd.returns (by simp) (hb hby d9_29) hr), hrun, hended, _, _, rfl, ?_, ?_, hRW.1, hRW.2.1, hRW.2.2.1, hRW.2.2.2.mono (by decide) (by decide)⟩
      ·
        show Q_isHG Z a1 m1 v1 kv xs cs h0 n0 _ T130.heap _
        rw [e130]
        exact ⟨(0 : Int32), rfl, N130, K141, Or.inl rfl, iff_of_false (by decide) (fun z => z.elim (fun z => absurd (y117.mpr z.symm) (by decide)) (fun z => absurd (y137.mpr z.symm) (by decide)))⟩
      ·
        rw [hh]
        show CHr Z consts_1 s.vm h0 T130.vm T130.heap
        rw [e130]
        exact R122.trans (CHv.at X130 hZ (own_EW hw) R122.1)
    subst c139
    have g142 : Go p e below T130 (mkF m 29 #[rv a1] [(.int (1 : Int32))]) A0 := by
      intro t kont
      refine g138 t ?_
      refine XS.ifNo X130.here hx rfl (hb hby d9_21) rfl ((if0 _ _).trans (feq (by decide : ¬ ((1 : Int32) = (0 : Int32)))).1) ?_
      refine XS.iconst X130.here hx rfl (hb hby d9_24) ?_
      refine XS.goto X130.here hx rfl (pc0 := 25) (pc' := 29) rfl (hb hby d9_25) (by decide) (by decide) ?_
      exact kont
    have K143 : Keep h0 h121 [] := (((Keep.refl h0 []).ext E101).ext E121)
    obtain ⟨fs, hr, hrun, hended, hRW⟩ := X130.leaveW hS (by rw [e130]; exact hk) (v := some (.int (1 : Int32))) (fun h => by rw [Bd.returns] at h; cases h)
    refine ⟨_, _, g142 _ (retN X130 hx (t := .boolean) Bd.returns (by simp) (hb hby d9_29) hr), hrun, hended, _, _, rfl, ?_, ?_, hRW.1, hRW.2.1, hRW.2.2.1, hRW.2.2.2.mono (by decide) (by decide)⟩
    ·
      show Q_isHG Z a1 m1 v1 kv xs cs h0 n0 _ T130.heap _
      rw [e130]
      exact ⟨(1 : Int32), rfl, N130, K143, Or.inr rfl, iff_of_true rfl (Or.inr (y137.mp rfl).symm)⟩
    ·
      rw [hh]
      show CHr Z consts_1 s.vm h0 T130.vm T130.heap
      rw [e130]
      exact R122.trans (CHv.at X130 hZ (own_EW hw) R122.1)
  subst c119
  have g144 : Go p e below T110 (mkF m 29 #[rv a1] [(.int (1 : Int32))]) A0 := by
    intro t kont
    refine g118 t ?_
    refine XS.ifYes X110.here hx rfl (pc0 := 9) (pc' := 24) rfl (hb hby d9_9) rfl ((if0 _ _).trans (feq (by decide : ¬ ((1 : Int32) = (0 : Int32)))).2) (by decide) (by decide) ?_
    refine XS.iconst X110.here hx rfl (hb hby d9_24) ?_
    refine XS.goto X110.here hx rfl (pc0 := 25) (pc' := 29) rfl (hb hby d9_25) (by decide) (by decide) ?_
    exact kont
  have K145 : Keep h0 h101 [] := ((Keep.refl h0 []).ext E101)
  obtain ⟨fs, hr, hrun, hended, hRW⟩ := X110.leaveW hS (by rw [e110]; exact hk) (v := some (.int (1 : Int32))) (fun h => by rw [Bd.returns] at h; cases h)
  refine ⟨_, _, g144 _ (retN X110 hx (t := .boolean) Bd.returns (by simp) (hb hby d9_29) hr), hrun, hended, _, _, rfl, ?_, ?_, hRW.1, hRW.2.1, hRW.2.2.1, hRW.2.2.2.mono (by decide) (by decide)⟩
  ·
    show Q_isHG Z a1 m1 v1 kv xs cs h0 n0 _ T110.heap _
    rw [e110]
    exact ⟨(1 : Int32), rfl, N110, K145, Or.inr rfl, iff_of_true rfl (Or.inl (y117.mp rfl).symm)⟩
  ·
    rw [hh]
    show CHr Z consts_1 s.vm h0 T110.vm T110.heap
    rw [e110]
    exact R102.trans (CHv.at X110 hZ (own_EW hw) R102.1)
theorem pd_10 : parseMethodDescriptor "(C)Ljava/lang/String;" = some ⟨[.char], some (.object "java/lang/String")⟩ := by decide +kernel
theorem pd_11 : parseMethodDescriptor "([C)V" = some ⟨[(.array .char)], none⟩ := by decide +kernel
theorem pd_12 : parseMethodDescriptor "(Ljava/lang/String;Ljava/lang/String;)V" = some ⟨[(.object "java/lang/String"), (.object "java/lang/String")], none⟩ := by decide +kernel
theorem pd_13 : parseMethodDescriptor "()Z" = some ⟨[], some .boolean⟩ := by decide +kernel
theorem pn_com_example_fetch_from_near_fetchfromnear_ContentTypeIsHtmlPinLaw : plainName "com/example/fetch_from_near/fetchfromnear/ContentTypeIsHtmlPinLaw" = true := by first | (simp [plainName, overriddenIn]; done) | decide +kernel
theorem ef_law (m : MethodId) (x0 : Int32) (x1 : Int32) (x2 : Int32) (x3 : Int32) (x4 : Int32)  : entryFrame m #[(.int x0), (.int x1), (.int x2), (.int x3), (.int x4)] maxLocals = mkF m 0 #[.val (.int x0), .val (.int x1), .val (.int x2), .val (.int x3), .val (.int x4), .unset, .unset, .unset, .unset, .unset, .unset, .unset, .unset, .unset] [] := by first | (simp [entryFrame, mkF, argsToLocals, Value.category, maxLocals]; done) | rfl
def Q_law (Z : State) (p0 : Int32) (p1 : Int32) (p2 : Int32) (p3 : Int32) (p4 : Int32) (i_COMPACT_STRINGS : Int32) (h0 : Heap) (n0 : Nat) (v : Option Value) (h : Heap) (L : List Loc) : Prop := v = some (.int (1 : Int32)) ∧ Fr n0 L
set_option maxRecDepth 65536 in
set_option maxHeartbeats 40000000 in
theorem rm_law (l : Launch) (Z : State) (a0 : Array Value) (hw : ∀ d ∈ tables_1, d.before a0 Z = true) (ws : List Jvm.Cond) (p0 : Int32) (p1 : Int32) (p2 : Int32) (p3 : Int32) (p4 : Int32) (i_COMPACT_STRINGS : Int32) (h0 : Heap) (n0 : Nat) (O0 : Old Z n0 h0) (S0_ : Sta Z Z.heap "java/lang/String" "COMPACT_STRINGS" "Z" (.int i_COMPACT_STRINGS)) (hcs : ¬ (i_COMPACT_STRINGS = (0 : Int32))) :
    MetFree l x (head1 (Jvm.Cond.code x code maxLocals ret :: ws) room_1) (fun a U => a = #[(.int p0), (.int p1), (.int p2), (.int p3), (.int p4)] ∧ Z.Warmed39 U.vm ∧ U.heap = h0 ∧ CHv Z consts_1 U.vm h0) (fun _ _ _ _ _ => True) (fun _ U o U' => ∃ v L, o = .returned v ∧ Q_law Z p0 p1 p2 p3 p4 i_COMPACT_STRINGS h0 n0 v U'.heap L ∧ CHr Z consts_1 U.vm U.heap U'.vm U'.heap ∧ ReturnedEndW U o U' L room_1.cells room_1.slots) := by
  refine MetFree.of_bodySF (plainFor_of_name pn_com_example_fetch_from_near_fetchfromnear_ContentTypeIsHtmlPinLaw) hisR ?_
  intro p e s m args below meth c s₁ Bd hml0 hP hK
  obtain ⟨rfl, hZ, hh, hC0⟩ := hP
  have hx := Bd.exec
  have hby := Bd.bytes
  have hml : c.maxLocals = 14 := hml0
  have hown : s.vm.findClass "com/example/fetch_from_near/fetchfromnear/ContentTypeIsHtmlPinLaw" = some m.cls := findClass_of_methodNamed Bd.named
  have hnm := (name_of_methodNamed Bd.named Bd.method).1
  have X0 : Stand p l e room_1 (s.setVm s.vm) m #[(.int p0), (.int p1), (.int p2), (.int p3), (.int p4)] below meth c s₁ [] 0 0 := Stand.of_body Bd
  have e0 : s₁.heap = h0 := by rw [← hh, Bd.state]; rfl
  have N0 := Fr.nil n0
  have hS : s.Since s.vm 0 := (State.WarmedH.refl s).since 0
  have hk : 0 ≤ h0.size := Nat.zero_le _
  have hZ : Z.Warmed39 (s.setVm s.vm).vm := hZ
  have hown : (s.setVm s.vm).vm.findClass "com/example/fetch_from_near/fetchfromnear/ContentTypeIsHtmlPinLaw" = some m.cls := hown
  have R0 : CHr Z consts_1 s.vm h0 s.vm h0 := CHr.refl hC0
  have g0 : Go p e below s₁ (mkF m 0 #[iv p0, iv p1, iv p2, iv p3, iv p4, .unset, .unset, .unset, .unset, .unset, .unset, .unset, .unset, .unset] []) (s₁.setTop (entryFrame m #[(.int p0), (.int p1), (.int p2), (.int p3), (.int p4)] maxLocals)) := fun t kont => castTop (ef_law m p0 p1 p2 p3 p4 ) kont
  generalize s₁.setTop (entryFrame m #[(.int p0), (.int p1), (.int p2), (.int p3), (.int p4)] maxLocals) = A0 at g0 ⊢
  have g101 : Go p e below s₁ (mkF m 4 #[iv p0, iv p1, iv p2, iv p3, iv p4, .unset, .unset, .unset, .unset, .unset, .unset, .unset, .unset, .unset] [(.int (p0 &&& (7 : Int32)))]) A0 := by
    intro t kont
    refine g0 t ?_
    refine XS.iloadN X0.here hx rfl (hb hby at_0) rfl ?_
    refine XS.bipush X0.here hx rfl (hb hby at_1) ?_
    refine XS.iand X0.here hx rfl (hb hby at_3) rfl ?_
    exact kont
  obtain ⟨k, e_k⟩ : ∃ z, z = (p0 &&& (7 : Int32)) := ⟨_, rfl⟩
  have g102 : Go p e below s₁ (mkF m 4 #[iv p0, iv p1, iv p2, iv p3, iv p4, .unset, .unset, .unset, .unset, .unset, .unset, .unset, .unset, .unset] [(.int k)]) A0 := by rw [e_k]; exact g101
  have g103 : Go p e below s₁ (mkF m 12 #[iv p0, iv p1, iv p2, iv p3, iv p4, iv k, .unset, .unset, .unset, .unset, .unset, .unset, .unset, .unset] [(.int ((p2 &&& (255 : Int32)).toUInt32.toUInt16.toUInt32.toInt32))]) A0 := by
    intro t kont
    refine g102 t ?_
    refine XS.istore X0.here hx rfl (hb hby at_4) rfl (l' := #[iv p0, iv p1, iv p2, iv p3, iv p4, iv k, .unset, .unset, .unset, .unset, .unset, .unset, .unset, .unset]) rfl ?_
    refine XS.iloadN X0.here hx rfl (hb hby at_6) rfl ?_
    refine XS.sipush X0.here hx rfl (hb hby at_7) ?_
    refine XS.iand X0.here hx rfl (hb hby at_10) rfl ?_
    refine XS.i2c X0.here hx rfl (hb hby at_11) rfl ?_
    exact kont
  obtain ⟨ch, e_ch⟩ : ∃ z, z = ((p2 &&& (255 : Int32)).toUInt32.toUInt16.toUInt32.toInt32) := ⟨_, rfl⟩
  have g104 : Go p e below s₁ (mkF m 12 #[iv p0, iv p1, iv p2, iv p3, iv p4, iv k, .unset, .unset, .unset, .unset, .unset, .unset, .unset, .unset] [(.int ch)]) A0 := by rw [e_ch]; exact g103
  have b_ch : ¬ ((255 : Int32) < ch) := by rw [e_ch]; exact own_c255 _
  have z_ch : ¬ (ch < (0 : Int32)) := by rw [e_ch]; exact own_c0 _
  have r_ch : nar .char ch = ch := by rw [e_ch]; exact own_narc _
  have g105 : Go p e below s₁ (mkF m 14 #[iv p0, iv p1, iv p2, iv p3, iv p4, iv k, iv ch, .unset, .unset, .unset, .unset, .unset, .unset, .unset] []) A0 := by
    intro t kont
    refine g104 t ?_
    refine XS.istore X0.here hx rfl (hb hby at_12) rfl (l' := #[iv p0, iv p1, iv p2, iv p3, iv p4, iv k, iv ch, .unset, .unset, .unset, .unset, .unset, .unset, .unset]) rfl ?_
    exact kont
  obtain ⟨cv, T106, lc106, h106, vm106, k106, X106, e106, E106, hS, hk, hZ, hown, R106, C106, N106, g106, h_cv⟩ : ∃ cv : Value, ∃ (T106 : State) (lc106 : List Loc) (h106 : Heap) (vm106 : Vm) (k106 : Nat), Stand p l e room_1 (s.setVm vm106) m #[(.int p0), (.int p1), (.int p2), (.int p3), (.int p4)] below meth c T106 lc106 2 5 ∧ T106.heap = h106 ∧ Ext h0 h106 ∧ s.Since vm106 k106 ∧ k106 ≤ h106.size ∧ Z.Warmed39 (s.setVm vm106).vm ∧ (s.setVm vm106).vm.findClass "com/example/fetch_from_near/fetchfromnear/ContentTypeIsHtmlPinLaw" = some m.cls ∧ CHr Z consts_1 s.vm h0 vm106 h106 ∧ CHr Z consts_1 s.vm h0 vm106 h106 ∧ Fr n0 lc106 ∧ Go p e below T106 (mkF m 39 #[iv p0, iv p1, iv p2, iv p3, iv p4, iv k, iv ch, .val cv, .unset, .unset, .unset, .unset, .unset, .unset] []) A0 ∧ (cv.isRef = true) := by
    have g108 : Go p e below s₁ (mkF m 18 #[iv p0, iv p1, iv p2, iv p3, iv p4, iv k, iv ch, .unset, .unset, .unset, .unset, .unset, .unset, .unset] [(.int (p4 &&& (1 : Int32)))]) A0 := by
      intro t kont
      refine g105 t ?_
      refine XS.iload X0.here hx rfl (hb hby at_14) rfl ?_
      refine XS.iconst X0.here hx rfl (hb hby at_16) ?_
      refine XS.iand X0.here hx rfl (hb hby at_17) rfl ?_
      exact kont
    by_cases c107 : (p4 &&& (1 : Int32)) = (0 : Int32)
    ·
      have g109 : Go p e below s₁ (mkF m 39 #[iv p0, iv p1, iv p2, iv p3, iv p4, iv k, iv ch, .val .null, .unset, .unset, .unset, .unset, .unset, .unset] []) A0 := by
        intro t kont
        refine g108 t ?_
        refine XS.ifNo X0.here hx rfl (hb hby at_18) rfl ((if0 _ _).trans (teq c107).2) ?_
        refine XS.aconstNull X0.here hx rfl (hb hby at_21) ?_
        refine XS.goto X0.here hx rfl (pc0 := 22) (pc' := 37) rfl (hb hby at_22) (by decide) (by decide) ?_
        refine XS.astore X0.here hx rfl (hb hby at_37) rfl rfl (l' := #[iv p0, iv p1, iv p2, iv p3, iv p4, iv k, iv ch, .val .null, .unset, .unset, .unset, .unset, .unset, .unset]) rfl ?_
        exact kont
      exact ⟨.null, _, _, _, _, _, (X0.more (by decide) (by decide)), e0, own_ext_refl, hS, hk, hZ, hown, R0, (CHr.refl R0.1), N0, g109, (rfl)⟩
    have g110 : Go p e below s₁ (mkF m 34 #[iv p0, iv p1, iv p2, iv p3, iv p4, iv k, iv ch, .unset, .unset, .unset, .unset, .unset, .unset, .unset] [(.int ((((p4.toUInt32 >>> ((1 : Int32) &&& 31).toUInt32).toInt32) &&& (255 : Int32)).toUInt32.toUInt16.toUInt32.toInt32))]) A0 := by
      intro t kont
      refine g108 t ?_
      refine XS.ifYes X0.here hx rfl (pc0 := 18) (pc' := 25) rfl (hb hby at_18) rfl ((if0 _ _).trans (feq c107).2) (by decide) (by decide) ?_
      refine XS.iload X0.here hx rfl (hb hby at_25) rfl ?_
      refine XS.iconst X0.here hx rfl (hb hby at_27) ?_
      refine XS.iushr X0.here hx rfl (hb hby at_28) rfl ?_
      refine XS.sipush X0.here hx rfl (hb hby at_29) ?_
      refine XS.iand X0.here hx rfl (hb hby at_32) rfl ?_
      refine XS.i2c X0.here hx rfl (hb hby at_33) rfl ?_
      exact kont
    obtain ⟨cz, e_cz⟩ : ∃ z, z = ((((p4.toUInt32 >>> ((1 : Int32) &&& 31).toUInt32).toInt32) &&& (255 : Int32)).toUInt32.toUInt16.toUInt32.toInt32) := ⟨_, rfl⟩
    have g111 : Go p e below s₁ (mkF m 34 #[iv p0, iv p1, iv p2, iv p3, iv p4, iv k, iv ch, .unset, .unset, .unset, .unset, .unset, .unset, .unset] [(.int cz)]) A0 := by rw [e_cz]; exact g110
    have b_cz : ¬ ((255 : Int32) < cz) := by rw [e_cz]; exact own_c255 _
    have z_cz : ¬ (cz < (0 : Int32)) := by rw [e_cz]; exact own_c0 _
    have r_cz : nar .char cz = cz := by rw [e_cz]; exact own_narc _
    obtain ⟨_, _, ⟨T112, L112, k112, n112⟩, -, X112, ⟨Lc112, hQ112, l112, y112, z112⟩, st112⟩ := Jvm.LawKit.callS X0 hx (y := (⟨"java/lang/String", "valueOf", "(C)Ljava/lang/String;"⟩ : MethodName)) hown (mvT hZ (hw _ (List.mem_of_getElem? (i := 66) rfl))) (mvT hZ (hw _ (List.mem_of_getElem? (i := 67) rfl))) (mvT hZ (hw _ (List.mem_of_getElem? (i := 4) rfl))) (mvT hZ (hw _ (List.mem_of_getElem? (i := 68) rfl))) (by decide) (backOf (W := 0) (rm_valC l Z a0 hw [] cz i_COMPACT_STRINGS h0 n0 O0 S0_ hcs (b_cz)) hZ (hw _ (List.mem_of_getElem? (i := 68) rfl)) (hw _ (List.mem_of_getElem? (i := 4) rfl)) (by decide) (by decide)) (g := (mkF m 34 #[iv p0, iv p1, iv p2, iv p3, iv p4, iv k, iv ch, .unset, .unset, .unset, .unset, .unset, .unset, .unset] [(.int cz)])) rfl (by rw [hml]; rfl) (argsL := [(.int cz)]) (rest := []) (lenOf pd_10 rfl) rfl (by show 2 * 0 + _ ≤ _; exact Nat.le_of_eq rfl) (hb hby at_34) (fun _ _ => ⟨rfl, e0, (by decide : 0 + 2 ≤ _), (by decide : 0 + 5 ≤ _)⟩)
    dsimp only [Pt.U, Pt.locs, Pt.cells, Pt.slots] at X112 l112 y112 z112 st112 hQ112
    subst y112 z112
    obtain ⟨r113, r114, r115, rfl, M112, K112, y116, y117, y118, y119, y120, y121⟩ := hQ112
    have N112 : Fr n0 L112 := by rw [l112]; exact Fr.app N0 M112
    have R122 : CHr Z consts_1 s.vm h0 s.vm T112.heap := R0.trans (CHr.keep K112 sf0 R0.1)
    have O123 := O0.keep K112 all0
    have g124 : Go p e below T112 (mkF m 37 #[iv p0, iv p1, iv p2, iv p3, iv p4, iv k, iv ch, .unset, .unset, .unset, .unset, .unset, .unset, .unset] [(.ref r113)]) A0 := fun t kont => g111 t (st112 t kont)
    have g125 : Go p e below T112 (mkF m 39 #[iv p0, iv p1, iv p2, iv p3, iv p4, iv k, iv ch, rv r113, .unset, .unset, .unset, .unset, .unset, .unset] []) A0 := by
      intro t kont
      refine g124 t ?_
      refine XS.astore X112.here hx rfl (hb hby at_37) rfl rfl (l' := #[iv p0, iv p1, iv p2, iv p3, iv p4, iv k, iv ch, rv r113, .unset, .unset, .unset, .unset, .unset, .unset]) rfl ?_
      exact kont
    exact ⟨(.ref r113), _, _, _, _, _, (X112.more (by decide) (by decide)), rfl, (own_ext_keep K112), hS, (Nat.le_trans hk K112.1), hZ, hown, R122, ((CHr.refl R0.1).trans (CHr.keep K112 sf0 R0.1)), N112, g125, (rfl)⟩
  have O126 := O0.ext E106
  have g128 : Go p e below T106 (mkF m 41 #[iv p0, iv p1, iv p2, iv p3, iv p4, iv k, iv ch, .val cv, .unset, .unset, .unset, .unset, .unset, .unset] [(.int k)]) A0 := by
    intro t kont
    refine g106 t ?_
    refine XS.iload X106.here hx rfl (hb hby at_39) rfl ?_
    exact kont
  by_cases c127 : k = (0 : Int32)
  ·
    have g129 : Go p e below T106 (mkF m 46 #[iv p0, iv p1, iv p2, iv p3, iv p4, iv k, iv ch, .val cv, .unset, .unset, .unset, .unset, .unset, .unset] [(.int (9 : Int32))]) A0 := by
      intro t kont
      refine g128 t ?_
      refine XS.ifNo X106.here hx rfl (hb hby at_41) rfl ((if0 _ _).trans (teq c127).2) ?_
      refine XS.bipush X106.here hx rfl (hb hby at_44) ?_
      exact kont
    obtain ⟨T130, h130, k130, X130, e130, E130, A130, F130, st130⟩ := newPE X106 hx hZ (hw _ (List.mem_of_getElem? (i := 0) rfl)) e106 (g := (mkF m 46 #[iv p0, iv p1, iv p2, iv p3, iv p4, iv k, iv ch, .val cv, .unset, .unset, .unset, .unset, .unset, .unset] [(.int (9 : Int32))])) rfl (hb hby at_46) rfl (by decide) (cap := 9) (by decide) (by decide) (by decide) (by decide) (ad := "[C") (by decide)
    obtain ⟨b130, gb130⟩ : ∃ z, z = h106.size := ⟨_, rfl⟩
    rw [← gb130] at A130 F130 st130
    have R131 : CHr Z consts_1 s.vm h0 vm106 h130 := R106.trans (CHr.ext E130 R106.1)
    have O132 := O126.ext E130
    have y133 : Arv Z h130 b130 k130 .char (9 : Int32) [(.int (0 : Int32)), (.int (0 : Int32)), (.int (0 : Int32)), (.int (0 : Int32)), (.int (0 : Int32)), (.int (0 : Int32)), (.int (0 : Int32)), (.int (0 : Int32)), (.int (0 : Int32))] (.int (0 : Int32)) := (Arv.new A130 (by decide)).pad (pad_rep [] (.int (0 : Int32)) 9)
    have g134 : Go p e below T130 (mkF m 48 #[iv p0, iv p1, iv p2, iv p3, iv p4, iv k, iv ch, .val cv, .unset, .unset, .unset, .unset, .unset, .unset] [(.ref b130)]) A0 := fun t kont => g129 t (st130 t kont)
    have g135 : Go p e below T130 (mkF m 52 #[iv p0, iv p1, iv p2, iv p3, iv p4, iv k, iv ch, .val cv, .unset, .unset, .unset, .unset, .unset, .unset] [(.int (116 : Int32)), (.int (0 : Int32)), (.ref b130), (.ref b130)]) A0 := by
      intro t kont
      refine g134 t ?_
      refine XS.dup X130.here hx rfl (hb hby at_48) rfl rfl ?_
      refine XS.iconst X130.here hx rfl (hb hby at_49) ?_
      refine XS.bipush X130.here hx rfl (hb hby at_50) ?_
      exact kont
    have ge137 : n0 ≤ b130 := Nat.le_trans (own_old_le O126) (Nat.le_of_eq gb130.symm)
    have zz136 := y133
    obtain ⟨cl136, Ar136, q136, S136, M136, H136, G136⟩ := zz136
    have in136 : ¬ ((0 : Int32) < 0 ∨ cl136.slots.size ≤ ((0 : Int32)).toNatClampNeg) := inb_of S136 ⟨by decide, by decide⟩
    obtain ⟨T136, h136, X136, e136, W136, st136⟩ := stC X130 hx hZ e130 Ar136 (j := (0 : Int32)) in136 (g := (mkF m 52 #[iv p0, iv p1, iv p2, iv p3, iv p4, iv k, iv ch, .val cv, .unset, .unset, .unset, .unset, .unset, .unset] [(.int (116 : Int32)), (.int (0 : Int32)), (.ref b130), (.ref b130)])) rfl rfl (hb hby at_52)
    rw [show nar .char (116 : Int32) = (116 : Int32) from (by decide : nar .char (116 : Int32) = (116 : Int32))] at W136
    have R138 : CHr Z consts_1 s.vm h0 vm106 h136 := R131.trans (CHr.wr W136 (Safe.ext E130 R106.1 (Safe.new (Nat.le_of_eq gb130.symm))) R131.1)
    have O139 := O132.wr W136 ge137
    have y140 : Arv Z h136 b130 k130 .char (9 : Int32) [(.int (116 : Int32)), (.int (0 : Int32)), (.int (0 : Int32)), (.int (0 : Int32)), (.int (0 : Int32)), (.int (0 : Int32)), (.int (0 : Int32)), (.int (0 : Int32)), (.int (0 : Int32))] (.int (0 : Int32)) := Arv.set Ar136 q136 S136 M136 H136 G136 (own_ft_char (z := (116 : Int32)) (by decide : nar .char (116 : Int32) = (116 : Int32))) W136 0 rfl (Nat.le_of_ble_eq_true rfl)
    have N136 := Fr.snoc X136 N106 ge137
    have g141 : Go p e below T136 (mkF m 53 #[iv p0, iv p1, iv p2, iv p3, iv p4, iv k, iv ch, .val cv, .unset, .unset, .unset, .unset, .unset, .unset] [(.ref b130)]) A0 := fun t kont => g135 t (st136 t kont)
    have g142 : Go p e below T136 (mkF m 57 #[iv p0, iv p1, iv p2, iv p3, iv p4, iv k, iv ch, .val cv, .unset, .unset, .unset, .unset, .unset, .unset] [(.int (101 : Int32)), (.int (1 : Int32)), (.ref b130), (.ref b130)]) A0 := by
      intro t kont
      refine g141 t ?_
      refine XS.dup X136.here hx rfl (hb hby at_53) rfl rfl ?_
      refine XS.iconst X136.here hx rfl (hb hby at_54) ?_
      refine XS.bipush X136.here hx rfl (hb hby at_55) ?_
      exact kont
    have zz143 := y140
    obtain ⟨cl143, Ar143, q143, S143, M143, H143, G143⟩ := zz143
    have in143 : ¬ ((1 : Int32) < 0 ∨ cl143.slots.size ≤ ((1 : Int32)).toNatClampNeg) := inb_of S143 ⟨by decide, by decide⟩
    obtain ⟨T143, h143, X143, e143, W143, st143⟩ := stC X136 hx hZ e136 Ar143 (j := (1 : Int32)) in143 (g := (mkF m 57 #[iv p0, iv p1, iv p2, iv p3, iv p4, iv k, iv ch, .val cv, .unset, .unset, .unset, .unset, .unset, .unset] [(.int (101 : Int32)), (.int (1 : Int32)), (.ref b130), (.ref b130)])) rfl rfl (hb hby at_57)
    rw [show nar .char (101 : Int32) = (101 : Int32) from (by decide : nar .char (101 : Int32) = (101 : Int32))] at W143
    have sf145 : Safe Z consts_1 vm106 h136 b130 := (Safe.wr W136 (Safe.ext E130 R106.1 (Safe.new (Nat.le_of_eq gb130.symm))) R131.1 (Safe.ext E130 R106.1 (Safe.new (Nat.le_of_eq gb130.symm))))
    have R144 : CHr Z consts_1 s.vm h0 vm106 h143 := R138.trans (CHr.wr W143 sf145 R138.1)
    have O146 := O139.wr W143 ge137
    have y147 : Arv Z h143 b130 k130 .char (9 : Int32) [(.int (116 : Int32)), (.int (101 : Int32)), (.int (0 : Int32)), (.int (0 : Int32)), (.int (0 : Int32)), (.int (0 : Int32)), (.int (0 : Int32)), (.int (0 : Int32)), (.int (0 : Int32))] (.int (0 : Int32)) := Arv.set Ar143 q143 S143 M143 H143 G143 (own_ft_char (z := (101 : Int32)) (by decide : nar .char (101 : Int32) = (101 : Int32))) W143 1 rfl (Nat.le_of_ble_eq_true rfl)
    have N143 := Fr.snoc X143 N136 ge137
    have g148 : Go p e below T143 (mkF m 58 #[iv p0, iv p1, iv p2, iv p3, iv p4, iv k, iv ch, .val cv, .unset, .unset, .unset, .unset, .unset, .unset] [(.ref b130)]) A0 := fun t kont => g142 t (st143 t kont)
    have g149 : Go p e below T143 (mkF m 62 #[iv p0, iv p1, iv p2, iv p3, iv p4, iv k, iv ch, .val cv, .unset, .unset, .unset, .unset, .unset, .unset] [(.int (120 : Int32)), (.int (2 : Int32)), (.ref b130), (.ref b130)]) A0 := by
      intro t kont
      refine g148 t ?_
      refine XS.dup X143.here hx rfl (hb hby at_58) rfl rfl ?_
      refine XS.iconst X143.here hx rfl (hb hby at_59) ?_
      refine XS.bipush X143.here hx rfl (hb hby at_60) ?_
      exact kont
    have zz150 := y147
    obtain ⟨cl150, Ar150, q150, S150, M150, H150, G150⟩ := zz150
    have in150 : ¬ ((2 : Int32) < 0 ∨ cl150.slots.size ≤ ((2 : Int32)).toNatClampNeg) := inb_of S150 ⟨by decide, by decide⟩
    obtain ⟨T150, h150, X150, e150, W150, st150⟩ := stC X143 hx hZ e143 Ar150 (j := (2 : Int32)) in150 (g := (mkF m 62 #[iv p0, iv p1, iv p2, iv p3, iv p4, iv k, iv ch, .val cv, .unset, .unset, .unset, .unset, .unset, .unset] [(.int (120 : Int32)), (.int (2 : Int32)), (.ref b130), (.ref b130)])) rfl rfl (hb hby at_62)
    rw [show nar .char (120 : Int32) = (120 : Int32) from (by decide : nar .char (120 : Int32) = (120 : Int32))] at W150
    have sf152 : Safe Z consts_1 vm106 h143 b130 := (Safe.wr W143 sf145 R138.1 sf145)
    have R151 : CHr Z consts_1 s.vm h0 vm106 h150 := R144.trans (CHr.wr W150 sf152 R144.1)
    have O153 := O146.wr W150 ge137
    have y154 : Arv Z h150 b130 k130 .char (9 : Int32) [(.int (116 : Int32)), (.int (101 : Int32)), (.int (120 : Int32)), (.int (0 : Int32)), (.int (0 : Int32)), (.int (0 : Int32)), (.int (0 : Int32)), (.int (0 : Int32)), (.int (0 : Int32))] (.int (0 : Int32)) := Arv.set Ar150 q150 S150 M150 H150 G150 (own_ft_char (z := (120 : Int32)) (by decide : nar .char (120 : Int32) = (120 : Int32))) W150 2 rfl (Nat.le_of_ble_eq_true rfl)
    have N150 := Fr.snoc X150 N143 ge137
    have g155 : Go p e below T150 (mkF m 63 #[iv p0, iv p1, iv p2, iv p3, iv p4, iv k, iv ch, .val cv, .unset, .unset, .unset, .unset, .unset, .unset] [(.ref b130)]) A0 := fun t kont => g149 t (st150 t kont)
    have g156 : Go p e below T150 (mkF m 67 #[iv p0, iv p1, iv p2, iv p3, iv p4, iv k, iv ch, .val cv, .unset, .unset, .unset, .unset, .unset, .unset] [(.int (116 : Int32)), (.int (3 : Int32)), (.ref b130), (.ref b130)]) A0 := by
      intro t kont
      refine g155 t ?_
      refine XS.dup X150.here hx rfl (hb hby at_63) rfl rfl ?_
      refine XS.iconst X150.here hx rfl (hb hby at_64) ?_
      refine XS.bipush X150.here hx rfl (hb hby at_65) ?_
      exact kont
    have zz157 := y154
    obtain ⟨cl157, Ar157, q157, S157, M157, H157, G157⟩ := zz157
    have in157 : ¬ ((3 : Int32) < 0 ∨ cl157.slots.size ≤ ((3 : Int32)).toNatClampNeg) := inb_of S157 ⟨by decide, by decide⟩
    obtain ⟨T157, h157, X157, e157, W157, st157⟩ := stC X150 hx hZ e150 Ar157 (j := (3 : Int32)) in157 (g := (mkF m 67 #[iv p0, iv p1, iv p2, iv p3, iv p4, iv k, iv ch, .val cv, .unset, .unset, .unset, .unset, .unset, .unset] [(.int (116 : Int32)), (.int (3 : Int32)), (.ref b130), (.ref b130)])) rfl rfl (hb hby at_67)
    rw [show nar .char (116 : Int32) = (116 : Int32) from (by decide : nar .char (116 : Int32) = (116 : Int32))] at W157
    have sf159 : Safe Z consts_1 vm106 h150 b130 := (Safe.wr W150 sf152 R144.1 sf152)
    have R158 : CHr Z consts_1 s.vm h0 vm106 h157 := R151.trans (CHr.wr W157 sf159 R151.1)
    have O160 := O153.wr W157 ge137
    have y161 : Arv Z h157 b130 k130 .char (9 : Int32) [(.int (116 : Int32)), (.int (101 : Int32)), (.int (120 : Int32)), (.int (116 : Int32)), (.int (0 : Int32)), (.int (0 : Int32)), (.int (0 : Int32)), (.int (0 : Int32)), (.int (0 : Int32))] (.int (0 : Int32)) := Arv.set Ar157 q157 S157 M157 H157 G157 (own_ft_char (z := (116 : Int32)) (by decide : nar .char (116 : Int32) = (116 : Int32))) W157 3 rfl (Nat.le_of_ble_eq_true rfl)
    have N157 := Fr.snoc X157 N150 ge137
    have g162 : Go p e below T157 (mkF m 68 #[iv p0, iv p1, iv p2, iv p3, iv p4, iv k, iv ch, .val cv, .unset, .unset, .unset, .unset, .unset, .unset] [(.ref b130)]) A0 := fun t kont => g156 t (st157 t kont)
    have g163 : Go p e below T157 (mkF m 72 #[iv p0, iv p1, iv p2, iv p3, iv p4, iv k, iv ch, .val cv, .unset, .unset, .unset, .unset, .unset, .unset] [(.int (47 : Int32)), (.int (4 : Int32)), (.ref b130), (.ref b130)]) A0 := by
      intro t kont
      refine g162 t ?_
      refine XS.dup X157.here hx rfl (hb hby at_68) rfl rfl ?_
      refine XS.iconst X157.here hx rfl (hb hby at_69) ?_
      refine XS.bipush X157.here hx rfl (hb hby at_70) ?_
      exact kont
    have zz164 := y161
    obtain ⟨cl164, Ar164, q164, S164, M164, H164, G164⟩ := zz164
    have in164 : ¬ ((4 : Int32) < 0 ∨ cl164.slots.size ≤ ((4 : Int32)).toNatClampNeg) := inb_of S164 ⟨by decide, by decide⟩
    obtain ⟨T164, h164, X164, e164, W164, st164⟩ := stC X157 hx hZ e157 Ar164 (j := (4 : Int32)) in164 (g := (mkF m 72 #[iv p0, iv p1, iv p2, iv p3, iv p4, iv k, iv ch, .val cv, .unset, .unset, .unset, .unset, .unset, .unset] [(.int (47 : Int32)), (.int (4 : Int32)), (.ref b130), (.ref b130)])) rfl rfl (hb hby at_72)
    rw [show nar .char (47 : Int32) = (47 : Int32) from (by decide : nar .char (47 : Int32) = (47 : Int32))] at W164
    have sf166 : Safe Z consts_1 vm106 h157 b130 := (Safe.wr W157 sf159 R151.1 sf159)
    have R165 : CHr Z consts_1 s.vm h0 vm106 h164 := R158.trans (CHr.wr W164 sf166 R158.1)
    have O167 := O160.wr W164 ge137
    have y168 : Arv Z h164 b130 k130 .char (9 : Int32) [(.int (116 : Int32)), (.int (101 : Int32)), (.int (120 : Int32)), (.int (116 : Int32)), (.int (47 : Int32)), (.int (0 : Int32)), (.int (0 : Int32)), (.int (0 : Int32)), (.int (0 : Int32))] (.int (0 : Int32)) := Arv.set Ar164 q164 S164 M164 H164 G164 (own_ft_char (z := (47 : Int32)) (by decide : nar .char (47 : Int32) = (47 : Int32))) W164 4 rfl (Nat.le_of_ble_eq_true rfl)
    have N164 := Fr.snoc X164 N157 ge137
    have g169 : Go p e below T164 (mkF m 73 #[iv p0, iv p1, iv p2, iv p3, iv p4, iv k, iv ch, .val cv, .unset, .unset, .unset, .unset, .unset, .unset] [(.ref b130)]) A0 := fun t kont => g163 t (st164 t kont)
    have g170 : Go p e below T164 (mkF m 77 #[iv p0, iv p1, iv p2, iv p3, iv p4, iv k, iv ch, .val cv, .unset, .unset, .unset, .unset, .unset, .unset] [(.int (104 : Int32)), (.int (5 : Int32)), (.ref b130), (.ref b130)]) A0 := by
      intro t kont
      refine g169 t ?_
      refine XS.dup X164.here hx rfl (hb hby at_73) rfl rfl ?_
      refine XS.iconst X164.here hx rfl (hb hby at_74) ?_
      refine XS.bipush X164.here hx rfl (hb hby at_75) ?_
      exact kont
    have zz171 := y168
    obtain ⟨cl171, Ar171, q171, S171, M171, H171, G171⟩ := zz171
    have in171 : ¬ ((5 : Int32) < 0 ∨ cl171.slots.size ≤ ((5 : Int32)).toNatClampNeg) := inb_of S171 ⟨by decide, by decide⟩
    obtain ⟨T171, h171, X171, e171, W171, st171⟩ := stC X164 hx hZ e164 Ar171 (j := (5 : Int32)) in171 (g := (mkF m 77 #[iv p0, iv p1, iv p2, iv p3, iv p4, iv k, iv ch, .val cv, .unset, .unset, .unset, .unset, .unset, .unset] [(.int (104 : Int32)), (.int (5 : Int32)), (.ref b130), (.ref b130)])) rfl rfl (hb hby at_77)
    rw [show nar .char (104 : Int32) = (104 : Int32) from (by decide : nar .char (104 : Int32) = (104 : Int32))] at W171
    have sf173 : Safe Z consts_1 vm106 h164 b130 := (Safe.wr W164 sf166 R158.1 sf166)
    have R172 : CHr Z consts_1 s.vm h0 vm106 h171 := R165.trans (CHr.wr W171 sf173 R165.1)
    have O174 := O167.wr W171 ge137
    have y175 : Arv Z h171 b130 k130 .char (9 : Int32) [(.int (116 : Int32)), (.int (101 : Int32)), (.int (120 : Int32)), (.int (116 : Int32)), (.int (47 : Int32)), (.int (104 : Int32)), (.int (0 : Int32)), (.int (0 : Int32)), (.int (0 : Int32))] (.int (0 : Int32)) := Arv.set Ar171 q171 S171 M171 H171 G171 (own_ft_char (z := (104 : Int32)) (by decide : nar .char (104 : Int32) = (104 : Int32))) W171 5 rfl (Nat.le_of_ble_eq_true rfl)
    have N171 := Fr.snoc X171 N164 ge137
    have g176 : Go p e below T171 (mkF m 78 #[iv p0, iv p1, iv p2, iv p3, iv p4, iv k, iv ch, .val cv, .unset, .unset, .unset, .unset, .unset, .unset] [(.ref b130)]) A0 := fun t kont => g170 t (st171 t kont)
    have g177 : Go p e below T171 (mkF m 83 #[iv p0, iv p1, iv p2, iv p3, iv p4, iv k, iv ch, .val cv, .unset, .unset, .unset, .unset, .unset, .unset] [(.int (116 : Int32)), (.int (6 : Int32)), (.ref b130), (.ref b130)]) A0 := by
      intro t kont
      refine g176 t ?_
      refine XS.dup X171.here hx rfl (hb hby at_78) rfl rfl ?_
      refine XS.bipush X171.here hx rfl (hb hby at_79) ?_
      refine XS.bipush X171.here hx rfl (hb hby at_81) ?_
      exact kont
    have zz178 := y175
    obtain ⟨cl178, Ar178, q178, S178, M178, H178, G178⟩ := zz178
    have in178 : ¬ ((6 : Int32) < 0 ∨ cl178.slots.size ≤ ((6 : Int32)).toNatClampNeg) := inb_of S178 ⟨by decide, by decide⟩
    obtain ⟨T178, h178, X178, e178, W178, st178⟩ := stC X171 hx hZ e171 Ar178 (j := (6 : Int32)) in178 (g := (mkF m 83 #[iv p0, iv p1, iv p2, iv p3, iv p4, iv k, iv ch, .val cv, .unset, .unset, .unset, .unset, .unset, .unset] [(.int (116 : Int32)), (.int (6 : Int32)), (.ref b130), (.ref b130)])) rfl rfl (hb hby at_83)
    rw [show nar .char (116 : Int32) = (116 : Int32) from (by decide : nar .char (116 : Int32) = (116 : Int32))] at W178
    have sf180 : Safe Z consts_1 vm106 h171 b130 := (Safe.wr W171 sf173 R165.1 sf173)
    have R179 : CHr Z consts_1 s.vm h0 vm106 h178 := R172.trans (CHr.wr W178 sf180 R172.1)
    have O181 := O174.wr W178 ge137
    have y182 : Arv Z h178 b130 k130 .char (9 : Int32) [(.int (116 : Int32)), (.int (101 : Int32)), (.int (120 : Int32)), (.int (116 : Int32)), (.int (47 : Int32)), (.int (104 : Int32)), (.int (116 : Int32)), (.int (0 : Int32)), (.int (0 : Int32))] (.int (0 : Int32)) := Arv.set Ar178 q178 S178 M178 H178 G178 (own_ft_char (z := (116 : Int32)) (by decide : nar .char (116 : Int32) = (116 : Int32))) W178 6 rfl (Nat.le_of_ble_eq_true rfl)
    have N178 := Fr.snoc X178 N171 ge137
    have g183 : Go p e below T178 (mkF m 84 #[iv p0, iv p1, iv p2, iv p3, iv p4, iv k, iv ch, .val cv, .unset, .unset, .unset, .unset, .unset, .unset] [(.ref b130)]) A0 := fun t kont => g177 t (st178 t kont)
    have g184 : Go p e below T178 (mkF m 89 #[iv p0, iv p1, iv p2, iv p3, iv p4, iv k, iv ch, .val cv, .unset, .unset, .unset, .unset, .unset, .unset] [(.int (109 : Int32)), (.int (7 : Int32)), (.ref b130), (.ref b130)]) A0 := by
      intro t kont
      refine g183 t ?_
      refine XS.dup X178.here hx rfl (hb hby at_84) rfl rfl ?_
      refine XS.bipush X178.here hx rfl (hb hby at_85) ?_
      refine XS.bipush X178.here hx rfl (hb hby at_87) ?_
      exact kont
    have zz185 := y182
    obtain ⟨cl185, Ar185, q185, S185, M185, H185, G185⟩ := zz185
    have in185 : ¬ ((7 : Int32) < 0 ∨ cl185.slots.size ≤ ((7 : Int32)).toNatClampNeg) := inb_of S185 ⟨by decide, by decide⟩
    obtain ⟨T185, h185, X185, e185, W185, st185⟩ := stC X178 hx hZ e178 Ar185 (j := (7 : Int32)) in185 (g := (mkF m 89 #[iv p0, iv p1, iv p2, iv p3, iv p4, iv k, iv ch, .val cv, .unset, .unset, .unset, .unset, .unset, .unset] [(.int (109 : Int32)), (.int (7 : Int32)), (.ref b130), (.ref b130)])) rfl rfl (hb hby at_89)
    rw [show nar .char (109 : Int32) = (109 : Int32) from (by decide : nar .char (109 : Int32) = (109 : Int32))] at W185
    have sf187 : Safe Z consts_1 vm106 h178 b130 := (Safe.wr W178 sf180 R172.1 sf180)
    have R186 : CHr Z consts_1 s.vm h0 vm106 h185 := R179.trans (CHr.wr W185 sf187 R179.1)
    have O188 := O181.wr W185 ge137
    have y189 : Arv Z h185 b130 k130 .char (9 : Int32) [(.int (116 : Int32)), (.int (101 : Int32)), (.int (120 : Int32)), (.int (116 : Int32)), (.int (47 : Int32)), (.int (104 : Int32)), (.int (116 : Int32)), (.int (109 : Int32)), (.int (0 : Int32))] (.int (0 : Int32)) := Arv.set Ar185 q185 S185 M185 H185 G185 (own_ft_char (z := (109 : Int32)) (by decide : nar .char (109 : Int32) = (109 : Int32))) W185 7 rfl (Nat.le_of_ble_eq_true rfl)
    have N185 := Fr.snoc X185 N178 ge137
    have g190 : Go p e below T185 (mkF m 90 #[iv p0, iv p1, iv p2, iv p3, iv p4, iv k, iv ch, .val cv, .unset, .unset, .unset, .unset, .unset, .unset] [(.ref b130)]) A0 := fun t kont => g184 t (st185 t kont)
    have g191 : Go p e below T185 (mkF m 95 #[iv p0, iv p1, iv p2, iv p3, iv p4, iv k, iv ch, .val cv, .unset, .unset, .unset, .unset, .unset, .unset] [(.int (108 : Int32)), (.int (8 : Int32)), (.ref b130), (.ref b130)]) A0 := by
      intro t kont
      refine g190 t ?_
      refine XS.dup X185.here hx rfl (hb hby at_90) rfl rfl ?_
      refine XS.bipush X185.here hx rfl (hb hby at_91) ?_
      refine XS.bipush X185.here hx rfl (hb hby at_93) ?_
      exact kont
    have zz192 := y189
    obtain ⟨cl192, Ar192, q192, S192, M192, H192, G192⟩ := zz192
    have in192 : ¬ ((8 : Int32) < 0 ∨ cl192.slots.size ≤ ((8 : Int32)).toNatClampNeg) := inb_of S192 ⟨by decide, by decide⟩
    obtain ⟨T192, h192, X192, e192, W192, st192⟩ := stC X185 hx hZ e185 Ar192 (j := (8 : Int32)) in192 (g := (mkF m 95 #[iv p0, iv p1, iv p2, iv p3, iv p4, iv k, iv ch, .val cv, .unset, .unset, .unset, .unset, .unset, .unset] [(.int (108 : Int32)), (.int (8 : Int32)), (.ref b130), (.ref b130)])) rfl rfl (hb hby at_95)
    rw [show nar .char (108 : Int32) = (108 : Int32) from (by decide : nar .char (108 : Int32) = (108 : Int32))] at W192
    have sf194 : Safe Z consts_1 vm106 h185 b130 := (Safe.wr W185 sf187 R179.1 sf187)
    have R193 : CHr Z consts_1 s.vm h0 vm106 h192 := R186.trans (CHr.wr W192 sf194 R186.1)
    have O195 := O188.wr W192 ge137
    have y196 : Arv Z h192 b130 k130 .char (9 : Int32) [(.int (116 : Int32)), (.int (101 : Int32)), (.int (120 : Int32)), (.int (116 : Int32)), (.int (47 : Int32)), (.int (104 : Int32)), (.int (116 : Int32)), (.int (109 : Int32)), (.int (108 : Int32))] (.int (0 : Int32)) := Arv.set Ar192 q192 S192 M192 H192 G192 (own_ft_char (z := (108 : Int32)) (by decide : nar .char (108 : Int32) = (108 : Int32))) W192 8 rfl (Nat.le_of_ble_eq_true rfl)
    have N192 := Fr.snoc X192 N185 ge137
    have g197 : Go p e below T192 (mkF m 96 #[iv p0, iv p1, iv p2, iv p3, iv p4, iv k, iv ch, .val cv, .unset, .unset, .unset, .unset, .unset, .unset] [(.ref b130)]) A0 := fun t kont => g191 t (st192 t kont)
    have y198 : Arv Z h192 b130 k130 .char (Int32.ofNat own_html.length) (own_html.map Value.int) (.int (0 : Int32)) := by
      exact y196
    have l_html : own_html.length = 9 := rfl
    obtain ⟨pn, hpn, hpl⟩ := own_pn p1 (n := 9) (by decide) (by decide)
    have hpb : pn < 2147483648 := Nat.lt_trans hpl (by decide)
    have hpk : pn < own_html.length := hpl
    have g199 : Go p e below T192 (mkF m 105 #[iv p0, iv p1, iv p2, iv p3, iv p4, iv k, iv ch, .val cv, .unset, .unset, rv b130, .unset, .unset, .unset] [(.int ((p1 &&& (2147483647 : Int32)) % (9 : Int32)))]) A0 := by
      intro t kont
      refine g197 t ?_
      refine XS.astore X192.here hx rfl (hb hby at_96) rfl rfl (l' := #[iv p0, iv p1, iv p2, iv p3, iv p4, iv k, iv ch, .val cv, .unset, .unset, rv b130, .unset, .unset, .unset]) rfl ?_
      refine XS.iloadN X192.here hx rfl (hb hby at_98) rfl ?_
      refine X192.ldcInt hx hown (mvT hZ (hw _ (List.mem_of_getElem? (i := 1) rfl))) (g := (mkF m 99 #[iv p0, iv p1, iv p2, iv p3, iv p4, iv k, iv ch, .val cv, .unset, .unset, rv b130, .unset, .unset, .unset] [(.int p1)])) rfl (hb hby at_99) _ ?_
      refine XS.iand X192.here hx rfl (hb hby at_101) rfl ?_
      refine XS.bipush X192.here hx rfl (hb hby at_102) ?_
      refine iremM X192 hx rfl (hb hby at_104) rfl (by decide) ?_
      exact kont
    have g200 : Go p e below T192 (mkF m 105 #[iv p0, iv p1, iv p2, iv p3, iv p4, iv k, iv ch, .val cv, .unset, .unset, rv b130, .unset, .unset, .unset] [(.int (Int32.ofNat pn))]) A0 := by rw [← hpn]; exact g199
    have g201 : Go p e below T192 (mkF m 111 #[iv p0, iv p1, iv p2, iv p3, iv p4, iv k, iv ch, .val cv, .unset, .unset, rv b130, iv (Int32.ofNat pn), .unset, .unset] [(.int (Int32.ofNat pn)), (.ref b130)]) A0 := by
      intro t kont
      refine g200 t ?_
      refine XS.istore X192.here hx rfl (hb hby at_105) rfl (l' := #[iv p0, iv p1, iv p2, iv p3, iv p4, iv k, iv ch, .val cv, .unset, .unset, rv b130, iv (Int32.ofNat pn), .unset, .unset]) rfl ?_
      refine XS.aload X192.here hx rfl (hb hby at_107) rfl rfl ?_
      refine XS.iload X192.here hx rfl (hb hby at_109) rfl ?_
      exact kont
    have zz202 := y198
    obtain ⟨cl202, Ar202, q202, S202, M202, H202, G202⟩ := zz202
    have in202 : ¬ ((Int32.ofNat pn) < 0 ∨ cl202.slots.size ≤ ((Int32.ofNat pn)).toNatClampNeg) := inb_of S202 ⟨own_nonneg hpb, own_lt hpk (by decide)⟩
    have at202 : cl202.slots[((Int32.ofNat pn)).toNatClampNeg]? = some (.int (own_html.getD pn 0)) := Has.at H202 in202 (by rw [own_clamp hpb]; exact own_getc own_html pn)
    have g203 : Go p e below T192 (mkF m 112 #[iv p0, iv p1, iv p2, iv p3, iv p4, iv k, iv ch, .val cv, .unset, .unset, rv b130, iv (Int32.ofNat pn), .unset, .unset] [(.int (own_html.getD pn 0))]) A0 := fun t kont => g201 t (X192.caload hx (j := (Int32.ofNat pn)) (v := (.int (own_html.getD pn 0))) (by rw [e192]; exact Ar202.1) (State.isArrayOf_alike hZ.alike Ar202.2.1) Ar202.2.2 in202 at202 (g := (mkF m 111 #[iv p0, iv p1, iv p2, iv p3, iv p4, iv k, iv ch, .val cv, .unset, .unset, rv b130, iv (Int32.ofNat pn), .unset, .unset] [(.int (Int32.ofNat pn)), (.ref b130)])) rfl rfl (hb hby at_111) t kont)
    have g205 : Go p e below T192 (mkF m 114 #[iv p0, iv p1, iv p2, iv p3, iv p4, iv k, iv ch, .val cv, .unset, .unset, rv b130, iv (Int32.ofNat pn), .unset, .unset] [(.int ch), (.int (own_html.getD pn 0))]) A0 := by
      intro t kont
      refine g203 t ?_
      refine XS.iload X192.here hx rfl (hb hby at_112) rfl ?_
      exact kont
    by_cases c204 : (own_html.getD pn 0) = ch
    ·
      have g206 : Go p e below T192 (mkF m 130 #[iv p0, iv p1, iv p2, iv p3, iv p4, iv k, iv ch, .val cv, .unset, iv (1 : Int32), rv b130, iv (Int32.ofNat pn), .unset, .unset] [(.int ch), (.int (Int32.ofNat pn)), (.ref b130)]) A0 := by
        intro t kont
        refine g205 t ?_
        refine XS.icmpNo X192.here hx rfl (hb hby at_114) rfl (teq c204).2 ?_
        refine XS.iconst X192.here hx rfl (hb hby at_117) ?_
        refine XS.goto X192.here hx rfl (pc0 := 118) (pc' := 122) rfl (hb hby at_118) (by decide) (by decide) ?_
        refine XS.istore X192.here hx rfl (hb hby at_122) rfl (l' := #[iv p0, iv p1, iv p2, iv p3, iv p4, iv k, iv ch, .val cv, .unset, iv (1 : Int32), rv b130, iv (Int32.ofNat pn), .unset, .unset]) rfl ?_
        refine XS.aload X192.here hx rfl (hb hby at_124) rfl rfl ?_
        refine XS.iload X192.here hx rfl (hb hby at_126) rfl ?_
        refine XS.iload X192.here hx rfl (hb hby at_128) rfl ?_
        exact kont
      have zz207 := y198
      obtain ⟨cl207, Ar207, q207, S207, M207, H207, G207⟩ := zz207
      have in207 : ¬ ((Int32.ofNat pn) < 0 ∨ cl207.slots.size ≤ ((Int32.ofNat pn)).toNatClampNeg) := inb_of S207 ⟨own_nonneg hpb, own_lt hpk (by decide)⟩
      obtain ⟨T207, h207, X207, e207, W207, st207⟩ := stC X192 hx hZ e192 Ar207 (j := (Int32.ofNat pn)) in207 (g := (mkF m 130 #[iv p0, iv p1, iv p2, iv p3, iv p4, iv k, iv ch, .val cv, .unset, iv (1 : Int32), rv b130, iv (Int32.ofNat pn), .unset, .unset] [(.int ch), (.int (Int32.ofNat pn)), (.ref b130)])) rfl rfl (hb hby at_130)
      rw [show nar .char ch = ch from r_ch] at W207
      have sf209 : Safe Z consts_1 vm106 h192 b130 := (Safe.wr W192 sf194 R186.1 sf194)
      have R208 : CHr Z consts_1 s.vm h0 vm106 h207 := R193.trans (CHr.wr W207 sf209 R193.1)
      have O210 := O195.wr W207 ge137
      have y211 : Arv Z h207 b130 k130 .char (Int32.ofNat own_html.length) ((own_html.map Value.int).set pn (.int ch)) (.int (0 : Int32)) := Arv.set Ar207 q207 S207 M207 H207 G207 (own_ft_char (z := ch) r_ch) W207 pn (own_clamp hpb) (by rw [List.length_map]; exact hpk)
      have N207 := Fr.snoc X207 N192 ge137
      have g212 : Go p e below T207 (mkF m 131 #[iv p0, iv p1, iv p2, iv p3, iv p4, iv k, iv ch, .val cv, .unset, iv (1 : Int32), rv b130, iv (Int32.ofNat pn), .unset, .unset] []) A0 := fun t kont => g206 t (st207 t kont)
      obtain ⟨xs, hxs⟩ : ∃ z, z = own_html.set pn ch := ⟨_, rfl⟩
      have lxs : xs.length = own_html.length := by rw [hxs, List.length_set]
      have y213 : Arv Z h207 b130 k130 .char (Int32.ofNat xs.length) (xs.map Value.int) (.int (0 : Int32)) := by
        have q := y211
        rw [show ((own_html.map Value.int).set pn (.int ch)) = xs.map Value.int by rw [hxs, List.map_set], ← lxs] at q
        exact q
      have cxs : own_chars xs := by rw [hxs]; exact own_setc own_html_c z_ch (own_w255 b_ch)
      have dxs : own_lat xs := by rw [hxs]; exact own_setl own_html_l b_ch
      obtain ⟨T214, h214, X214, e214, E214, A214, D214, -, st214⟩ := newO X207 hx hZ hown (hw _ (List.mem_of_getElem? (i := 2) rfl)) (hw _ (List.mem_of_getElem? (i := 3) rfl)) (hw _ (List.mem_of_getElem? (i := 4) rfl)) e207 (g := (mkF m 131 #[iv p0, iv p1, iv p2, iv p3, iv p4, iv k, iv ch, .val cv, .unset, iv (1 : Int32), rv b130, iv (Int32.ofNat pn), .unset, .unset] [])) rfl (hb hby at_131) (by decide) (by decide)
      obtain ⟨b214, gb214⟩ : ∃ z, z = h207.size := ⟨_, rfl⟩
      rw [← gb214] at A214 D214 st214
      have R215 : CHr Z consts_1 s.vm h0 vm106 h214 := R208.trans (CHr.ext E214 R208.1)
      have O216 := O210.ext E214
      have y217 : Fld Z h214 b214 "java/lang/String" "coder" "B" (.int (0 : Int32)) := D214 (Or.inr (hw _ (List.mem_of_getElem? (i := 28) rfl))) (ty := .byte) (by decide)
      have y218 : Fld Z h214 b214 "java/lang/String" "value" "[B" .null := D214 (Or.inr (hw _ (List.mem_of_getElem? (i := 30) rfl))) (ty := (.array .byte)) (by decide)
      have g219 : Go p e below T214 (mkF m 134 #[iv p0, iv p1, iv p2, iv p3, iv p4, iv k, iv ch, .val cv, .unset, iv (1 : Int32), rv b130, iv (Int32.ofNat pn), .unset, .unset] [(.ref b214)]) A0 := fun t kont => g212 t (st214 t kont)
      have g220 : Go p e below T214 (mkF m 137 #[iv p0, iv p1, iv p2, iv p3, iv p4, iv k, iv ch, .val cv, .unset, iv (1 : Int32), rv b130, iv (Int32.ofNat pn), .unset, .unset] [(.ref b130), (.ref b214), (.ref b214)]) A0 := by
        intro t kont
        refine g219 t ?_
        refine XS.dup X214.here hx rfl (hb hby at_134) rfl rfl ?_
        refine XS.aload X214.here hx rfl (hb hby at_135) rfl rfl ?_
        exact kont
      have y222 : Arv Z h214 b130 k130 .char (Int32.ofNat xs.length) (xs.map Value.int) (.int (0 : Int32)) := (y213.ext E214)
      have ge223 : n0 ≤ b214 := Nat.le_trans (own_old_le O210) (Nat.le_of_eq gb214.symm)
      obtain ⟨_, _, ⟨T221, L221, k221, n221⟩, -, X221, ⟨Lc221, hQ221, l221, y221, z221⟩, st221⟩ := X214.specialBack hx (y := (⟨"java/lang/String", "<init>", "([C)V"⟩ : MethodName)) rfl hown (mvT hZ (hw _ (List.mem_of_getElem? (i := 5) rfl))) (mvT hZ (hw _ (List.mem_of_getElem? (i := 6) rfl))) (mvT hZ (hw _ (List.mem_of_getElem? (i := 7) rfl))) (by decide) (backOf (W := 1) (rm_sIniL l Z a0 hw [] b214 b130 k130 xs i_COMPACT_STRINGS h214 n0 O216 y218 y217 A214 ge223 y222 (by rw [lxs]; decide) (by rw [lxs]; decide) (dxs) S0_ hcs) hZ (hw _ (List.mem_of_getElem? (i := 7) rfl)) (hw _ (List.mem_of_getElem? (i := 4) rfl)) (by decide) (by decide)) (g := (mkF m 137 #[iv p0, iv p1, iv p2, iv p3, iv p4, iv k, iv ch, .val cv, .unset, iv (1 : Int32), rv b130, iv (Int32.ofNat pn), .unset, .unset] [(.ref b130), (.ref b214), (.ref b214)])) rfl (by rw [hml]; rfl) (Steps.refl _) (a := b214) (argsL := [(.ref b130)]) (rest := [(.ref b214)]) (lenOf pd_11 rfl) rfl (by show 2 * 0 + _ ≤ _; exact Nat.le_of_eq rfl) (hb hby at_137) (fun _ _ => ⟨rfl, e214, (by decide : 4 + 1 ≤ _), (by decide : 18 + 22 ≤ _)⟩)
      dsimp only [Pt.U, Pt.locs, Pt.cells, Pt.slots] at X221 l221 y221 z221 st221 hQ221
      subst y221 z221
      obtain ⟨r224, r225, rfl, M221, K221, y226, y227, y228, y229, y230⟩ := hQ221
      have N221 : Fr n0 L221 := by rw [l221]; exact Fr.app N207 M221
      have R231 : CHr Z consts_1 s.vm h0 vm106 T221.heap := R215.trans (CHr.keep K221 (sfS (Safe.ext E214 R208.1 (Safe.new (Nat.le_of_eq gb214.symm))) sf0) R215.1)
      have O232 := O216.keep K221 (allS ge223 all0)
      have g233 : Go p e below T221 (mkF m 140 #[iv p0, iv p1, iv p2, iv p3, iv p4, iv k, iv ch, .val cv, .unset, iv (1 : Int32), rv b130, iv (Int32.ofNat pn), .unset, .unset] [(.ref b214)]) A0 := fun t kont => g220 t (st221.trans kont)
      have g234 : Go p e below T221 (mkF m 805 #[iv p0, iv p1, iv p2, iv p3, iv p4, iv k, iv ch, .val cv, rv b214, iv (1 : Int32), rv b130, iv (Int32.ofNat pn), .unset, .unset] []) A0 := by
        intro t kont
        refine g233 t ?_
        refine XS.astore X221.here hx rfl (hb hby at_140) rfl rfl (l' := #[iv p0, iv p1, iv p2, iv p3, iv p4, iv k, iv ch, .val cv, rv b214, iv (1 : Int32), rv b130, iv (Int32.ofNat pn), .unset, .unset]) rfl ?_
        refine XS.goto X221.here hx rfl (pc0 := 142) (pc' := 805) rfl (hb hby at_142) (by decide) (by decide) ?_
        exact kont
      obtain ⟨T235, h235, X235, e235, E235, A235, D235, -, st235⟩ := newO X221 hx hZ hown (hw _ (List.mem_of_getElem? (i := 31) rfl)) (hw _ (List.mem_of_getElem? (i := 32) rfl)) (hw _ (List.mem_of_getElem? (i := 33) rfl)) rfl (g := (mkF m 805 #[iv p0, iv p1, iv p2, iv p3, iv p4, iv k, iv ch, .val cv, rv b214, iv (1 : Int32), rv b130, iv (Int32.ofNat pn), .unset, .unset] [])) rfl (hb hby at_805) (by decide) (by decide)
      obtain ⟨b235, gb235⟩ : ∃ z, z = T221.heap.size := ⟨_, rfl⟩
      rw [← gb235] at A235 D235 st235
      have R236 : CHr Z consts_1 s.vm h0 vm106 h235 := R231.trans (CHr.ext E235 R231.1)
      have O237 := O232.ext E235
      have y238 : Fld Z h235 b235 "com/example/fetch_from_near/fetchfromnear/ContentType" "mediaType" "Ljava/lang/String;" .null := D235 (Or.inr (hw _ (List.mem_of_getElem? (i := 44) rfl))) (ty := (.object "java/lang/String")) (by decide)
      have y239 : Fld Z h235 b235 "com/example/fetch_from_near/fetchfromnear/ContentType" "charset" "Ljava/lang/String;" .null := D235 (Or.inr (hw _ (List.mem_of_getElem? (i := 46) rfl))) (ty := (.object "java/lang/String")) (by decide)
      have g240 : Go p e below T235 (mkF m 808 #[iv p0, iv p1, iv p2, iv p3, iv p4, iv k, iv ch, .val cv, rv b214, iv (1 : Int32), rv b130, iv (Int32.ofNat pn), .unset, .unset] [(.ref b235)]) A0 := fun t kont => g234 t (st235 t kont)
      have g241 : Go p e below T235 (mkF m 813 #[iv p0, iv p1, iv p2, iv p3, iv p4, iv k, iv ch, .val cv, rv b214, iv (1 : Int32), rv b130, iv (Int32.ofNat pn), .unset, .unset] [cv, (.ref b214), (.ref b235), (.ref b235)]) A0 := by
        intro t kont
        refine g240 t ?_
        refine XS.dup X235.here hx rfl (hb hby at_808) rfl rfl ?_
        refine XS.aload X235.here hx rfl (hb hby at_809) rfl rfl ?_
        refine XS.aload X235.here hx rfl (hb hby at_811) rfl (h_cv) ?_
        exact kont
      have ge243 : n0 ≤ b235 := Nat.le_trans (own_old_le O232) (Nat.le_of_eq gb235.symm)
      obtain ⟨_, _, ⟨T242, L242, k242, n242⟩, -, X242, ⟨Lc242, hQ242, l242, y242, z242⟩, st242⟩ := X235.specialBack hx (y := (⟨"com/example/fetch_from_near/fetchfromnear/ContentType", "<init>", "(Ljava/lang/String;Ljava/lang/String;)V"⟩ : MethodName)) rfl hown (mvT hZ (hw _ (List.mem_of_getElem? (i := 34) rfl))) (mvT hZ (hw _ (List.mem_of_getElem? (i := 35) rfl))) (mvT hZ (hw _ (List.mem_of_getElem? (i := 36) rfl))) (by decide) (backOf (W := 1) (rm_ctR l Z a0 hw [] b235 b214 cv h235 n0 O237 A235 y238 y239 ge243 h_cv) hZ (hw _ (List.mem_of_getElem? (i := 36) rfl)) (hw _ (List.mem_of_getElem? (i := 33) rfl)) (by decide) (by decide)) (g := (mkF m 813 #[iv p0, iv p1, iv p2, iv p3, iv p4, iv k, iv ch, .val cv, rv b214, iv (1 : Int32), rv b130, iv (Int32.ofNat pn), .unset, .unset] [cv, (.ref b214), (.ref b235), (.ref b235)])) rfl (by rw [hml]; rfl) (Steps.refl _) (a := b235) (argsL := [(.ref b214), cv]) (rest := [(.ref b235)]) (lenOf pd_12 rfl) rfl (by show 2 * 0 + _ ≤ _; exact Nat.le_of_eq rfl) (hb hby at_813) (fun _ _ => ⟨rfl, e235, (by decide : 6 + 0 ≤ _), (by decide : 42 + 0 ≤ _)⟩)
      dsimp only [Pt.U, Pt.locs, Pt.cells, Pt.slots] at X242 l242 y242 z242 st242 hQ242
      subst y242 z242
      obtain ⟨rfl, M242, K242, y244, y245⟩ := hQ242
      have N242 : Fr n0 L242 := by rw [l242]; exact Fr.app N221 M242
      have R246 : CHr Z consts_1 s.vm h0 vm106 T242.heap := R236.trans (CHr.keep K242 (sfS (Safe.ext E235 R231.1 (Safe.new (Nat.le_of_eq gb235.symm))) sf0) R236.1)
      have O247 := O237.keep K242 (allS ge243 all0)
      have g248 : Go p e below T242 (mkF m 816 #[iv p0, iv p1, iv p2, iv p3, iv p4, iv k, iv ch, .val cv, rv b214, iv (1 : Int32), rv b130, iv (Int32.ofNat pn), .unset, .unset] [(.ref b235)]) A0 := fun t kont => g241 t (st242.trans kont)
      have y250 : Exa Z T242.heap b214 "java/lang/String" := ((y226.ext E235).keep K242)
      have y251 : Fld Z T242.heap b214 "java/lang/String" "coder" "B" (.int (0 : Int32)) := ((y227.ext E235).keep K242 (ninS (Nat.ne_of_lt (Nat.lt_of_lt_of_le (Nat.lt_of_lt_of_le A214.lt K221.1) (Nat.le_of_eq gb235.symm))) nin0))
      have y252 : Fld Z T242.heap b214 "java/lang/String" "value" "[B" (.ref r224) := ((y228.ext E235).keep K242 (ninS (Nat.ne_of_lt (Nat.lt_of_lt_of_le (Nat.lt_of_lt_of_le A214.lt K221.1) (Nat.le_of_eq gb235.symm))) nin0))
      have y253 : Arv Z T242.heap r224 r225 .byte (Int32.ofNat xs.length) (own_lb xs) (.int (0 : Int32)) := ((y230.ext E235).keep K242 (ninS (Nat.ne_of_lt (Nat.lt_of_lt_of_le y230.lt (Nat.le_of_eq gb235.symm))) nin0))
      obtain ⟨cq249, kq249, q249a, q249b, q249c⟩ := isOf hZ rfl y244
      obtain ⟨_, _, ⟨T249, L249, k249, n249⟩, -, X249, hS249, hg249, ⟨Lc249, hQ249, l249, y249, z249, C249⟩, st249⟩ := X242.virtualBackS hx (y := (⟨"com/example/fetch_from_near/fetchfromnear/ContentType", "isHtml", "()Z"⟩ : MethodName)) (z := (⟨"com/example/fetch_from_near/fetchfromnear/ContentType", "isHtml", "()Z"⟩ : MethodName)) hown (mvT hZ (hw _ (List.mem_of_getElem? (i := 47) rfl))) (mvT hZ (hw _ (List.mem_of_getElem? (i := 48) rfl))) (notFace_of_selects (args := #[]) (mvT hZ (hw _ (List.mem_of_getElem? (i := 50) rfl)))) (mvT hZ (hw _ (List.mem_of_getElem? (i := 50) rfl))) (mvT hZ (hw _ (List.mem_of_getElem? (i := 49) rfl))) (by decide) (backOfSH (W := 0) (rm_isHG l Z a0 hw [] b235 b214 r224 r225 xs i_COMPACT_STRINGS T242.heap n0 O247 S0_ hcs y245 y244 y250 y251 y252 y253 (by rw [lxs]; decide) (cxs) (dxs)) hZ (hw _ (List.mem_of_getElem? (i := 51) rfl)) (hw _ (List.mem_of_getElem? (i := 33) rfl)) (by decide) (by decide) (own_EW hw) R246.1) q249a q249c (g := (mkF m 816 #[iv p0, iv p1, iv p2, iv p3, iv p4, iv k, iv ch, .val cv, rv b214, iv (1 : Int32), rv b130, iv (Int32.ofNat pn), .unset, .unset] [(.ref b235)])) rfl (by rw [hml]; rfl) (Steps.refl _) (argsL := []) (rest := []) (lenOf pd_13 rfl) rfl (by show 2 * 0 + _ ≤ _; exact Nat.le_of_eq rfl) (hb hby at_816) (fun _ _ => ⟨rfl, rfl, (by decide : 6 + 4 ≤ _), (by decide : 42 + 128 ≤ _)⟩)
      dsimp only [Pt.U, Pt.locs, Pt.cells, Pt.slots] at X249 l249 y249 z249 st249 hQ249 hS249 hg249 C249
      subst y249 z249
      obtain ⟨X249, hS, hZ, hown⟩ := rebS hS (n1 := T242.heap.size) (Nat.le_trans hk (Nat.le_trans (Nat.le_trans (Nat.le_trans (Nat.le_trans (Nat.le_trans (Nat.le_trans (Nat.le_trans (Nat.le_trans (Nat.le_trans (Nat.le_trans (Nat.le_trans (Nat.le_trans (Nat.le_trans (Nat.le_trans E130.1 (Keep.of_wr W136).1) (Keep.of_wr W143).1) (Keep.of_wr W150).1) (Keep.of_wr W157).1) (Keep.of_wr W164).1) (Keep.of_wr W171).1) (Keep.of_wr W178).1) (Keep.of_wr W185).1) (Keep.of_wr W192).1) (Keep.of_wr W207).1) E214.1) K221.1) E235.1) K242.1)) X249 hS249 hg249 hZ hown
      obtain ⟨r254, rfl, M249, K249, y255, y256⟩ := hQ249
      have N249 : Fr n0 L249 := by rw [l249]; exact Fr.app N242 M249
      have R257 : CHr Z consts_1 s.vm h0 T249.vm T249.heap := R246.trans C249
      have O258 := O247.keep K249 all0
      have g259 : Go p e below T249 (mkF m 819 #[iv p0, iv p1, iv p2, iv p3, iv p4, iv k, iv ch, .val cv, rv b214, iv (1 : Int32), rv b130, iv (Int32.ofNat pn), .unset, .unset] [(.int r254)]) A0 := fun t kont => g248 t (st249.trans kont)
      rcases (y255 : r254 = (0 : Int32) ∨ r254 = (1 : Int32)) with c260 | c260
      ·
        subst c260
        exact ((absurd (y256.mpr (own_hit0 hxs c204 hpl)) (by decide) : False)).elim
      subst c260
      have g261 : Go p e below T249 (mkF m 829 #[iv p0, iv p1, iv p2, iv p3, iv p4, iv k, iv ch, .val cv, rv b214, iv (1 : Int32), rv b130, iv (Int32.ofNat pn), .unset, .unset] [(.int (1 : Int32))]) A0 := by
        intro t kont
        refine g259 t ?_
        refine XS.iload X249.here hx rfl (hb hby at_819) rfl ?_
        refine XS.icmpNo X249.here hx rfl (hb hby at_821) rfl (teq (by decide : (1 : Int32) = (1 : Int32))).2 ?_
        refine XS.iconst X249.here hx rfl (hb hby at_824) ?_
        refine XS.goto X249.here hx rfl (pc0 := 825) (pc' := 829) rfl (hb hby at_825) (by decide) (by decide) ?_
        exact kont
      obtain ⟨fs, hr, hrun, hended, hRW⟩ := X249.leaveW hS (Nat.le_refl _) (v := some (.int (1 : Int32))) (fun h => by rw [Bd.returns] at h; cases h)
      refine ⟨_, _, g261 _ (retN X249 hx (t := .boolean) Bd.returns (by simp) (hb hby at_829) hr), hrun, hended, _, _, rfl, ?_, ?_, hRW.1, hRW.2.1, hRW.2.2.1, hRW.2.2.2.mono (by decide) (by decide)⟩
      ·
        show Q_law Z p0 p1 p2 p3 p4 i_COMPACT_STRINGS h0 n0 _ T249.heap _
        exact ⟨rfl, N249⟩
      ·
        rw [hh]
        show CHr Z consts_1 s.vm h0 T249.vm T249.heap
        exact R257.trans (CHv.at X249 hZ (own_EW hw) R257.1)
    have g262 : Go p e below T192 (mkF m 130 #[iv p0, iv p1, iv p2, iv p3, iv p4, iv k, iv ch, .val cv, .unset, iv (0 : Int32), rv b130, iv (Int32.ofNat pn), .unset, .unset] [(.int ch), (.int (Int32.ofNat pn)), (.ref b130)]) A0 := by
      intro t kont
      refine g205 t ?_
      refine XS.icmpYes X192.here hx rfl (pc0 := 114) (pc' := 121) rfl (hb hby at_114) rfl (feq c204).2 (by decide) (by decide) ?_
      refine XS.iconst X192.here hx rfl (hb hby at_121) ?_
      refine XS.istore X192.here hx rfl (hb hby at_122) rfl (l' := #[iv p0, iv p1, iv p2, iv p3, iv p4, iv k, iv ch, .val cv, .unset, iv (0 : Int32), rv b130, iv (Int32.ofNat pn), .unset, .unset]) rfl ?_
      refine XS.aload X192.here hx rfl (hb hby at_124) rfl rfl ?_
      refine XS.iload X192.here hx rfl (hb hby at_126) rfl ?_
      refine XS.iload X192.here hx rfl (hb hby at_128) rfl ?_
      exact kont
    have zz263 := y198
    obtain ⟨cl263, Ar263, q263, S263, M263, H263, G263⟩ := zz263
    have in263 : ¬ ((Int32.ofNat pn) < 0 ∨ cl263.slots.size ≤ ((Int32.ofNat pn)).toNatClampNeg) := inb_of S263 ⟨own_nonneg hpb, own_lt hpk (by decide)⟩
    obtain ⟨T263, h263, X263, e263, W263, st263⟩ := stC X192 hx hZ e192 Ar263 (j := (Int32.ofNat pn)) in263 (g := (mkF m 130 #[iv p0, iv p1, iv p2, iv p3, iv p4, iv k, iv ch, .val cv, .unset, iv (0 : Int32), rv b130, iv (Int32.ofNat pn), .unset, .unset] [(.int ch), (.int (Int32.ofNat pn)), (.ref b130)])) rfl rfl (hb hby at_130)
    rw [show nar .char ch = ch from r_ch] at W263
    have sf265 : Safe Z consts_1 vm106 h192 b130 := (Safe.wr W192 sf194 R186.1 sf194)
    have R264 : CHr Z consts_1 s.vm h0 vm106 h263 := R193.trans (CHr.wr W263 sf265 R193.1)
    have O266 := O195.wr W263 ge137
    have y267 : Arv Z h263 b130 k130 .char (Int32.ofNat own_html.length) ((own_html.map Value.int).set pn (.int ch)) (.int (0 : Int32)) := Arv.set Ar263 q263 S263 M263 H263 G263 (own_ft_char (z := ch) r_ch) W263 pn (own_clamp hpb) (by rw [List.length_map]; exact hpk)
    have N263 := Fr.snoc X263 N192 ge137
    have g268 : Go p e below T263 (mkF m 131 #[iv p0, iv p1, iv p2, iv p3, iv p4, iv k, iv ch, .val cv, .unset, iv (0 : Int32), rv b130, iv (Int32.ofNat pn), .unset, .unset] []) A0 := fun t kont => g262 t (st263 t kont)
    obtain ⟨xs, hxs⟩ : ∃ z, z = own_html.set pn ch := ⟨_, rfl⟩
    have lxs : xs.length = own_html.length := by rw [hxs, List.length_set]
    have y269 : Arv Z h263 b130 k130 .char (Int32.ofNat xs.length) (xs.map Value.int) (.int (0 : Int32)) := by
      have q := y267
      rw [show ((own_html.map Value.int).set pn (.int ch)) = xs.map Value.int by rw [hxs, List.map_set], ← lxs] at q
      exact q
    have cxs : own_chars xs := by rw [hxs]; exact own_setc own_html_c z_ch (own_w255 b_ch)
    have dxs : own_lat xs := by rw [hxs]; exact own_setl own_html_l b_ch
    obtain ⟨T270, h270, X270, e270, E270, A270, D270, -, st270⟩ := newO X263 hx hZ hown (hw _ (List.mem_of_getElem? (i := 2) rfl)) (hw _ (List.mem_of_getElem? (i := 3) rfl)) (hw _ (List.mem_of_getElem? (i := 4) rfl)) e263 (g := (mkF m 131 #[iv p0, iv p1, iv p2, iv p3, iv p4, iv k, iv ch, .val cv, .unset, iv (0 : Int32), rv b130, iv (Int32.ofNat pn), .unset, .unset] [])) rfl (hb hby at_131) (by decide) (by decide)
    obtain ⟨b270, gb270⟩ : ∃ z, z = h263.size := ⟨_, rfl⟩
    rw [← gb270] at A270 D270 st270
    have R271 : CHr Z consts_1 s.vm h0 vm106 h270 := R264.trans (CHr.ext E270 R264.1)
    have O272 := O266.ext E270
    have y273 : Fld Z h270 b270 "java/lang/String" "coder" "B" (.int (0 : Int32)) := D270 (Or.inr (hw _ (List.mem_of_getElem? (i := 28) rfl))) (ty := .byte) (by decide)
    have y274 : Fld Z h270 b270 "java/lang/String" "value" "[B" .null := D270 (Or.inr (hw _ (List.mem_of_getElem? (i := 30) rfl))) (ty := (.array .byte)) (by decide)
    have g275 : Go p e below T270 (mkF m 134 #[iv p0, iv p1, iv p2, iv p3, iv p4, iv k, iv ch, .val cv, .unset, iv (0 : Int32), rv b130, iv (Int32.ofNat pn), .unset, .unset] [(.ref b270)]) A0 := fun t kont => g268 t (st270 t kont)
    have g276 : Go p e below T270 (mkF m 137 #[iv p0, iv p1, iv p2, iv p3, iv p4, iv k, iv ch, .val cv, .unset, iv (0 : Int32), rv b130, iv (Int32.ofNat pn), .unset, .unset] [(.ref b130), (.ref b270), (.ref b270)]) A0 := by
      intro t kont
      refine g275 t ?_
      refine XS.dup X270.here hx rfl (hb hby at_134) rfl rfl ?_
      refine XS.aload X270.here hx rfl (hb hby at_135) rfl rfl ?_
      exact kont
    have y278 : Arv Z h270 b130 k130 .char (Int32.ofNat xs.length) (xs.map Value.int) (.int (0 : Int32)) := (y269.ext E270)
    have ge279 : n0 ≤ b270 := Nat.le_trans (own_old_le O266) (Nat.le_of_eq gb270.symm)
    obtain ⟨_, _, ⟨T277, L277, k277, n277⟩, -, X277, ⟨Lc277, hQ277, l277, y277, z277⟩, st277⟩ := X270.specialBack hx (y := (⟨"java/lang/String", "<init>", "([C)V"⟩ : MethodName)) rfl hown (mvT hZ (hw _ (List.mem_of_getElem? (i := 5) rfl))) (mvT hZ (hw _ (List.mem_of_getElem? (i := 6) rfl))) (mvT hZ (hw _ (List.mem_of_getElem? (i := 7) rfl))) (by decide) (backOf (W := 1) (rm_sIniL l Z a0 hw [] b270 b130 k130 xs i_COMPACT_STRINGS h270 n0 O272 y274 y273 A270 ge279 y278 (by rw [lxs]; decide) (by rw [lxs]; decide) (dxs) S0_ hcs) hZ (hw _ (List.mem_of_getElem? (i := 7) rfl)) (hw _ (List.mem_of_getElem? (i := 4) rfl)) (by decide) (by decide)) (g := (mkF m 137 #[iv p0, iv p1, iv p2, iv p3, iv p4, iv k, iv ch, .val cv, .unset, iv (0 : Int32), rv b130, iv (Int32.ofNat pn), .unset, .unset] [(.ref b130), (.ref b270), (.ref b270)])) rfl (by rw [hml]; rfl) (Steps.refl _) (a := b270) (argsL := [(.ref b130)]) (rest := [(.ref b270)]) (lenOf pd_11 rfl) rfl (by show 2 * 0 + _ ≤ _; exact Nat.le_of_eq rfl) (hb hby at_137) (fun _ _ => ⟨rfl, e270, (by decide : 4 + 1 ≤ _), (by decide : 18 + 22 ≤ _)⟩)
    dsimp only [Pt.U, Pt.locs, Pt.cells, Pt.slots] at X277 l277 y277 z277 st277 hQ277
    subst y277 z277
    obtain ⟨r280, r281, rfl, M277, K277, y282, y283, y284, y285, y286⟩ := hQ277
    have N277 : Fr n0 L277 := by rw [l277]; exact Fr.app N263 M277
    have R287 : CHr Z consts_1 s.vm h0 vm106 T277.heap := R271.trans (CHr.keep K277 (sfS (Safe.ext E270 R264.1 (Safe.new (Nat.le_of_eq gb270.symm))) sf0) R271.1)
    have O288 := O272.keep K277 (allS ge279 all0)
    have g289 : Go p e below T277 (mkF m 140 #[iv p0, iv p1, iv p2, iv p3, iv p4, iv k, iv ch, .val cv, .unset, iv (0 : Int32), rv b130, iv (Int32.ofNat pn), .unset, .unset] [(.ref b270)]) A0 := fun t kont => g276 t (st277.trans kont)
    have g290 : Go p e below T277 (mkF m 805 #[iv p0, iv p1, iv p2, iv p3, iv p4, iv k, iv ch, .val cv, rv b270, iv (0 : Int32), rv b130, iv (Int32.ofNat pn), .unset, .unset] []) A0 := by
      intro t kont
      refine g289 t ?_
      refine XS.astore X277.here hx rfl (hb hby at_140) rfl rfl (l' := #[iv p0, iv p1, iv p2, iv p3, iv p4, iv k, iv ch, .val cv, rv b270, iv (0 : Int32), rv b130, iv (Int32.ofNat pn), .unset, .unset]) rfl ?_
      refine XS.goto X277.here hx rfl (pc0 := 142) (pc' := 805) rfl (hb hby at_142) (by decide) (by decide) ?_
      exact kont
    obtain ⟨T291, h291, X291, e291, E291, A291, D291, -, st291⟩ := newO X277 hx hZ hown (hw _ (List.mem_of_getElem? (i := 31) rfl)) (hw _ (List.mem_of_getElem? (i := 32) rfl)) (hw _ (List.mem_of_getElem? (i := 33) rfl)) rfl (g := (mkF m 805 #[iv p0, iv p1, iv p2, iv p3, iv p4, iv k, iv ch, .val cv, rv b270, iv (0 : Int32), rv b130, iv (Int32.ofNat pn), .unset, .unset] [])) rfl (hb hby at_805) (by decide) (by decide)
    obtain ⟨b291, gb291⟩ : ∃ z, z = T277.heap.size := ⟨_, rfl⟩
    rw [← gb291] at A291 D291 st291
    have R292 : CHr Z consts_1 s.vm h0 vm106 h291 := R287.trans (CHr.ext E291 R287.1)
    have O293 := O288.ext E291
    have y294 : Fld Z h291 b291 "com/example/fetch_from_near/fetchfromnear/ContentType" "mediaType" "Ljava/lang/String;" .null := D291 (Or.inr (hw _ (List.mem_of_getElem? (i := 44) rfl))) (ty := (.object "java/lang/String")) (by decide)
    have y295 : Fld Z h291 b291 "com/example/fetch_from_near/fetchfromnear/ContentType" "charset" "Ljava/lang/String;" .null := D291 (Or.inr (hw _ (List.mem_of_getElem? (i := 46) rfl))) (ty := (.object "java/lang/String")) (by decide)
    have g296 : Go p e below T291 (mkF m 808 #[iv p0, iv p1, iv p2, iv p3, iv p4, iv k, iv ch, .val cv, rv b270, iv (0 : Int32), rv b130, iv (Int32.ofNat pn), .unset, .unset] [(.ref b291)]) A0 := fun t kont => g290 t (st291 t kont)
    have g297 : Go p e below T291 (mkF m 813 #[iv p0, iv p1, iv p2, iv p3, iv p4, iv k, iv ch, .val cv, rv b270, iv (0 : Int32), rv b130, iv (Int32.ofNat pn), .unset, .unset] [cv, (.ref b270), (.ref b291), (.ref b291)]) A0 := by
      intro t kont
      refine g296 t ?_
      refine XS.dup X291.here hx rfl (hb hby at_808) rfl rfl ?_
      refine XS.aload X291.here hx rfl (hb hby at_809) rfl rfl ?_
      refine XS.aload X291.here hx rfl (hb hby at_811) rfl (h_cv) ?_
      exact kont
    have ge299 : n0 ≤ b291 := Nat.le_trans (own_old_le O288) (Nat.le_of_eq gb291.symm)
    obtain ⟨_, _, ⟨T298, L298, k298, n298⟩, -, X298, ⟨Lc298, hQ298, l298, y298, z298⟩, st298⟩ := X291.specialBack hx (y := (⟨"com/example/fetch_from_near/fetchfromnear/ContentType", "<init>", "(Ljava/lang/String;Ljava/lang/String;)V"⟩ : MethodName)) rfl hown (mvT hZ (hw _ (List.mem_of_getElem? (i := 34) rfl))) (mvT hZ (hw _ (List.mem_of_getElem? (i := 35) rfl))) (mvT hZ (hw _ (List.mem_of_getElem? (i := 36) rfl))) (by decide) (backOf (W := 1) (rm_ctR l Z a0 hw [] b291 b270 cv h291 n0 O293 A291 y294 y295 ge299 h_cv) hZ (hw _ (List.mem_of_getElem? (i := 36) rfl)) (hw _ (List.mem_of_getElem? (i := 33) rfl)) (by decide) (by decide)) (g := (mkF m 813 #[iv p0, iv p1, iv p2, iv p3, iv p4, iv k, iv ch, .val cv, rv b270, iv (0 : Int32), rv b130, iv (Int32.ofNat pn), .unset, .unset] [cv, (.ref b270), (.ref b291), (.ref b291)])) rfl (by rw [hml]; rfl) (Steps.refl _) (a := b291) (argsL := [(.ref b270), cv]) (rest := [(.ref b291)]) (lenOf pd_12 rfl) rfl (by show 2 * 0 + _ ≤ _; exact Nat.le_of_eq rfl) (hb hby at_813) (fun _ _ => ⟨rfl, e291, (by decide : 6 + 0 ≤ _), (by decide : 42 + 0 ≤ _)⟩)
    dsimp only [Pt.U, Pt.locs, Pt.cells, Pt.slots] at X298 l298 y298 z298 st298 hQ298
    subst y298 z298
    obtain ⟨rfl, M298, K298, y300, y301⟩ := hQ298
    have N298 : Fr n0 L298 := by rw [l298]; exact Fr.app N277 M298
    have R302 : CHr Z consts_1 s.vm h0 vm106 T298.heap := R292.trans (CHr.keep K298 (sfS (Safe.ext E291 R287.1 (Safe.new (Nat.le_of_eq gb291.symm))) sf0) R292.1)
    have O303 := O293.keep K298 (allS ge299 all0)
    have g304 : Go p e below T298 (mkF m 816 #[iv p0, iv p1, iv p2, iv p3, iv p4, iv k, iv ch, .val cv, rv b270, iv (0 : Int32), rv b130, iv (Int32.ofNat pn), .unset, .unset] [(.ref b291)]) A0 := fun t kont => g297 t (st298.trans kont)
    have y306 : Exa Z T298.heap b270 "java/lang/String" := ((y282.ext E291).keep K298)
    have y307 : Fld Z T298.heap b270 "java/lang/String" "coder" "B" (.int (0 : Int32)) := ((y283.ext E291).keep K298 (ninS (Nat.ne_of_lt (Nat.lt_of_lt_of_le (Nat.lt_of_lt_of_le A270.lt K277.1) (Nat.le_of_eq gb291.symm))) nin0))
    have y308 : Fld Z T298.heap b270 "java/lang/String" "value" "[B" (.ref r280) := ((y284.ext E291).keep K298 (ninS (Nat.ne_of_lt (Nat.lt_of_lt_of_le (Nat.lt_of_lt_of_le A270.lt K277.1) (Nat.le_of_eq gb291.symm))) nin0))
    have y309 : Arv Z T298.heap r280 r281 .byte (Int32.ofNat xs.length) (own_lb xs) (.int (0 : Int32)) := ((y286.ext E291).keep K298 (ninS (Nat.ne_of_lt (Nat.lt_of_lt_of_le y286.lt (Nat.le_of_eq gb291.symm))) nin0))
    obtain ⟨cq305, kq305, q305a, q305b, q305c⟩ := isOf hZ rfl y300
    obtain ⟨_, _, ⟨T305, L305, k305, n305⟩, -, X305, hS305, hg305, ⟨Lc305, hQ305, l305, y305, z305, C305⟩, st305⟩ := X298.virtualBackS hx (y := (⟨"com/example/fetch_from_near/fetchfromnear/ContentType", "isHtml", "()Z"⟩ : MethodName)) (z := (⟨"com/example/fetch_from_near/fetchfromnear/ContentType", "isHtml", "()Z"⟩ : MethodName)) hown (mvT hZ (hw _ (List.mem_of_getElem? (i := 47) rfl))) (mvT hZ (hw _ (List.mem_of_getElem? (i := 48) rfl))) (notFace_of_selects (args := #[]) (mvT hZ (hw _ (List.mem_of_getElem? (i := 50) rfl)))) (mvT hZ (hw _ (List.mem_of_getElem? (i := 50) rfl))) (mvT hZ (hw _ (List.mem_of_getElem? (i := 49) rfl))) (by decide) (backOfSH (W := 0) (rm_isHG l Z a0 hw [] b291 b270 r280 r281 xs i_COMPACT_STRINGS T298.heap n0 O303 S0_ hcs y301 y300 y306 y307 y308 y309 (by rw [lxs]; decide) (cxs) (dxs)) hZ (hw _ (List.mem_of_getElem? (i := 51) rfl)) (hw _ (List.mem_of_getElem? (i := 33) rfl)) (by decide) (by decide) (own_EW hw) R302.1) q305a q305c (g := (mkF m 816 #[iv p0, iv p1, iv p2, iv p3, iv p4, iv k, iv ch, .val cv, rv b270, iv (0 : Int32), rv b130, iv (Int32.ofNat pn), .unset, .unset] [(.ref b291)])) rfl (by rw [hml]; rfl) (Steps.refl _) (argsL := []) (rest := []) (lenOf pd_13 rfl) rfl (by show 2 * 0 + _ ≤ _; exact Nat.le_of_eq rfl) (hb hby at_816) (fun _ _ => ⟨rfl, rfl, (by decide : 6 + 4 ≤ _), (by decide : 42 + 128 ≤ _)⟩)
    dsimp only [Pt.U, Pt.locs, Pt.cells, Pt.slots] at X305 l305 y305 z305 st305 hQ305 hS305 hg305 C305
    subst y305 z305
    obtain ⟨X305, hS, hZ, hown⟩ := rebS hS (n1 := T298.heap.size) (Nat.le_trans hk (Nat.le_trans (Nat.le_trans (Nat.le_trans (Nat.le_trans (Nat.le_trans (Nat.le_trans (Nat.le_trans (Nat.le_trans (Nat.le_trans (Nat.le_trans (Nat.le_trans (Nat.le_trans (Nat.le_trans (Nat.le_trans E130.1 (Keep.of_wr W136).1) (Keep.of_wr W143).1) (Keep.of_wr W150).1) (Keep.of_wr W157).1) (Keep.of_wr W164).1) (Keep.of_wr W171).1) (Keep.of_wr W178).1) (Keep.of_wr W185).1) (Keep.of_wr W192).1) (Keep.of_wr W263).1) E270.1) K277.1) E291.1) K298.1)) X305 hS305 hg305 hZ hown
    obtain ⟨r310, rfl, M305, K305, y311, y312⟩ := hQ305
    have N305 : Fr n0 L305 := by rw [l305]; exact Fr.app N298 M305
    have R313 : CHr Z consts_1 s.vm h0 T305.vm T305.heap := R302.trans C305
    have O314 := O303.keep K305 all0
    have g315 : Go p e below T305 (mkF m 819 #[iv p0, iv p1, iv p2, iv p3, iv p4, iv k, iv ch, .val cv, rv b270, iv (0 : Int32), rv b130, iv (Int32.ofNat pn), .unset, .unset] [(.int r310)]) A0 := fun t kont => g304 t (st305.trans kont)
    rcases (y311 : r310 = (0 : Int32) ∨ r310 = (1 : Int32)) with c316 | c316
    ·
      subst c316
      have g317 : Go p e below T305 (mkF m 829 #[iv p0, iv p1, iv p2, iv p3, iv p4, iv k, iv ch, .val cv, rv b270, iv (0 : Int32), rv b130, iv (Int32.ofNat pn), .unset, .unset] [(.int (1 : Int32))]) A0 := by
        intro t kont
        refine g315 t ?_
        refine XS.iload X305.here hx rfl (hb hby at_819) rfl ?_
        refine XS.icmpNo X305.here hx rfl (hb hby at_821) rfl (teq (by decide : (0 : Int32) = (0 : Int32))).2 ?_
        refine XS.iconst X305.here hx rfl (hb hby at_824) ?_
        refine XS.goto X305.here hx rfl (pc0 := 825) (pc' := 829) rfl (hb hby at_825) (by decide) (by decide) ?_
        exact kont
      obtain ⟨fs, hr, hrun, hended, hRW⟩ := X305.leaveW hS (Nat.le_refl _) (v := some (.int (1 : Int32))) (fun h => by rw [Bd.returns] at h; cases h)
      refine ⟨_, _, g317 _ (retN X305 hx (t := .boolean) Bd.returns (by simp) (hb hby at_829) hr), hrun, hended, _, _, rfl, ?_, ?_, hRW.1, hRW.2.1, hRW.2.2.1, hRW.2.2.2.mono (by decide) (by decide)⟩
      ·
        show Q_law Z p0 p1 p2 p3 p4 i_COMPACT_STRINGS h0 n0 _ T305.heap _
        exact ⟨rfl, N305⟩
      ·
        rw [hh]
        show CHr Z consts_1 s.vm h0 T305.vm T305.heap
        exact R313.trans (CHv.at X305 hZ (own_EW hw) R313.1)
    subst c316
    exact ((own_mis0 hxs c204 hpl) (y312.mp rfl)).elim
  have g319 : Go p e below T106 (mkF m 148 #[iv p0, iv p1, iv p2, iv p3, iv p4, iv k, iv ch, .val cv, .unset, .unset, .unset, .unset, .unset, .unset] [(.int (1 : Int32)), (.int k)]) A0 := by
    intro t kont
    refine g128 t ?_
    refine XS.ifYes X106.here hx rfl (pc0 := 41) (pc' := 145) rfl (hb hby at_41) rfl ((if0 _ _).trans (feq c127).2) (by decide) (by decide) ?_
    refine XS.iload X106.here hx rfl (hb hby at_145) rfl ?_
    refine XS.iconst X106.here hx rfl (hb hby at_147) ?_
    exact kont
  by_cases c318 : k = (1 : Int32)
  ·
    have g320 : Go p e below T106 (mkF m 153 #[iv p0, iv p1, iv p2, iv p3, iv p4, iv k, iv ch, .val cv, .unset, .unset, .unset, .unset, .unset, .unset] [(.int (21 : Int32))]) A0 := by
      intro t kont
      refine g319 t ?_
      refine XS.icmpNo X106.here hx rfl (hb hby at_148) rfl (teq c318).2 ?_
      refine XS.bipush X106.here hx rfl (hb hby at_151) ?_
      exact kont
    obtain ⟨T321, h321, k321, X321, e321, E321, A321, F321, st321⟩ := newPE X106 hx hZ (hw _ (List.mem_of_getElem? (i := 0) rfl)) e106 (g := (mkF m 153 #[iv p0, iv p1, iv p2, iv p3, iv p4, iv k, iv ch, .val cv, .unset, .unset, .unset, .unset, .unset, .unset] [(.int (21 : Int32))])) rfl (hb hby at_153) rfl (by decide) (cap := 21) (by decide) (by decide) (by decide) (by decide) (ad := "[C") (by decide)
    obtain ⟨b321, gb321⟩ : ∃ z, z = h106.size := ⟨_, rfl⟩
    rw [← gb321] at A321 F321 st321
    have R322 : CHr Z consts_1 s.vm h0 vm106 h321 := R106.trans (CHr.ext E321 R106.1)
    have O323 := O126.ext E321
    have y324 : Arv Z h321 b321 k321 .char (21 : Int32) (List.replicate 21 (.int (0 : Int32))) (.int (0 : Int32)) := (Arv.new A321 (by decide)).pad (pad_rep [] (.int (0 : Int32)) 21)
    obtain ⟨Ls325, hLs325⟩ : ∃ z : List Value, z = (List.replicate 21 (.int (0 : Int32))) := ⟨_, rfl⟩
    rw [← hLs325] at y324
    have lLs325 : Ls325.length = 21 := by rw [hLs325, List.length_replicate]
    have g326 : Go p e below T321 (mkF m 155 #[iv p0, iv p1, iv p2, iv p3, iv p4, iv k, iv ch, .val cv, .unset, .unset, .unset, .unset, .unset, .unset] [(.ref b321)]) A0 := fun t kont => g320 t (st321 t kont)
    have g327 : Go p e below T321 (mkF m 159 #[iv p0, iv p1, iv p2, iv p3, iv p4, iv k, iv ch, .val cv, .unset, .unset, .unset, .unset, .unset, .unset] [(.int (97 : Int32)), (.int (0 : Int32)), (.ref b321), (.ref b321)]) A0 := by
      intro t kont
      refine g326 t ?_
      refine XS.dup X321.here hx rfl (hb hby at_155) rfl rfl ?_
      refine XS.iconst X321.here hx rfl (hb hby at_156) ?_
      refine XS.bipush X321.here hx rfl (hb hby at_157) ?_
      exact kont
    have ge329 : n0 ≤ b321 := Nat.le_trans (own_old_le O126) (Nat.le_of_eq gb321.symm)
    have zz328 := y324
    obtain ⟨cl328, Ar328, q328, S328, M328, H328, G328⟩ := zz328
    have in328 : ¬ ((0 : Int32) < 0 ∨ cl328.slots.size ≤ ((0 : Int32)).toNatClampNeg) := inb_of S328 ⟨by decide, by decide⟩
    obtain ⟨T328, h328, X328, e328, W328, st328⟩ := stC X321 hx hZ e321 Ar328 (j := (0 : Int32)) in328 (g := (mkF m 159 #[iv p0, iv p1, iv p2, iv p3, iv p4, iv k, iv ch, .val cv, .unset, .unset, .unset, .unset, .unset, .unset] [(.int (97 : Int32)), (.int (0 : Int32)), (.ref b321), (.ref b321)])) rfl rfl (hb hby at_159)
    rw [show nar .char (97 : Int32) = (97 : Int32) from (by decide : nar .char (97 : Int32) = (97 : Int32))] at W328
    have R330 : CHr Z consts_1 s.vm h0 vm106 h328 := R322.trans (CHr.wr W328 (Safe.ext E321 R106.1 (Safe.new (Nat.le_of_eq gb321.symm))) R322.1)
    have O331 := O323.wr W328 ge329
    have y332 : Arv Z h328 b321 k321 .char (21 : Int32) (Ls325.set 0 (.int (97 : Int32))) (.int (0 : Int32)) := Arv.set Ar328 q328 S328 M328 H328 G328 (own_ft_char (z := (97 : Int32)) (by decide : nar .char (97 : Int32) = (97 : Int32))) W328 0 rfl (by rw [lLs325]; decide)
    obtain ⟨Ls333, hLs333⟩ : ∃ z : List Value, z = (Ls325.set 0 (.int (97 : Int32))) := ⟨_, rfl⟩
    rw [← hLs333] at y332
    have lLs333 : Ls333.length = 21 := by rw [hLs333, List.length_set, lLs325]
    have N328 := Fr.snoc X328 N106 ge329
    have g334 : Go p e below T328 (mkF m 160 #[iv p0, iv p1, iv p2, iv p3, iv p4, iv k, iv ch, .val cv, .unset, .unset, .unset, .unset, .unset, .unset] [(.ref b321)]) A0 := fun t kont => g327 t (st328 t kont)
    have g335 : Go p e below T328 (mkF m 164 #[iv p0, iv p1, iv p2, iv p3, iv p4, iv k, iv ch, .val cv, .unset, .unset, .unset, .unset, .unset, .unset] [(.int (112 : Int32)), (.int (1 : Int32)), (.ref b321), (.ref b321)]) A0 := by
      intro t kont
      refine g334 t ?_
      refine XS.dup X328.here hx rfl (hb hby at_160) rfl rfl ?_
      refine XS.iconst X328.here hx rfl (hb hby at_161) ?_
      refine XS.bipush X328.here hx rfl (hb hby at_162) ?_
      exact kont
    have zz336 := y332
    obtain ⟨cl336, Ar336, q336, S336, M336, H336, G336⟩ := zz336
    have in336 : ¬ ((1 : Int32) < 0 ∨ cl336.slots.size ≤ ((1 : Int32)).toNatClampNeg) := inb_of S336 ⟨by decide, by decide⟩
    obtain ⟨T336, h336, X336, e336, W336, st336⟩ := stC X328 hx hZ e328 Ar336 (j := (1 : Int32)) in336 (g := (mkF m 164 #[iv p0, iv p1, iv p2, iv p3, iv p4, iv k, iv ch, .val cv, .unset, .unset, .unset, .unset, .unset, .unset] [(.int (112 : Int32)), (.int (1 : Int32)), (.ref b321), (.ref b321)])) rfl rfl (hb hby at_164)
    rw [show nar .char (112 : Int32) = (112 : Int32) from (by decide : nar .char (112 : Int32) = (112 : Int32))] at W336
    have sf338 : Safe Z consts_1 vm106 h328 b321 := (Safe.wr W328 (Safe.ext E321 R106.1 (Safe.new (Nat.le_of_eq gb321.symm))) R322.1 (Safe.ext E321 R106.1 (Safe.new (Nat.le_of_eq gb321.symm))))
    have R337 : CHr Z consts_1 s.vm h0 vm106 h336 := R330.trans (CHr.wr W336 sf338 R330.1)
    have O339 := O331.wr W336 ge329
    have y340 : Arv Z h336 b321 k321 .char (21 : Int32) (Ls333.set 1 (.int (112 : Int32))) (.int (0 : Int32)) := Arv.set Ar336 q336 S336 M336 H336 G336 (own_ft_char (z := (112 : Int32)) (by decide : nar .char (112 : Int32) = (112 : Int32))) W336 1 rfl (by rw [lLs333]; decide)
    obtain ⟨Ls341, hLs341⟩ : ∃ z : List Value, z = (Ls333.set 1 (.int (112 : Int32))) := ⟨_, rfl⟩
    rw [← hLs341] at y340
    have lLs341 : Ls341.length = 21 := by rw [hLs341, List.length_set, lLs333]
    have N336 := Fr.snoc X336 N328 ge329
    have g342 : Go p e below T336 (mkF m 165 #[iv p0, iv p1, iv p2, iv p3, iv p4, iv k, iv ch, .val cv, .unset, .unset, .unset, .unset, .unset, .unset] [(.ref b321)]) A0 := fun t kont => g335 t (st336 t kont)
    have g343 : Go p e below T336 (mkF m 169 #[iv p0, iv p1, iv p2, iv p3, iv p4, iv k, iv ch, .val cv, .unset, .unset, .unset, .unset, .unset, .unset] [(.int (112 : Int32)), (.int (2 : Int32)), (.ref b321), (.ref b321)]) A0 := by
      intro t kont
      refine g342 t ?_
      refine XS.dup X336.here hx rfl (hb hby at_165) rfl rfl ?_
      refine XS.iconst X336.here hx rfl (hb hby at_166) ?_
      refine XS.bipush X336.here hx rfl (hb hby at_167) ?_
      exact kont
    have zz344 := y340
    obtain ⟨cl344, Ar344, q344, S344, M344, H344, G344⟩ := zz344
    have in344 : ¬ ((2 : Int32) < 0 ∨ cl344.slots.size ≤ ((2 : Int32)).toNatClampNeg) := inb_of S344 ⟨by decide, by decide⟩
    obtain ⟨T344, h344, X344, e344, W344, st344⟩ := stC X336 hx hZ e336 Ar344 (j := (2 : Int32)) in344 (g := (mkF m 169 #[iv p0, iv p1, iv p2, iv p3, iv p4, iv k, iv ch, .val cv, .unset, .unset, .unset, .unset, .unset, .unset] [(.int (112 : Int32)), (.int (2 : Int32)), (.ref b321), (.ref b321)])) rfl rfl (hb hby at_169)
    rw [show nar .char (112 : Int32) = (112 : Int32) from (by decide : nar .char (112 : Int32) = (112 : Int32))] at W344
    have sf346 : Safe Z consts_1 vm106 h336 b321 := (Safe.wr W336 sf338 R330.1 sf338)
    have R345 : CHr Z consts_1 s.vm h0 vm106 h344 := R337.trans (CHr.wr W344 sf346 R337.1)
    have O347 := O339.wr W344 ge329
    have y348 : Arv Z h344 b321 k321 .char (21 : Int32) (Ls341.set 2 (.int (112 : Int32))) (.int (0 : Int32)) := Arv.set Ar344 q344 S344 M344 H344 G344 (own_ft_char (z := (112 : Int32)) (by decide : nar .char (112 : Int32) = (112 : Int32))) W344 2 rfl (by rw [lLs341]; decide)
    obtain ⟨Ls349, hLs349⟩ : ∃ z : List Value, z = (Ls341.set 2 (.int (112 : Int32))) := ⟨_, rfl⟩
    rw [← hLs349] at y348
    have lLs349 : Ls349.length = 21 := by rw [hLs349, List.length_set, lLs341]
    have N344 := Fr.snoc X344 N336 ge329
    have g350 : Go p e below T344 (mkF m 170 #[iv p0, iv p1, iv p2, iv p3, iv p4, iv k, iv ch, .val cv, .unset, .unset, .unset, .unset, .unset, .unset] [(.ref b321)]) A0 := fun t kont => g343 t (st344 t kont)
    have g351 : Go p e below T344 (mkF m 174 #[iv p0, iv p1, iv p2, iv p3, iv p4, iv k, iv ch, .val cv, .unset, .unset, .unset, .unset, .unset, .unset] [(.int (108 : Int32)), (.int (3 : Int32)), (.ref b321), (.ref b321)]) A0 := by
      intro t kont
      refine g350 t ?_
      refine XS.dup X344.here hx rfl (hb hby at_170) rfl rfl ?_
      refine XS.iconst X344.here hx rfl (hb hby at_171) ?_
      refine XS.bipush X344.here hx rfl (hb hby at_172) ?_
      exact kont
    have zz352 := y348
    obtain ⟨cl352, Ar352, q352, S352, M352, H352, G352⟩ := zz352
    have in352 : ¬ ((3 : Int32) < 0 ∨ cl352.slots.size ≤ ((3 : Int32)).toNatClampNeg) := inb_of S352 ⟨by decide, by decide⟩
    obtain ⟨T352, h352, X352, e352, W352, st352⟩ := stC X344 hx hZ e344 Ar352 (j := (3 : Int32)) in352 (g := (mkF m 174 #[iv p0, iv p1, iv p2, iv p3, iv p4, iv k, iv ch, .val cv, .unset, .unset, .unset, .unset, .unset, .unset] [(.int (108 : Int32)), (.int (3 : Int32)), (.ref b321), (.ref b321)])) rfl rfl (hb hby at_174)
    rw [show nar .char (108 : Int32) = (108 : Int32) from (by decide : nar .char (108 : Int32) = (108 : Int32))] at W352
    have sf354 : Safe Z consts_1 vm106 h344 b321 := (Safe.wr W344 sf346 R337.1 sf346)
    have R353 : CHr Z consts_1 s.vm h0 vm106 h352 := R345.trans (CHr.wr W352 sf354 R345.1)
    have O355 := O347.wr W352 ge329
    have y356 : Arv Z h352 b321 k321 .char (21 : Int32) (Ls349.set 3 (.int (108 : Int32))) (.int (0 : Int32)) := Arv.set Ar352 q352 S352 M352 H352 G352 (own_ft_char (z := (108 : Int32)) (by decide : nar .char (108 : Int32) = (108 : Int32))) W352 3 rfl (by rw [lLs349]; decide)
    obtain ⟨Ls357, hLs357⟩ : ∃ z : List Value, z = (Ls349.set 3 (.int (108 : Int32))) := ⟨_, rfl⟩
    rw [← hLs357] at y356
    have lLs357 : Ls357.length = 21 := by rw [hLs357, List.length_set, lLs349]
    have N352 := Fr.snoc X352 N344 ge329
    have g358 : Go p e below T352 (mkF m 175 #[iv p0, iv p1, iv p2, iv p3, iv p4, iv k, iv ch, .val cv, .unset, .unset, .unset, .unset, .unset, .unset] [(.ref b321)]) A0 := fun t kont => g351 t (st352 t kont)
    have g359 : Go p e below T352 (mkF m 179 #[iv p0, iv p1, iv p2, iv p3, iv p4, iv k, iv ch, .val cv, .unset, .unset, .unset, .unset, .unset, .unset] [(.int (105 : Int32)), (.int (4 : Int32)), (.ref b321), (.ref b321)]) A0 := by
      intro t kont
      refine g358 t ?_
      refine XS.dup X352.here hx rfl (hb hby at_175) rfl rfl ?_
      refine XS.iconst X352.here hx rfl (hb hby at_176) ?_
      refine XS.bipush X352.here hx rfl (hb hby at_177) ?_
      exact kont
    have zz360 := y356
    obtain ⟨cl360, Ar360, q360, S360, M360, H360, G360⟩ := zz360
    have in360 : ¬ ((4 : Int32) < 0 ∨ cl360.slots.size ≤ ((4 : Int32)).toNatClampNeg) := inb_of S360 ⟨by decide, by decide⟩
    obtain ⟨T360, h360, X360, e360, W360, st360⟩ := stC X352 hx hZ e352 Ar360 (j := (4 : Int32)) in360 (g := (mkF m 179 #[iv p0, iv p1, iv p2, iv p3, iv p4, iv k, iv ch, .val cv, .unset, .unset, .unset, .unset, .unset, .unset] [(.int (105 : Int32)), (.int (4 : Int32)), (.ref b321), (.ref b321)])) rfl rfl (hb hby at_179)
    rw [show nar .char (105 : Int32) = (105 : Int32) from (by decide : nar .char (105 : Int32) = (105 : Int32))] at W360
    have sf362 : Safe Z consts_1 vm106 h352 b321 := (Safe.wr W352 sf354 R345.1 sf354)
    have R361 : CHr Z consts_1 s.vm h0 vm106 h360 := R353.trans (CHr.wr W360 sf362 R353.1)
    have O363 := O355.wr W360 ge329
    have y364 : Arv Z h360 b321 k321 .char (21 : Int32) (Ls357.set 4 (.int (105 : Int32))) (.int (0 : Int32)) := Arv.set Ar360 q360 S360 M360 H360 G360 (own_ft_char (z := (105 : Int32)) (by decide : nar .char (105 : Int32) = (105 : Int32))) W360 4 rfl (by rw [lLs357]; decide)
    obtain ⟨Ls365, hLs365⟩ : ∃ z : List Value, z = (Ls357.set 4 (.int (105 : Int32))) := ⟨_, rfl⟩
    rw [← hLs365] at y364
    have lLs365 : Ls365.length = 21 := by rw [hLs365, List.length_set, lLs357]
    have N360 := Fr.snoc X360 N352 ge329
    have g366 : Go p e below T360 (mkF m 180 #[iv p0, iv p1, iv p2, iv p3, iv p4, iv k, iv ch, .val cv, .unset, .unset, .unset, .unset, .unset, .unset] [(.ref b321)]) A0 := fun t kont => g359 t (st360 t kont)
    have g367 : Go p e below T360 (mkF m 184 #[iv p0, iv p1, iv p2, iv p3, iv p4, iv k, iv ch, .val cv, .unset, .unset, .unset, .unset, .unset, .unset] [(.int (99 : Int32)), (.int (5 : Int32)), (.ref b321), (.ref b321)]) A0 := by
      intro t kont
      refine g366 t ?_
      refine XS.dup X360.here hx rfl (hb hby at_180) rfl rfl ?_
      refine XS.iconst X360.here hx rfl (hb hby at_181) ?_
      refine XS.bipush X360.here hx rfl (hb hby at_182) ?_
      exact kont
    have zz368 := y364
    obtain ⟨cl368, Ar368, q368, S368, M368, H368, G368⟩ := zz368
    have in368 : ¬ ((5 : Int32) < 0 ∨ cl368.slots.size ≤ ((5 : Int32)).toNatClampNeg) := inb_of S368 ⟨by decide, by decide⟩
    obtain ⟨T368, h368, X368, e368, W368, st368⟩ := stC X360 hx hZ e360 Ar368 (j := (5 : Int32)) in368 (g := (mkF m 184 #[iv p0, iv p1, iv p2, iv p3, iv p4, iv k, iv ch, .val cv, .unset, .unset, .unset, .unset, .unset, .unset] [(.int (99 : Int32)), (.int (5 : Int32)), (.ref b321), (.ref b321)])) rfl rfl (hb hby at_184)
    rw [show nar .char (99 : Int32) = (99 : Int32) from (by decide : nar .char (99 : Int32) = (99 : Int32))] at W368
    have sf370 : Safe Z consts_1 vm106 h360 b321 := (Safe.wr W360 sf362 R353.1 sf362)
    have R369 : CHr Z consts_1 s.vm h0 vm106 h368 := R361.trans (CHr.wr W368 sf370 R361.1)
    have O371 := O363.wr W368 ge329
    have y372 : Arv Z h368 b321 k321 .char (21 : Int32) (Ls365.set 5 (.int (99 : Int32))) (.int (0 : Int32)) := Arv.set Ar368 q368 S368 M368 H368 G368 (own_ft_char (z := (99 : Int32)) (by decide : nar .char (99 : Int32) = (99 : Int32))) W368 5 rfl (by rw [lLs365]; decide)
    obtain ⟨Ls373, hLs373⟩ : ∃ z : List Value, z = (Ls365.set 5 (.int (99 : Int32))) := ⟨_, rfl⟩
    rw [← hLs373] at y372
    have lLs373 : Ls373.length = 21 := by rw [hLs373, List.length_set, lLs365]
    have N368 := Fr.snoc X368 N360 ge329
    have g374 : Go p e below T368 (mkF m 185 #[iv p0, iv p1, iv p2, iv p3, iv p4, iv k, iv ch, .val cv, .unset, .unset, .unset, .unset, .unset, .unset] [(.ref b321)]) A0 := fun t kont => g367 t (st368 t kont)
    have g375 : Go p e below T368 (mkF m 190 #[iv p0, iv p1, iv p2, iv p3, iv p4, iv k, iv ch, .val cv, .unset, .unset, .unset, .unset, .unset, .unset] [(.int (97 : Int32)), (.int (6 : Int32)), (.ref b321), (.ref b321)]) A0 := by
      intro t kont
      refine g374 t ?_
      refine XS.dup X368.here hx rfl (hb hby at_185) rfl rfl ?_
      refine XS.bipush X368.here hx rfl (hb hby at_186) ?_
      refine XS.bipush X368.here hx rfl (hb hby at_188) ?_
      exact kont
    have zz376 := y372
    obtain ⟨cl376, Ar376, q376, S376, M376, H376, G376⟩ := zz376
    have in376 : ¬ ((6 : Int32) < 0 ∨ cl376.slots.size ≤ ((6 : Int32)).toNatClampNeg) := inb_of S376 ⟨by decide, by decide⟩
    obtain ⟨T376, h376, X376, e376, W376, st376⟩ := stC X368 hx hZ e368 Ar376 (j := (6 : Int32)) in376 (g := (mkF m 190 #[iv p0, iv p1, iv p2, iv p3, iv p4, iv k, iv ch, .val cv, .unset, .unset, .unset, .unset, .unset, .unset] [(.int (97 : Int32)), (.int (6 : Int32)), (.ref b321), (.ref b321)])) rfl rfl (hb hby at_190)
    rw [show nar .char (97 : Int32) = (97 : Int32) from (by decide : nar .char (97 : Int32) = (97 : Int32))] at W376
    have sf378 : Safe Z consts_1 vm106 h368 b321 := (Safe.wr W368 sf370 R361.1 sf370)
    have R377 : CHr Z consts_1 s.vm h0 vm106 h376 := R369.trans (CHr.wr W376 sf378 R369.1)
    have O379 := O371.wr W376 ge329
    have y380 : Arv Z h376 b321 k321 .char (21 : Int32) (Ls373.set 6 (.int (97 : Int32))) (.int (0 : Int32)) := Arv.set Ar376 q376 S376 M376 H376 G376 (own_ft_char (z := (97 : Int32)) (by decide : nar .char (97 : Int32) = (97 : Int32))) W376 6 rfl (by rw [lLs373]; decide)
    obtain ⟨Ls381, hLs381⟩ : ∃ z : List Value, z = (Ls373.set 6 (.int (97 : Int32))) := ⟨_, rfl⟩
    rw [← hLs381] at y380
    have lLs381 : Ls381.length = 21 := by rw [hLs381, List.length_set, lLs373]
    have N376 := Fr.snoc X376 N368 ge329
    have g382 : Go p e below T376 (mkF m 191 #[iv p0, iv p1, iv p2, iv p3, iv p4, iv k, iv ch, .val cv, .unset, .unset, .unset, .unset, .unset, .unset] [(.ref b321)]) A0 := fun t kont => g375 t (st376 t kont)
    have g383 : Go p e below T376 (mkF m 196 #[iv p0, iv p1, iv p2, iv p3, iv p4, iv k, iv ch, .val cv, .unset, .unset, .unset, .unset, .unset, .unset] [(.int (116 : Int32)), (.int (7 : Int32)), (.ref b321), (.ref b321)]) A0 := by
      intro t kont
      refine g382 t ?_
      refine XS.dup X376.here hx rfl (hb hby at_191) rfl rfl ?_
      refine XS.bipush X376.here hx rfl (hb hby at_192) ?_
      refine XS.bipush X376.here hx rfl (hb hby at_194) ?_
      exact kont
    have zz384 := y380
    obtain ⟨cl384, Ar384, q384, S384, M384, H384, G384⟩ := zz384
    have in384 : ¬ ((7 : Int32) < 0 ∨ cl384.slots.size ≤ ((7 : Int32)).toNatClampNeg) := inb_of S384 ⟨by decide, by decide⟩
    obtain ⟨T384, h384, X384, e384, W384, st384⟩ := stC X376 hx hZ e376 Ar384 (j := (7 : Int32)) in384 (g := (mkF m 196 #[iv p0, iv p1, iv p2, iv p3, iv p4, iv k, iv ch, .val cv, .unset, .unset, .unset, .unset, .unset, .unset] [(.int (116 : Int32)), (.int (7 : Int32)), (.ref b321), (.ref b321)])) rfl rfl (hb hby at_196)
    rw [show nar .char (116 : Int32) = (116 : Int32) from (by decide : nar .char (116 : Int32) = (116 : Int32))] at W384
    have sf386 : Safe Z consts_1 vm106 h376 b321 := (Safe.wr W376 sf378 R369.1 sf378)
    have R385 : CHr Z consts_1 s.vm h0 vm106 h384 := R377.trans (CHr.wr W384 sf386 R377.1)
    have O387 := O379.wr W384 ge329
    have y388 : Arv Z h384 b321 k321 .char (21 : Int32) (Ls381.set 7 (.int (116 : Int32))) (.int (0 : Int32)) := Arv.set Ar384 q384 S384 M384 H384 G384 (own_ft_char (z := (116 : Int32)) (by decide : nar .char (116 : Int32) = (116 : Int32))) W384 7 rfl (by rw [lLs381]; decide)
    obtain ⟨Ls389, hLs389⟩ : ∃ z : List Value, z = (Ls381.set 7 (.int (116 : Int32))) := ⟨_, rfl⟩
    rw [← hLs389] at y388
    have lLs389 : Ls389.length = 21 := by rw [hLs389, List.length_set, lLs381]
    have N384 := Fr.snoc X384 N376 ge329
    have g390 : Go p e below T384 (mkF m 197 #[iv p0, iv p1, iv p2, iv p3, iv p4, iv k, iv ch, .val cv, .unset, .unset, .unset, .unset, .unset, .unset] [(.ref b321)]) A0 := fun t kont => g383 t (st384 t kont)
    have g391 : Go p e below T384 (mkF m 202 #[iv p0, iv p1, iv p2, iv p3, iv p4, iv k, iv ch, .val cv, .unset, .unset, .unset, .unset, .unset, .unset] [(.int (105 : Int32)), (.int (8 : Int32)), (.ref b321), (.ref b321)]) A0 := by
      intro t kont
      refine g390 t ?_
      refine XS.dup X384.here hx rfl (hb hby at_197) rfl rfl ?_
      refine XS.bipush X384.here hx rfl (hb hby at_198) ?_
      refine XS.bipush X384.here hx rfl (hb hby at_200) ?_
      exact kont
    have zz392 := y388
    obtain ⟨cl392, Ar392, q392, S392, M392, H392, G392⟩ := zz392
    have in392 : ¬ ((8 : Int32) < 0 ∨ cl392.slots.size ≤ ((8 : Int32)).toNatClampNeg) := inb_of S392 ⟨by decide, by decide⟩
    obtain ⟨T392, h392, X392, e392, W392, st392⟩ := stC X384 hx hZ e384 Ar392 (j := (8 : Int32)) in392 (g := (mkF m 202 #[iv p0, iv p1, iv p2, iv p3, iv p4, iv k, iv ch, .val cv, .unset, .unset, .unset, .unset, .unset, .unset] [(.int (105 : Int32)), (.int (8 : Int32)), (.ref b321), (.ref b321)])) rfl rfl (hb hby at_202)
    rw [show nar .char (105 : Int32) = (105 : Int32) from (by decide : nar .char (105 : Int32) = (105 : Int32))] at W392
    have sf394 : Safe Z consts_1 vm106 h384 b321 := (Safe.wr W384 sf386 R377.1 sf386)
    have R393 : CHr Z consts_1 s.vm h0 vm106 h392 := R385.trans (CHr.wr W392 sf394 R385.1)
    have O395 := O387.wr W392 ge329
    have y396 : Arv Z h392 b321 k321 .char (21 : Int32) (Ls389.set 8 (.int (105 : Int32))) (.int (0 : Int32)) := Arv.set Ar392 q392 S392 M392 H392 G392 (own_ft_char (z := (105 : Int32)) (by decide : nar .char (105 : Int32) = (105 : Int32))) W392 8 rfl (by rw [lLs389]; decide)
    obtain ⟨Ls397, hLs397⟩ : ∃ z : List Value, z = (Ls389.set 8 (.int (105 : Int32))) := ⟨_, rfl⟩
    rw [← hLs397] at y396
    have lLs397 : Ls397.length = 21 := by rw [hLs397, List.length_set, lLs389]
    have N392 := Fr.snoc X392 N384 ge329
    have g398 : Go p e below T392 (mkF m 203 #[iv p0, iv p1, iv p2, iv p3, iv p4, iv k, iv ch, .val cv, .unset, .unset, .unset, .unset, .unset, .unset] [(.ref b321)]) A0 := fun t kont => g391 t (st392 t kont)
    have g399 : Go p e below T392 (mkF m 208 #[iv p0, iv p1, iv p2, iv p3, iv p4, iv k, iv ch, .val cv, .unset, .unset, .unset, .unset, .unset, .unset] [(.int (111 : Int32)), (.int (9 : Int32)), (.ref b321), (.ref b321)]) A0 := by
      intro t kont
      refine g398 t ?_
      refine XS.dup X392.here hx rfl (hb hby at_203) rfl rfl ?_
      refine XS.bipush X392.here hx rfl (hb hby at_204) ?_
      refine XS.bipush X392.here hx rfl (hb hby at_206) ?_
      exact kont
    have zz400 := y396
    obtain ⟨cl400, Ar400, q400, S400, M400, H400, G400⟩ := zz400
    have in400 : ¬ ((9 : Int32) < 0 ∨ cl400.slots.size ≤ ((9 : Int32)).toNatClampNeg) := inb_of S400 ⟨by decide, by decide⟩
    obtain ⟨T400, h400, X400, e400, W400, st400⟩ := stC X392 hx hZ e392 Ar400 (j := (9 : Int32)) in400 (g := (mkF m 208 #[iv p0, iv p1, iv p2, iv p3, iv p4, iv k, iv ch, .val cv, .unset, .unset, .unset, .unset, .unset, .unset] [(.int (111 : Int32)), (.int (9 : Int32)), (.ref b321), (.ref b321)])) rfl rfl (hb hby at_208)
    rw [show nar .char (111 : Int32) = (111 : Int32) from (by decide : nar .char (111 : Int32) = (111 : Int32))] at W400
    have sf402 : Safe Z consts_1 vm106 h392 b321 := (Safe.wr W392 sf394 R385.1 sf394)
    have R401 : CHr Z consts_1 s.vm h0 vm106 h400 := R393.trans (CHr.wr W400 sf402 R393.1)
    have O403 := O395.wr W400 ge329
    have y404 : Arv Z h400 b321 k321 .char (21 : Int32) (Ls397.set 9 (.int (111 : Int32))) (.int (0 : Int32)) := Arv.set Ar400 q400 S400 M400 H400 G400 (own_ft_char (z := (111 : Int32)) (by decide : nar .char (111 : Int32) = (111 : Int32))) W400 9 rfl (by rw [lLs397]; decide)
    obtain ⟨Ls405, hLs405⟩ : ∃ z : List Value, z = (Ls397.set 9 (.int (111 : Int32))) := ⟨_, rfl⟩
    rw [← hLs405] at y404
    have lLs405 : Ls405.length = 21 := by rw [hLs405, List.length_set, lLs397]
    have N400 := Fr.snoc X400 N392 ge329
    have g406 : Go p e below T400 (mkF m 209 #[iv p0, iv p1, iv p2, iv p3, iv p4, iv k, iv ch, .val cv, .unset, .unset, .unset, .unset, .unset, .unset] [(.ref b321)]) A0 := fun t kont => g399 t (st400 t kont)
    have g407 : Go p e below T400 (mkF m 214 #[iv p0, iv p1, iv p2, iv p3, iv p4, iv k, iv ch, .val cv, .unset, .unset, .unset, .unset, .unset, .unset] [(.int (110 : Int32)), (.int (10 : Int32)), (.ref b321), (.ref b321)]) A0 := by
      intro t kont
      refine g406 t ?_
      refine XS.dup X400.here hx rfl (hb hby at_209) rfl rfl ?_
      refine XS.bipush X400.here hx rfl (hb hby at_210) ?_
      refine XS.bipush X400.here hx rfl (hb hby at_212) ?_
      exact kont
    have zz408 := y404
    obtain ⟨cl408, Ar408, q408, S408, M408, H408, G408⟩ := zz408
    have in408 : ¬ ((10 : Int32) < 0 ∨ cl408.slots.size ≤ ((10 : Int32)).toNatClampNeg) := inb_of S408 ⟨by decide, by decide⟩
    obtain ⟨T408, h408, X408, e408, W408, st408⟩ := stC X400 hx hZ e400 Ar408 (j := (10 : Int32)) in408 (g := (mkF m 214 #[iv p0, iv p1, iv p2, iv p3, iv p4, iv k, iv ch, .val cv, .unset, .unset, .unset, .unset, .unset, .unset] [(.int (110 : Int32)), (.int (10 : Int32)), (.ref b321), (.ref b321)])) rfl rfl (hb hby at_214)
    rw [show nar .char (110 : Int32) = (110 : Int32) from (by decide : nar .char (110 : Int32) = (110 : Int32))] at W408
    have sf410 : Safe Z consts_1 vm106 h400 b321 := (Safe.wr W400 sf402 R393.1 sf402)
    have R409 : CHr Z consts_1 s.vm h0 vm106 h408 := R401.trans (CHr.wr W408 sf410 R401.1)
    have O411 := O403.wr W408 ge329
    have y412 : Arv Z h408 b321 k321 .char (21 : Int32) (Ls405.set 10 (.int (110 : Int32))) (.int (0 : Int32)) := Arv.set Ar408 q408 S408 M408 H408 G408 (own_ft_char (z := (110 : Int32)) (by decide : nar .char (110 : Int32) = (110 : Int32))) W408 10 rfl (by rw [lLs405]; decide)
    obtain ⟨Ls413, hLs413⟩ : ∃ z : List Value, z = (Ls405.set 10 (.int (110 : Int32))) := ⟨_, rfl⟩
    rw [← hLs413] at y412
    have lLs413 : Ls413.length = 21 := by rw [hLs413, List.length_set, lLs405]
    have N408 := Fr.snoc X408 N400 ge329
    have g414 : Go p e below T408 (mkF m 215 #[iv p0, iv p1, iv p2, iv p3, iv p4, iv k, iv ch, .val cv, .unset, .unset, .unset, .unset, .unset, .unset] [(.ref b321)]) A0 := fun t kont => g407 t (st408 t kont)
    have g415 : Go p e below T408 (mkF m 220 #[iv p0, iv p1, iv p2, iv p3, iv p4, iv k, iv ch, .val cv, .unset, .unset, .unset, .unset, .unset, .unset] [(.int (47 : Int32)), (.int (11 : Int32)), (.ref b321), (.ref b321)]) A0 := by
      intro t kont
      refine g414 t ?_
      refine XS.dup X408.here hx rfl (hb hby at_215) rfl rfl ?_
      refine XS.bipush X408.here hx rfl (hb hby at_216) ?_
      refine XS.bipush X408.here hx rfl (hb hby at_218) ?_
      exact kont
    have zz416 := y412
    obtain ⟨cl416, Ar416, q416, S416, M416, H416, G416⟩ := zz416
    have in416 : ¬ ((11 : Int32) < 0 ∨ cl416.slots.size ≤ ((11 : Int32)).toNatClampNeg) := inb_of S416 ⟨by decide, by decide⟩
    obtain ⟨T416, h416, X416, e416, W416, st416⟩ := stC X408 hx hZ e408 Ar416 (j := (11 : Int32)) in416 (g := (mkF m 220 #[iv p0, iv p1, iv p2, iv p3, iv p4, iv k, iv ch, .val cv, .unset, .unset, .unset, .unset, .unset, .unset] [(.int (47 : Int32)), (.int (11 : Int32)), (.ref b321), (.ref b321)])) rfl rfl (hb hby at_220)
    rw [show nar .char (47 : Int32) = (47 : Int32) from (by decide : nar .char (47 : Int32) = (47 : Int32))] at W416
    have sf418 : Safe Z consts_1 vm106 h408 b321 := (Safe.wr W408 sf410 R401.1 sf410)
    have R417 : CHr Z consts_1 s.vm h0 vm106 h416 := R409.trans (CHr.wr W416 sf418 R409.1)
    have O419 := O411.wr W416 ge329
    have y420 : Arv Z h416 b321 k321 .char (21 : Int32) (Ls413.set 11 (.int (47 : Int32))) (.int (0 : Int32)) := Arv.set Ar416 q416 S416 M416 H416 G416 (own_ft_char (z := (47 : Int32)) (by decide : nar .char (47 : Int32) = (47 : Int32))) W416 11 rfl (by rw [lLs413]; decide)
    obtain ⟨Ls421, hLs421⟩ : ∃ z : List Value, z = (Ls413.set 11 (.int (47 : Int32))) := ⟨_, rfl⟩
    rw [← hLs421] at y420
    have lLs421 : Ls421.length = 21 := by rw [hLs421, List.length_set, lLs413]
    have N416 := Fr.snoc X416 N408 ge329
    have g422 : Go p e below T416 (mkF m 221 #[iv p0, iv p1, iv p2, iv p3, iv p4, iv k, iv ch, .val cv, .unset, .unset, .unset, .unset, .unset, .unset] [(.ref b321)]) A0 := fun t kont => g415 t (st416 t kont)
    have g423 : Go p e below T416 (mkF m 226 #[iv p0, iv p1, iv p2, iv p3, iv p4, iv k, iv ch, .val cv, .unset, .unset, .unset, .unset, .unset, .unset] [(.int (120 : Int32)), (.int (12 : Int32)), (.ref b321), (.ref b321)]) A0 := by
      intro t kont
      refine g422 t ?_
      refine XS.dup X416.here hx rfl (hb hby at_221) rfl rfl ?_
      refine XS.bipush X416.here hx rfl (hb hby at_222) ?_
      refine XS.bipush X416.here hx rfl (hb hby at_224) ?_
      exact kont
    have zz424 := y420
    obtain ⟨cl424, Ar424, q424, S424, M424, H424, G424⟩ := zz424
    have in424 : ¬ ((12 : Int32) < 0 ∨ cl424.slots.size ≤ ((12 : Int32)).toNatClampNeg) := inb_of S424 ⟨by decide, by decide⟩
    obtain ⟨T424, h424, X424, e424, W424, st424⟩ := stC X416 hx hZ e416 Ar424 (j := (12 : Int32)) in424 (g := (mkF m 226 #[iv p0, iv p1, iv p2, iv p3, iv p4, iv k, iv ch, .val cv, .unset, .unset, .unset, .unset, .unset, .unset] [(.int (120 : Int32)), (.int (12 : Int32)), (.ref b321), (.ref b321)])) rfl rfl (hb hby at_226)
    rw [show nar .char (120 : Int32) = (120 : Int32) from (by decide : nar .char (120 : Int32) = (120 : Int32))] at W424
    have sf426 : Safe Z consts_1 vm106 h416 b321 := (Safe.wr W416 sf418 R409.1 sf418)
    have R425 : CHr Z consts_1 s.vm h0 vm106 h424 := R417.trans (CHr.wr W424 sf426 R417.1)
    have O427 := O419.wr W424 ge329
    have y428 : Arv Z h424 b321 k321 .char (21 : Int32) (Ls421.set 12 (.int (120 : Int32))) (.int (0 : Int32)) := Arv.set Ar424 q424 S424 M424 H424 G424 (own_ft_char (z := (120 : Int32)) (by decide : nar .char (120 : Int32) = (120 : Int32))) W424 12 rfl (by rw [lLs421]; decide)
    obtain ⟨Ls429, hLs429⟩ : ∃ z : List Value, z = (Ls421.set 12 (.int (120 : Int32))) := ⟨_, rfl⟩
    rw [← hLs429] at y428
    have lLs429 : Ls429.length = 21 := by rw [hLs429, List.length_set, lLs421]
    have N424 := Fr.snoc X424 N416 ge329
    have g430 : Go p e below T424 (mkF m 227 #[iv p0, iv p1, iv p2, iv p3, iv p4, iv k, iv ch, .val cv, .unset, .unset, .unset, .unset, .unset, .unset] [(.ref b321)]) A0 := fun t kont => g423 t (st424 t kont)
    have g431 : Go p e below T424 (mkF m 232 #[iv p0, iv p1, iv p2, iv p3, iv p4, iv k, iv ch, .val cv, .unset, .unset, .unset, .unset, .unset, .unset] [(.int (104 : Int32)), (.int (13 : Int32)), (.ref b321), (.ref b321)]) A0 := by
      intro t kont
      refine g430 t ?_
      refine XS.dup X424.here hx rfl (hb hby at_227) rfl rfl ?_
      refine XS.bipush X424.here hx rfl (hb hby at_228) ?_
      refine XS.bipush X424.here hx rfl (hb hby at_230) ?_
      exact kont
    have zz432 := y428
    obtain ⟨cl432, Ar432, q432, S432, M432, H432, G432⟩ := zz432
    have in432 : ¬ ((13 : Int32) < 0 ∨ cl432.slots.size ≤ ((13 : Int32)).toNatClampNeg) := inb_of S432 ⟨by decide, by decide⟩
    obtain ⟨T432, h432, X432, e432, W432, st432⟩ := stC X424 hx hZ e424 Ar432 (j := (13 : Int32)) in432 (g := (mkF m 232 #[iv p0, iv p1, iv p2, iv p3, iv p4, iv k, iv ch, .val cv, .unset, .unset, .unset, .unset, .unset, .unset] [(.int (104 : Int32)), (.int (13 : Int32)), (.ref b321), (.ref b321)])) rfl rfl (hb hby at_232)
    rw [show nar .char (104 : Int32) = (104 : Int32) from (by decide : nar .char (104 : Int32) = (104 : Int32))] at W432
    have sf434 : Safe Z consts_1 vm106 h424 b321 := (Safe.wr W424 sf426 R417.1 sf426)
    have R433 : CHr Z consts_1 s.vm h0 vm106 h432 := R425.trans (CHr.wr W432 sf434 R425.1)
    have O435 := O427.wr W432 ge329
    have y436 : Arv Z h432 b321 k321 .char (21 : Int32) (Ls429.set 13 (.int (104 : Int32))) (.int (0 : Int32)) := Arv.set Ar432 q432 S432 M432 H432 G432 (own_ft_char (z := (104 : Int32)) (by decide : nar .char (104 : Int32) = (104 : Int32))) W432 13 rfl (by rw [lLs429]; decide)
    obtain ⟨Ls437, hLs437⟩ : ∃ z : List Value, z = (Ls429.set 13 (.int (104 : Int32))) := ⟨_, rfl⟩
    rw [← hLs437] at y436
    have lLs437 : Ls437.length = 21 := by rw [hLs437, List.length_set, lLs429]
    have N432 := Fr.snoc X432 N424 ge329
    have g438 : Go p e below T432 (mkF m 233 #[iv p0, iv p1, iv p2, iv p3, iv p4, iv k, iv ch, .val cv, .unset, .unset, .unset, .unset, .unset, .unset] [(.ref b321)]) A0 := fun t kont => g431 t (st432 t kont)
    have g439 : Go p e below T432 (mkF m 238 #[iv p0, iv p1, iv p2, iv p3, iv p4, iv k, iv ch, .val cv, .unset, .unset, .unset, .unset, .unset, .unset] [(.int (116 : Int32)), (.int (14 : Int32)), (.ref b321), (.ref b321)]) A0 := by
      intro t kont
      refine g438 t ?_
      refine XS.dup X432.here hx rfl (hb hby at_233) rfl rfl ?_
      refine XS.bipush X432.here hx rfl (hb hby at_234) ?_
      refine XS.bipush X432.here hx rfl (hb hby at_236) ?_
      exact kont
    have zz440 := y436
    obtain ⟨cl440, Ar440, q440, S440, M440, H440, G440⟩ := zz440
    have in440 : ¬ ((14 : Int32) < 0 ∨ cl440.slots.size ≤ ((14 : Int32)).toNatClampNeg) := inb_of S440 ⟨by decide, by decide⟩
    obtain ⟨T440, h440, X440, e440, W440, st440⟩ := stC X432 hx hZ e432 Ar440 (j := (14 : Int32)) in440 (g := (mkF m 238 #[iv p0, iv p1, iv p2, iv p3, iv p4, iv k, iv ch, .val cv, .unset, .unset, .unset, .unset, .unset, .unset] [(.int (116 : Int32)), (.int (14 : Int32)), (.ref b321), (.ref b321)])) rfl rfl (hb hby at_238)
    rw [show nar .char (116 : Int32) = (116 : Int32) from (by decide : nar .char (116 : Int32) = (116 : Int32))] at W440
    have sf442 : Safe Z consts_1 vm106 h432 b321 := (Safe.wr W432 sf434 R425.1 sf434)
    have R441 : CHr Z consts_1 s.vm h0 vm106 h440 := R433.trans (CHr.wr W440 sf442 R433.1)
    have O443 := O435.wr W440 ge329
    have y444 : Arv Z h440 b321 k321 .char (21 : Int32) (Ls437.set 14 (.int (116 : Int32))) (.int (0 : Int32)) := Arv.set Ar440 q440 S440 M440 H440 G440 (own_ft_char (z := (116 : Int32)) (by decide : nar .char (116 : Int32) = (116 : Int32))) W440 14 rfl (by rw [lLs437]; decide)
    obtain ⟨Ls445, hLs445⟩ : ∃ z : List Value, z = (Ls437.set 14 (.int (116 : Int32))) := ⟨_, rfl⟩
    rw [← hLs445] at y444
    have lLs445 : Ls445.length = 21 := by rw [hLs445, List.length_set, lLs437]
    have N440 := Fr.snoc X440 N432 ge329
    have g446 : Go p e below T440 (mkF m 239 #[iv p0, iv p1, iv p2, iv p3, iv p4, iv k, iv ch, .val cv, .unset, .unset, .unset, .unset, .unset, .unset] [(.ref b321)]) A0 := fun t kont => g439 t (st440 t kont)
    have g447 : Go p e below T440 (mkF m 244 #[iv p0, iv p1, iv p2, iv p3, iv p4, iv k, iv ch, .val cv, .unset, .unset, .unset, .unset, .unset, .unset] [(.int (109 : Int32)), (.int (15 : Int32)), (.ref b321), (.ref b321)]) A0 := by
      intro t kont
      refine g446 t ?_
      refine XS.dup X440.here hx rfl (hb hby at_239) rfl rfl ?_
      refine XS.bipush X440.here hx rfl (hb hby at_240) ?_
      refine XS.bipush X440.here hx rfl (hb hby at_242) ?_
      exact kont
    have zz448 := y444
    obtain ⟨cl448, Ar448, q448, S448, M448, H448, G448⟩ := zz448
    have in448 : ¬ ((15 : Int32) < 0 ∨ cl448.slots.size ≤ ((15 : Int32)).toNatClampNeg) := inb_of S448 ⟨by decide, by decide⟩
    obtain ⟨T448, h448, X448, e448, W448, st448⟩ := stC X440 hx hZ e440 Ar448 (j := (15 : Int32)) in448 (g := (mkF m 244 #[iv p0, iv p1, iv p2, iv p3, iv p4, iv k, iv ch, .val cv, .unset, .unset, .unset, .unset, .unset, .unset] [(.int (109 : Int32)), (.int (15 : Int32)), (.ref b321), (.ref b321)])) rfl rfl (hb hby at_244)
    rw [show nar .char (109 : Int32) = (109 : Int32) from (by decide : nar .char (109 : Int32) = (109 : Int32))] at W448
    have sf450 : Safe Z consts_1 vm106 h440 b321 := (Safe.wr W440 sf442 R433.1 sf442)
    have R449 : CHr Z consts_1 s.vm h0 vm106 h448 := R441.trans (CHr.wr W448 sf450 R441.1)
    have O451 := O443.wr W448 ge329
    have y452 : Arv Z h448 b321 k321 .char (21 : Int32) (Ls445.set 15 (.int (109 : Int32))) (.int (0 : Int32)) := Arv.set Ar448 q448 S448 M448 H448 G448 (own_ft_char (z := (109 : Int32)) (by decide : nar .char (109 : Int32) = (109 : Int32))) W448 15 rfl (by rw [lLs445]; decide)
    obtain ⟨Ls453, hLs453⟩ : ∃ z : List Value, z = (Ls445.set 15 (.int (109 : Int32))) := ⟨_, rfl⟩
    rw [← hLs453] at y452
    have lLs453 : Ls453.length = 21 := by rw [hLs453, List.length_set, lLs445]
    have N448 := Fr.snoc X448 N440 ge329
    have g454 : Go p e below T448 (mkF m 245 #[iv p0, iv p1, iv p2, iv p3, iv p4, iv k, iv ch, .val cv, .unset, .unset, .unset, .unset, .unset, .unset] [(.ref b321)]) A0 := fun t kont => g447 t (st448 t kont)
    have g455 : Go p e below T448 (mkF m 250 #[iv p0, iv p1, iv p2, iv p3, iv p4, iv k, iv ch, .val cv, .unset, .unset, .unset, .unset, .unset, .unset] [(.int (108 : Int32)), (.int (16 : Int32)), (.ref b321), (.ref b321)]) A0 := by
      intro t kont
      refine g454 t ?_
      refine XS.dup X448.here hx rfl (hb hby at_245) rfl rfl ?_
      refine XS.bipush X448.here hx rfl (hb hby at_246) ?_
      refine XS.bipush X448.here hx rfl (hb hby at_248) ?_
      exact kont
    have zz456 := y452
    obtain ⟨cl456, Ar456, q456, S456, M456, H456, G456⟩ := zz456
    have in456 : ¬ ((16 : Int32) < 0 ∨ cl456.slots.size ≤ ((16 : Int32)).toNatClampNeg) := inb_of S456 ⟨by decide, by decide⟩
    obtain ⟨T456, h456, X456, e456, W456, st456⟩ := stC X448 hx hZ e448 Ar456 (j := (16 : Int32)) in456 (g := (mkF m 250 #[iv p0, iv p1, iv p2, iv p3, iv p4, iv k, iv ch, .val cv, .unset, .unset, .unset, .unset, .unset, .unset] [(.int (108 : Int32)), (.int (16 : Int32)), (.ref b321), (.ref b321)])) rfl rfl (hb hby at_250)
    rw [show nar .char (108 : Int32) = (108 : Int32) from (by decide : nar .char (108 : Int32) = (108 : Int32))] at W456
    have sf458 : Safe Z consts_1 vm106 h448 b321 := (Safe.wr W448 sf450 R441.1 sf450)
    have R457 : CHr Z consts_1 s.vm h0 vm106 h456 := R449.trans (CHr.wr W456 sf458 R449.1)
    have O459 := O451.wr W456 ge329
    have y460 : Arv Z h456 b321 k321 .char (21 : Int32) (Ls453.set 16 (.int (108 : Int32))) (.int (0 : Int32)) := Arv.set Ar456 q456 S456 M456 H456 G456 (own_ft_char (z := (108 : Int32)) (by decide : nar .char (108 : Int32) = (108 : Int32))) W456 16 rfl (by rw [lLs453]; decide)
    obtain ⟨Ls461, hLs461⟩ : ∃ z : List Value, z = (Ls453.set 16 (.int (108 : Int32))) := ⟨_, rfl⟩
    rw [← hLs461] at y460
    have lLs461 : Ls461.length = 21 := by rw [hLs461, List.length_set, lLs453]
    have N456 := Fr.snoc X456 N448 ge329
    have g462 : Go p e below T456 (mkF m 251 #[iv p0, iv p1, iv p2, iv p3, iv p4, iv k, iv ch, .val cv, .unset, .unset, .unset, .unset, .unset, .unset] [(.ref b321)]) A0 := fun t kont => g455 t (st456 t kont)
    have g463 : Go p e below T456 (mkF m 256 #[iv p0, iv p1, iv p2, iv p3, iv p4, iv k, iv ch, .val cv, .unset, .unset, .unset, .unset, .unset, .unset] [(.int (43 : Int32)), (.int (17 : Int32)), (.ref b321), (.ref b321)]) A0 := by
      intro t kont
      refine g462 t ?_
      refine XS.dup X456.here hx rfl (hb hby at_251) rfl rfl ?_
      refine XS.bipush X456.here hx rfl (hb hby at_252) ?_
      refine XS.bipush X456.here hx rfl (hb hby at_254) ?_
      exact kont
    have zz464 := y460
    obtain ⟨cl464, Ar464, q464, S464, M464, H464, G464⟩ := zz464
    have in464 : ¬ ((17 : Int32) < 0 ∨ cl464.slots.size ≤ ((17 : Int32)).toNatClampNeg) := inb_of S464 ⟨by decide, by decide⟩
    obtain ⟨T464, h464, X464, e464, W464, st464⟩ := stC X456 hx hZ e456 Ar464 (j := (17 : Int32)) in464 (g := (mkF m 256 #[iv p0, iv p1, iv p2, iv p3, iv p4, iv k, iv ch, .val cv, .unset, .unset, .unset, .unset, .unset, .unset] [(.int (43 : Int32)), (.int (17 : Int32)), (.ref b321), (.ref b321)])) rfl rfl (hb hby at_256)
    rw [show nar .char (43 : Int32) = (43 : Int32) from (by decide : nar .char (43 : Int32) = (43 : Int32))] at W464
    have sf466 : Safe Z consts_1 vm106 h456 b321 := (Safe.wr W456 sf458 R449.1 sf458)
    have R465 : CHr Z consts_1 s.vm h0 vm106 h464 := R457.trans (CHr.wr W464 sf466 R457.1)
    have O467 := O459.wr W464 ge329
    have y468 : Arv Z h464 b321 k321 .char (21 : Int32) (Ls461.set 17 (.int (43 : Int32))) (.int (0 : Int32)) := Arv.set Ar464 q464 S464 M464 H464 G464 (own_ft_char (z := (43 : Int32)) (by decide : nar .char (43 : Int32) = (43 : Int32))) W464 17 rfl (by rw [lLs461]; decide)
    obtain ⟨Ls469, hLs469⟩ : ∃ z : List Value, z = (Ls461.set 17 (.int (43 : Int32))) := ⟨_, rfl⟩
    rw [← hLs469] at y468
    have lLs469 : Ls469.length = 21 := by rw [hLs469, List.length_set, lLs461]
    have N464 := Fr.snoc X464 N456 ge329
    have g470 : Go p e below T464 (mkF m 257 #[iv p0, iv p1, iv p2, iv p3, iv p4, iv k, iv ch, .val cv, .unset, .unset, .unset, .unset, .unset, .unset] [(.ref b321)]) A0 := fun t kont => g463 t (st464 t kont)
    have g471 : Go p e below T464 (mkF m 262 #[iv p0, iv p1, iv p2, iv p3, iv p4, iv k, iv ch, .val cv, .unset, .unset, .unset, .unset, .unset, .unset] [(.int (120 : Int32)), (.int (18 : Int32)), (.ref b321), (.ref b321)]) A0 := by
      intro t kont
      refine g470 t ?_
      refine XS.dup X464.here hx rfl (hb hby at_257) rfl rfl ?_
      refine XS.bipush X464.here hx rfl (hb hby at_258) ?_
      refine XS.bipush X464.here hx rfl (hb hby at_260) ?_
      exact kont
    have zz472 := y468
    obtain ⟨cl472, Ar472, q472, S472, M472, H472, G472⟩ := zz472
    have in472 : ¬ ((18 : Int32) < 0 ∨ cl472.slots.size ≤ ((18 : Int32)).toNatClampNeg) := inb_of S472 ⟨by decide, by decide⟩
    obtain ⟨T472, h472, X472, e472, W472, st472⟩ := stC X464 hx hZ e464 Ar472 (j := (18 : Int32)) in472 (g := (mkF m 262 #[iv p0, iv p1, iv p2, iv p3, iv p4, iv k, iv ch, .val cv, .unset, .unset, .unset, .unset, .unset, .unset] [(.int (120 : Int32)), (.int (18 : Int32)), (.ref b321), (.ref b321)])) rfl rfl (hb hby at_262)
    rw [show nar .char (120 : Int32) = (120 : Int32) from (by decide : nar .char (120 : Int32) = (120 : Int32))] at W472
    have sf474 : Safe Z consts_1 vm106 h464 b321 := (Safe.wr W464 sf466 R457.1 sf466)
    have R473 : CHr Z consts_1 s.vm h0 vm106 h472 := R465.trans (CHr.wr W472 sf474 R465.1)
    have O475 := O467.wr W472 ge329
    have y476 : Arv Z h472 b321 k321 .char (21 : Int32) (Ls469.set 18 (.int (120 : Int32))) (.int (0 : Int32)) := Arv.set Ar472 q472 S472 M472 H472 G472 (own_ft_char (z := (120 : Int32)) (by decide : nar .char (120 : Int32) = (120 : Int32))) W472 18 rfl (by rw [lLs469]; decide)
    obtain ⟨Ls477, hLs477⟩ : ∃ z : List Value, z = (Ls469.set 18 (.int (120 : Int32))) := ⟨_, rfl⟩
    rw [← hLs477] at y476
    have lLs477 : Ls477.length = 21 := by rw [hLs477, List.length_set, lLs469]
    have N472 := Fr.snoc X472 N464 ge329
    have g478 : Go p e below T472 (mkF m 263 #[iv p0, iv p1, iv p2, iv p3, iv p4, iv k, iv ch, .val cv, .unset, .unset, .unset, .unset, .unset, .unset] [(.ref b321)]) A0 := fun t kont => g471 t (st472 t kont)
    have g479 : Go p e below T472 (mkF m 268 #[iv p0, iv p1, iv p2, iv p3, iv p4, iv k, iv ch, .val cv, .unset, .unset, .unset, .unset, .unset, .unset] [(.int (109 : Int32)), (.int (19 : Int32)), (.ref b321), (.ref b321)]) A0 := by
      intro t kont
      refine g478 t ?_
      refine XS.dup X472.here hx rfl (hb hby at_263) rfl rfl ?_
      refine XS.bipush X472.here hx rfl (hb hby at_264) ?_
      refine XS.bipush X472.here hx rfl (hb hby at_266) ?_
      exact kont
    have zz480 := y476
    obtain ⟨cl480, Ar480, q480, S480, M480, H480, G480⟩ := zz480
    have in480 : ¬ ((19 : Int32) < 0 ∨ cl480.slots.size ≤ ((19 : Int32)).toNatClampNeg) := inb_of S480 ⟨by decide, by decide⟩
    obtain ⟨T480, h480, X480, e480, W480, st480⟩ := stC X472 hx hZ e472 Ar480 (j := (19 : Int32)) in480 (g := (mkF m 268 #[iv p0, iv p1, iv p2, iv p3, iv p4, iv k, iv ch, .val cv, .unset, .unset, .unset, .unset, .unset, .unset] [(.int (109 : Int32)), (.int (19 : Int32)), (.ref b321), (.ref b321)])) rfl rfl (hb hby at_268)
    rw [show nar .char (109 : Int32) = (109 : Int32) from (by decide : nar .char (109 : Int32) = (109 : Int32))] at W480
    have sf482 : Safe Z consts_1 vm106 h472 b321 := (Safe.wr W472 sf474 R465.1 sf474)
    have R481 : CHr Z consts_1 s.vm h0 vm106 h480 := R473.trans (CHr.wr W480 sf482 R473.1)
    have O483 := O475.wr W480 ge329
    have y484 : Arv Z h480 b321 k321 .char (21 : Int32) (Ls477.set 19 (.int (109 : Int32))) (.int (0 : Int32)) := Arv.set Ar480 q480 S480 M480 H480 G480 (own_ft_char (z := (109 : Int32)) (by decide : nar .char (109 : Int32) = (109 : Int32))) W480 19 rfl (by rw [lLs477]; decide)
    obtain ⟨Ls485, hLs485⟩ : ∃ z : List Value, z = (Ls477.set 19 (.int (109 : Int32))) := ⟨_, rfl⟩
    rw [← hLs485] at y484
    have lLs485 : Ls485.length = 21 := by rw [hLs485, List.length_set, lLs477]
    have N480 := Fr.snoc X480 N472 ge329
    have g486 : Go p e below T480 (mkF m 269 #[iv p0, iv p1, iv p2, iv p3, iv p4, iv k, iv ch, .val cv, .unset, .unset, .unset, .unset, .unset, .unset] [(.ref b321)]) A0 := fun t kont => g479 t (st480 t kont)
    have g487 : Go p e below T480 (mkF m 274 #[iv p0, iv p1, iv p2, iv p3, iv p4, iv k, iv ch, .val cv, .unset, .unset, .unset, .unset, .unset, .unset] [(.int (108 : Int32)), (.int (20 : Int32)), (.ref b321), (.ref b321)]) A0 := by
      intro t kont
      refine g486 t ?_
      refine XS.dup X480.here hx rfl (hb hby at_269) rfl rfl ?_
      refine XS.bipush X480.here hx rfl (hb hby at_270) ?_
      refine XS.bipush X480.here hx rfl (hb hby at_272) ?_
      exact kont
    have zz488 := y484
    obtain ⟨cl488, Ar488, q488, S488, M488, H488, G488⟩ := zz488
    have in488 : ¬ ((20 : Int32) < 0 ∨ cl488.slots.size ≤ ((20 : Int32)).toNatClampNeg) := inb_of S488 ⟨by decide, by decide⟩
    obtain ⟨T488, h488, X488, e488, W488, st488⟩ := stC X480 hx hZ e480 Ar488 (j := (20 : Int32)) in488 (g := (mkF m 274 #[iv p0, iv p1, iv p2, iv p3, iv p4, iv k, iv ch, .val cv, .unset, .unset, .unset, .unset, .unset, .unset] [(.int (108 : Int32)), (.int (20 : Int32)), (.ref b321), (.ref b321)])) rfl rfl (hb hby at_274)
    rw [show nar .char (108 : Int32) = (108 : Int32) from (by decide : nar .char (108 : Int32) = (108 : Int32))] at W488
    have sf490 : Safe Z consts_1 vm106 h480 b321 := (Safe.wr W480 sf482 R473.1 sf482)
    have R489 : CHr Z consts_1 s.vm h0 vm106 h488 := R481.trans (CHr.wr W488 sf490 R481.1)
    have O491 := O483.wr W488 ge329
    have y492 : Arv Z h488 b321 k321 .char (21 : Int32) (Ls485.set 20 (.int (108 : Int32))) (.int (0 : Int32)) := Arv.set Ar488 q488 S488 M488 H488 G488 (own_ft_char (z := (108 : Int32)) (by decide : nar .char (108 : Int32) = (108 : Int32))) W488 20 rfl (by rw [lLs485]; decide)
    obtain ⟨Ls493, hLs493⟩ : ∃ z : List Value, z = (Ls485.set 20 (.int (108 : Int32))) := ⟨_, rfl⟩
    rw [← hLs493] at y492
    have lLs493 : Ls493.length = 21 := by rw [hLs493, List.length_set, lLs485]
    have N488 := Fr.snoc X488 N480 ge329
    have g494 : Go p e below T488 (mkF m 275 #[iv p0, iv p1, iv p2, iv p3, iv p4, iv k, iv ch, .val cv, .unset, .unset, .unset, .unset, .unset, .unset] [(.ref b321)]) A0 := fun t kont => g487 t (st488 t kont)
    have y495 : Arv Z h488 b321 k321 .char (Int32.ofNat own_xhtml.length) (own_xhtml.map Value.int) (.int (0 : Int32)) := by
      have q := y492
      rw [show Ls493 = own_xhtml.map Value.int by rw [hLs493, hLs485, hLs477, hLs469, hLs461, hLs453, hLs445, hLs437, hLs429, hLs421, hLs413, hLs405, hLs397, hLs389, hLs381, hLs373, hLs365, hLs357, hLs349, hLs341, hLs333, hLs325, own_xhtml]; simp only [List.reduceReplicate, List.set_cons_zero, List.set_cons_succ, List.map_cons, List.map_nil]] at q
      exact q
    have l_xhtml : own_xhtml.length = 21 := rfl
    obtain ⟨pn, hpn, hpl⟩ := own_pn p1 (n := 21) (by decide) (by decide)
    have hpb : pn < 2147483648 := Nat.lt_trans hpl (by decide)
    have hpk : pn < own_xhtml.length := hpl
    have g496 : Go p e below T488 (mkF m 284 #[iv p0, iv p1, iv p2, iv p3, iv p4, iv k, iv ch, .val cv, .unset, .unset, rv b321, .unset, .unset, .unset] [(.int ((p1 &&& (2147483647 : Int32)) % (21 : Int32)))]) A0 := by
      intro t kont
      refine g494 t ?_
      refine XS.astore X488.here hx rfl (hb hby at_275) rfl rfl (l' := #[iv p0, iv p1, iv p2, iv p3, iv p4, iv k, iv ch, .val cv, .unset, .unset, rv b321, .unset, .unset, .unset]) rfl ?_
      refine XS.iloadN X488.here hx rfl (hb hby at_277) rfl ?_
      refine X488.ldcInt hx hown (mvT hZ (hw _ (List.mem_of_getElem? (i := 1) rfl))) (g := (mkF m 278 #[iv p0, iv p1, iv p2, iv p3, iv p4, iv k, iv ch, .val cv, .unset, .unset, rv b321, .unset, .unset, .unset] [(.int p1)])) rfl (hb hby at_278) _ ?_
      refine XS.iand X488.here hx rfl (hb hby at_280) rfl ?_
      refine XS.bipush X488.here hx rfl (hb hby at_281) ?_
      refine iremM X488 hx rfl (hb hby at_283) rfl (by decide) ?_
      exact kont
    have g497 : Go p e below T488 (mkF m 284 #[iv p0, iv p1, iv p2, iv p3, iv p4, iv k, iv ch, .val cv, .unset, .unset, rv b321, .unset, .unset, .unset] [(.int (Int32.ofNat pn))]) A0 := by rw [← hpn]; exact g496
    have g498 : Go p e below T488 (mkF m 290 #[iv p0, iv p1, iv p2, iv p3, iv p4, iv k, iv ch, .val cv, .unset, .unset, rv b321, iv (Int32.ofNat pn), .unset, .unset] [(.int (Int32.ofNat pn)), (.ref b321)]) A0 := by
      intro t kont
      refine g497 t ?_
      refine XS.istore X488.here hx rfl (hb hby at_284) rfl (l' := #[iv p0, iv p1, iv p2, iv p3, iv p4, iv k, iv ch, .val cv, .unset, .unset, rv b321, iv (Int32.ofNat pn), .unset, .unset]) rfl ?_
      refine XS.aload X488.here hx rfl (hb hby at_286) rfl rfl ?_
      refine XS.iload X488.here hx rfl (hb hby at_288) rfl ?_
      exact kont
    have zz499 := y495
    obtain ⟨cl499, Ar499, q499, S499, M499, H499, G499⟩ := zz499
    have in499 : ¬ ((Int32.ofNat pn) < 0 ∨ cl499.slots.size ≤ ((Int32.ofNat pn)).toNatClampNeg) := inb_of S499 ⟨own_nonneg hpb, own_lt hpk (by decide)⟩
    have at499 : cl499.slots[((Int32.ofNat pn)).toNatClampNeg]? = some (.int (own_xhtml.getD pn 0)) := Has.at H499 in499 (by rw [own_clamp hpb]; exact own_getc own_xhtml pn)
    have g500 : Go p e below T488 (mkF m 291 #[iv p0, iv p1, iv p2, iv p3, iv p4, iv k, iv ch, .val cv, .unset, .unset, rv b321, iv (Int32.ofNat pn), .unset, .unset] [(.int (own_xhtml.getD pn 0))]) A0 := fun t kont => g498 t (X488.caload hx (j := (Int32.ofNat pn)) (v := (.int (own_xhtml.getD pn 0))) (by rw [e488]; exact Ar499.1) (State.isArrayOf_alike hZ.alike Ar499.2.1) Ar499.2.2 in499 at499 (g := (mkF m 290 #[iv p0, iv p1, iv p2, iv p3, iv p4, iv k, iv ch, .val cv, .unset, .unset, rv b321, iv (Int32.ofNat pn), .unset, .unset] [(.int (Int32.ofNat pn)), (.ref b321)])) rfl rfl (hb hby at_290) t kont)
    have g502 : Go p e below T488 (mkF m 293 #[iv p0, iv p1, iv p2, iv p3, iv p4, iv k, iv ch, .val cv, .unset, .unset, rv b321, iv (Int32.ofNat pn), .unset, .unset] [(.int ch), (.int (own_xhtml.getD pn 0))]) A0 := by
      intro t kont
      refine g500 t ?_
      refine XS.iload X488.here hx rfl (hb hby at_291) rfl ?_
      exact kont
    by_cases c501 : (own_xhtml.getD pn 0) = ch
    ·
      have g503 : Go p e below T488 (mkF m 309 #[iv p0, iv p1, iv p2, iv p3, iv p4, iv k, iv ch, .val cv, .unset, iv (1 : Int32), rv b321, iv (Int32.ofNat pn), .unset, .unset] [(.int ch), (.int (Int32.ofNat pn)), (.ref b321)]) A0 := by
        intro t kont
        refine g502 t ?_
        refine XS.icmpNo X488.here hx rfl (hb hby at_293) rfl (teq c501).2 ?_
        refine XS.iconst X488.here hx rfl (hb hby at_296) ?_
        refine XS.goto X488.here hx rfl (pc0 := 297) (pc' := 301) rfl (hb hby at_297) (by decide) (by decide) ?_
        refine XS.istore X488.here hx rfl (hb hby at_301) rfl (l' := #[iv p0, iv p1, iv p2, iv p3, iv p4, iv k, iv ch, .val cv, .unset, iv (1 : Int32), rv b321, iv (Int32.ofNat pn), .unset, .unset]) rfl ?_
        refine XS.aload X488.here hx rfl (hb hby at_303) rfl rfl ?_
        refine XS.iload X488.here hx rfl (hb hby at_305) rfl ?_
        refine XS.iload X488.here hx rfl (hb hby at_307) rfl ?_
        exact kont
      have zz504 := y495
      obtain ⟨cl504, Ar504, q504, S504, M504, H504, G504⟩ := zz504
      have in504 : ¬ ((Int32.ofNat pn) < 0 ∨ cl504.slots.size ≤ ((Int32.ofNat pn)).toNatClampNeg) := inb_of S504 ⟨own_nonneg hpb, own_lt hpk (by decide)⟩
      obtain ⟨T504, h504, X504, e504, W504, st504⟩ := stC X488 hx hZ e488 Ar504 (j := (Int32.ofNat pn)) in504 (g := (mkF m 309 #[iv p0, iv p1, iv p2, iv p3, iv p4, iv k, iv ch, .val cv, .unset, iv (1 : Int32), rv b321, iv (Int32.ofNat pn), .unset, .unset] [(.int ch), (.int (Int32.ofNat pn)), (.ref b321)])) rfl rfl (hb hby at_309)
      rw [show nar .char ch = ch from r_ch] at W504
      have sf506 : Safe Z consts_1 vm106 h488 b321 := (Safe.wr W488 sf490 R481.1 sf490)
      have R505 : CHr Z consts_1 s.vm h0 vm106 h504 := R489.trans (CHr.wr W504 sf506 R489.1)
      have O507 := O491.wr W504 ge329
      have y508 : Arv Z h504 b321 k321 .char (Int32.ofNat own_xhtml.length) ((own_xhtml.map Value.int).set pn (.int ch)) (.int (0 : Int32)) := Arv.set Ar504 q504 S504 M504 H504 G504 (own_ft_char (z := ch) r_ch) W504 pn (own_clamp hpb) (by rw [List.length_map]; exact hpk)
      have N504 := Fr.snoc X504 N488 ge329
      have g509 : Go p e below T504 (mkF m 310 #[iv p0, iv p1, iv p2, iv p3, iv p4, iv k, iv ch, .val cv, .unset, iv (1 : Int32), rv b321, iv (Int32.ofNat pn), .unset, .unset] []) A0 := fun t kont => g503 t (st504 t kont)
      obtain ⟨xs, hxs⟩ : ∃ z, z = own_xhtml.set pn ch := ⟨_, rfl⟩
      have lxs : xs.length = own_xhtml.length := by rw [hxs, List.length_set]
      have y510 : Arv Z h504 b321 k321 .char (Int32.ofNat xs.length) (xs.map Value.int) (.int (0 : Int32)) := by
        have q := y508
        rw [show ((own_xhtml.map Value.int).set pn (.int ch)) = xs.map Value.int by rw [hxs, List.map_set], ← lxs] at q
        exact q
      have cxs : own_chars xs := by rw [hxs]; exact own_setc own_xhtml_c z_ch (own_w255 b_ch)
      have dxs : own_lat xs := by rw [hxs]; exact own_setl own_xhtml_l b_ch
      obtain ⟨T511, h511, X511, e511, E511, A511, D511, -, st511⟩ := newO X504 hx hZ hown (hw _ (List.mem_of_getElem? (i := 2) rfl)) (hw _ (List.mem_of_getElem? (i := 3) rfl)) (hw _ (List.mem_of_getElem? (i := 4) rfl)) e504 (g := (mkF m 310 #[iv p0, iv p1, iv p2, iv p3, iv p4, iv k, iv ch, .val cv, .unset, iv (1 : Int32), rv b321, iv (Int32.ofNat pn), .unset, .unset] [])) rfl (hb hby at_310) (by decide) (by decide)
      obtain ⟨b511, gb511⟩ : ∃ z, z = h504.size := ⟨_, rfl⟩
      rw [← gb511] at A511 D511 st511
      have R512 : CHr Z consts_1 s.vm h0 vm106 h511 := R505.trans (CHr.ext E511 R505.1)
      have O513 := O507.ext E511
      have y514 : Fld Z h511 b511 "java/lang/String" "coder" "B" (.int (0 : Int32)) := D511 (Or.inr (hw _ (List.mem_of_getElem? (i := 28) rfl))) (ty := .byte) (by decide)
      have y515 : Fld Z h511 b511 "java/lang/String" "value" "[B" .null := D511 (Or.inr (hw _ (List.mem_of_getElem? (i := 30) rfl))) (ty := (.array .byte)) (by decide)
      have g516 : Go p e below T511 (mkF m 313 #[iv p0, iv p1, iv p2, iv p3, iv p4, iv k, iv ch, .val cv, .unset, iv (1 : Int32), rv b321, iv (Int32.ofNat pn), .unset, .unset] [(.ref b511)]) A0 := fun t kont => g509 t (st511 t kont)
      have g517 : Go p e below T511 (mkF m 316 #[iv p0, iv p1, iv p2, iv p3, iv p4, iv k, iv ch, .val cv, .unset, iv (1 : Int32), rv b321, iv (Int32.ofNat pn), .unset, .unset] [(.ref b321), (.ref b511), (.ref b511)]) A0 := by
        intro t kont
        refine g516 t ?_
        refine XS.dup X511.here hx rfl (hb hby at_313) rfl rfl ?_
        refine XS.aload X511.here hx rfl (hb hby at_314) rfl rfl ?_
        exact kont
      have y519 : Arv Z h511 b321 k321 .char (Int32.ofNat xs.length) (xs.map Value.int) (.int (0 : Int32)) := (y510.ext E511)
      have ge520 : n0 ≤ b511 := Nat.le_trans (own_old_le O507) (Nat.le_of_eq gb511.symm)
      obtain ⟨_, _, ⟨T518, L518, k518, n518⟩, -, X518, ⟨Lc518, hQ518, l518, y518, z518⟩, st518⟩ := X511.specialBack hx (y := (⟨"java/lang/String", "<init>", "([C)V"⟩ : MethodName)) rfl hown (mvT hZ (hw _ (List.mem_of_getElem? (i := 5) rfl))) (mvT hZ (hw _ (List.mem_of_getElem? (i := 6) rfl))) (mvT hZ (hw _ (List.mem_of_getElem? (i := 7) rfl))) (by decide) (backOf (W := 1) (rm_sIniL l Z a0 hw [] b511 b321 k321 xs i_COMPACT_STRINGS h511 n0 O513 y515 y514 A511 ge520 y519 (by rw [lxs]; decide) (by rw [lxs]; decide) (dxs) S0_ hcs) hZ (hw _ (List.mem_of_getElem? (i := 7) rfl)) (hw _ (List.mem_of_getElem? (i := 4) rfl)) (by decide) (by decide)) (g := (mkF m 316 #[iv p0, iv p1, iv p2, iv p3, iv p4, iv k, iv ch, .val cv, .unset, iv (1 : Int32), rv b321, iv (Int32.ofNat pn), .unset, .unset] [(.ref b321), (.ref b511), (.ref b511)])) rfl (by rw [hml]; rfl) (Steps.refl _) (a := b511) (argsL := [(.ref b321)]) (rest := [(.ref b511)]) (lenOf pd_11 rfl) rfl (by show 2 * 0 + _ ≤ _; exact Nat.le_of_eq rfl) (hb hby at_316) (fun _ _ => ⟨rfl, e511, (by decide : 4 + 1 ≤ _), (by decide : 30 + 22 ≤ _)⟩)
      dsimp only [Pt.U, Pt.locs, Pt.cells, Pt.slots] at X518 l518 y518 z518 st518 hQ518
      subst y518 z518
      obtain ⟨r521, r522, rfl, M518, K518, y523, y524, y525, y526, y527⟩ := hQ518
      have N518 : Fr n0 L518 := by rw [l518]; exact Fr.app N504 M518
      have R528 : CHr Z consts_1 s.vm h0 vm106 T518.heap := R512.trans (CHr.keep K518 (sfS (Safe.ext E511 R505.1 (Safe.new (Nat.le_of_eq gb511.symm))) sf0) R512.1)
      have O529 := O513.keep K518 (allS ge520 all0)
      have g530 : Go p e below T518 (mkF m 319 #[iv p0, iv p1, iv p2, iv p3, iv p4, iv k, iv ch, .val cv, .unset, iv (1 : Int32), rv b321, iv (Int32.ofNat pn), .unset, .unset] [(.ref b511)]) A0 := fun t kont => g517 t (st518.trans kont)
      have g531 : Go p e below T518 (mkF m 805 #[iv p0, iv p1, iv p2, iv p3, iv p4, iv k, iv ch, .val cv, rv b511, iv (1 : Int32), rv b321, iv (Int32.ofNat pn), .unset, .unset] []) A0 := by
        intro t kont
        refine g530 t ?_
        refine XS.astore X518.here hx rfl (hb hby at_319) rfl rfl (l' := #[iv p0, iv p1, iv p2, iv p3, iv p4, iv k, iv ch, .val cv, rv b511, iv (1 : Int32), rv b321, iv (Int32.ofNat pn), .unset, .unset]) rfl ?_
        refine XS.goto X518.here hx rfl (pc0 := 321) (pc' := 805) rfl (hb hby at_321) (by decide) (by decide) ?_
        exact kont
      obtain ⟨T532, h532, X532, e532, E532, A532, D532, -, st532⟩ := newO X518 hx hZ hown (hw _ (List.mem_of_getElem? (i := 31) rfl)) (hw _ (List.mem_of_getElem? (i := 32) rfl)) (hw _ (List.mem_of_getElem? (i := 33) rfl)) rfl (g := (mkF m 805 #[iv p0, iv p1, iv p2, iv p3, iv p4, iv k, iv ch, .val cv, rv b511, iv (1 : Int32), rv b321, iv (Int32.ofNat pn), .unset, .unset] [])) rfl (hb hby at_805) (by decide) (by decide)
      obtain ⟨b532, gb532⟩ : ∃ z, z = T518.heap.size := ⟨_, rfl⟩
      rw [← gb532] at A532 D532 st532
      have R533 : CHr Z consts_1 s.vm h0 vm106 h532 := R528.trans (CHr.ext E532 R528.1)
      have O534 := O529.ext E532
      have y535 : Fld Z h532 b532 "com/example/fetch_from_near/fetchfromnear/ContentType" "mediaType" "Ljava/lang/String;" .null := D532 (Or.inr (hw _ (List.mem_of_getElem? (i := 44) rfl))) (ty := (.object "java/lang/String")) (by decide)
      have y536 : Fld Z h532 b532 "com/example/fetch_from_near/fetchfromnear/ContentType" "charset" "Ljava/lang/String;" .null := D532 (Or.inr (hw _ (List.mem_of_getElem? (i := 46) rfl))) (ty := (.object "java/lang/String")) (by decide)
      have g537 : Go p e below T532 (mkF m 808 #[iv p0, iv p1, iv p2, iv p3, iv p4, iv k, iv ch, .val cv, rv b511, iv (1 : Int32), rv b321, iv (Int32.ofNat pn), .unset, .unset] [(.ref b532)]) A0 := fun t kont => g531 t (st532 t kont)
      have g538 : Go p e below T532 (mkF m 813 #[iv p0, iv p1, iv p2, iv p3, iv p4, iv k, iv ch, .val cv, rv b511, iv (1 : Int32), rv b321, iv (Int32.ofNat pn), .unset, .unset] [cv, (.ref b511), (.ref b532), (.ref b532)]) A0 := by
        intro t kont
        refine g537 t ?_
        refine XS.dup X532.here hx rfl (hb hby at_808) rfl rfl ?_
        refine XS.aload X532.here hx rfl (hb hby at_809) rfl rfl ?_
        refine XS.aload X532.here hx rfl (hb hby at_811) rfl (h_cv) ?_
        exact kont
      have ge540 : n0 ≤ b532 := Nat.le_trans (own_old_le O529) (Nat.le_of_eq gb532.symm)
      obtain ⟨_, _, ⟨T539, L539, k539, n539⟩, -, X539, ⟨Lc539, hQ539, l539, y539, z539⟩, st539⟩ := X532.specialBack hx (y := (⟨"com/example/fetch_from_near/fetchfromnear/ContentType", "<init>", "(Ljava/lang/String;Ljava/lang/String;)V"⟩ : MethodName)) rfl hown (mvT hZ (hw _ (List.mem_of_getElem? (i := 34) rfl))) (mvT hZ (hw _ (List.mem_of_getElem? (i := 35) rfl))) (mvT hZ (hw _ (List.mem_of_getElem? (i := 36) rfl))) (by decide) (backOf (W := 1) (rm_ctR l Z a0 hw [] b532 b511 cv h532 n0 O534 A532 y535 y536 ge540 h_cv) hZ (hw _ (List.mem_of_getElem? (i := 36) rfl)) (hw _ (List.mem_of_getElem? (i := 33) rfl)) (by decide) (by decide)) (g := (mkF m 813 #[iv p0, iv p1, iv p2, iv p3, iv p4, iv k, iv ch, .val cv, rv b511, iv (1 : Int32), rv b321, iv (Int32.ofNat pn), .unset, .unset] [cv, (.ref b511), (.ref b532), (.ref b532)])) rfl (by rw [hml]; rfl) (Steps.refl _) (a := b532) (argsL := [(.ref b511), cv]) (rest := [(.ref b532)]) (lenOf pd_12 rfl) rfl (by show 2 * 0 + _ ≤ _; exact Nat.le_of_eq rfl) (hb hby at_813) (fun _ _ => ⟨rfl, e532, (by decide : 6 + 0 ≤ _), (by decide : 54 + 0 ≤ _)⟩)
      dsimp only [Pt.U, Pt.locs, Pt.cells, Pt.slots] at X539 l539 y539 z539 st539 hQ539
      subst y539 z539
      obtain ⟨rfl, M539, K539, y541, y542⟩ := hQ539
      have N539 : Fr n0 L539 := by rw [l539]; exact Fr.app N518 M539
      have R543 : CHr Z consts_1 s.vm h0 vm106 T539.heap := R533.trans (CHr.keep K539 (sfS (Safe.ext E532 R528.1 (Safe.new (Nat.le_of_eq gb532.symm))) sf0) R533.1)
      have O544 := O534.keep K539 (allS ge540 all0)
      have g545 : Go p e below T539 (mkF m 816 #[iv p0, iv p1, iv p2, iv p3, iv p4, iv k, iv ch, .val cv, rv b511, iv (1 : Int32), rv b321, iv (Int32.ofNat pn), .unset, .unset] [(.ref b532)]) A0 := fun t kont => g538 t (st539.trans kont)
      have y547 : Exa Z T539.heap b511 "java/lang/String" := ((y523.ext E532).keep K539)
      have y548 : Fld Z T539.heap b511 "java/lang/String" "coder" "B" (.int (0 : Int32)) := ((y524.ext E532).keep K539 (ninS (Nat.ne_of_lt (Nat.lt_of_lt_of_le (Nat.lt_of_lt_of_le A511.lt K518.1) (Nat.le_of_eq gb532.symm))) nin0))
      have y549 : Fld Z T539.heap b511 "java/lang/String" "value" "[B" (.ref r521) := ((y525.ext E532).keep K539 (ninS (Nat.ne_of_lt (Nat.lt_of_lt_of_le (Nat.lt_of_lt_of_le A511.lt K518.1) (Nat.le_of_eq gb532.symm))) nin0))
      have y550 : Arv Z T539.heap r521 r522 .byte (Int32.ofNat xs.length) (own_lb xs) (.int (0 : Int32)) := ((y527.ext E532).keep K539 (ninS (Nat.ne_of_lt (Nat.lt_of_lt_of_le y527.lt (Nat.le_of_eq gb532.symm))) nin0))
      obtain ⟨cq546, kq546, q546a, q546b, q546c⟩ := isOf hZ rfl y541
      obtain ⟨_, _, ⟨T546, L546, k546, n546⟩, -, X546, hS546, hg546, ⟨Lc546, hQ546, l546, y546, z546, C546⟩, st546⟩ := X539.virtualBackS hx (y := (⟨"com/example/fetch_from_near/fetchfromnear/ContentType", "isHtml", "()Z"⟩ : MethodName)) (z := (⟨"com/example/fetch_from_near/fetchfromnear/ContentType", "isHtml", "()Z"⟩ : MethodName)) hown (mvT hZ (hw _ (List.mem_of_getElem? (i := 47) rfl))) (mvT hZ (hw _ (List.mem_of_getElem? (i := 48) rfl))) (notFace_of_selects (args := #[]) (mvT hZ (hw _ (List.mem_of_getElem? (i := 50) rfl)))) (mvT hZ (hw _ (List.mem_of_getElem? (i := 50) rfl))) (mvT hZ (hw _ (List.mem_of_getElem? (i := 49) rfl))) (by decide) (backOfSH (W := 0) (rm_isHG l Z a0 hw [] b532 b511 r521 r522 xs i_COMPACT_STRINGS T539.heap n0 O544 S0_ hcs y542 y541 y547 y548 y549 y550 (by rw [lxs]; decide) (cxs) (dxs)) hZ (hw _ (List.mem_of_getElem? (i := 51) rfl)) (hw _ (List.mem_of_getElem? (i := 33) rfl)) (by decide) (by decide) (own_EW hw) R543.1) q546a q546c (g := (mkF m 816 #[iv p0, iv p1, iv p2, iv p3, iv p4, iv k, iv ch, .val cv, rv b511, iv (1 : Int32), rv b321, iv (Int32.ofNat pn), .unset, .unset] [(.ref b532)])) rfl (by rw [hml]; rfl) (Steps.refl _) (argsL := []) (rest := []) (lenOf pd_13 rfl) rfl (by show 2 * 0 + _ ≤ _; exact Nat.le_of_eq rfl) (hb hby at_816) (fun _ _ => ⟨rfl, rfl, (by decide : 6 + 4 ≤ _), (by decide : 54 + 128 ≤ _)⟩)
      dsimp only [Pt.U, Pt.locs, Pt.cells, Pt.slots] at X546 l546 y546 z546 st546 hQ546 hS546 hg546 C546
      subst y546 z546
      obtain ⟨X546, hS, hZ, hown⟩ := rebS hS (n1 := T539.heap.size) (Nat.le_trans hk (Nat.le_trans (Nat.le_trans (Nat.le_trans (Nat.le_trans (Nat.le_trans (Nat.le_trans (Nat.le_trans (Nat.le_trans (Nat.le_trans (Nat.le_trans (Nat.le_trans (Nat.le_trans (Nat.le_trans (Nat.le_trans (Nat.le_trans (Nat.le_trans (Nat.le_trans (Nat.le_trans (Nat.le_trans (Nat.le_trans (Nat.le_trans (Nat.le_trans (Nat.le_trans (Nat.le_trans (Nat.le_trans (Nat.le_trans E321.1 (Keep.of_wr W328).1) (Keep.of_wr W336).1) (Keep.of_wr W344).1) (Keep.of_wr W352).1) (Keep.of_wr W360).1) (Keep.of_wr W368).1) (Keep.of_wr W376).1) (Keep.of_wr W384).1) (Keep.of_wr W392).1) (Keep.of_wr W400).1) (Keep.of_wr W408).1) (Keep.of_wr W416).1) (Keep.of_wr W424).1) (Keep.of_wr W432).1) (Keep.of_wr W440).1) (Keep.of_wr W448).1) (Keep.of_wr W456).1) (Keep.of_wr W464).1) (Keep.of_wr W472).1) (Keep.of_wr W480).1) (Keep.of_wr W488).1) (Keep.of_wr W504).1) E511.1) K518.1) E532.1) K539.1)) X546 hS546 hg546 hZ hown
      obtain ⟨r551, rfl, M546, K546, y552, y553⟩ := hQ546
      have N546 : Fr n0 L546 := by rw [l546]; exact Fr.app N539 M546
      have R554 : CHr Z consts_1 s.vm h0 T546.vm T546.heap := R543.trans C546
      have O555 := O544.keep K546 all0
      have g556 : Go p e below T546 (mkF m 819 #[iv p0, iv p1, iv p2, iv p3, iv p4, iv k, iv ch, .val cv, rv b511, iv (1 : Int32), rv b321, iv (Int32.ofNat pn), .unset, .unset] [(.int r551)]) A0 := fun t kont => g545 t (st546.trans kont)
      rcases (y552 : r551 = (0 : Int32) ∨ r551 = (1 : Int32)) with c557 | c557
      ·
        subst c557
        exact ((absurd (y553.mpr (own_hit1 hxs c501 hpl)) (by decide) : False)).elim
      subst c557
      have g558 : Go p e below T546 (mkF m 829 #[iv p0, iv p1, iv p2, iv p3, iv p4, iv k, iv ch, .val cv, rv b511, iv (1 : Int32), rv b321, iv (Int32.ofNat pn), .unset, .unset] [(.int (1 : Int32))]) A0 := by
        intro t kont
        refine g556 t ?_
        refine XS.iload X546.here hx rfl (hb hby at_819) rfl ?_
        refine XS.icmpNo X546.here hx rfl (hb hby at_821) rfl (teq (by decide : (1 : Int32) = (1 : Int32))).2 ?_
        refine XS.iconst X546.here hx rfl (hb hby at_824) ?_
        refine XS.goto X546.here hx rfl (pc0 := 825) (pc' := 829) rfl (hb hby at_825) (by decide) (by decide) ?_
        exact kont
      obtain ⟨fs, hr, hrun, hended, hRW⟩ := X546.leaveW hS (Nat.le_refl _) (v := some (.int (1 : Int32))) (fun h => by rw [Bd.returns] at h; cases h)
      refine ⟨_, _, g558 _ (retN X546 hx (t := .boolean) Bd.returns (by simp) (hb hby at_829) hr), hrun, hended, _, _, rfl, ?_, ?_, hRW.1, hRW.2.1, hRW.2.2.1, hRW.2.2.2.mono (by decide) (by decide)⟩
      ·
        show Q_law Z p0 p1 p2 p3 p4 i_COMPACT_STRINGS h0 n0 _ T546.heap _
        exact ⟨rfl, N546⟩
      ·
        rw [hh]
        show CHr Z consts_1 s.vm h0 T546.vm T546.heap
        exact R554.trans (CHv.at X546 hZ (own_EW hw) R554.1)
    have g559 : Go p e below T488 (mkF m 309 #[iv p0, iv p1, iv p2, iv p3, iv p4, iv k, iv ch, .val cv, .unset, iv (0 : Int32), rv b321, iv (Int32.ofNat pn), .unset, .unset] [(.int ch), (.int (Int32.ofNat pn)), (.ref b321)]) A0 := by
      intro t kont
      refine g502 t ?_
      refine XS.icmpYes X488.here hx rfl (pc0 := 293) (pc' := 300) rfl (hb hby at_293) rfl (feq c501).2 (by decide) (by decide) ?_
      refine XS.iconst X488.here hx rfl (hb hby at_300) ?_
      refine XS.istore X488.here hx rfl (hb hby at_301) rfl (l' := #[iv p0, iv p1, iv p2, iv p3, iv p4, iv k, iv ch, .val cv, .unset, iv (0 : Int32), rv b321, iv (Int32.ofNat pn), .unset, .unset]) rfl ?_
      refine XS.aload X488.here hx rfl (hb hby at_303) rfl rfl ?_
      refine XS.iload X488.here hx rfl (hb hby at_305) rfl ?_
      refine XS.iload X488.here hx rfl (hb hby at_307) rfl ?_
      exact kont
    have zz560 := y495
    obtain ⟨cl560, Ar560, q560, S560, M560, H560, G560⟩ := zz560
    have in560 : ¬ ((Int32.ofNat pn) < 0 ∨ cl560.slots.size ≤ ((Int32.ofNat pn)).toNatClampNeg) := inb_of S560 ⟨own_nonneg hpb, own_lt hpk (by decide)⟩
    obtain ⟨T560, h560, X560, e560, W560, st560⟩ := stC X488 hx hZ e488 Ar560 (j := (Int32.ofNat pn)) in560 (g := (mkF m 309 #[iv p0, iv p1, iv p2, iv p3, iv p4, iv k, iv ch, .val cv, .unset, iv (0 : Int32), rv b321, iv (Int32.ofNat pn), .unset, .unset] [(.int ch), (.int (Int32.ofNat pn)), (.ref b321)])) rfl rfl (hb hby at_309)
    rw [show nar .char ch = ch from r_ch] at W560
    have sf562 : Safe Z consts_1 vm106 h488 b321 := (Safe.wr W488 sf490 R481.1 sf490)
    have R561 : CHr Z consts_1 s.vm h0 vm106 h560 := R489.trans (CHr.wr W560 sf562 R489.1)
    have O563 := O491.wr W560 ge329
    have y564 : Arv Z h560 b321 k321 .char (Int32.ofNat own_xhtml.length) ((own_xhtml.map Value.int).set pn (.int ch)) (.int (0 : Int32)) := Arv.set Ar560 q560 S560 M560 H560 G560 (own_ft_char (z := ch) r_ch) W560 pn (own_clamp hpb) (by rw [List.length_map]; exact hpk)
    have N560 := Fr.snoc X560 N488 ge329
    have g565 : Go p e below T560 (mkF m 310 #[iv p0, iv p1, iv p2, iv p3, iv p4, iv k, iv ch, .val cv, .unset, iv (0 : Int32), rv b321, iv (Int32.ofNat pn), .unset, .unset] []) A0 := fun t kont => g559 t (st560 t kont)
    obtain ⟨xs, hxs⟩ : ∃ z, z = own_xhtml.set pn ch := ⟨_, rfl⟩
    have lxs : xs.length = own_xhtml.length := by rw [hxs, List.length_set]
    have y566 : Arv Z h560 b321 k321 .char (Int32.ofNat xs.length) (xs.map Value.int) (.int (0 : Int32)) := by
      have q := y564
      rw [show ((own_xhtml.map Value.int).set pn (.int ch)) = xs.map Value.int by rw [hxs, List.map_set], ← lxs] at q
      exact q
    have cxs : own_chars xs := by rw [hxs]; exact own_setc own_xhtml_c z_ch (own_w255 b_ch)
    have dxs : own_lat xs := by rw [hxs]; exact own_setl own_xhtml_l b_ch
    obtain ⟨T567, h567, X567, e567, E567, A567, D567, -, st567⟩ := newO X560 hx hZ hown (hw _ (List.mem_of_getElem? (i := 2) rfl)) (hw _ (List.mem_of_getElem? (i := 3) rfl)) (hw _ (List.mem_of_getElem? (i := 4) rfl)) e560 (g := (mkF m 310 #[iv p0, iv p1, iv p2, iv p3, iv p4, iv k, iv ch, .val cv, .unset, iv (0 : Int32), rv b321, iv (Int32.ofNat pn), .unset, .unset] [])) rfl (hb hby at_310) (by decide) (by decide)
    obtain ⟨b567, gb567⟩ : ∃ z, z = h560.size := ⟨_, rfl⟩
    rw [← gb567] at A567 D567 st567
    have R568 : CHr Z consts_1 s.vm h0 vm106 h567 := R561.trans (CHr.ext E567 R561.1)
    have O569 := O563.ext E567
    have y570 : Fld Z h567 b567 "java/lang/String" "coder" "B" (.int (0 : Int32)) := D567 (Or.inr (hw _ (List.mem_of_getElem? (i := 28) rfl))) (ty := .byte) (by decide)
    have y571 : Fld Z h567 b567 "java/lang/String" "value" "[B" .null := D567 (Or.inr (hw _ (List.mem_of_getElem? (i := 30) rfl))) (ty := (.array .byte)) (by decide)
    have g572 : Go p e below T567 (mkF m 313 #[iv p0, iv p1, iv p2, iv p3, iv p4, iv k, iv ch, .val cv, .unset, iv (0 : Int32), rv b321, iv (Int32.ofNat pn), .unset, .unset] [(.ref b567)]) A0 := fun t kont => g565 t (st567 t kont)
    have g573 : Go p e below T567 (mkF m 316 #[iv p0, iv p1, iv p2, iv p3, iv p4, iv k, iv ch, .val cv, .unset, iv (0 : Int32), rv b321, iv (Int32.ofNat pn), .unset, .unset] [(.ref b321), (.ref b567), (.ref b567)]) A0 := by
      intro t kont
      refine g572 t ?_
      refine XS.dup X567.here hx rfl (hb hby at_313) rfl rfl ?_
      refine XS.aload X567.here hx rfl (hb hby at_314) rfl rfl ?_
      exact kont
    have y575 : Arv Z h567 b321 k321 .char (Int32.ofNat xs.length) (xs.map Value.int) (.int (0 : Int32)) := (y566.ext E567)
    have ge576 : n0 ≤ b567 := Nat.le_trans (own_old_le O563) (Nat.le_of_eq gb567.symm)
    obtain ⟨_, _, ⟨T574, L574, k574, n574⟩, -, X574, ⟨Lc574, hQ574, l574, y574, z574⟩, st574⟩ := X567.specialBack hx (y := (⟨"java/lang/String", "<init>", "([C)V"⟩ : MethodName)) rfl hown (mvT hZ (hw _ (List.mem_of_getElem? (i := 5) rfl))) (mvT hZ (hw _ (List.mem_of_getElem? (i := 6) rfl))) (mvT hZ (hw _ (List.mem_of_getElem? (i := 7) rfl))) (by decide) (backOf (W := 1) (rm_sIniL l Z a0 hw [] b567 b321 k321 xs i_COMPACT_STRINGS h567 n0 O569 y571 y570 A567 ge576 y575 (by rw [lxs]; decide) (by rw [lxs]; decide) (dxs) S0_ hcs) hZ (hw _ (List.mem_of_getElem? (i := 7) rfl)) (hw _ (List.mem_of_getElem? (i := 4) rfl)) (by decide) (by decide)) (g := (mkF m 316 #[iv p0, iv p1, iv p2, iv p3, iv p4, iv k, iv ch, .val cv, .unset, iv (0 : Int32), rv b321, iv (Int32.ofNat pn), .unset, .unset] [(.ref b321), (.ref b567), (.ref b567)])) rfl (by rw [hml]; rfl) (Steps.refl _) (a := b567) (argsL := [(.ref b321)]) (rest := [(.ref b567)]) (lenOf pd_11 rfl) rfl (by show 2 * 0 + _ ≤ _; exact Nat.le_of_eq rfl) (hb hby at_316) (fun _ _ => ⟨rfl, e567, (by decide : 4 + 1 ≤ _), (by decide : 30 + 22 ≤ _)⟩)
    dsimp only [Pt.U, Pt.locs, Pt.cells, Pt.slots] at X574 l574 y574 z574 st574 hQ574
    subst y574 z574
    obtain ⟨r577, r578, rfl, M574, K574, y579, y580, y581, y582, y583⟩ := hQ574
    have N574 : Fr n0 L574 := by rw [l574]; exact Fr.app N560 M574
    have R584 : CHr Z consts_1 s.vm h0 vm106 T574.heap := R568.trans (CHr.keep K574 (sfS (Safe.ext E567 R561.1 (Safe.new (Nat.le_of_eq gb567.symm))) sf0) R568.1)
    have O585 := O569.keep K574 (allS ge576 all0)
    have g586 : Go p e below T574 (mkF m 319 #[iv p0, iv p1, iv p2, iv p3, iv p4, iv k, iv ch, .val cv, .unset, iv (0 : Int32), rv b321, iv (Int32.ofNat pn), .unset, .unset] [(.ref b567)]) A0 := fun t kont => g573 t (st574.trans kont)
    have g587 : Go p e below T574 (mkF m 805 #[iv p0, iv p1, iv p2, iv p3, iv p4, iv k, iv ch, .val cv, rv b567, iv (0 : Int32), rv b321, iv (Int32.ofNat pn), .unset, .unset] []) A0 := by
      intro t kont
      refine g586 t ?_
      refine XS.astore X574.here hx rfl (hb hby at_319) rfl rfl (l' := #[iv p0, iv p1, iv p2, iv p3, iv p4, iv k, iv ch, .val cv, rv b567, iv (0 : Int32), rv b321, iv (Int32.ofNat pn), .unset, .unset]) rfl ?_
      refine XS.goto X574.here hx rfl (pc0 := 321) (pc' := 805) rfl (hb hby at_321) (by decide) (by decide) ?_
      exact kont
    obtain ⟨T588, h588, X588, e588, E588, A588, D588, -, st588⟩ := newO X574 hx hZ hown (hw _ (List.mem_of_getElem? (i := 31) rfl)) (hw _ (List.mem_of_getElem? (i := 32) rfl)) (hw _ (List.mem_of_getElem? (i := 33) rfl)) rfl (g := (mkF m 805 #[iv p0, iv p1, iv p2, iv p3, iv p4, iv k, iv ch, .val cv, rv b567, iv (0 : Int32), rv b321, iv (Int32.ofNat pn), .unset, .unset] [])) rfl (hb hby at_805) (by decide) (by decide)
    obtain ⟨b588, gb588⟩ : ∃ z, z = T574.heap.size := ⟨_, rfl⟩
    rw [← gb588] at A588 D588 st588
    have R589 : CHr Z consts_1 s.vm h0 vm106 h588 := R584.trans (CHr.ext E588 R584.1)
    have O590 := O585.ext E588
    have y591 : Fld Z h588 b588 "com/example/fetch_from_near/fetchfromnear/ContentType" "mediaType" "Ljava/lang/String;" .null := D588 (Or.inr (hw _ (List.mem_of_getElem? (i := 44) rfl))) (ty := (.object "java/lang/String")) (by decide)
    have y592 : Fld Z h588 b588 "com/example/fetch_from_near/fetchfromnear/ContentType" "charset" "Ljava/lang/String;" .null := D588 (Or.inr (hw _ (List.mem_of_getElem? (i := 46) rfl))) (ty := (.object "java/lang/String")) (by decide)
    have g593 : Go p e below T588 (mkF m 808 #[iv p0, iv p1, iv p2, iv p3, iv p4, iv k, iv ch, .val cv, rv b567, iv (0 : Int32), rv b321, iv (Int32.ofNat pn), .unset, .unset] [(.ref b588)]) A0 := fun t kont => g587 t (st588 t kont)
    have g594 : Go p e below T588 (mkF m 813 #[iv p0, iv p1, iv p2, iv p3, iv p4, iv k, iv ch, .val cv, rv b567, iv (0 : Int32), rv b321, iv (Int32.ofNat pn), .unset, .unset] [cv, (.ref b567), (.ref b588), (.ref b588)]) A0 := by
      intro t kont
      refine g593 t ?_
      refine XS.dup X588.here hx rfl (hb hby at_808) rfl rfl ?_
      refine XS.aload X588.here hx rfl (hb hby at_809) rfl rfl ?_
      refine XS.aload X588.here hx rfl (hb hby at_811) rfl (h_cv) ?_
      exact kont
    have ge596 : n0 ≤ b588 := Nat.le_trans (own_old_le O585) (Nat.le_of_eq gb588.symm)
    obtain ⟨_, _, ⟨T595, L595, k595, n595⟩, -, X595, ⟨Lc595, hQ595, l595, y595, z595⟩, st595⟩ := X588.specialBack hx (y := (⟨"com/example/fetch_from_near/fetchfromnear/ContentType", "<init>", "(Ljava/lang/String;Ljava/lang/String;)V"⟩ : MethodName)) rfl hown (mvT hZ (hw _ (List.mem_of_getElem? (i := 34) rfl))) (mvT hZ (hw _ (List.mem_of_getElem? (i := 35) rfl))) (mvT hZ (hw _ (List.mem_of_getElem? (i := 36) rfl))) (by decide) (backOf (W := 1) (rm_ctR l Z a0 hw [] b588 b567 cv h588 n0 O590 A588 y591 y592 ge596 h_cv) hZ (hw _ (List.mem_of_getElem? (i := 36) rfl)) (hw _ (List.mem_of_getElem? (i := 33) rfl)) (by decide) (by decide)) (g := (mkF m 813 #[iv p0, iv p1, iv p2, iv p3, iv p4, iv k, iv ch, .val cv, rv b567, iv (0 : Int32), rv b321, iv (Int32.ofNat pn), .unset, .unset] [cv, (.ref b567), (.ref b588), (.ref b588)])) rfl (by rw [hml]; rfl) (Steps.refl _) (a := b588) (argsL := [(.ref b567), cv]) (rest := [(.ref b588)]) (lenOf pd_12 rfl) rfl (by show 2 * 0 + _ ≤ _; exact Nat.le_of_eq rfl) (hb hby at_813) (fun _ _ => ⟨rfl, e588, (by decide : 6 + 0 ≤ _), (by decide : 54 + 0 ≤ _)⟩)
    dsimp only [Pt.U, Pt.locs, Pt.cells, Pt.slots] at X595 l595 y595 z595 st595 hQ595
    subst y595 z595
    obtain ⟨rfl, M595, K595, y597, y598⟩ := hQ595
    have N595 : Fr n0 L595 := by rw [l595]; exact Fr.app N574 M595
    have R599 : CHr Z consts_1 s.vm h0 vm106 T595.heap := R589.trans (CHr.keep K595 (sfS (Safe.ext E588 R584.1 (Safe.new (Nat.le_of_eq gb588.symm))) sf0) R589.1)
    have O600 := O590.keep K595 (allS ge596 all0)
    have g601 : Go p e below T595 (mkF m 816 #[iv p0, iv p1, iv p2, iv p3, iv p4, iv k, iv ch, .val cv, rv b567, iv (0 : Int32), rv b321, iv (Int32.ofNat pn), .unset, .unset] [(.ref b588)]) A0 := fun t kont => g594 t (st595.trans kont)
    have y603 : Exa Z T595.heap b567 "java/lang/String" := ((y579.ext E588).keep K595)
    have y604 : Fld Z T595.heap b567 "java/lang/String" "coder" "B" (.int (0 : Int32)) := ((y580.ext E588).keep K595 (ninS (Nat.ne_of_lt (Nat.lt_of_lt_of_le (Nat.lt_of_lt_of_le A567.lt K574.1) (Nat.le_of_eq gb588.symm))) nin0))
    have y605 : Fld Z T595.heap b567 "java/lang/String" "value" "[B" (.ref r577) := ((y581.ext E588).keep K595 (ninS (Nat.ne_of_lt (Nat.lt_of_lt_of_le (Nat.lt_of_lt_of_le A567.lt K574.1) (Nat.le_of_eq gb588.symm))) nin0))
    have y606 : Arv Z T595.heap r577 r578 .byte (Int32.ofNat xs.length) (own_lb xs) (.int (0 : Int32)) := ((y583.ext E588).keep K595 (ninS (Nat.ne_of_lt (Nat.lt_of_lt_of_le y583.lt (Nat.le_of_eq gb588.symm))) nin0))
    obtain ⟨cq602, kq602, q602a, q602b, q602c⟩ := isOf hZ rfl y597
    obtain ⟨_, _, ⟨T602, L602, k602, n602⟩, -, X602, hS602, hg602, ⟨Lc602, hQ602, l602, y602, z602, C602⟩, st602⟩ := X595.virtualBackS hx (y := (⟨"com/example/fetch_from_near/fetchfromnear/ContentType", "isHtml", "()Z"⟩ : MethodName)) (z := (⟨"com/example/fetch_from_near/fetchfromnear/ContentType", "isHtml", "()Z"⟩ : MethodName)) hown (mvT hZ (hw _ (List.mem_of_getElem? (i := 47) rfl))) (mvT hZ (hw _ (List.mem_of_getElem? (i := 48) rfl))) (notFace_of_selects (args := #[]) (mvT hZ (hw _ (List.mem_of_getElem? (i := 50) rfl)))) (mvT hZ (hw _ (List.mem_of_getElem? (i := 50) rfl))) (mvT hZ (hw _ (List.mem_of_getElem? (i := 49) rfl))) (by decide) (backOfSH (W := 0) (rm_isHG l Z a0 hw [] b588 b567 r577 r578 xs i_COMPACT_STRINGS T595.heap n0 O600 S0_ hcs y598 y597 y603 y604 y605 y606 (by rw [lxs]; decide) (cxs) (dxs)) hZ (hw _ (List.mem_of_getElem? (i := 51) rfl)) (hw _ (List.mem_of_getElem? (i := 33) rfl)) (by decide) (by decide) (own_EW hw) R599.1) q602a q602c (g := (mkF m 816 #[iv p0, iv p1, iv p2, iv p3, iv p4, iv k, iv ch, .val cv, rv b567, iv (0 : Int32), rv b321, iv (Int32.ofNat pn), .unset, .unset] [(.ref b588)])) rfl (by rw [hml]; rfl) (Steps.refl _) (argsL := []) (rest := []) (lenOf pd_13 rfl) rfl (by show 2 * 0 + _ ≤ _; exact Nat.le_of_eq rfl) (hb hby at_816) (fun _ _ => ⟨rfl, rfl, (by decide : 6 + 4 ≤ _), (by decide : 54 + 128 ≤ _)⟩)
    dsimp only [Pt.U, Pt.locs, Pt.cells, Pt.slots] at X602 l602 y602 z602 st602 hQ602 hS602 hg602 C602
    subst y602 z602
    obtain ⟨X602, hS, hZ, hown⟩ := rebS hS (n1 := T595.heap.size) (Nat.le_trans hk (Nat.le_trans (Nat.le_trans (Nat.le_trans (Nat.le_trans (Nat.le_trans (Nat.le_trans (Nat.le_trans (Nat.le_trans (Nat.le_trans (Nat.le_trans (Nat.le_trans (Nat.le_trans (Nat.le_trans (Nat.le_trans (Nat.le_trans (Nat.le_trans (Nat.le_trans (Nat.le_trans (Nat.le_trans (Nat.le_trans (Nat.le_trans (Nat.le_trans (Nat.le_trans (Nat.le_trans (Nat.le_trans (Nat.le_trans E321.1 (Keep.of_wr W328).1) (Keep.of_wr W336).1) (Keep.of_wr W344).1) (Keep.of_wr W352).1) (Keep.of_wr W360).1) (Keep.of_wr W368).1) (Keep.of_wr W376).1) (Keep.of_wr W384).1) (Keep.of_wr W392).1) (Keep.of_wr W400).1) (Keep.of_wr W408).1) (Keep.of_wr W416).1) (Keep.of_wr W424).1) (Keep.of_wr W432).1) (Keep.of_wr W440).1) (Keep.of_wr W448).1) (Keep.of_wr W456).1) (Keep.of_wr W464).1) (Keep.of_wr W472).1) (Keep.of_wr W480).1) (Keep.of_wr W488).1) (Keep.of_wr W560).1) E567.1) K574.1) E588.1) K595.1)) X602 hS602 hg602 hZ hown
    obtain ⟨r607, rfl, M602, K602, y608, y609⟩ := hQ602
    have N602 : Fr n0 L602 := by rw [l602]; exact Fr.app N595 M602
    have R610 : CHr Z consts_1 s.vm h0 T602.vm T602.heap := R599.trans C602
    have O611 := O600.keep K602 all0
    have g612 : Go p e below T602 (mkF m 819 #[iv p0, iv p1, iv p2, iv p3, iv p4, iv k, iv ch, .val cv, rv b567, iv (0 : Int32), rv b321, iv (Int32.ofNat pn), .unset, .unset] [(.int r607)]) A0 := fun t kont => g601 t (st602.trans kont)
    rcases (y608 : r607 = (0 : Int32) ∨ r607 = (1 : Int32)) with c613 | c613
    ·
      subst c613
      have g614 : Go p e below T602 (mkF m 829 #[iv p0, iv p1, iv p2, iv p3, iv p4, iv k, iv ch, .val cv, rv b567, iv (0 : Int32), rv b321, iv (Int32.ofNat pn), .unset, .unset] [(.int (1 : Int32))]) A0 := by
        intro t kont
        refine g612 t ?_
        refine XS.iload X602.here hx rfl (hb hby at_819) rfl ?_
        refine XS.icmpNo X602.here hx rfl (hb hby at_821) rfl (teq (by decide : (0 : Int32) = (0 : Int32))).2 ?_
        refine XS.iconst X602.here hx rfl (hb hby at_824) ?_
        refine XS.goto X602.here hx rfl (pc0 := 825) (pc' := 829) rfl (hb hby at_825) (by decide) (by decide) ?_
        exact kont
      obtain ⟨fs, hr, hrun, hended, hRW⟩ := X602.leaveW hS (Nat.le_refl _) (v := some (.int (1 : Int32))) (fun h => by rw [Bd.returns] at h; cases h)
      refine ⟨_, _, g614 _ (retN X602 hx (t := .boolean) Bd.returns (by simp) (hb hby at_829) hr), hrun, hended, _, _, rfl, ?_, ?_, hRW.1, hRW.2.1, hRW.2.2.1, hRW.2.2.2.mono (by decide) (by decide)⟩
      ·
        show Q_law Z p0 p1 p2 p3 p4 i_COMPACT_STRINGS h0 n0 _ T602.heap _
        exact ⟨rfl, N602⟩
      ·
        rw [hh]
        show CHr Z consts_1 s.vm h0 T602.vm T602.heap
        exact R610.trans (CHv.at X602 hZ (own_EW hw) R610.1)
    subst c613
    exact ((own_mis1 hxs c501 hpl) (y609.mp rfl)).elim
  have g616 : Go p e below T106 (mkF m 327 #[iv p0, iv p1, iv p2, iv p3, iv p4, iv k, iv ch, .val cv, .unset, .unset, .unset, .unset, .unset, .unset] [(.int (2 : Int32)), (.int k)]) A0 := by
    intro t kont
    refine g319 t ?_
    refine XS.icmpYes X106.here hx rfl (pc0 := 148) (pc' := 324) rfl (hb hby at_148) rfl (feq c318).2 (by decide) (by decide) ?_
    refine XS.iload X106.here hx rfl (hb hby at_324) rfl ?_
    refine XS.iconst X106.here hx rfl (hb hby at_326) ?_
    exact kont
  by_cases c615 : k = (2 : Int32)
  ·
    have g618 : Go p e below T106 (mkF m 333 #[iv p0, iv p1, iv p2, iv p3, iv p4, iv k, iv ch, .val cv, .unset, .unset, .unset, .unset, .unset, .unset] [(.int (p3 &&& (1 : Int32)))]) A0 := by
      intro t kont
      refine g616 t ?_
      refine XS.icmpNo X106.here hx rfl (hb hby at_327) rfl (teq c615).2 ?_
      refine XS.iloadN X106.here hx rfl (hb hby at_330) rfl ?_
      refine XS.iconst X106.here hx rfl (hb hby at_331) ?_
      refine XS.iand X106.here hx rfl (hb hby at_332) rfl ?_
      exact kont
    by_cases c617 : (p3 &&& (1 : Int32)) = (0 : Int32)
    ·
      have g619 : Go p e below T106 (mkF m 336 #[iv p0, iv p1, iv p2, iv p3, iv p4, iv k, iv ch, .val cv, .unset, .unset, .unset, .unset, .unset, .unset] []) A0 := by
        intro t kont
        refine g618 t ?_
        refine XS.ifNo X106.here hx rfl (hb hby at_333) rfl ((if0 _ _).trans (teq c617).2) ?_
        exact kont
      obtain ⟨b620, T620, h620, k620, c620, kc620, X620, e620, E620, hS, hk, hZ, hown, A620, F620, G620, V620, la620, lb620, C620, -, ne620, st620⟩ := ldcCH X106 hx hZ hown (hw _ (List.mem_of_getElem? (i := 79) rfl)) (own_wS hw) e106 hS hk (own_EW hw) (List.mem_of_getElem? (i := 2) rfl) R106.1 (vs := [(.int (116 : Int32)), (.int (101 : Int32)), (.int (120 : Int32)), (.int (116 : Int32)), (.int (47 : Int32)), (.int (104 : Int32)), (.int (116 : Int32)), (.int (109 : Int32))]) (z := (8 : Int32)) ⟨by decide, by decide⟩ (by decide) rfl (g := (mkF m 336 #[iv p0, iv p1, iv p2, iv p3, iv p4, iv k, iv ch, .val cv, .unset, .unset, .unset, .unset, .unset, .unset] [])) rfl (hb hby at_336) (n := 32) (by decide) (by decide) (by decide) (by decide)
      have R621 : CHr Z consts_1 s.vm h0 T620.vm h620 := R106.trans C620
      have O622 := O126.ext E620
      have g623 : Go p e below T620 (mkF m 338 #[iv p0, iv p1, iv p2, iv p3, iv p4, iv k, iv ch, .val cv, .unset, .unset, .unset, .unset, .unset, .unset] [(.ref b620)]) A0 := fun t kont => g619 t (st620 t kont)
      have y624 : Arv Z h620 c620 kc620 .byte (Int32.ofNat own_l17.length) (own_lb own_l17) (.int (0 : Int32)) := by rw [show own_lb own_l17 = [(.int (116 : Int32)), (.int (101 : Int32)), (.int (120 : Int32)), (.int (116 : Int32)), (.int (47 : Int32)), (.int (104 : Int32)), (.int (116 : Int32)), (.int (109 : Int32))] from rfl]; exact V620
      have g625 : Go p e below T620 (mkF m 805 #[iv p0, iv p1, iv p2, iv p3, iv p4, iv k, iv ch, .val cv, rv b620, iv (0 : Int32), .unset, .unset, .unset, .unset] []) A0 := by
        intro t kont
        refine g623 t ?_
        refine XS.astore X620.here hx rfl (hb hby at_338) rfl rfl (l' := #[iv p0, iv p1, iv p2, iv p3, iv p4, iv k, iv ch, .val cv, rv b620, .unset, .unset, .unset, .unset, .unset]) rfl ?_
        refine XS.goto X620.here hx rfl (pc0 := 340) (pc' := 414) rfl (hb hby at_340) (by decide) (by decide) ?_
        refine XS.iconst X620.here hx rfl (hb hby at_414) ?_
        refine XS.istore X620.here hx rfl (hb hby at_415) rfl (l' := #[iv p0, iv p1, iv p2, iv p3, iv p4, iv k, iv ch, .val cv, rv b620, iv (0 : Int32), .unset, .unset, .unset, .unset]) rfl ?_
        refine XS.goto X620.here hx rfl (pc0 := 417) (pc' := 805) rfl (hb hby at_417) (by decide) (by decide) ?_
        exact kont
      obtain ⟨T626, h626, X626, e626, E626, A626, D626, -, st626⟩ := newO X620 hx hZ hown (hw _ (List.mem_of_getElem? (i := 31) rfl)) (hw _ (List.mem_of_getElem? (i := 32) rfl)) (hw _ (List.mem_of_getElem? (i := 33) rfl)) e620 (g := (mkF m 805 #[iv p0, iv p1, iv p2, iv p3, iv p4, iv k, iv ch, .val cv, rv b620, iv (0 : Int32), .unset, .unset, .unset, .unset] [])) rfl (hb hby at_805) (by decide) (by decide)
      obtain ⟨b626, gb626⟩ : ∃ z, z = h620.size := ⟨_, rfl⟩
      rw [← gb626] at A626 D626 st626
      have R627 : CHr Z consts_1 s.vm h0 T620.vm h626 := R621.trans (CHr.ext E626 R621.1)
      have O628 := O622.ext E626
      have y629 : Fld Z h626 b626 "com/example/fetch_from_near/fetchfromnear/ContentType" "mediaType" "Ljava/lang/String;" .null := D626 (Or.inr (hw _ (List.mem_of_getElem? (i := 44) rfl))) (ty := (.object "java/lang/String")) (by decide)
      have y630 : Fld Z h626 b626 "com/example/fetch_from_near/fetchfromnear/ContentType" "charset" "Ljava/lang/String;" .null := D626 (Or.inr (hw _ (List.mem_of_getElem? (i := 46) rfl))) (ty := (.object "java/lang/String")) (by decide)
      have g631 : Go p e below T626 (mkF m 808 #[iv p0, iv p1, iv p2, iv p3, iv p4, iv k, iv ch, .val cv, rv b620, iv (0 : Int32), .unset, .unset, .unset, .unset] [(.ref b626)]) A0 := fun t kont => g625 t (st626 t kont)
      have g632 : Go p e below T626 (mkF m 813 #[iv p0, iv p1, iv p2, iv p3, iv p4, iv k, iv ch, .val cv, rv b620, iv (0 : Int32), .unset, .unset, .unset, .unset] [cv, (.ref b620), (.ref b626), (.ref b626)]) A0 := by
        intro t kont
        refine g631 t ?_
        refine XS.dup X626.here hx rfl (hb hby at_808) rfl rfl ?_
        refine XS.aload X626.here hx rfl (hb hby at_809) rfl rfl ?_
        refine XS.aload X626.here hx rfl (hb hby at_811) rfl (h_cv) ?_
        exact kont
      have ge634 : n0 ≤ b626 := Nat.le_trans (own_old_le O622) (Nat.le_of_eq gb626.symm)
      obtain ⟨_, _, ⟨T633, L633, k633, n633⟩, -, X633, ⟨Lc633, hQ633, l633, y633, z633⟩, st633⟩ := X626.specialBack hx (y := (⟨"com/example/fetch_from_near/fetchfromnear/ContentType", "<init>", "(Ljava/lang/String;Ljava/lang/String;)V"⟩ : MethodName)) rfl hown (mvT hZ (hw _ (List.mem_of_getElem? (i := 34) rfl))) (mvT hZ (hw _ (List.mem_of_getElem? (i := 35) rfl))) (mvT hZ (hw _ (List.mem_of_getElem? (i := 36) rfl))) (by decide) (backOf (W := 1) (rm_ctR l Z a0 hw [] b626 b620 cv h626 n0 O628 A626 y629 y630 ge634 h_cv) hZ (hw _ (List.mem_of_getElem? (i := 36) rfl)) (hw _ (List.mem_of_getElem? (i := 33) rfl)) (by decide) (by decide)) (g := (mkF m 813 #[iv p0, iv p1, iv p2, iv p3, iv p4, iv k, iv ch, .val cv, rv b620, iv (0 : Int32), .unset, .unset, .unset, .unset] [cv, (.ref b620), (.ref b626), (.ref b626)])) rfl (by rw [hml]; rfl) (Steps.refl _) (a := b626) (argsL := [(.ref b620), cv]) (rest := [(.ref b626)]) (lenOf pd_12 rfl) rfl (by show 2 * 0 + _ ≤ _; exact Nat.le_of_eq rfl) (hb hby at_813) (fun _ _ => ⟨rfl, e626, (by decide : 5 + 0 ≤ _), (by decide : 43 + 0 ≤ _)⟩)
      dsimp only [Pt.U, Pt.locs, Pt.cells, Pt.slots] at X633 l633 y633 z633 st633 hQ633
      subst y633 z633
      obtain ⟨rfl, M633, K633, y635, y636⟩ := hQ633
      have N633 : Fr n0 L633 := by rw [l633]; exact Fr.app N106 M633
      have R637 : CHr Z consts_1 s.vm h0 T620.vm T633.heap := R627.trans (CHr.keep K633 (sfS (Safe.ext E626 R621.1 (Safe.new (Nat.le_of_eq gb626.symm))) sf0) R627.1)
      have O638 := O628.keep K633 (allS ge634 all0)
      have g639 : Go p e below T633 (mkF m 816 #[iv p0, iv p1, iv p2, iv p3, iv p4, iv k, iv ch, .val cv, rv b620, iv (0 : Int32), .unset, .unset, .unset, .unset] [(.ref b626)]) A0 := fun t kont => g632 t (st633.trans kont)
      have y641 : Exa Z T633.heap b620 "java/lang/String" := ((A620.ext E626).keep K633)
      have y642 : Fld Z T633.heap b620 "java/lang/String" "coder" "B" (.int (0 : Int32)) := ((F620.ext E626).keep K633 (ninS (Nat.ne_of_lt (Nat.lt_of_lt_of_le A620.lt (Nat.le_of_eq gb626.symm))) nin0))
      have y643 : Fld Z T633.heap b620 "java/lang/String" "value" "[B" (.ref c620) := ((G620.ext E626).keep K633 (ninS (Nat.ne_of_lt (Nat.lt_of_lt_of_le A620.lt (Nat.le_of_eq gb626.symm))) nin0))
      have y644 : Arv Z T633.heap c620 kc620 .byte (Int32.ofNat own_l17.length) (own_lb own_l17) (.int (0 : Int32)) := ((y624.ext E626).keep K633 (ninS (Nat.ne_of_lt (Nat.lt_of_lt_of_le V620.lt (Nat.le_of_eq gb626.symm))) nin0))
      obtain ⟨cq640, kq640, q640a, q640b, q640c⟩ := isOf hZ rfl y635
      obtain ⟨_, _, ⟨T640, L640, k640, n640⟩, -, X640, hS640, hg640, ⟨Lc640, hQ640, l640, y640, z640, C640⟩, st640⟩ := X633.virtualBackS hx (y := (⟨"com/example/fetch_from_near/fetchfromnear/ContentType", "isHtml", "()Z"⟩ : MethodName)) (z := (⟨"com/example/fetch_from_near/fetchfromnear/ContentType", "isHtml", "()Z"⟩ : MethodName)) hown (mvT hZ (hw _ (List.mem_of_getElem? (i := 47) rfl))) (mvT hZ (hw _ (List.mem_of_getElem? (i := 48) rfl))) (notFace_of_selects (args := #[]) (mvT hZ (hw _ (List.mem_of_getElem? (i := 50) rfl)))) (mvT hZ (hw _ (List.mem_of_getElem? (i := 50) rfl))) (mvT hZ (hw _ (List.mem_of_getElem? (i := 49) rfl))) (by decide) (backOfSH (W := 0) (rm_isHG l Z a0 hw [] b626 b620 c620 kc620 own_l17 i_COMPACT_STRINGS T633.heap n0 O638 S0_ hcs y636 y635 y641 y642 y643 y644 (by decide) (own_l17_c) (own_l17_l)) hZ (hw _ (List.mem_of_getElem? (i := 51) rfl)) (hw _ (List.mem_of_getElem? (i := 33) rfl)) (by decide) (by decide) (own_EW hw) R637.1) q640a q640c (g := (mkF m 816 #[iv p0, iv p1, iv p2, iv p3, iv p4, iv k, iv ch, .val cv, rv b620, iv (0 : Int32), .unset, .unset, .unset, .unset] [(.ref b626)])) rfl (by rw [hml]; rfl) (Steps.refl _) (argsL := []) (rest := []) (lenOf pd_13 rfl) rfl (by show 2 * 0 + _ ≤ _; exact Nat.le_of_eq rfl) (hb hby at_816) (fun _ _ => ⟨rfl, rfl, (by decide : 5 + 4 ≤ _), (by decide : 43 + 128 ≤ _)⟩)
      dsimp only [Pt.U, Pt.locs, Pt.cells, Pt.slots] at X640 l640 y640 z640 st640 hQ640 hS640 hg640 C640
      subst y640 z640
      obtain ⟨X640, hS, hZ, hown⟩ := rebS hS (n1 := T633.heap.size) (Nat.le_trans hk (Nat.le_trans E626.1 K633.1)) X640 hS640 hg640 hZ hown
      obtain ⟨r645, rfl, M640, K640, y646, y647⟩ := hQ640
      have N640 : Fr n0 L640 := by rw [l640]; exact Fr.app N633 M640
      have R648 : CHr Z consts_1 s.vm h0 T640.vm T640.heap := R637.trans C640
      have O649 := O638.keep K640 all0
      have g650 : Go p e below T640 (mkF m 819 #[iv p0, iv p1, iv p2, iv p3, iv p4, iv k, iv ch, .val cv, rv b620, iv (0 : Int32), .unset, .unset, .unset, .unset] [(.int r645)]) A0 := fun t kont => g639 t (st640.trans kont)
      rcases (y646 : r645 = (0 : Int32) ∨ r645 = (1 : Int32)) with c651 | c651
      ·
        subst c651
        have g652 : Go p e below T640 (mkF m 829 #[iv p0, iv p1, iv p2, iv p3, iv p4, iv k, iv ch, .val cv, rv b620, iv (0 : Int32), .unset, .unset, .unset, .unset] [(.int (1 : Int32))]) A0 := by
          intro t kont
          refine g650 t ?_
          refine XS.iload X640.here hx rfl (hb hby at_819) rfl ?_
          refine XS.icmpNo X640.here hx rfl (hb hby at_821) rfl (teq (by decide : (0 : Int32) = (0 : Int32))).2 ?_
          refine XS.iconst X640.here hx rfl (hb hby at_824) ?_
          refine XS.goto X640.here hx rfl (pc0 := 825) (pc' := 829) rfl (hb hby at_825) (by decide) (by decide) ?_
          exact kont
        obtain ⟨fs, hr, hrun, hended, hRW⟩ := X640.leaveW hS (Nat.le_refl _) (v := some (.int (1 : Int32))) (fun h => by rw [Bd.returns] at h; cases h)
        refine ⟨_, _, g652 _ (retN X640 hx (t := .boolean) Bd.returns (by simp) (hb hby at_829) hr), hrun, hended, _, _, rfl, ?_, ?_, hRW.1, hRW.2.1, hRW.2.2.1, hRW.2.2.2.mono (by decide) (by decide)⟩
        ·
          show Q_law Z p0 p1 p2 p3 p4 i_COMPACT_STRINGS h0 n0 _ T640.heap _
          exact ⟨rfl, N640⟩
        ·
          rw [hh]
          show CHr Z consts_1 s.vm h0 T640.vm T640.heap
          exact R648.trans (CHv.at X640 hZ (own_EW hw) R648.1)
      subst c651
      exact ((own_len (rfl : own_l17.length = 8)) (y647.mp rfl)).elim
    have g653 : Go p e below T106 (mkF m 345 #[iv p0, iv p1, iv p2, iv p3, iv p4, iv k, iv ch, .val cv, .unset, .unset, .unset, .unset, .unset, .unset] [(.int (10 : Int32))]) A0 := by
      intro t kont
      refine g618 t ?_
      refine XS.ifYes X106.here hx rfl (pc0 := 333) (pc' := 343) rfl (hb hby at_333) rfl ((if0 _ _).trans (feq c617).2) (by decide) (by decide) ?_
      refine XS.bipush X106.here hx rfl (hb hby at_343) ?_
      exact kont
    obtain ⟨T654, h654, k654, X654, e654, E654, A654, F654, st654⟩ := newPE X106 hx hZ (hw _ (List.mem_of_getElem? (i := 0) rfl)) e106 (g := (mkF m 345 #[iv p0, iv p1, iv p2, iv p3, iv p4, iv k, iv ch, .val cv, .unset, .unset, .unset, .unset, .unset, .unset] [(.int (10 : Int32))])) rfl (hb hby at_345) rfl (by decide) (cap := 10) (by decide) (by decide) (by decide) (by decide) (ad := "[C") (by decide)
    obtain ⟨b654, gb654⟩ : ∃ z, z = h106.size := ⟨_, rfl⟩
    rw [← gb654] at A654 F654 st654
    have R655 : CHr Z consts_1 s.vm h0 vm106 h654 := R106.trans (CHr.ext E654 R106.1)
    have O656 := O126.ext E654
    have y657 : Arv Z h654 b654 k654 .char (10 : Int32) [(.int (0 : Int32)), (.int (0 : Int32)), (.int (0 : Int32)), (.int (0 : Int32)), (.int (0 : Int32)), (.int (0 : Int32)), (.int (0 : Int32)), (.int (0 : Int32)), (.int (0 : Int32)), (.int (0 : Int32))] (.int (0 : Int32)) := (Arv.new A654 (by decide)).pad (pad_rep [] (.int (0 : Int32)) 10)
    have g658 : Go p e below T654 (mkF m 347 #[iv p0, iv p1, iv p2, iv p3, iv p4, iv k, iv ch, .val cv, .unset, .unset, .unset, .unset, .unset, .unset] [(.ref b654)]) A0 := fun t kont => g653 t (st654 t kont)
    have g659 : Go p e below T654 (mkF m 351 #[iv p0, iv p1, iv p2, iv p3, iv p4, iv k, iv ch, .val cv, .unset, .unset, .unset, .unset, .unset, .unset] [(.int (116 : Int32)), (.int (0 : Int32)), (.ref b654), (.ref b654)]) A0 := by
      intro t kont
      refine g658 t ?_
      refine XS.dup X654.here hx rfl (hb hby at_347) rfl rfl ?_
      refine XS.iconst X654.here hx rfl (hb hby at_348) ?_
      refine XS.bipush X654.here hx rfl (hb hby at_349) ?_
      exact kont
    have ge661 : n0 ≤ b654 := Nat.le_trans (own_old_le O126) (Nat.le_of_eq gb654.symm)
    have zz660 := y657
    obtain ⟨cl660, Ar660, q660, S660, M660, H660, G660⟩ := zz660
    have in660 : ¬ ((0 : Int32) < 0 ∨ cl660.slots.size ≤ ((0 : Int32)).toNatClampNeg) := inb_of S660 ⟨by decide, by decide⟩
    obtain ⟨T660, h660, X660, e660, W660, st660⟩ := stC X654 hx hZ e654 Ar660 (j := (0 : Int32)) in660 (g := (mkF m 351 #[iv p0, iv p1, iv p2, iv p3, iv p4, iv k, iv ch, .val cv, .unset, .unset, .unset, .unset, .unset, .unset] [(.int (116 : Int32)), (.int (0 : Int32)), (.ref b654), (.ref b654)])) rfl rfl (hb hby at_351)
    rw [show nar .char (116 : Int32) = (116 : Int32) from (by decide : nar .char (116 : Int32) = (116 : Int32))] at W660
    have R662 : CHr Z consts_1 s.vm h0 vm106 h660 := R655.trans (CHr.wr W660 (Safe.ext E654 R106.1 (Safe.new (Nat.le_of_eq gb654.symm))) R655.1)
    have O663 := O656.wr W660 ge661
    have y664 : Arv Z h660 b654 k654 .char (10 : Int32) [(.int (116 : Int32)), (.int (0 : Int32)), (.int (0 : Int32)), (.int (0 : Int32)), (.int (0 : Int32)), (.int (0 : Int32)), (.int (0 : Int32)), (.int (0 : Int32)), (.int (0 : Int32)), (.int (0 : Int32))] (.int (0 : Int32)) := Arv.set Ar660 q660 S660 M660 H660 G660 (own_ft_char (z := (116 : Int32)) (by decide : nar .char (116 : Int32) = (116 : Int32))) W660 0 rfl (Nat.le_of_ble_eq_true rfl)
    have N660 := Fr.snoc X660 N106 ge661
    have g665 : Go p e below T660 (mkF m 352 #[iv p0, iv p1, iv p2, iv p3, iv p4, iv k, iv ch, .val cv, .unset, .unset, .unset, .unset, .unset, .unset] [(.ref b654)]) A0 := fun t kont => g659 t (st660 t kont)
    have g666 : Go p e below T660 (mkF m 356 #[iv p0, iv p1, iv p2, iv p3, iv p4, iv k, iv ch, .val cv, .unset, .unset, .unset, .unset, .unset, .unset] [(.int (101 : Int32)), (.int (1 : Int32)), (.ref b654), (.ref b654)]) A0 := by
      intro t kont
      refine g665 t ?_
      refine XS.dup X660.here hx rfl (hb hby at_352) rfl rfl ?_
      refine XS.iconst X660.here hx rfl (hb hby at_353) ?_
      refine XS.bipush X660.here hx rfl (hb hby at_354) ?_
      exact kont
    have zz667 := y664
    obtain ⟨cl667, Ar667, q667, S667, M667, H667, G667⟩ := zz667
    have in667 : ¬ ((1 : Int32) < 0 ∨ cl667.slots.size ≤ ((1 : Int32)).toNatClampNeg) := inb_of S667 ⟨by decide, by decide⟩
    obtain ⟨T667, h667, X667, e667, W667, st667⟩ := stC X660 hx hZ e660 Ar667 (j := (1 : Int32)) in667 (g := (mkF m 356 #[iv p0, iv p1, iv p2, iv p3, iv p4, iv k, iv ch, .val cv, .unset, .unset, .unset, .unset, .unset, .unset] [(.int (101 : Int32)), (.int (1 : Int32)), (.ref b654), (.ref b654)])) rfl rfl (hb hby at_356)
    rw [show nar .char (101 : Int32) = (101 : Int32) from (by decide : nar .char (101 : Int32) = (101 : Int32))] at W667
    have sf669 : Safe Z consts_1 vm106 h660 b654 := (Safe.wr W660 (Safe.ext E654 R106.1 (Safe.new (Nat.le_of_eq gb654.symm))) R655.1 (Safe.ext E654 R106.1 (Safe.new (Nat.le_of_eq gb654.symm))))
    have R668 : CHr Z consts_1 s.vm h0 vm106 h667 := R662.trans (CHr.wr W667 sf669 R662.1)
    have O670 := O663.wr W667 ge661
    have y671 : Arv Z h667 b654 k654 .char (10 : Int32) [(.int (116 : Int32)), (.int (101 : Int32)), (.int (0 : Int32)), (.int (0 : Int32)), (.int (0 : Int32)), (.int (0 : Int32)), (.int (0 : Int32)), (.int (0 : Int32)), (.int (0 : Int32)), (.int (0 : Int32))] (.int (0 : Int32)) := Arv.set Ar667 q667 S667 M667 H667 G667 (own_ft_char (z := (101 : Int32)) (by decide : nar .char (101 : Int32) = (101 : Int32))) W667 1 rfl (Nat.le_of_ble_eq_true rfl)
    have N667 := Fr.snoc X667 N660 ge661
    have g672 : Go p e below T667 (mkF m 357 #[iv p0, iv p1, iv p2, iv p3, iv p4, iv k, iv ch, .val cv, .unset, .unset, .unset, .unset, .unset, .unset] [(.ref b654)]) A0 := fun t kont => g666 t (st667 t kont)
    have g673 : Go p e below T667 (mkF m 361 #[iv p0, iv p1, iv p2, iv p3, iv p4, iv k, iv ch, .val cv, .unset, .unset, .unset, .unset, .unset, .unset] [(.int (120 : Int32)), (.int (2 : Int32)), (.ref b654), (.ref b654)]) A0 := by
      intro t kont
      refine g672 t ?_
      refine XS.dup X667.here hx rfl (hb hby at_357) rfl rfl ?_
      refine XS.iconst X667.here hx rfl (hb hby at_358) ?_
      refine XS.bipush X667.here hx rfl (hb hby at_359) ?_
      exact kont
    have zz674 := y671
    obtain ⟨cl674, Ar674, q674, S674, M674, H674, G674⟩ := zz674
    have in674 : ¬ ((2 : Int32) < 0 ∨ cl674.slots.size ≤ ((2 : Int32)).toNatClampNeg) := inb_of S674 ⟨by decide, by decide⟩
    obtain ⟨T674, h674, X674, e674, W674, st674⟩ := stC X667 hx hZ e667 Ar674 (j := (2 : Int32)) in674 (g := (mkF m 361 #[iv p0, iv p1, iv p2, iv p3, iv p4, iv k, iv ch, .val cv, .unset, .unset, .unset, .unset, .unset, .unset] [(.int (120 : Int32)), (.int (2 : Int32)), (.ref b654), (.ref b654)])) rfl rfl (hb hby at_361)
    rw [show nar .char (120 : Int32) = (120 : Int32) from (by decide : nar .char (120 : Int32) = (120 : Int32))] at W674
    have sf676 : Safe Z consts_1 vm106 h667 b654 := (Safe.wr W667 sf669 R662.1 sf669)
    have R675 : CHr Z consts_1 s.vm h0 vm106 h674 := R668.trans (CHr.wr W674 sf676 R668.1)
    have O677 := O670.wr W674 ge661
    have y678 : Arv Z h674 b654 k654 .char (10 : Int32) [(.int (116 : Int32)), (.int (101 : Int32)), (.int (120 : Int32)), (.int (0 : Int32)), (.int (0 : Int32)), (.int (0 : Int32)), (.int (0 : Int32)), (.int (0 : Int32)), (.int (0 : Int32)), (.int (0 : Int32))] (.int (0 : Int32)) := Arv.set Ar674 q674 S674 M674 H674 G674 (own_ft_char (z := (120 : Int32)) (by decide : nar .char (120 : Int32) = (120 : Int32))) W674 2 rfl (Nat.le_of_ble_eq_true rfl)
    have N674 := Fr.snoc X674 N667 ge661
    have g679 : Go p e below T674 (mkF m 362 #[iv p0, iv p1, iv p2, iv p3, iv p4, iv k, iv ch, .val cv, .unset, .unset, .unset, .unset, .unset, .unset] [(.ref b654)]) A0 := fun t kont => g673 t (st674 t kont)
    have g680 : Go p e below T674 (mkF m 366 #[iv p0, iv p1, iv p2, iv p3, iv p4, iv k, iv ch, .val cv, .unset, .unset, .unset, .unset, .unset, .unset] [(.int (116 : Int32)), (.int (3 : Int32)), (.ref b654), (.ref b654)]) A0 := by
      intro t kont
      refine g679 t ?_
      refine XS.dup X674.here hx rfl (hb hby at_362) rfl rfl ?_
      refine XS.iconst X674.here hx rfl (hb hby at_363) ?_
      refine XS.bipush X674.here hx rfl (hb hby at_364) ?_
      exact kont
    have zz681 := y678
    obtain ⟨cl681, Ar681, q681, S681, M681, H681, G681⟩ := zz681
    have in681 : ¬ ((3 : Int32) < 0 ∨ cl681.slots.size ≤ ((3 : Int32)).toNatClampNeg) := inb_of S681 ⟨by decide, by decide⟩
    obtain ⟨T681, h681, X681, e681, W681, st681⟩ := stC X674 hx hZ e674 Ar681 (j := (3 : Int32)) in681 (g := (mkF m 366 #[iv p0, iv p1, iv p2, iv p3, iv p4, iv k, iv ch, .val cv, .unset, .unset, .unset, .unset, .unset, .unset] [(.int (116 : Int32)), (.int (3 : Int32)), (.ref b654), (.ref b654)])) rfl rfl (hb hby at_366)
    rw [show nar .char (116 : Int32) = (116 : Int32) from (by decide : nar .char (116 : Int32) = (116 : Int32))] at W681
    have sf683 : Safe Z consts_1 vm106 h674 b654 := (Safe.wr W674 sf676 R668.1 sf676)
    have R682 : CHr Z consts_1 s.vm h0 vm106 h681 := R675.trans (CHr.wr W681 sf683 R675.1)
    have O684 := O677.wr W681 ge661
    have y685 : Arv Z h681 b654 k654 .char (10 : Int32) [(.int (116 : Int32)), (.int (101 : Int32)), (.int (120 : Int32)), (.int (116 : Int32)), (.int (0 : Int32)), (.int (0 : Int32)), (.int (0 : Int32)), (.int (0 : Int32)), (.int (0 : Int32)), (.int (0 : Int32))] (.int (0 : Int32)) := Arv.set Ar681 q681 S681 M681 H681 G681 (own_ft_char (z := (116 : Int32)) (by decide : nar .char (116 : Int32) = (116 : Int32))) W681 3 rfl (Nat.le_of_ble_eq_true rfl)
    have N681 := Fr.snoc X681 N674 ge661
    have g686 : Go p e below T681 (mkF m 367 #[iv p0, iv p1, iv p2, iv p3, iv p4, iv k, iv ch, .val cv, .unset, .unset, .unset, .unset, .unset, .unset] [(.ref b654)]) A0 := fun t kont => g680 t (st681 t kont)
    have g687 : Go p e below T681 (mkF m 371 #[iv p0, iv p1, iv p2, iv p3, iv p4, iv k, iv ch, .val cv, .unset, .unset, .unset, .unset, .unset, .unset] [(.int (47 : Int32)), (.int (4 : Int32)), (.ref b654), (.ref b654)]) A0 := by
      intro t kont
      refine g686 t ?_
      refine XS.dup X681.here hx rfl (hb hby at_367) rfl rfl ?_
      refine XS.iconst X681.here hx rfl (hb hby at_368) ?_
      refine XS.bipush X681.here hx rfl (hb hby at_369) ?_
      exact kont
    have zz688 := y685
    obtain ⟨cl688, Ar688, q688, S688, M688, H688, G688⟩ := zz688
    have in688 : ¬ ((4 : Int32) < 0 ∨ cl688.slots.size ≤ ((4 : Int32)).toNatClampNeg) := inb_of S688 ⟨by decide, by decide⟩
    obtain ⟨T688, h688, X688, e688, W688, st688⟩ := stC X681 hx hZ e681 Ar688 (j := (4 : Int32)) in688 (g := (mkF m 371 #[iv p0, iv p1, iv p2, iv p3, iv p4, iv k, iv ch, .val cv, .unset, .unset, .unset, .unset, .unset, .unset] [(.int (47 : Int32)), (.int (4 : Int32)), (.ref b654), (.ref b654)])) rfl rfl (hb hby at_371)
    rw [show nar .char (47 : Int32) = (47 : Int32) from (by decide : nar .char (47 : Int32) = (47 : Int32))] at W688
    have sf690 : Safe Z consts_1 vm106 h681 b654 := (Safe.wr W681 sf683 R675.1 sf683)
    have R689 : CHr Z consts_1 s.vm h0 vm106 h688 := R682.trans (CHr.wr W688 sf690 R682.1)
    have O691 := O684.wr W688 ge661
    have y692 : Arv Z h688 b654 k654 .char (10 : Int32) [(.int (116 : Int32)), (.int (101 : Int32)), (.int (120 : Int32)), (.int (116 : Int32)), (.int (47 : Int32)), (.int (0 : Int32)), (.int (0 : Int32)), (.int (0 : Int32)), (.int (0 : Int32)), (.int (0 : Int32))] (.int (0 : Int32)) := Arv.set Ar688 q688 S688 M688 H688 G688 (own_ft_char (z := (47 : Int32)) (by decide : nar .char (47 : Int32) = (47 : Int32))) W688 4 rfl (Nat.le_of_ble_eq_true rfl)
    have N688 := Fr.snoc X688 N681 ge661
    have g693 : Go p e below T688 (mkF m 372 #[iv p0, iv p1, iv p2, iv p3, iv p4, iv k, iv ch, .val cv, .unset, .unset, .unset, .unset, .unset, .unset] [(.ref b654)]) A0 := fun t kont => g687 t (st688 t kont)
    have g694 : Go p e below T688 (mkF m 376 #[iv p0, iv p1, iv p2, iv p3, iv p4, iv k, iv ch, .val cv, .unset, .unset, .unset, .unset, .unset, .unset] [(.int (104 : Int32)), (.int (5 : Int32)), (.ref b654), (.ref b654)]) A0 := by
      intro t kont
      refine g693 t ?_
      refine XS.dup X688.here hx rfl (hb hby at_372) rfl rfl ?_
      refine XS.iconst X688.here hx rfl (hb hby at_373) ?_
      refine XS.bipush X688.here hx rfl (hb hby at_374) ?_
      exact kont
    have zz695 := y692
    obtain ⟨cl695, Ar695, q695, S695, M695, H695, G695⟩ := zz695
    have in695 : ¬ ((5 : Int32) < 0 ∨ cl695.slots.size ≤ ((5 : Int32)).toNatClampNeg) := inb_of S695 ⟨by decide, by decide⟩
    obtain ⟨T695, h695, X695, e695, W695, st695⟩ := stC X688 hx hZ e688 Ar695 (j := (5 : Int32)) in695 (g := (mkF m 376 #[iv p0, iv p1, iv p2, iv p3, iv p4, iv k, iv ch, .val cv, .unset, .unset, .unset, .unset, .unset, .unset] [(.int (104 : Int32)), (.int (5 : Int32)), (.ref b654), (.ref b654)])) rfl rfl (hb hby at_376)
    rw [show nar .char (104 : Int32) = (104 : Int32) from (by decide : nar .char (104 : Int32) = (104 : Int32))] at W695
    have sf697 : Safe Z consts_1 vm106 h688 b654 := (Safe.wr W688 sf690 R682.1 sf690)
    have R696 : CHr Z consts_1 s.vm h0 vm106 h695 := R689.trans (CHr.wr W695 sf697 R689.1)
    have O698 := O691.wr W695 ge661
    have y699 : Arv Z h695 b654 k654 .char (10 : Int32) [(.int (116 : Int32)), (.int (101 : Int32)), (.int (120 : Int32)), (.int (116 : Int32)), (.int (47 : Int32)), (.int (104 : Int32)), (.int (0 : Int32)), (.int (0 : Int32)), (.int (0 : Int32)), (.int (0 : Int32))] (.int (0 : Int32)) := Arv.set Ar695 q695 S695 M695 H695 G695 (own_ft_char (z := (104 : Int32)) (by decide : nar .char (104 : Int32) = (104 : Int32))) W695 5 rfl (Nat.le_of_ble_eq_true rfl)
    have N695 := Fr.snoc X695 N688 ge661
    have g700 : Go p e below T695 (mkF m 377 #[iv p0, iv p1, iv p2, iv p3, iv p4, iv k, iv ch, .val cv, .unset, .unset, .unset, .unset, .unset, .unset] [(.ref b654)]) A0 := fun t kont => g694 t (st695 t kont)
    have g701 : Go p e below T695 (mkF m 382 #[iv p0, iv p1, iv p2, iv p3, iv p4, iv k, iv ch, .val cv, .unset, .unset, .unset, .unset, .unset, .unset] [(.int (116 : Int32)), (.int (6 : Int32)), (.ref b654), (.ref b654)]) A0 := by
      intro t kont
      refine g700 t ?_
      refine XS.dup X695.here hx rfl (hb hby at_377) rfl rfl ?_
      refine XS.bipush X695.here hx rfl (hb hby at_378) ?_
      refine XS.bipush X695.here hx rfl (hb hby at_380) ?_
      exact kont
    have zz702 := y699
    obtain ⟨cl702, Ar702, q702, S702, M702, H702, G702⟩ := zz702
    have in702 : ¬ ((6 : Int32) < 0 ∨ cl702.slots.size ≤ ((6 : Int32)).toNatClampNeg) := inb_of S702 ⟨by decide, by decide⟩
    obtain ⟨T702, h702, X702, e702, W702, st702⟩ := stC X695 hx hZ e695 Ar702 (j := (6 : Int32)) in702 (g := (mkF m 382 #[iv p0, iv p1, iv p2, iv p3, iv p4, iv k, iv ch, .val cv, .unset, .unset, .unset, .unset, .unset, .unset] [(.int (116 : Int32)), (.int (6 : Int32)), (.ref b654), (.ref b654)])) rfl rfl (hb hby at_382)
    rw [show nar .char (116 : Int32) = (116 : Int32) from (by decide : nar .char (116 : Int32) = (116 : Int32))] at W702
    have sf704 : Safe Z consts_1 vm106 h695 b654 := (Safe.wr W695 sf697 R689.1 sf697)
    have R703 : CHr Z consts_1 s.vm h0 vm106 h702 := R696.trans (CHr.wr W702 sf704 R696.1)
    have O705 := O698.wr W702 ge661
    have y706 : Arv Z h702 b654 k654 .char (10 : Int32) [(.int (116 : Int32)), (.int (101 : Int32)), (.int (120 : Int32)), (.int (116 : Int32)), (.int (47 : Int32)), (.int (104 : Int32)), (.int (116 : Int32)), (.int (0 : Int32)), (.int (0 : Int32)), (.int (0 : Int32))] (.int (0 : Int32)) := Arv.set Ar702 q702 S702 M702 H702 G702 (own_ft_char (z := (116 : Int32)) (by decide : nar .char (116 : Int32) = (116 : Int32))) W702 6 rfl (Nat.le_of_ble_eq_true rfl)
    have N702 := Fr.snoc X702 N695 ge661
    have g707 : Go p e below T702 (mkF m 383 #[iv p0, iv p1, iv p2, iv p3, iv p4, iv k, iv ch, .val cv, .unset, .unset, .unset, .unset, .unset, .unset] [(.ref b654)]) A0 := fun t kont => g701 t (st702 t kont)
    have g708 : Go p e below T702 (mkF m 388 #[iv p0, iv p1, iv p2, iv p3, iv p4, iv k, iv ch, .val cv, .unset, .unset, .unset, .unset, .unset, .unset] [(.int (109 : Int32)), (.int (7 : Int32)), (.ref b654), (.ref b654)]) A0 := by
      intro t kont
      refine g707 t ?_
      refine XS.dup X702.here hx rfl (hb hby at_383) rfl rfl ?_
      refine XS.bipush X702.here hx rfl (hb hby at_384) ?_
      refine XS.bipush X702.here hx rfl (hb hby at_386) ?_
      exact kont
    have zz709 := y706
    obtain ⟨cl709, Ar709, q709, S709, M709, H709, G709⟩ := zz709
    have in709 : ¬ ((7 : Int32) < 0 ∨ cl709.slots.size ≤ ((7 : Int32)).toNatClampNeg) := inb_of S709 ⟨by decide, by decide⟩
    obtain ⟨T709, h709, X709, e709, W709, st709⟩ := stC X702 hx hZ e702 Ar709 (j := (7 : Int32)) in709 (g := (mkF m 388 #[iv p0, iv p1, iv p2, iv p3, iv p4, iv k, iv ch, .val cv, .unset, .unset, .unset, .unset, .unset, .unset] [(.int (109 : Int32)), (.int (7 : Int32)), (.ref b654), (.ref b654)])) rfl rfl (hb hby at_388)
    rw [show nar .char (109 : Int32) = (109 : Int32) from (by decide : nar .char (109 : Int32) = (109 : Int32))] at W709
    have sf711 : Safe Z consts_1 vm106 h702 b654 := (Safe.wr W702 sf704 R696.1 sf704)
    have R710 : CHr Z consts_1 s.vm h0 vm106 h709 := R703.trans (CHr.wr W709 sf711 R703.1)
    have O712 := O705.wr W709 ge661
    have y713 : Arv Z h709 b654 k654 .char (10 : Int32) [(.int (116 : Int32)), (.int (101 : Int32)), (.int (120 : Int32)), (.int (116 : Int32)), (.int (47 : Int32)), (.int (104 : Int32)), (.int (116 : Int32)), (.int (109 : Int32)), (.int (0 : Int32)), (.int (0 : Int32))] (.int (0 : Int32)) := Arv.set Ar709 q709 S709 M709 H709 G709 (own_ft_char (z := (109 : Int32)) (by decide : nar .char (109 : Int32) = (109 : Int32))) W709 7 rfl (Nat.le_of_ble_eq_true rfl)
    have N709 := Fr.snoc X709 N702 ge661
    have g714 : Go p e below T709 (mkF m 389 #[iv p0, iv p1, iv p2, iv p3, iv p4, iv k, iv ch, .val cv, .unset, .unset, .unset, .unset, .unset, .unset] [(.ref b654)]) A0 := fun t kont => g708 t (st709 t kont)
    have g715 : Go p e below T709 (mkF m 394 #[iv p0, iv p1, iv p2, iv p3, iv p4, iv k, iv ch, .val cv, .unset, .unset, .unset, .unset, .unset, .unset] [(.int (108 : Int32)), (.int (8 : Int32)), (.ref b654), (.ref b654)]) A0 := by
      intro t kont
      refine g714 t ?_
      refine XS.dup X709.here hx rfl (hb hby at_389) rfl rfl ?_
      refine XS.bipush X709.here hx rfl (hb hby at_390) ?_
      refine XS.bipush X709.here hx rfl (hb hby at_392) ?_
      exact kont
    have zz716 := y713
    obtain ⟨cl716, Ar716, q716, S716, M716, H716, G716⟩ := zz716
    have in716 : ¬ ((8 : Int32) < 0 ∨ cl716.slots.size ≤ ((8 : Int32)).toNatClampNeg) := inb_of S716 ⟨by decide, by decide⟩
    obtain ⟨T716, h716, X716, e716, W716, st716⟩ := stC X709 hx hZ e709 Ar716 (j := (8 : Int32)) in716 (g := (mkF m 394 #[iv p0, iv p1, iv p2, iv p3, iv p4, iv k, iv ch, .val cv, .unset, .unset, .unset, .unset, .unset, .unset] [(.int (108 : Int32)), (.int (8 : Int32)), (.ref b654), (.ref b654)])) rfl rfl (hb hby at_394)
    rw [show nar .char (108 : Int32) = (108 : Int32) from (by decide : nar .char (108 : Int32) = (108 : Int32))] at W716
    have sf718 : Safe Z consts_1 vm106 h709 b654 := (Safe.wr W709 sf711 R703.1 sf711)
    have R717 : CHr Z consts_1 s.vm h0 vm106 h716 := R710.trans (CHr.wr W716 sf718 R710.1)
    have O719 := O712.wr W716 ge661
    have y720 : Arv Z h716 b654 k654 .char (10 : Int32) [(.int (116 : Int32)), (.int (101 : Int32)), (.int (120 : Int32)), (.int (116 : Int32)), (.int (47 : Int32)), (.int (104 : Int32)), (.int (116 : Int32)), (.int (109 : Int32)), (.int (108 : Int32)), (.int (0 : Int32))] (.int (0 : Int32)) := Arv.set Ar716 q716 S716 M716 H716 G716 (own_ft_char (z := (108 : Int32)) (by decide : nar .char (108 : Int32) = (108 : Int32))) W716 8 rfl (Nat.le_of_ble_eq_true rfl)
    have N716 := Fr.snoc X716 N709 ge661
    have g721 : Go p e below T716 (mkF m 395 #[iv p0, iv p1, iv p2, iv p3, iv p4, iv k, iv ch, .val cv, .unset, .unset, .unset, .unset, .unset, .unset] [(.ref b654)]) A0 := fun t kont => g715 t (st716 t kont)
    have g722 : Go p e below T716 (mkF m 400 #[iv p0, iv p1, iv p2, iv p3, iv p4, iv k, iv ch, .val cv, .unset, .unset, .unset, .unset, .unset, .unset] [(.int ch), (.int (9 : Int32)), (.ref b654), (.ref b654)]) A0 := by
      intro t kont
      refine g721 t ?_
      refine XS.dup X716.here hx rfl (hb hby at_395) rfl rfl ?_
      refine XS.bipush X716.here hx rfl (hb hby at_396) ?_
      refine XS.iload X716.here hx rfl (hb hby at_398) rfl ?_
      exact kont
    have zz723 := y720
    obtain ⟨cl723, Ar723, q723, S723, M723, H723, G723⟩ := zz723
    have in723 : ¬ ((9 : Int32) < 0 ∨ cl723.slots.size ≤ ((9 : Int32)).toNatClampNeg) := inb_of S723 ⟨by decide, by decide⟩
    obtain ⟨T723, h723, X723, e723, W723, st723⟩ := stC X716 hx hZ e716 Ar723 (j := (9 : Int32)) in723 (g := (mkF m 400 #[iv p0, iv p1, iv p2, iv p3, iv p4, iv k, iv ch, .val cv, .unset, .unset, .unset, .unset, .unset, .unset] [(.int ch), (.int (9 : Int32)), (.ref b654), (.ref b654)])) rfl rfl (hb hby at_400)
    rw [show nar .char ch = ch from r_ch] at W723
    have sf725 : Safe Z consts_1 vm106 h716 b654 := (Safe.wr W716 sf718 R710.1 sf718)
    have R724 : CHr Z consts_1 s.vm h0 vm106 h723 := R717.trans (CHr.wr W723 sf725 R717.1)
    have O726 := O719.wr W723 ge661
    have y727 : Arv Z h723 b654 k654 .char (10 : Int32) [(.int (116 : Int32)), (.int (101 : Int32)), (.int (120 : Int32)), (.int (116 : Int32)), (.int (47 : Int32)), (.int (104 : Int32)), (.int (116 : Int32)), (.int (109 : Int32)), (.int (108 : Int32)), (.int ch)] (.int (0 : Int32)) := Arv.set Ar723 q723 S723 M723 H723 G723 (own_ft_char (z := ch) r_ch) W723 9 rfl (Nat.le_of_ble_eq_true rfl)
    have N723 := Fr.snoc X723 N716 ge661
    have g728 : Go p e below T723 (mkF m 401 #[iv p0, iv p1, iv p2, iv p3, iv p4, iv k, iv ch, .val cv, .unset, .unset, .unset, .unset, .unset, .unset] [(.ref b654)]) A0 := fun t kont => g722 t (st723 t kont)
    have g729 : Go p e below T723 (mkF m 403 #[iv p0, iv p1, iv p2, iv p3, iv p4, iv k, iv ch, .val cv, .unset, .unset, rv b654, .unset, .unset, .unset] []) A0 := by
      intro t kont
      refine g728 t ?_
      refine XS.astore X723.here hx rfl (hb hby at_401) rfl rfl (l' := #[iv p0, iv p1, iv p2, iv p3, iv p4, iv k, iv ch, .val cv, .unset, .unset, rv b654, .unset, .unset, .unset]) rfl ?_
      exact kont
    obtain ⟨T730, h730, X730, e730, E730, A730, D730, -, st730⟩ := newO X723 hx hZ hown (hw _ (List.mem_of_getElem? (i := 2) rfl)) (hw _ (List.mem_of_getElem? (i := 3) rfl)) (hw _ (List.mem_of_getElem? (i := 4) rfl)) e723 (g := (mkF m 403 #[iv p0, iv p1, iv p2, iv p3, iv p4, iv k, iv ch, .val cv, .unset, .unset, rv b654, .unset, .unset, .unset] [])) rfl (hb hby at_403) (by decide) (by decide)
    obtain ⟨b730, gb730⟩ : ∃ z, z = h723.size := ⟨_, rfl⟩
    rw [← gb730] at A730 D730 st730
    have R731 : CHr Z consts_1 s.vm h0 vm106 h730 := R724.trans (CHr.ext E730 R724.1)
    have O732 := O726.ext E730
    have y733 : Fld Z h730 b730 "java/lang/String" "coder" "B" (.int (0 : Int32)) := D730 (Or.inr (hw _ (List.mem_of_getElem? (i := 28) rfl))) (ty := .byte) (by decide)
    have y734 : Fld Z h730 b730 "java/lang/String" "value" "[B" .null := D730 (Or.inr (hw _ (List.mem_of_getElem? (i := 30) rfl))) (ty := (.array .byte)) (by decide)
    have g735 : Go p e below T730 (mkF m 406 #[iv p0, iv p1, iv p2, iv p3, iv p4, iv k, iv ch, .val cv, .unset, .unset, rv b654, .unset, .unset, .unset] [(.ref b730)]) A0 := fun t kont => g729 t (st730 t kont)
    have g736 : Go p e below T730 (mkF m 409 #[iv p0, iv p1, iv p2, iv p3, iv p4, iv k, iv ch, .val cv, .unset, .unset, rv b654, .unset, .unset, .unset] [(.ref b654), (.ref b730), (.ref b730)]) A0 := by
      intro t kont
      refine g735 t ?_
      refine XS.dup X730.here hx rfl (hb hby at_406) rfl rfl ?_
      refine XS.aload X730.here hx rfl (hb hby at_407) rfl rfl ?_
      exact kont
    have y738 : Arv Z h730 b654 k654 .char (10 : Int32) [(.int (116 : Int32)), (.int (101 : Int32)), (.int (120 : Int32)), (.int (116 : Int32)), (.int (47 : Int32)), (.int (104 : Int32)), (.int (116 : Int32)), (.int (109 : Int32)), (.int (108 : Int32)), (.int ch)] (.int (0 : Int32)) := (y727.ext E730)
    obtain ⟨ls739, hls739⟩ : ∃ z, z = [(116 : Int32), (101 : Int32), (120 : Int32), (116 : Int32), (47 : Int32), (104 : Int32), (116 : Int32), (109 : Int32), (108 : Int32), ch] := ⟨_, rfl⟩
    have lls739 : ls739.length = 10 := by rw [hls739]; rfl
    have y740 : Arv Z h730 b654 k654 .char (Int32.ofNat ls739.length) (ls739.map Value.int) (.int (0 : Int32)) := by
      have q := y738
      rw [lls739, hls739]
      exact q
    have cls739 : own_chars ls739 := by rw [hls739]; exact (own_ccons ⟨by decide, by decide⟩ (own_ccons ⟨by decide, by decide⟩ (own_ccons ⟨by decide, by decide⟩ (own_ccons ⟨by decide, by decide⟩ (own_ccons ⟨by decide, by decide⟩ (own_ccons ⟨by decide, by decide⟩ (own_ccons ⟨by decide, by decide⟩ (own_ccons ⟨by decide, by decide⟩ (own_ccons ⟨by decide, by decide⟩ (own_ccons ⟨z_ch, own_w255 b_ch⟩ own_cnil))))))))))
    have dls739 : own_lat ls739 := by rw [hls739]; exact (own_lcons (by decide) (own_lcons (by decide) (own_lcons (by decide) (own_lcons (by decide) (own_lcons (by decide) (own_lcons (by decide) (own_lcons (by decide) (own_lcons (by decide) (own_lcons (by decide) (own_lcons b_ch own_lnil))))))))))
    have ge741 : n0 ≤ b730 := Nat.le_trans (own_old_le O726) (Nat.le_of_eq gb730.symm)
    obtain ⟨_, _, ⟨T737, L737, k737, n737⟩, -, X737, ⟨Lc737, hQ737, l737, y737, z737⟩, st737⟩ := X730.specialBack hx (y := (⟨"java/lang/String", "<init>", "([C)V"⟩ : MethodName)) rfl hown (mvT hZ (hw _ (List.mem_of_getElem? (i := 5) rfl))) (mvT hZ (hw _ (List.mem_of_getElem? (i := 6) rfl))) (mvT hZ (hw _ (List.mem_of_getElem? (i := 7) rfl))) (by decide) (backOf (W := 1) (rm_sIniL l Z a0 hw [] b730 b654 k654 ls739 i_COMPACT_STRINGS h730 n0 O732 y734 y733 A730 ge741 y740 (by rw [lls739]; decide) (by rw [lls739]; decide) (dls739) S0_ hcs) hZ (hw _ (List.mem_of_getElem? (i := 7) rfl)) (hw _ (List.mem_of_getElem? (i := 4) rfl)) (by decide) (by decide)) (g := (mkF m 409 #[iv p0, iv p1, iv p2, iv p3, iv p4, iv k, iv ch, .val cv, .unset, .unset, rv b654, .unset, .unset, .unset] [(.ref b654), (.ref b730), (.ref b730)])) rfl (by rw [hml]; rfl) (Steps.refl _) (a := b730) (argsL := [(.ref b654)]) (rest := [(.ref b730)]) (lenOf pd_11 rfl) rfl (by show 2 * 0 + _ ≤ _; exact Nat.le_of_eq rfl) (hb hby at_409) (fun _ _ => ⟨rfl, e730, (by decide : 4 + 1 ≤ _), (by decide : 19 + 22 ≤ _)⟩)
    dsimp only [Pt.U, Pt.locs, Pt.cells, Pt.slots] at X737 l737 y737 z737 st737 hQ737
    subst y737 z737
    obtain ⟨r742, r743, rfl, M737, K737, y744, y745, y746, y747, y748⟩ := hQ737
    have N737 : Fr n0 L737 := by rw [l737]; exact Fr.app N723 M737
    have R749 : CHr Z consts_1 s.vm h0 vm106 T737.heap := R731.trans (CHr.keep K737 (sfS (Safe.ext E730 R724.1 (Safe.new (Nat.le_of_eq gb730.symm))) sf0) R731.1)
    have O750 := O732.keep K737 (allS ge741 all0)
    have g751 : Go p e below T737 (mkF m 412 #[iv p0, iv p1, iv p2, iv p3, iv p4, iv k, iv ch, .val cv, .unset, .unset, rv b654, .unset, .unset, .unset] [(.ref b730)]) A0 := fun t kont => g736 t (st737.trans kont)
    have g752 : Go p e below T737 (mkF m 805 #[iv p0, iv p1, iv p2, iv p3, iv p4, iv k, iv ch, .val cv, rv b730, iv (0 : Int32), rv b654, .unset, .unset, .unset] []) A0 := by
      intro t kont
      refine g751 t ?_
      refine XS.astore X737.here hx rfl (hb hby at_412) rfl rfl (l' := #[iv p0, iv p1, iv p2, iv p3, iv p4, iv k, iv ch, .val cv, rv b730, .unset, rv b654, .unset, .unset, .unset]) rfl ?_
      refine XS.iconst X737.here hx rfl (hb hby at_414) ?_
      refine XS.istore X737.here hx rfl (hb hby at_415) rfl (l' := #[iv p0, iv p1, iv p2, iv p3, iv p4, iv k, iv ch, .val cv, rv b730, iv (0 : Int32), rv b654, .unset, .unset, .unset]) rfl ?_
      refine XS.goto X737.here hx rfl (pc0 := 417) (pc' := 805) rfl (hb hby at_417) (by decide) (by decide) ?_
      exact kont
    obtain ⟨T753, h753, X753, e753, E753, A753, D753, -, st753⟩ := newO X737 hx hZ hown (hw _ (List.mem_of_getElem? (i := 31) rfl)) (hw _ (List.mem_of_getElem? (i := 32) rfl)) (hw _ (List.mem_of_getElem? (i := 33) rfl)) rfl (g := (mkF m 805 #[iv p0, iv p1, iv p2, iv p3, iv p4, iv k, iv ch, .val cv, rv b730, iv (0 : Int32), rv b654, .unset, .unset, .unset] [])) rfl (hb hby at_805) (by decide) (by decide)
    obtain ⟨b753, gb753⟩ : ∃ z, z = T737.heap.size := ⟨_, rfl⟩
    rw [← gb753] at A753 D753 st753
    have R754 : CHr Z consts_1 s.vm h0 vm106 h753 := R749.trans (CHr.ext E753 R749.1)
    have O755 := O750.ext E753
    have y756 : Fld Z h753 b753 "com/example/fetch_from_near/fetchfromnear/ContentType" "mediaType" "Ljava/lang/String;" .null := D753 (Or.inr (hw _ (List.mem_of_getElem? (i := 44) rfl))) (ty := (.object "java/lang/String")) (by decide)
    have y757 : Fld Z h753 b753 "com/example/fetch_from_near/fetchfromnear/ContentType" "charset" "Ljava/lang/String;" .null := D753 (Or.inr (hw _ (List.mem_of_getElem? (i := 46) rfl))) (ty := (.object "java/lang/String")) (by decide)
    have g758 : Go p e below T753 (mkF m 808 #[iv p0, iv p1, iv p2, iv p3, iv p4, iv k, iv ch, .val cv, rv b730, iv (0 : Int32), rv b654, .unset, .unset, .unset] [(.ref b753)]) A0 := fun t kont => g752 t (st753 t kont)
    have g759 : Go p e below T753 (mkF m 813 #[iv p0, iv p1, iv p2, iv p3, iv p4, iv k, iv ch, .val cv, rv b730, iv (0 : Int32), rv b654, .unset, .unset, .unset] [cv, (.ref b730), (.ref b753), (.ref b753)]) A0 := by
      intro t kont
      refine g758 t ?_
      refine XS.dup X753.here hx rfl (hb hby at_808) rfl rfl ?_
      refine XS.aload X753.here hx rfl (hb hby at_809) rfl rfl ?_
      refine XS.aload X753.here hx rfl (hb hby at_811) rfl (h_cv) ?_
      exact kont
    have ge761 : n0 ≤ b753 := Nat.le_trans (own_old_le O750) (Nat.le_of_eq gb753.symm)
    obtain ⟨_, _, ⟨T760, L760, k760, n760⟩, -, X760, ⟨Lc760, hQ760, l760, y760, z760⟩, st760⟩ := X753.specialBack hx (y := (⟨"com/example/fetch_from_near/fetchfromnear/ContentType", "<init>", "(Ljava/lang/String;Ljava/lang/String;)V"⟩ : MethodName)) rfl hown (mvT hZ (hw _ (List.mem_of_getElem? (i := 34) rfl))) (mvT hZ (hw _ (List.mem_of_getElem? (i := 35) rfl))) (mvT hZ (hw _ (List.mem_of_getElem? (i := 36) rfl))) (by decide) (backOf (W := 1) (rm_ctR l Z a0 hw [] b753 b730 cv h753 n0 O755 A753 y756 y757 ge761 h_cv) hZ (hw _ (List.mem_of_getElem? (i := 36) rfl)) (hw _ (List.mem_of_getElem? (i := 33) rfl)) (by decide) (by decide)) (g := (mkF m 813 #[iv p0, iv p1, iv p2, iv p3, iv p4, iv k, iv ch, .val cv, rv b730, iv (0 : Int32), rv b654, .unset, .unset, .unset] [cv, (.ref b730), (.ref b753), (.ref b753)])) rfl (by rw [hml]; rfl) (Steps.refl _) (a := b753) (argsL := [(.ref b730), cv]) (rest := [(.ref b753)]) (lenOf pd_12 rfl) rfl (by show 2 * 0 + _ ≤ _; exact Nat.le_of_eq rfl) (hb hby at_813) (fun _ _ => ⟨rfl, e753, (by decide : 6 + 0 ≤ _), (by decide : 43 + 0 ≤ _)⟩)
    dsimp only [Pt.U, Pt.locs, Pt.cells, Pt.slots] at X760 l760 y760 z760 st760 hQ760
    subst y760 z760
    obtain ⟨rfl, M760, K760, y762, y763⟩ := hQ760
    have N760 : Fr n0 L760 := by rw [l760]; exact Fr.app N737 M760
    have R764 : CHr Z consts_1 s.vm h0 vm106 T760.heap := R754.trans (CHr.keep K760 (sfS (Safe.ext E753 R749.1 (Safe.new (Nat.le_of_eq gb753.symm))) sf0) R754.1)
    have O765 := O755.keep K760 (allS ge761 all0)
    have g766 : Go p e below T760 (mkF m 816 #[iv p0, iv p1, iv p2, iv p3, iv p4, iv k, iv ch, .val cv, rv b730, iv (0 : Int32), rv b654, .unset, .unset, .unset] [(.ref b753)]) A0 := fun t kont => g759 t (st760.trans kont)
    have y768 : Exa Z T760.heap b730 "java/lang/String" := ((y744.ext E753).keep K760)
    have y769 : Fld Z T760.heap b730 "java/lang/String" "coder" "B" (.int (0 : Int32)) := ((y745.ext E753).keep K760 (ninS (Nat.ne_of_lt (Nat.lt_of_lt_of_le (Nat.lt_of_lt_of_le A730.lt K737.1) (Nat.le_of_eq gb753.symm))) nin0))
    have y770 : Fld Z T760.heap b730 "java/lang/String" "value" "[B" (.ref r742) := ((y746.ext E753).keep K760 (ninS (Nat.ne_of_lt (Nat.lt_of_lt_of_le (Nat.lt_of_lt_of_le A730.lt K737.1) (Nat.le_of_eq gb753.symm))) nin0))
    have y771 : Arv Z T760.heap r742 r743 .byte (Int32.ofNat ls739.length) (own_lb ls739) (.int (0 : Int32)) := ((y748.ext E753).keep K760 (ninS (Nat.ne_of_lt (Nat.lt_of_lt_of_le y748.lt (Nat.le_of_eq gb753.symm))) nin0))
    obtain ⟨cq767, kq767, q767a, q767b, q767c⟩ := isOf hZ rfl y762
    obtain ⟨_, _, ⟨T767, L767, k767, n767⟩, -, X767, hS767, hg767, ⟨Lc767, hQ767, l767, y767, z767, C767⟩, st767⟩ := X760.virtualBackS hx (y := (⟨"com/example/fetch_from_near/fetchfromnear/ContentType", "isHtml", "()Z"⟩ : MethodName)) (z := (⟨"com/example/fetch_from_near/fetchfromnear/ContentType", "isHtml", "()Z"⟩ : MethodName)) hown (mvT hZ (hw _ (List.mem_of_getElem? (i := 47) rfl))) (mvT hZ (hw _ (List.mem_of_getElem? (i := 48) rfl))) (notFace_of_selects (args := #[]) (mvT hZ (hw _ (List.mem_of_getElem? (i := 50) rfl)))) (mvT hZ (hw _ (List.mem_of_getElem? (i := 50) rfl))) (mvT hZ (hw _ (List.mem_of_getElem? (i := 49) rfl))) (by decide) (backOfSH (W := 0) (rm_isHG l Z a0 hw [] b753 b730 r742 r743 ls739 i_COMPACT_STRINGS T760.heap n0 O765 S0_ hcs y763 y762 y768 y769 y770 y771 (by rw [lls739]; decide) (cls739) (dls739)) hZ (hw _ (List.mem_of_getElem? (i := 51) rfl)) (hw _ (List.mem_of_getElem? (i := 33) rfl)) (by decide) (by decide) (own_EW hw) R764.1) q767a q767c (g := (mkF m 816 #[iv p0, iv p1, iv p2, iv p3, iv p4, iv k, iv ch, .val cv, rv b730, iv (0 : Int32), rv b654, .unset, .unset, .unset] [(.ref b753)])) rfl (by rw [hml]; rfl) (Steps.refl _) (argsL := []) (rest := []) (lenOf pd_13 rfl) rfl (by show 2 * 0 + _ ≤ _; exact Nat.le_of_eq rfl) (hb hby at_816) (fun _ _ => ⟨rfl, rfl, (by decide : 6 + 4 ≤ _), (by decide : 43 + 128 ≤ _)⟩)
    dsimp only [Pt.U, Pt.locs, Pt.cells, Pt.slots] at X767 l767 y767 z767 st767 hQ767 hS767 hg767 C767
    subst y767 z767
    obtain ⟨X767, hS, hZ, hown⟩ := rebS hS (n1 := T760.heap.size) (Nat.le_trans hk (Nat.le_trans (Nat.le_trans (Nat.le_trans (Nat.le_trans (Nat.le_trans (Nat.le_trans (Nat.le_trans (Nat.le_trans (Nat.le_trans (Nat.le_trans (Nat.le_trans (Nat.le_trans (Nat.le_trans (Nat.le_trans E654.1 (Keep.of_wr W660).1) (Keep.of_wr W667).1) (Keep.of_wr W674).1) (Keep.of_wr W681).1) (Keep.of_wr W688).1) (Keep.of_wr W695).1) (Keep.of_wr W702).1) (Keep.of_wr W709).1) (Keep.of_wr W716).1) (Keep.of_wr W723).1) E730.1) K737.1) E753.1) K760.1)) X767 hS767 hg767 hZ hown
    obtain ⟨r772, rfl, M767, K767, y773, y774⟩ := hQ767
    have N767 : Fr n0 L767 := by rw [l767]; exact Fr.app N760 M767
    have R775 : CHr Z consts_1 s.vm h0 T767.vm T767.heap := R764.trans C767
    have O776 := O765.keep K767 all0
    have g777 : Go p e below T767 (mkF m 819 #[iv p0, iv p1, iv p2, iv p3, iv p4, iv k, iv ch, .val cv, rv b730, iv (0 : Int32), rv b654, .unset, .unset, .unset] [(.int r772)]) A0 := fun t kont => g766 t (st767.trans kont)
    rcases (y773 : r772 = (0 : Int32) ∨ r772 = (1 : Int32)) with c778 | c778
    ·
      subst c778
      have g779 : Go p e below T767 (mkF m 829 #[iv p0, iv p1, iv p2, iv p3, iv p4, iv k, iv ch, .val cv, rv b730, iv (0 : Int32), rv b654, .unset, .unset, .unset] [(.int (1 : Int32))]) A0 := by
        intro t kont
        refine g777 t ?_
        refine XS.iload X767.here hx rfl (hb hby at_819) rfl ?_
        refine XS.icmpNo X767.here hx rfl (hb hby at_821) rfl (teq (by decide : (0 : Int32) = (0 : Int32))).2 ?_
        refine XS.iconst X767.here hx rfl (hb hby at_824) ?_
        refine XS.goto X767.here hx rfl (pc0 := 825) (pc' := 829) rfl (hb hby at_825) (by decide) (by decide) ?_
        exact kont
      obtain ⟨fs, hr, hrun, hended, hRW⟩ := X767.leaveW hS (Nat.le_refl _) (v := some (.int (1 : Int32))) (fun h => by rw [Bd.returns] at h; cases h)
      refine ⟨_, _, g779 _ (retN X767 hx (t := .boolean) Bd.returns (by simp) (hb hby at_829) hr), hrun, hended, _, _, rfl, ?_, ?_, hRW.1, hRW.2.1, hRW.2.2.1, hRW.2.2.2.mono (by decide) (by decide)⟩
      ·
        show Q_law Z p0 p1 p2 p3 p4 i_COMPACT_STRINGS h0 n0 _ T767.heap _
        exact ⟨rfl, N767⟩
      ·
        rw [hh]
        show CHr Z consts_1 s.vm h0 T767.vm T767.heap
        exact R775.trans (CHv.at X767 hZ (own_EW hw) R775.1)
    subst c778
    exact ((own_len lls739) (y774.mp rfl)).elim
  have g781 : Go p e below T106 (mkF m 423 #[iv p0, iv p1, iv p2, iv p3, iv p4, iv k, iv ch, .val cv, .unset, .unset, .unset, .unset, .unset, .unset] [(.int (3 : Int32)), (.int k)]) A0 := by
    intro t kont
    refine g616 t ?_
    refine XS.icmpYes X106.here hx rfl (pc0 := 327) (pc' := 420) rfl (hb hby at_327) rfl (feq c615).2 (by decide) (by decide) ?_
    refine XS.iload X106.here hx rfl (hb hby at_420) rfl ?_
    refine XS.iconst X106.here hx rfl (hb hby at_422) ?_
    exact kont
  by_cases c780 : k = (3 : Int32)
  ·
    have g783 : Go p e below T106 (mkF m 429 #[iv p0, iv p1, iv p2, iv p3, iv p4, iv k, iv ch, .val cv, .unset, .unset, .unset, .unset, .unset, .unset] [(.int (p3 &&& (1 : Int32)))]) A0 := by
      intro t kont
      refine g781 t ?_
      refine XS.icmpNo X106.here hx rfl (hb hby at_423) rfl (teq c780).2 ?_
      refine XS.iloadN X106.here hx rfl (hb hby at_426) rfl ?_
      refine XS.iconst X106.here hx rfl (hb hby at_427) ?_
      refine XS.iand X106.here hx rfl (hb hby at_428) rfl ?_
      exact kont
    by_cases c782 : (p3 &&& (1 : Int32)) = (0 : Int32)
    ·
      have g784 : Go p e below T106 (mkF m 432 #[iv p0, iv p1, iv p2, iv p3, iv p4, iv k, iv ch, .val cv, .unset, .unset, .unset, .unset, .unset, .unset] []) A0 := by
        intro t kont
        refine g783 t ?_
        refine XS.ifNo X106.here hx rfl (hb hby at_429) rfl ((if0 _ _).trans (teq c782).2) ?_
        exact kont
      obtain ⟨b785, T785, h785, k785, c785, kc785, X785, e785, E785, hS, hk, hZ, hown, A785, F785, G785, V785, la785, lb785, C785, -, ne785, st785⟩ := ldcCH X106 hx hZ hown (hw _ (List.mem_of_getElem? (i := 82) rfl)) (own_wS hw) e106 hS hk (own_EW hw) (List.mem_of_getElem? (i := 3) rfl) R106.1 (vs := [(.int (97 : Int32)), (.int (112 : Int32)), (.int (112 : Int32)), (.int (108 : Int32)), (.int (105 : Int32)), (.int (99 : Int32)), (.int (97 : Int32)), (.int (116 : Int32)), (.int (105 : Int32)), (.int (111 : Int32)), (.int (110 : Int32)), (.int (47 : Int32)), (.int (120 : Int32)), (.int (104 : Int32)), (.int (116 : Int32)), (.int (109 : Int32)), (.int (108 : Int32)), (.int (43 : Int32)), (.int (120 : Int32)), (.int (109 : Int32))]) (z := (20 : Int32)) ⟨by decide, by decide⟩ (by decide) rfl (g := (mkF m 432 #[iv p0, iv p1, iv p2, iv p3, iv p4, iv k, iv ch, .val cv, .unset, .unset, .unset, .unset, .unset, .unset] [])) rfl (hb hby at_432) (n := 80) (by decide) (by decide) (by decide) (by decide)
      have R786 : CHr Z consts_1 s.vm h0 T785.vm h785 := R106.trans C785
      have O787 := O126.ext E785
      have g788 : Go p e below T785 (mkF m 434 #[iv p0, iv p1, iv p2, iv p3, iv p4, iv k, iv ch, .val cv, .unset, .unset, .unset, .unset, .unset, .unset] [(.ref b785)]) A0 := fun t kont => g784 t (st785 t kont)
      have y789 : Arv Z h785 c785 kc785 .byte (Int32.ofNat own_l19.length) (own_lb own_l19) (.int (0 : Int32)) := by rw [show own_lb own_l19 = [(.int (97 : Int32)), (.int (112 : Int32)), (.int (112 : Int32)), (.int (108 : Int32)), (.int (105 : Int32)), (.int (99 : Int32)), (.int (97 : Int32)), (.int (116 : Int32)), (.int (105 : Int32)), (.int (111 : Int32)), (.int (110 : Int32)), (.int (47 : Int32)), (.int (120 : Int32)), (.int (104 : Int32)), (.int (116 : Int32)), (.int (109 : Int32)), (.int (108 : Int32)), (.int (43 : Int32)), (.int (120 : Int32)), (.int (109 : Int32))] from rfl]; exact V785
      have g790 : Go p e below T785 (mkF m 805 #[iv p0, iv p1, iv p2, iv p3, iv p4, iv k, iv ch, .val cv, rv b785, iv (0 : Int32), .unset, .unset, .unset, .unset] []) A0 := by
        intro t kont
        refine g788 t ?_
        refine XS.astore X785.here hx rfl (hb hby at_434) rfl rfl (l' := #[iv p0, iv p1, iv p2, iv p3, iv p4, iv k, iv ch, .val cv, rv b785, .unset, .unset, .unset, .unset, .unset]) rfl ?_
        refine XS.goto X785.here hx rfl (pc0 := 436) (pc' := 582) rfl (hb hby at_436) (by decide) (by decide) ?_
        refine XS.iconst X785.here hx rfl (hb hby at_582) ?_
        refine XS.istore X785.here hx rfl (hb hby at_583) rfl (l' := #[iv p0, iv p1, iv p2, iv p3, iv p4, iv k, iv ch, .val cv, rv b785, iv (0 : Int32), .unset, .unset, .unset, .unset]) rfl ?_
        refine XS.goto X785.here hx rfl (pc0 := 585) (pc' := 805) rfl (hb hby at_585) (by decide) (by decide) ?_
        exact kont
      obtain ⟨T791, h791, X791, e791, E791, A791, D791, -, st791⟩ := newO X785 hx hZ hown (hw _ (List.mem_of_getElem? (i := 31) rfl)) (hw _ (List.mem_of_getElem? (i := 32) rfl)) (hw _ (List.mem_of_getElem? (i := 33) rfl)) e785 (g := (mkF m 805 #[iv p0, iv p1, iv p2, iv p3, iv p4, iv k, iv ch, .val cv, rv b785, iv (0 : Int32), .unset, .unset, .unset, .unset] [])) rfl (hb hby at_805) (by decide) (by decide)
      obtain ⟨b791, gb791⟩ : ∃ z, z = h785.size := ⟨_, rfl⟩
      rw [← gb791] at A791 D791 st791
      have R792 : CHr Z consts_1 s.vm h0 T785.vm h791 := R786.trans (CHr.ext E791 R786.1)
      have O793 := O787.ext E791
      have y794 : Fld Z h791 b791 "com/example/fetch_from_near/fetchfromnear/ContentType" "mediaType" "Ljava/lang/String;" .null := D791 (Or.inr (hw _ (List.mem_of_getElem? (i := 44) rfl))) (ty := (.object "java/lang/String")) (by decide)
      have y795 : Fld Z h791 b791 "com/example/fetch_from_near/fetchfromnear/ContentType" "charset" "Ljava/lang/String;" .null := D791 (Or.inr (hw _ (List.mem_of_getElem? (i := 46) rfl))) (ty := (.object "java/lang/String")) (by decide)
      have g796 : Go p e below T791 (mkF m 808 #[iv p0, iv p1, iv p2, iv p3, iv p4, iv k, iv ch, .val cv, rv b785, iv (0 : Int32), .unset, .unset, .unset, .unset] [(.ref b791)]) A0 := fun t kont => g790 t (st791 t kont)
      have g797 : Go p e below T791 (mkF m 813 #[iv p0, iv p1, iv p2, iv p3, iv p4, iv k, iv ch, .val cv, rv b785, iv (0 : Int32), .unset, .unset, .unset, .unset] [cv, (.ref b785), (.ref b791), (.ref b791)]) A0 := by
        intro t kont
        refine g796 t ?_
        refine XS.dup X791.here hx rfl (hb hby at_808) rfl rfl ?_
        refine XS.aload X791.here hx rfl (hb hby at_809) rfl rfl ?_
        refine XS.aload X791.here hx rfl (hb hby at_811) rfl (h_cv) ?_
        exact kont
      have ge799 : n0 ≤ b791 := Nat.le_trans (own_old_le O787) (Nat.le_of_eq gb791.symm)
      obtain ⟨_, _, ⟨T798, L798, k798, n798⟩, -, X798, ⟨Lc798, hQ798, l798, y798, z798⟩, st798⟩ := X791.specialBack hx (y := (⟨"com/example/fetch_from_near/fetchfromnear/ContentType", "<init>", "(Ljava/lang/String;Ljava/lang/String;)V"⟩ : MethodName)) rfl hown (mvT hZ (hw _ (List.mem_of_getElem? (i := 34) rfl))) (mvT hZ (hw _ (List.mem_of_getElem? (i := 35) rfl))) (mvT hZ (hw _ (List.mem_of_getElem? (i := 36) rfl))) (by decide) (backOf (W := 1) (rm_ctR l Z a0 hw [] b791 b785 cv h791 n0 O793 A791 y794 y795 ge799 h_cv) hZ (hw _ (List.mem_of_getElem? (i := 36) rfl)) (hw _ (List.mem_of_getElem? (i := 33) rfl)) (by decide) (by decide)) (g := (mkF m 813 #[iv p0, iv p1, iv p2, iv p3, iv p4, iv k, iv ch, .val cv, rv b785, iv (0 : Int32), .unset, .unset, .unset, .unset] [cv, (.ref b785), (.ref b791), (.ref b791)])) rfl (by rw [hml]; rfl) (Steps.refl _) (a := b791) (argsL := [(.ref b785), cv]) (rest := [(.ref b791)]) (lenOf pd_12 rfl) rfl (by show 2 * 0 + _ ≤ _; exact Nat.le_of_eq rfl) (hb hby at_813) (fun _ _ => ⟨rfl, e791, (by decide : 5 + 0 ≤ _), (by decide : 91 + 0 ≤ _)⟩)
      dsimp only [Pt.U, Pt.locs, Pt.cells, Pt.slots] at X798 l798 y798 z798 st798 hQ798
      subst y798 z798
      obtain ⟨rfl, M798, K798, y800, y801⟩ := hQ798
      have N798 : Fr n0 L798 := by rw [l798]; exact Fr.app N106 M798
      have R802 : CHr Z consts_1 s.vm h0 T785.vm T798.heap := R792.trans (CHr.keep K798 (sfS (Safe.ext E791 R786.1 (Safe.new (Nat.le_of_eq gb791.symm))) sf0) R792.1)
      have O803 := O793.keep K798 (allS ge799 all0)
      have g804 : Go p e below T798 (mkF m 816 #[iv p0, iv p1, iv p2, iv p3, iv p4, iv k, iv ch, .val cv, rv b785, iv (0 : Int32), .unset, .unset, .unset, .unset] [(.ref b791)]) A0 := fun t kont => g797 t (st798.trans kont)
      have y806 : Exa Z T798.heap b785 "java/lang/String" := ((A785.ext E791).keep K798)
      have y807 : Fld Z T798.heap b785 "java/lang/String" "coder" "B" (.int (0 : Int32)) := ((F785.ext E791).keep K798 (ninS (Nat.ne_of_lt (Nat.lt_of_lt_of_le A785.lt (Nat.le_of_eq gb791.symm))) nin0))
      have y808 : Fld Z T798.heap b785 "java/lang/String" "value" "[B" (.ref c785) := ((G785.ext E791).keep K798 (ninS (Nat.ne_of_lt (Nat.lt_of_lt_of_le A785.lt (Nat.le_of_eq gb791.symm))) nin0))
      have y809 : Arv Z T798.heap c785 kc785 .byte (Int32.ofNat own_l19.length) (own_lb own_l19) (.int (0 : Int32)) := ((y789.ext E791).keep K798 (ninS (Nat.ne_of_lt (Nat.lt_of_lt_of_le V785.lt (Nat.le_of_eq gb791.symm))) nin0))
      obtain ⟨cq805, kq805, q805a, q805b, q805c⟩ := isOf hZ rfl y800
      obtain ⟨_, _, ⟨T805, L805, k805, n805⟩, -, X805, hS805, hg805, ⟨Lc805, hQ805, l805, y805, z805, C805⟩, st805⟩ := X798.virtualBackS hx (y := (⟨"com/example/fetch_from_near/fetchfromnear/ContentType", "isHtml", "()Z"⟩ : MethodName)) (z := (⟨"com/example/fetch_from_near/fetchfromnear/ContentType", "isHtml", "()Z"⟩ : MethodName)) hown (mvT hZ (hw _ (List.mem_of_getElem? (i := 47) rfl))) (mvT hZ (hw _ (List.mem_of_getElem? (i := 48) rfl))) (notFace_of_selects (args := #[]) (mvT hZ (hw _ (List.mem_of_getElem? (i := 50) rfl)))) (mvT hZ (hw _ (List.mem_of_getElem? (i := 50) rfl))) (mvT hZ (hw _ (List.mem_of_getElem? (i := 49) rfl))) (by decide) (backOfSH (W := 0) (rm_isHG l Z a0 hw [] b791 b785 c785 kc785 own_l19 i_COMPACT_STRINGS T798.heap n0 O803 S0_ hcs y801 y800 y806 y807 y808 y809 (by decide) (own_l19_c) (own_l19_l)) hZ (hw _ (List.mem_of_getElem? (i := 51) rfl)) (hw _ (List.mem_of_getElem? (i := 33) rfl)) (by decide) (by decide) (own_EW hw) R802.1) q805a q805c (g := (mkF m 816 #[iv p0, iv p1, iv p2, iv p3, iv p4, iv k, iv ch, .val cv, rv b785, iv (0 : Int32), .unset, .unset, .unset, .unset] [(.ref b791)])) rfl (by rw [hml]; rfl) (Steps.refl _) (argsL := []) (rest := []) (lenOf pd_13 rfl) rfl (by show 2 * 0 + _ ≤ _; exact Nat.le_of_eq rfl) (hb hby at_816) (fun _ _ => ⟨rfl, rfl, (by decide : 5 + 4 ≤ _), (by decide : 91 + 128 ≤ _)⟩)
      dsimp only [Pt.U, Pt.locs, Pt.cells, Pt.slots] at X805 l805 y805 z805 st805 hQ805 hS805 hg805 C805
      subst y805 z805
      obtain ⟨X805, hS, hZ, hown⟩ := rebS hS (n1 := T798.heap.size) (Nat.le_trans hk (Nat.le_trans E791.1 K798.1)) X805 hS805 hg805 hZ hown
      obtain ⟨r810, rfl, M805, K805, y811, y812⟩ := hQ805
      have N805 : Fr n0 L805 := by rw [l805]; exact Fr.app N798 M805
      have R813 : CHr Z consts_1 s.vm h0 T805.vm T805.heap := R802.trans C805
      have O814 := O803.keep K805 all0
      have g815 : Go p e below T805 (mkF m 819 #[iv p0, iv p1, iv p2, iv p3, iv p4, iv k, iv ch, .val cv, rv b785, iv (0 : Int32), .unset, .unset, .unset, .unset] [(.int r810)]) A0 := fun t kont => g804 t (st805.trans kont)
      rcases (y811 : r810 = (0 : Int32) ∨ r810 = (1 : Int32)) with c816 | c816
      ·
        subst c816
        have g817 : Go p e below T805 (mkF m 829 #[iv p0, iv p1, iv p2, iv p3, iv p4, iv k, iv ch, .val cv, rv b785, iv (0 : Int32), .unset, .unset, .unset, .unset] [(.int (1 : Int32))]) A0 := by
          intro t kont
          refine g815 t ?_
          refine XS.iload X805.here hx rfl (hb hby at_819) rfl ?_
          refine XS.icmpNo X805.here hx rfl (hb hby at_821) rfl (teq (by decide : (0 : Int32) = (0 : Int32))).2 ?_
          refine XS.iconst X805.here hx rfl (hb hby at_824) ?_
          refine XS.goto X805.here hx rfl (pc0 := 825) (pc' := 829) rfl (hb hby at_825) (by decide) (by decide) ?_
          exact kont
        obtain ⟨fs, hr, hrun, hended, hRW⟩ := X805.leaveW hS (Nat.le_refl _) (v := some (.int (1 : Int32))) (fun h => by rw [Bd.returns] at h; cases h)
        refine ⟨_, _, g817 _ (retN X805 hx (t := .boolean) Bd.returns (by simp) (hb hby at_829) hr), hrun, hended, _, _, rfl, ?_, ?_, hRW.1, hRW.2.1, hRW.2.2.1, hRW.2.2.2.mono (by decide) (by decide)⟩
        ·
          show Q_law Z p0 p1 p2 p3 p4 i_COMPACT_STRINGS h0 n0 _ T805.heap _
          exact ⟨rfl, N805⟩
        ·
          rw [hh]
          show CHr Z consts_1 s.vm h0 T805.vm T805.heap
          exact R813.trans (CHv.at X805 hZ (own_EW hw) R813.1)
      subst c816
      exact ((own_len (rfl : own_l19.length = 20)) (y812.mp rfl)).elim
    have g818 : Go p e below T106 (mkF m 441 #[iv p0, iv p1, iv p2, iv p3, iv p4, iv k, iv ch, .val cv, .unset, .unset, .unset, .unset, .unset, .unset] [(.int (22 : Int32))]) A0 := by
      intro t kont
      refine g783 t ?_
      refine XS.ifYes X106.here hx rfl (pc0 := 429) (pc' := 439) rfl (hb hby at_429) rfl ((if0 _ _).trans (feq c782).2) (by decide) (by decide) ?_
      refine XS.bipush X106.here hx rfl (hb hby at_439) ?_
      exact kont
    obtain ⟨T819, h819, k819, X819, e819, E819, A819, F819, st819⟩ := newPE X106 hx hZ (hw _ (List.mem_of_getElem? (i := 0) rfl)) e106 (g := (mkF m 441 #[iv p0, iv p1, iv p2, iv p3, iv p4, iv k, iv ch, .val cv, .unset, .unset, .unset, .unset, .unset, .unset] [(.int (22 : Int32))])) rfl (hb hby at_441) rfl (by decide) (cap := 22) (by decide) (by decide) (by decide) (by decide) (ad := "[C") (by decide)
    obtain ⟨b819, gb819⟩ : ∃ z, z = h106.size := ⟨_, rfl⟩
    rw [← gb819] at A819 F819 st819
    have R820 : CHr Z consts_1 s.vm h0 vm106 h819 := R106.trans (CHr.ext E819 R106.1)
    have O821 := O126.ext E819
    have y822 : Arv Z h819 b819 k819 .char (22 : Int32) (List.replicate 22 (.int (0 : Int32))) (.int (0 : Int32)) := (Arv.new A819 (by decide)).pad (pad_rep [] (.int (0 : Int32)) 22)
    obtain ⟨Ls823, hLs823⟩ : ∃ z : List Value, z = (List.replicate 22 (.int (0 : Int32))) := ⟨_, rfl⟩
    rw [← hLs823] at y822
    have lLs823 : Ls823.length = 22 := by rw [hLs823, List.length_replicate]
    have g824 : Go p e below T819 (mkF m 443 #[iv p0, iv p1, iv p2, iv p3, iv p4, iv k, iv ch, .val cv, .unset, .unset, .unset, .unset, .unset, .unset] [(.ref b819)]) A0 := fun t kont => g818 t (st819 t kont)
    have g825 : Go p e below T819 (mkF m 447 #[iv p0, iv p1, iv p2, iv p3, iv p4, iv k, iv ch, .val cv, .unset, .unset, .unset, .unset, .unset, .unset] [(.int (97 : Int32)), (.int (0 : Int32)), (.ref b819), (.ref b819)]) A0 := by
      intro t kont
      refine g824 t ?_
      refine XS.dup X819.here hx rfl (hb hby at_443) rfl rfl ?_
      refine XS.iconst X819.here hx rfl (hb hby at_444) ?_
      refine XS.bipush X819.here hx rfl (hb hby at_445) ?_
      exact kont
    have ge827 : n0 ≤ b819 := Nat.le_trans (own_old_le O126) (Nat.le_of_eq gb819.symm)
    have zz826 := y822
    obtain ⟨cl826, Ar826, q826, S826, M826, H826, G826⟩ := zz826
    have in826 : ¬ ((0 : Int32) < 0 ∨ cl826.slots.size ≤ ((0 : Int32)).toNatClampNeg) := inb_of S826 ⟨by decide, by decide⟩
    obtain ⟨T826, h826, X826, e826, W826, st826⟩ := stC X819 hx hZ e819 Ar826 (j := (0 : Int32)) in826 (g := (mkF m 447 #[iv p0, iv p1, iv p2, iv p3, iv p4, iv k, iv ch, .val cv, .unset, .unset, .unset, .unset, .unset, .unset] [(.int (97 : Int32)), (.int (0 : Int32)), (.ref b819), (.ref b819)])) rfl rfl (hb hby at_447)
    rw [show nar .char (97 : Int32) = (97 : Int32) from (by decide : nar .char (97 : Int32) = (97 : Int32))] at W826
    have R828 : CHr Z consts_1 s.vm h0 vm106 h826 := R820.trans (CHr.wr W826 (Safe.ext E819 R106.1 (Safe.new (Nat.le_of_eq gb819.symm))) R820.1)
    have O829 := O821.wr W826 ge827
    have y830 : Arv Z h826 b819 k819 .char (22 : Int32) (Ls823.set 0 (.int (97 : Int32))) (.int (0 : Int32)) := Arv.set Ar826 q826 S826 M826 H826 G826 (own_ft_char (z := (97 : Int32)) (by decide : nar .char (97 : Int32) = (97 : Int32))) W826 0 rfl (by rw [lLs823]; decide)
    obtain ⟨Ls831, hLs831⟩ : ∃ z : List Value, z = (Ls823.set 0 (.int (97 : Int32))) := ⟨_, rfl⟩
    rw [← hLs831] at y830
    have lLs831 : Ls831.length = 22 := by rw [hLs831, List.length_set, lLs823]
    have N826 := Fr.snoc X826 N106 ge827
    have g832 : Go p e below T826 (mkF m 448 #[iv p0, iv p1, iv p2, iv p3, iv p4, iv k, iv ch, .val cv, .unset, .unset, .unset, .unset, .unset, .unset] [(.ref b819)]) A0 := fun t kont => g825 t (st826 t kont)
    have g833 : Go p e below T826 (mkF m 452 #[iv p0, iv p1, iv p2, iv p3, iv p4, iv k, iv ch, .val cv, .unset, .unset, .unset, .unset, .unset, .unset] [(.int (112 : Int32)), (.int (1 : Int32)), (.ref b819), (.ref b819)]) A0 := by
      intro t kont
      refine g832 t ?_
      refine XS.dup X826.here hx rfl (hb hby at_448) rfl rfl ?_
      refine XS.iconst X826.here hx rfl (hb hby at_449) ?_
      refine XS.bipush X826.here hx rfl (hb hby at_450) ?_
      exact kont
    have zz834 := y830
    obtain ⟨cl834, Ar834, q834, S834, M834, H834, G834⟩ := zz834
    have in834 : ¬ ((1 : Int32) < 0 ∨ cl834.slots.size ≤ ((1 : Int32)).toNatClampNeg) := inb_of S834 ⟨by decide, by decide⟩
    obtain ⟨T834, h834, X834, e834, W834, st834⟩ := stC X826 hx hZ e826 Ar834 (j := (1 : Int32)) in834 (g := (mkF m 452 #[iv p0, iv p1, iv p2, iv p3, iv p4, iv k, iv ch, .val cv, .unset, .unset, .unset, .unset, .unset, .unset] [(.int (112 : Int32)), (.int (1 : Int32)), (.ref b819), (.ref b819)])) rfl rfl (hb hby at_452)
    rw [show nar .char (112 : Int32) = (112 : Int32) from (by decide : nar .char (112 : Int32) = (112 : Int32))] at W834
    have sf836 : Safe Z consts_1 vm106 h826 b819 := (Safe.wr W826 (Safe.ext E819 R106.1 (Safe.new (Nat.le_of_eq gb819.symm))) R820.1 (Safe.ext E819 R106.1 (Safe.new (Nat.le_of_eq gb819.symm))))
    have R835 : CHr Z consts_1 s.vm h0 vm106 h834 := R828.trans (CHr.wr W834 sf836 R828.1)
    have O837 := O829.wr W834 ge827
    have y838 : Arv Z h834 b819 k819 .char (22 : Int32) (Ls831.set 1 (.int (112 : Int32))) (.int (0 : Int32)) := Arv.set Ar834 q834 S834 M834 H834 G834 (own_ft_char (z := (112 : Int32)) (by decide : nar .char (112 : Int32) = (112 : Int32))) W834 1 rfl (by rw [lLs831]; decide)
    obtain ⟨Ls839, hLs839⟩ : ∃ z : List Value, z = (Ls831.set 1 (.int (112 : Int32))) := ⟨_, rfl⟩
    rw [← hLs839] at y838
    have lLs839 : Ls839.length = 22 := by rw [hLs839, List.length_set, lLs831]
    have N834 := Fr.snoc X834 N826 ge827
    have g840 : Go p e below T834 (mkF m 453 #[iv p0, iv p1, iv p2, iv p3, iv p4, iv k, iv ch, .val cv, .unset, .unset, .unset, .unset, .unset, .unset] [(.ref b819)]) A0 := fun t kont => g833 t (st834 t kont)
    have g841 : Go p e below T834 (mkF m 457 #[iv p0, iv p1, iv p2, iv p3, iv p4, iv k, iv ch, .val cv, .unset, .unset, .unset, .unset, .unset, .unset] [(.int (112 : Int32)), (.int (2 : Int32)), (.ref b819), (.ref b819)]) A0 := by
      intro t kont
      refine g840 t ?_
      refine XS.dup X834.here hx rfl (hb hby at_453) rfl rfl ?_
      refine XS.iconst X834.here hx rfl (hb hby at_454) ?_
      refine XS.bipush X834.here hx rfl (hb hby at_455) ?_
      exact kont
    have zz842 := y838
    obtain ⟨cl842, Ar842, q842, S842, M842, H842, G842⟩ := zz842
    have in842 : ¬ ((2 : Int32) < 0 ∨ cl842.slots.size ≤ ((2 : Int32)).toNatClampNeg) := inb_of S842 ⟨by decide, by decide⟩
    obtain ⟨T842, h842, X842, e842, W842, st842⟩ := stC X834 hx hZ e834 Ar842 (j := (2 : Int32)) in842 (g := (mkF m 457 #[iv p0, iv p1, iv p2, iv p3, iv p4, iv k, iv ch, .val cv, .unset, .unset, .unset, .unset, .unset, .unset] [(.int (112 : Int32)), (.int (2 : Int32)), (.ref b819), (.ref b819)])) rfl rfl (hb hby at_457)
    rw [show nar .char (112 : Int32) = (112 : Int32) from (by decide : nar .char (112 : Int32) = (112 : Int32))] at W842
    have sf844 : Safe Z consts_1 vm106 h834 b819 := (Safe.wr W834 sf836 R828.1 sf836)
    have R843 : CHr Z consts_1 s.vm h0 vm106 h842 := R835.trans (CHr.wr W842 sf844 R835.1)
    have O845 := O837.wr W842 ge827
    have y846 : Arv Z h842 b819 k819 .char (22 : Int32) (Ls839.set 2 (.int (112 : Int32))) (.int (0 : Int32)) := Arv.set Ar842 q842 S842 M842 H842 G842 (own_ft_char (z := (112 : Int32)) (by decide : nar .char (112 : Int32) = (112 : Int32))) W842 2 rfl (by rw [lLs839]; decide)
    obtain ⟨Ls847, hLs847⟩ : ∃ z : List Value, z = (Ls839.set 2 (.int (112 : Int32))) := ⟨_, rfl⟩
    rw [← hLs847] at y846
    have lLs847 : Ls847.length = 22 := by rw [hLs847, List.length_set, lLs839]
    have N842 := Fr.snoc X842 N834 ge827
    have g848 : Go p e below T842 (mkF m 458 #[iv p0, iv p1, iv p2, iv p3, iv p4, iv k, iv ch, .val cv, .unset, .unset, .unset, .unset, .unset, .unset] [(.ref b819)]) A0 := fun t kont => g841 t (st842 t kont)
    have g849 : Go p e below T842 (mkF m 462 #[iv p0, iv p1, iv p2, iv p3, iv p4, iv k, iv ch, .val cv, .unset, .unset, .unset, .unset, .unset, .unset] [(.int (108 : Int32)), (.int (3 : Int32)), (.ref b819), (.ref b819)]) A0 := by
      intro t kont
      refine g848 t ?_
      refine XS.dup X842.here hx rfl (hb hby at_458) rfl rfl ?_
      refine XS.iconst X842.here hx rfl (hb hby at_459) ?_
      refine XS.bipush X842.here hx rfl (hb hby at_460) ?_
      exact kont
    have zz850 := y846
    obtain ⟨cl850, Ar850, q850, S850, M850, H850, G850⟩ := zz850
    have in850 : ¬ ((3 : Int32) < 0 ∨ cl850.slots.size ≤ ((3 : Int32)).toNatClampNeg) := inb_of S850 ⟨by decide, by decide⟩
    obtain ⟨T850, h850, X850, e850, W850, st850⟩ := stC X842 hx hZ e842 Ar850 (j := (3 : Int32)) in850 (g := (mkF m 462 #[iv p0, iv p1, iv p2, iv p3, iv p4, iv k, iv ch, .val cv, .unset, .unset, .unset, .unset, .unset, .unset] [(.int (108 : Int32)), (.int (3 : Int32)), (.ref b819), (.ref b819)])) rfl rfl (hb hby at_462)
    rw [show nar .char (108 : Int32) = (108 : Int32) from (by decide : nar .char (108 : Int32) = (108 : Int32))] at W850
    have sf852 : Safe Z consts_1 vm106 h842 b819 := (Safe.wr W842 sf844 R835.1 sf844)
    have R851 : CHr Z consts_1 s.vm h0 vm106 h850 := R843.trans (CHr.wr W850 sf852 R843.1)
    have O853 := O845.wr W850 ge827
    have y854 : Arv Z h850 b819 k819 .char (22 : Int32) (Ls847.set 3 (.int (108 : Int32))) (.int (0 : Int32)) := Arv.set Ar850 q850 S850 M850 H850 G850 (own_ft_char (z := (108 : Int32)) (by decide : nar .char (108 : Int32) = (108 : Int32))) W850 3 rfl (by rw [lLs847]; decide)
    obtain ⟨Ls855, hLs855⟩ : ∃ z : List Value, z = (Ls847.set 3 (.int (108 : Int32))) := ⟨_, rfl⟩
    rw [← hLs855] at y854
    have lLs855 : Ls855.length = 22 := by rw [hLs855, List.length_set, lLs847]
    have N850 := Fr.snoc X850 N842 ge827
    have g856 : Go p e below T850 (mkF m 463 #[iv p0, iv p1, iv p2, iv p3, iv p4, iv k, iv ch, .val cv, .unset, .unset, .unset, .unset, .unset, .unset] [(.ref b819)]) A0 := fun t kont => g849 t (st850 t kont)
    have g857 : Go p e below T850 (mkF m 467 #[iv p0, iv p1, iv p2, iv p3, iv p4, iv k, iv ch, .val cv, .unset, .unset, .unset, .unset, .unset, .unset] [(.int (105 : Int32)), (.int (4 : Int32)), (.ref b819), (.ref b819)]) A0 := by
      intro t kont
      refine g856 t ?_
      refine XS.dup X850.here hx rfl (hb hby at_463) rfl rfl ?_
      refine XS.iconst X850.here hx rfl (hb hby at_464) ?_
      refine XS.bipush X850.here hx rfl (hb hby at_465) ?_
      exact kont
    have zz858 := y854
    obtain ⟨cl858, Ar858, q858, S858, M858, H858, G858⟩ := zz858
    have in858 : ¬ ((4 : Int32) < 0 ∨ cl858.slots.size ≤ ((4 : Int32)).toNatClampNeg) := inb_of S858 ⟨by decide, by decide⟩
    obtain ⟨T858, h858, X858, e858, W858, st858⟩ := stC X850 hx hZ e850 Ar858 (j := (4 : Int32)) in858 (g := (mkF m 467 #[iv p0, iv p1, iv p2, iv p3, iv p4, iv k, iv ch, .val cv, .unset, .unset, .unset, .unset, .unset, .unset] [(.int (105 : Int32)), (.int (4 : Int32)), (.ref b819), (.ref b819)])) rfl rfl (hb hby at_467)
    rw [show nar .char (105 : Int32) = (105 : Int32) from (by decide : nar .char (105 : Int32) = (105 : Int32))] at W858
    have sf860 : Safe Z consts_1 vm106 h850 b819 := (Safe.wr W850 sf852 R843.1 sf852)
    have R859 : CHr Z consts_1 s.vm h0 vm106 h858 := R851.trans (CHr.wr W858 sf860 R851.1)
    have O861 := O853.wr W858 ge827
    have y862 : Arv Z h858 b819 k819 .char (22 : Int32) (Ls855.set 4 (.int (105 : Int32))) (.int (0 : Int32)) := Arv.set Ar858 q858 S858 M858 H858 G858 (own_ft_char (z := (105 : Int32)) (by decide : nar .char (105 : Int32) = (105 : Int32))) W858 4 rfl (by rw [lLs855]; decide)
    obtain ⟨Ls863, hLs863⟩ : ∃ z : List Value, z = (Ls855.set 4 (.int (105 : Int32))) := ⟨_, rfl⟩
    rw [← hLs863] at y862
    have lLs863 : Ls863.length = 22 := by rw [hLs863, List.length_set, lLs855]
    have N858 := Fr.snoc X858 N850 ge827
    have g864 : Go p e below T858 (mkF m 468 #[iv p0, iv p1, iv p2, iv p3, iv p4, iv k, iv ch, .val cv, .unset, .unset, .unset, .unset, .unset, .unset] [(.ref b819)]) A0 := fun t kont => g857 t (st858 t kont)
    have g865 : Go p e below T858 (mkF m 472 #[iv p0, iv p1, iv p2, iv p3, iv p4, iv k, iv ch, .val cv, .unset, .unset, .unset, .unset, .unset, .unset] [(.int (99 : Int32)), (.int (5 : Int32)), (.ref b819), (.ref b819)]) A0 := by
      intro t kont
      refine g864 t ?_
      refine XS.dup X858.here hx rfl (hb hby at_468) rfl rfl ?_
      refine XS.iconst X858.here hx rfl (hb hby at_469) ?_
      refine XS.bipush X858.here hx rfl (hb hby at_470) ?_
      exact kont
    have zz866 := y862
    obtain ⟨cl866, Ar866, q866, S866, M866, H866, G866⟩ := zz866
    have in866 : ¬ ((5 : Int32) < 0 ∨ cl866.slots.size ≤ ((5 : Int32)).toNatClampNeg) := inb_of S866 ⟨by decide, by decide⟩
    obtain ⟨T866, h866, X866, e866, W866, st866⟩ := stC X858 hx hZ e858 Ar866 (j := (5 : Int32)) in866 (g := (mkF m 472 #[iv p0, iv p1, iv p2, iv p3, iv p4, iv k, iv ch, .val cv, .unset, .unset, .unset, .unset, .unset, .unset] [(.int (99 : Int32)), (.int (5 : Int32)), (.ref b819), (.ref b819)])) rfl rfl (hb hby at_472)
    rw [show nar .char (99 : Int32) = (99 : Int32) from (by decide : nar .char (99 : Int32) = (99 : Int32))] at W866
    have sf868 : Safe Z consts_1 vm106 h858 b819 := (Safe.wr W858 sf860 R851.1 sf860)
    have R867 : CHr Z consts_1 s.vm h0 vm106 h866 := R859.trans (CHr.wr W866 sf868 R859.1)
    have O869 := O861.wr W866 ge827
    have y870 : Arv Z h866 b819 k819 .char (22 : Int32) (Ls863.set 5 (.int (99 : Int32))) (.int (0 : Int32)) := Arv.set Ar866 q866 S866 M866 H866 G866 (own_ft_char (z := (99 : Int32)) (by decide : nar .char (99 : Int32) = (99 : Int32))) W866 5 rfl (by rw [lLs863]; decide)
    obtain ⟨Ls871, hLs871⟩ : ∃ z : List Value, z = (Ls863.set 5 (.int (99 : Int32))) := ⟨_, rfl⟩
    rw [← hLs871] at y870
    have lLs871 : Ls871.length = 22 := by rw [hLs871, List.length_set, lLs863]
    have N866 := Fr.snoc X866 N858 ge827
    have g872 : Go p e below T866 (mkF m 473 #[iv p0, iv p1, iv p2, iv p3, iv p4, iv k, iv ch, .val cv, .unset, .unset, .unset, .unset, .unset, .unset] [(.ref b819)]) A0 := fun t kont => g865 t (st866 t kont)
    have g873 : Go p e below T866 (mkF m 478 #[iv p0, iv p1, iv p2, iv p3, iv p4, iv k, iv ch, .val cv, .unset, .unset, .unset, .unset, .unset, .unset] [(.int (97 : Int32)), (.int (6 : Int32)), (.ref b819), (.ref b819)]) A0 := by
      intro t kont
      refine g872 t ?_
      refine XS.dup X866.here hx rfl (hb hby at_473) rfl rfl ?_
      refine XS.bipush X866.here hx rfl (hb hby at_474) ?_
      refine XS.bipush X866.here hx rfl (hb hby at_476) ?_
      exact kont
    have zz874 := y870
    obtain ⟨cl874, Ar874, q874, S874, M874, H874, G874⟩ := zz874
    have in874 : ¬ ((6 : Int32) < 0 ∨ cl874.slots.size ≤ ((6 : Int32)).toNatClampNeg) := inb_of S874 ⟨by decide, by decide⟩
    obtain ⟨T874, h874, X874, e874, W874, st874⟩ := stC X866 hx hZ e866 Ar874 (j := (6 : Int32)) in874 (g := (mkF m 478 #[iv p0, iv p1, iv p2, iv p3, iv p4, iv k, iv ch, .val cv, .unset, .unset, .unset, .unset, .unset, .unset] [(.int (97 : Int32)), (.int (6 : Int32)), (.ref b819), (.ref b819)])) rfl rfl (hb hby at_478)
    rw [show nar .char (97 : Int32) = (97 : Int32) from (by decide : nar .char (97 : Int32) = (97 : Int32))] at W874
    have sf876 : Safe Z consts_1 vm106 h866 b819 := (Safe.wr W866 sf868 R859.1 sf868)
    have R875 : CHr Z consts_1 s.vm h0 vm106 h874 := R867.trans (CHr.wr W874 sf876 R867.1)
    have O877 := O869.wr W874 ge827
    have y878 : Arv Z h874 b819 k819 .char (22 : Int32) (Ls871.set 6 (.int (97 : Int32))) (.int (0 : Int32)) := Arv.set Ar874 q874 S874 M874 H874 G874 (own_ft_char (z := (97 : Int32)) (by decide : nar .char (97 : Int32) = (97 : Int32))) W874 6 rfl (by rw [lLs871]; decide)
    obtain ⟨Ls879, hLs879⟩ : ∃ z : List Value, z = (Ls871.set 6 (.int (97 : Int32))) := ⟨_, rfl⟩
    rw [← hLs879] at y878
    have lLs879 : Ls879.length = 22 := by rw [hLs879, List.length_set, lLs871]
    have N874 := Fr.snoc X874 N866 ge827
    have g880 : Go p e below T874 (mkF m 479 #[iv p0, iv p1, iv p2, iv p3, iv p4, iv k, iv ch, .val cv, .unset, .unset, .unset, .unset, .unset, .unset] [(.ref b819)]) A0 := fun t kont => g873 t (st874 t kont)
    have g881 : Go p e below T874 (mkF m 484 #[iv p0, iv p1, iv p2, iv p3, iv p4, iv k, iv ch, .val cv, .unset, .unset, .unset, .unset, .unset, .unset] [(.int (116 : Int32)), (.int (7 : Int32)), (.ref b819), (.ref b819)]) A0 := by
      intro t kont
      refine g880 t ?_
      refine XS.dup X874.here hx rfl (hb hby at_479) rfl rfl ?_
      refine XS.bipush X874.here hx rfl (hb hby at_480) ?_
      refine XS.bipush X874.here hx rfl (hb hby at_482) ?_
      exact kont
    have zz882 := y878
    obtain ⟨cl882, Ar882, q882, S882, M882, H882, G882⟩ := zz882
    have in882 : ¬ ((7 : Int32) < 0 ∨ cl882.slots.size ≤ ((7 : Int32)).toNatClampNeg) := inb_of S882 ⟨by decide, by decide⟩
    obtain ⟨T882, h882, X882, e882, W882, st882⟩ := stC X874 hx hZ e874 Ar882 (j := (7 : Int32)) in882 (g := (mkF m 484 #[iv p0, iv p1, iv p2, iv p3, iv p4, iv k, iv ch, .val cv, .unset, .unset, .unset, .unset, .unset, .unset] [(.int (116 : Int32)), (.int (7 : Int32)), (.ref b819), (.ref b819)])) rfl rfl (hb hby at_484)
    rw [show nar .char (116 : Int32) = (116 : Int32) from (by decide : nar .char (116 : Int32) = (116 : Int32))] at W882
    have sf884 : Safe Z consts_1 vm106 h874 b819 := (Safe.wr W874 sf876 R867.1 sf876)
    have R883 : CHr Z consts_1 s.vm h0 vm106 h882 := R875.trans (CHr.wr W882 sf884 R875.1)
    have O885 := O877.wr W882 ge827
    have y886 : Arv Z h882 b819 k819 .char (22 : Int32) (Ls879.set 7 (.int (116 : Int32))) (.int (0 : Int32)) := Arv.set Ar882 q882 S882 M882 H882 G882 (own_ft_char (z := (116 : Int32)) (by decide : nar .char (116 : Int32) = (116 : Int32))) W882 7 rfl (by rw [lLs879]; decide)
    obtain ⟨Ls887, hLs887⟩ : ∃ z : List Value, z = (Ls879.set 7 (.int (116 : Int32))) := ⟨_, rfl⟩
    rw [← hLs887] at y886
    have lLs887 : Ls887.length = 22 := by rw [hLs887, List.length_set, lLs879]
    have N882 := Fr.snoc X882 N874 ge827
    have g888 : Go p e below T882 (mkF m 485 #[iv p0, iv p1, iv p2, iv p3, iv p4, iv k, iv ch, .val cv, .unset, .unset, .unset, .unset, .unset, .unset] [(.ref b819)]) A0 := fun t kont => g881 t (st882 t kont)
    have g889 : Go p e below T882 (mkF m 490 #[iv p0, iv p1, iv p2, iv p3, iv p4, iv k, iv ch, .val cv, .unset, .unset, .unset, .unset, .unset, .unset] [(.int (105 : Int32)), (.int (8 : Int32)), (.ref b819), (.ref b819)]) A0 := by
      intro t kont
      refine g888 t ?_
      refine XS.dup X882.here hx rfl (hb hby at_485) rfl rfl ?_
      refine XS.bipush X882.here hx rfl (hb hby at_486) ?_
      refine XS.bipush X882.here hx rfl (hb hby at_488) ?_
      exact kont
    have zz890 := y886
    obtain ⟨cl890, Ar890, q890, S890, M890, H890, G890⟩ := zz890
    have in890 : ¬ ((8 : Int32) < 0 ∨ cl890.slots.size ≤ ((8 : Int32)).toNatClampNeg) := inb_of S890 ⟨by decide, by decide⟩
    obtain ⟨T890, h890, X890, e890, W890, st890⟩ := stC X882 hx hZ e882 Ar890 (j := (8 : Int32)) in890 (g := (mkF m 490 #[iv p0, iv p1, iv p2, iv p3, iv p4, iv k, iv ch, .val cv, .unset, .unset, .unset, .unset, .unset, .unset] [(.int (105 : Int32)), (.int (8 : Int32)), (.ref b819), (.ref b819)])) rfl rfl (hb hby at_490)
    rw [show nar .char (105 : Int32) = (105 : Int32) from (by decide : nar .char (105 : Int32) = (105 : Int32))] at W890
    have sf892 : Safe Z consts_1 vm106 h882 b819 := (Safe.wr W882 sf884 R875.1 sf884)
    have R891 : CHr Z consts_1 s.vm h0 vm106 h890 := R883.trans (CHr.wr W890 sf892 R883.1)
    have O893 := O885.wr W890 ge827
    have y894 : Arv Z h890 b819 k819 .char (22 : Int32) (Ls887.set 8 (.int (105 : Int32))) (.int (0 : Int32)) := Arv.set Ar890 q890 S890 M890 H890 G890 (own_ft_char (z := (105 : Int32)) (by decide : nar .char (105 : Int32) = (105 : Int32))) W890 8 rfl (by rw [lLs887]; decide)
    obtain ⟨Ls895, hLs895⟩ : ∃ z : List Value, z = (Ls887.set 8 (.int (105 : Int32))) := ⟨_, rfl⟩
    rw [← hLs895] at y894
    have lLs895 : Ls895.length = 22 := by rw [hLs895, List.length_set, lLs887]
    have N890 := Fr.snoc X890 N882 ge827
    have g896 : Go p e below T890 (mkF m 491 #[iv p0, iv p1, iv p2, iv p3, iv p4, iv k, iv ch, .val cv, .unset, .unset, .unset, .unset, .unset, .unset] [(.ref b819)]) A0 := fun t kont => g889 t (st890 t kont)
    have g897 : Go p e below T890 (mkF m 496 #[iv p0, iv p1, iv p2, iv p3, iv p4, iv k, iv ch, .val cv, .unset, .unset, .unset, .unset, .unset, .unset] [(.int (111 : Int32)), (.int (9 : Int32)), (.ref b819), (.ref b819)]) A0 := by
      intro t kont
      refine g896 t ?_
      refine XS.dup X890.here hx rfl (hb hby at_491) rfl rfl ?_
      refine XS.bipush X890.here hx rfl (hb hby at_492) ?_
      refine XS.bipush X890.here hx rfl (hb hby at_494) ?_
      exact kont
    have zz898 := y894
    obtain ⟨cl898, Ar898, q898, S898, M898, H898, G898⟩ := zz898
    have in898 : ¬ ((9 : Int32) < 0 ∨ cl898.slots.size ≤ ((9 : Int32)).toNatClampNeg) := inb_of S898 ⟨by decide, by decide⟩
    obtain ⟨T898, h898, X898, e898, W898, st898⟩ := stC X890 hx hZ e890 Ar898 (j := (9 : Int32)) in898 (g := (mkF m 496 #[iv p0, iv p1, iv p2, iv p3, iv p4, iv k, iv ch, .val cv, .unset, .unset, .unset, .unset, .unset, .unset] [(.int (111 : Int32)), (.int (9 : Int32)), (.ref b819), (.ref b819)])) rfl rfl (hb hby at_496)
    rw [show nar .char (111 : Int32) = (111 : Int32) from (by decide : nar .char (111 : Int32) = (111 : Int32))] at W898
    have sf900 : Safe Z consts_1 vm106 h890 b819 := (Safe.wr W890 sf892 R883.1 sf892)
    have R899 : CHr Z consts_1 s.vm h0 vm106 h898 := R891.trans (CHr.wr W898 sf900 R891.1)
    have O901 := O893.wr W898 ge827
    have y902 : Arv Z h898 b819 k819 .char (22 : Int32) (Ls895.set 9 (.int (111 : Int32))) (.int (0 : Int32)) := Arv.set Ar898 q898 S898 M898 H898 G898 (own_ft_char (z := (111 : Int32)) (by decide : nar .char (111 : Int32) = (111 : Int32))) W898 9 rfl (by rw [lLs895]; decide)
    obtain ⟨Ls903, hLs903⟩ : ∃ z : List Value, z = (Ls895.set 9 (.int (111 : Int32))) := ⟨_, rfl⟩
    rw [← hLs903] at y902
    have lLs903 : Ls903.length = 22 := by rw [hLs903, List.length_set, lLs895]
    have N898 := Fr.snoc X898 N890 ge827
    have g904 : Go p e below T898 (mkF m 497 #[iv p0, iv p1, iv p2, iv p3, iv p4, iv k, iv ch, .val cv, .unset, .unset, .unset, .unset, .unset, .unset] [(.ref b819)]) A0 := fun t kont => g897 t (st898 t kont)
    have g905 : Go p e below T898 (mkF m 502 #[iv p0, iv p1, iv p2, iv p3, iv p4, iv k, iv ch, .val cv, .unset, .unset, .unset, .unset, .unset, .unset] [(.int (110 : Int32)), (.int (10 : Int32)), (.ref b819), (.ref b819)]) A0 := by
      intro t kont
      refine g904 t ?_
      refine XS.dup X898.here hx rfl (hb hby at_497) rfl rfl ?_
      refine XS.bipush X898.here hx rfl (hb hby at_498) ?_
      refine XS.bipush X898.here hx rfl (hb hby at_500) ?_
      exact kont
    have zz906 := y902
    obtain ⟨cl906, Ar906, q906, S906, M906, H906, G906⟩ := zz906
    have in906 : ¬ ((10 : Int32) < 0 ∨ cl906.slots.size ≤ ((10 : Int32)).toNatClampNeg) := inb_of S906 ⟨by decide, by decide⟩
    obtain ⟨T906, h906, X906, e906, W906, st906⟩ := stC X898 hx hZ e898 Ar906 (j := (10 : Int32)) in906 (g := (mkF m 502 #[iv p0, iv p1, iv p2, iv p3, iv p4, iv k, iv ch, .val cv, .unset, .unset, .unset, .unset, .unset, .unset] [(.int (110 : Int32)), (.int (10 : Int32)), (.ref b819), (.ref b819)])) rfl rfl (hb hby at_502)
    rw [show nar .char (110 : Int32) = (110 : Int32) from (by decide : nar .char (110 : Int32) = (110 : Int32))] at W906
    have sf908 : Safe Z consts_1 vm106 h898 b819 := (Safe.wr W898 sf900 R891.1 sf900)
    have R907 : CHr Z consts_1 s.vm h0 vm106 h906 := R899.trans (CHr.wr W906 sf908 R899.1)
    have O909 := O901.wr W906 ge827
    have y910 : Arv Z h906 b819 k819 .char (22 : Int32) (Ls903.set 10 (.int (110 : Int32))) (.int (0 : Int32)) := Arv.set Ar906 q906 S906 M906 H906 G906 (own_ft_char (z := (110 : Int32)) (by decide : nar .char (110 : Int32) = (110 : Int32))) W906 10 rfl (by rw [lLs903]; decide)
    obtain ⟨Ls911, hLs911⟩ : ∃ z : List Value, z = (Ls903.set 10 (.int (110 : Int32))) := ⟨_, rfl⟩
    rw [← hLs911] at y910
    have lLs911 : Ls911.length = 22 := by rw [hLs911, List.length_set, lLs903]
    have N906 := Fr.snoc X906 N898 ge827
    have g912 : Go p e below T906 (mkF m 503 #[iv p0, iv p1, iv p2, iv p3, iv p4, iv k, iv ch, .val cv, .unset, .unset, .unset, .unset, .unset, .unset] [(.ref b819)]) A0 := fun t kont => g905 t (st906 t kont)
    have g913 : Go p e below T906 (mkF m 508 #[iv p0, iv p1, iv p2, iv p3, iv p4, iv k, iv ch, .val cv, .unset, .unset, .unset, .unset, .unset, .unset] [(.int (47 : Int32)), (.int (11 : Int32)), (.ref b819), (.ref b819)]) A0 := by
      intro t kont
      refine g912 t ?_
      refine XS.dup X906.here hx rfl (hb hby at_503) rfl rfl ?_
      refine XS.bipush X906.here hx rfl (hb hby at_504) ?_
      refine XS.bipush X906.here hx rfl (hb hby at_506) ?_
      exact kont
    have zz914 := y910
    obtain ⟨cl914, Ar914, q914, S914, M914, H914, G914⟩ := zz914
    have in914 : ¬ ((11 : Int32) < 0 ∨ cl914.slots.size ≤ ((11 : Int32)).toNatClampNeg) := inb_of S914 ⟨by decide, by decide⟩
    obtain ⟨T914, h914, X914, e914, W914, st914⟩ := stC X906 hx hZ e906 Ar914 (j := (11 : Int32)) in914 (g := (mkF m 508 #[iv p0, iv p1, iv p2, iv p3, iv p4, iv k, iv ch, .val cv, .unset, .unset, .unset, .unset, .unset, .unset] [(.int (47 : Int32)), (.int (11 : Int32)), (.ref b819), (.ref b819)])) rfl rfl (hb hby at_508)
    rw [show nar .char (47 : Int32) = (47 : Int32) from (by decide : nar .char (47 : Int32) = (47 : Int32))] at W914
    have sf916 : Safe Z consts_1 vm106 h906 b819 := (Safe.wr W906 sf908 R899.1 sf908)
    have R915 : CHr Z consts_1 s.vm h0 vm106 h914 := R907.trans (CHr.wr W914 sf916 R907.1)
    have O917 := O909.wr W914 ge827
    have y918 : Arv Z h914 b819 k819 .char (22 : Int32) (Ls911.set 11 (.int (47 : Int32))) (.int (0 : Int32)) := Arv.set Ar914 q914 S914 M914 H914 G914 (own_ft_char (z := (47 : Int32)) (by decide : nar .char (47 : Int32) = (47 : Int32))) W914 11 rfl (by rw [lLs911]; decide)
    obtain ⟨Ls919, hLs919⟩ : ∃ z : List Value, z = (Ls911.set 11 (.int (47 : Int32))) := ⟨_, rfl⟩
    rw [← hLs919] at y918
    have lLs919 : Ls919.length = 22 := by rw [hLs919, List.length_set, lLs911]
    have N914 := Fr.snoc X914 N906 ge827
    have g920 : Go p e below T914 (mkF m 509 #[iv p0, iv p1, iv p2, iv p3, iv p4, iv k, iv ch, .val cv, .unset, .unset, .unset, .unset, .unset, .unset] [(.ref b819)]) A0 := fun t kont => g913 t (st914 t kont)
    have g921 : Go p e below T914 (mkF m 514 #[iv p0, iv p1, iv p2, iv p3, iv p4, iv k, iv ch, .val cv, .unset, .unset, .unset, .unset, .unset, .unset] [(.int (120 : Int32)), (.int (12 : Int32)), (.ref b819), (.ref b819)]) A0 := by
      intro t kont
      refine g920 t ?_
      refine XS.dup X914.here hx rfl (hb hby at_509) rfl rfl ?_
      refine XS.bipush X914.here hx rfl (hb hby at_510) ?_
      refine XS.bipush X914.here hx rfl (hb hby at_512) ?_
      exact kont
    have zz922 := y918
    obtain ⟨cl922, Ar922, q922, S922, M922, H922, G922⟩ := zz922
    have in922 : ¬ ((12 : Int32) < 0 ∨ cl922.slots.size ≤ ((12 : Int32)).toNatClampNeg) := inb_of S922 ⟨by decide, by decide⟩
    obtain ⟨T922, h922, X922, e922, W922, st922⟩ := stC X914 hx hZ e914 Ar922 (j := (12 : Int32)) in922 (g := (mkF m 514 #[iv p0, iv p1, iv p2, iv p3, iv p4, iv k, iv ch, .val cv, .unset, .unset, .unset, .unset, .unset, .unset] [(.int (120 : Int32)), (.int (12 : Int32)), (.ref b819), (.ref b819)])) rfl rfl (hb hby at_514)
    rw [show nar .char (120 : Int32) = (120 : Int32) from (by decide : nar .char (120 : Int32) = (120 : Int32))] at W922
    have sf924 : Safe Z consts_1 vm106 h914 b819 := (Safe.wr W914 sf916 R907.1 sf916)
    have R923 : CHr Z consts_1 s.vm h0 vm106 h922 := R915.trans (CHr.wr W922 sf924 R915.1)
    have O925 := O917.wr W922 ge827
    have y926 : Arv Z h922 b819 k819 .char (22 : Int32) (Ls919.set 12 (.int (120 : Int32))) (.int (0 : Int32)) := Arv.set Ar922 q922 S922 M922 H922 G922 (own_ft_char (z := (120 : Int32)) (by decide : nar .char (120 : Int32) = (120 : Int32))) W922 12 rfl (by rw [lLs919]; decide)
    obtain ⟨Ls927, hLs927⟩ : ∃ z : List Value, z = (Ls919.set 12 (.int (120 : Int32))) := ⟨_, rfl⟩
    rw [← hLs927] at y926
    have lLs927 : Ls927.length = 22 := by rw [hLs927, List.length_set, lLs919]
    have N922 := Fr.snoc X922 N914 ge827
    have g928 : Go p e below T922 (mkF m 515 #[iv p0, iv p1, iv p2, iv p3, iv p4, iv k, iv ch, .val cv, .unset, .unset, .unset, .unset, .unset, .unset] [(.ref b819)]) A0 := fun t kont => g921 t (st922 t kont)
    have g929 : Go p e below T922 (mkF m 520 #[iv p0, iv p1, iv p2, iv p3, iv p4, iv k, iv ch, .val cv, .unset, .unset, .unset, .unset, .unset, .unset] [(.int (104 : Int32)), (.int (13 : Int32)), (.ref b819), (.ref b819)]) A0 := by
      intro t kont
      refine g928 t ?_
      refine XS.dup X922.here hx rfl (hb hby at_515) rfl rfl ?_
      refine XS.bipush X922.here hx rfl (hb hby at_516) ?_
      refine XS.bipush X922.here hx rfl (hb hby at_518) ?_
      exact kont
    have zz930 := y926
    obtain ⟨cl930, Ar930, q930, S930, M930, H930, G930⟩ := zz930
    have in930 : ¬ ((13 : Int32) < 0 ∨ cl930.slots.size ≤ ((13 : Int32)).toNatClampNeg) := inb_of S930 ⟨by decide, by decide⟩
    obtain ⟨T930, h930, X930, e930, W930, st930⟩ := stC X922 hx hZ e922 Ar930 (j := (13 : Int32)) in930 (g := (mkF m 520 #[iv p0, iv p1, iv p2, iv p3, iv p4, iv k, iv ch, .val cv, .unset, .unset, .unset, .unset, .unset, .unset] [(.int (104 : Int32)), (.int (13 : Int32)), (.ref b819), (.ref b819)])) rfl rfl (hb hby at_520)
    rw [show nar .char (104 : Int32) = (104 : Int32) from (by decide : nar .char (104 : Int32) = (104 : Int32))] at W930
    have sf932 : Safe Z consts_1 vm106 h922 b819 := (Safe.wr W922 sf924 R915.1 sf924)
    have R931 : CHr Z consts_1 s.vm h0 vm106 h930 := R923.trans (CHr.wr W930 sf932 R923.1)
    have O933 := O925.wr W930 ge827
    have y934 : Arv Z h930 b819 k819 .char (22 : Int32) (Ls927.set 13 (.int (104 : Int32))) (.int (0 : Int32)) := Arv.set Ar930 q930 S930 M930 H930 G930 (own_ft_char (z := (104 : Int32)) (by decide : nar .char (104 : Int32) = (104 : Int32))) W930 13 rfl (by rw [lLs927]; decide)
    obtain ⟨Ls935, hLs935⟩ : ∃ z : List Value, z = (Ls927.set 13 (.int (104 : Int32))) := ⟨_, rfl⟩
    rw [← hLs935] at y934
    have lLs935 : Ls935.length = 22 := by rw [hLs935, List.length_set, lLs927]
    have N930 := Fr.snoc X930 N922 ge827
    have g936 : Go p e below T930 (mkF m 521 #[iv p0, iv p1, iv p2, iv p3, iv p4, iv k, iv ch, .val cv, .unset, .unset, .unset, .unset, .unset, .unset] [(.ref b819)]) A0 := fun t kont => g929 t (st930 t kont)
    have g937 : Go p e below T930 (mkF m 526 #[iv p0, iv p1, iv p2, iv p3, iv p4, iv k, iv ch, .val cv, .unset, .unset, .unset, .unset, .unset, .unset] [(.int (116 : Int32)), (.int (14 : Int32)), (.ref b819), (.ref b819)]) A0 := by
      intro t kont
      refine g936 t ?_
      refine XS.dup X930.here hx rfl (hb hby at_521) rfl rfl ?_
      refine XS.bipush X930.here hx rfl (hb hby at_522) ?_
      refine XS.bipush X930.here hx rfl (hb hby at_524) ?_
      exact kont
    have zz938 := y934
    obtain ⟨cl938, Ar938, q938, S938, M938, H938, G938⟩ := zz938
    have in938 : ¬ ((14 : Int32) < 0 ∨ cl938.slots.size ≤ ((14 : Int32)).toNatClampNeg) := inb_of S938 ⟨by decide, by decide⟩
    obtain ⟨T938, h938, X938, e938, W938, st938⟩ := stC X930 hx hZ e930 Ar938 (j := (14 : Int32)) in938 (g := (mkF m 526 #[iv p0, iv p1, iv p2, iv p3, iv p4, iv k, iv ch, .val cv, .unset, .unset, .unset, .unset, .unset, .unset] [(.int (116 : Int32)), (.int (14 : Int32)), (.ref b819), (.ref b819)])) rfl rfl (hb hby at_526)
    rw [show nar .char (116 : Int32) = (116 : Int32) from (by decide : nar .char (116 : Int32) = (116 : Int32))] at W938
    have sf940 : Safe Z consts_1 vm106 h930 b819 := (Safe.wr W930 sf932 R923.1 sf932)
    have R939 : CHr Z consts_1 s.vm h0 vm106 h938 := R931.trans (CHr.wr W938 sf940 R931.1)
    have O941 := O933.wr W938 ge827
    have y942 : Arv Z h938 b819 k819 .char (22 : Int32) (Ls935.set 14 (.int (116 : Int32))) (.int (0 : Int32)) := Arv.set Ar938 q938 S938 M938 H938 G938 (own_ft_char (z := (116 : Int32)) (by decide : nar .char (116 : Int32) = (116 : Int32))) W938 14 rfl (by rw [lLs935]; decide)
    obtain ⟨Ls943, hLs943⟩ : ∃ z : List Value, z = (Ls935.set 14 (.int (116 : Int32))) := ⟨_, rfl⟩
    rw [← hLs943] at y942
    have lLs943 : Ls943.length = 22 := by rw [hLs943, List.length_set, lLs935]
    have N938 := Fr.snoc X938 N930 ge827
    have g944 : Go p e below T938 (mkF m 527 #[iv p0, iv p1, iv p2, iv p3, iv p4, iv k, iv ch, .val cv, .unset, .unset, .unset, .unset, .unset, .unset] [(.ref b819)]) A0 := fun t kont => g937 t (st938 t kont)
    have g945 : Go p e below T938 (mkF m 532 #[iv p0, iv p1, iv p2, iv p3, iv p4, iv k, iv ch, .val cv, .unset, .unset, .unset, .unset, .unset, .unset] [(.int (109 : Int32)), (.int (15 : Int32)), (.ref b819), (.ref b819)]) A0 := by
      intro t kont
      refine g944 t ?_
      refine XS.dup X938.here hx rfl (hb hby at_527) rfl rfl ?_
      refine XS.bipush X938.here hx rfl (hb hby at_528) ?_
      refine XS.bipush X938.here hx rfl (hb hby at_530) ?_
      exact kont
    have zz946 := y942
    obtain ⟨cl946, Ar946, q946, S946, M946, H946, G946⟩ := zz946
    have in946 : ¬ ((15 : Int32) < 0 ∨ cl946.slots.size ≤ ((15 : Int32)).toNatClampNeg) := inb_of S946 ⟨by decide, by decide⟩
    obtain ⟨T946, h946, X946, e946, W946, st946⟩ := stC X938 hx hZ e938 Ar946 (j := (15 : Int32)) in946 (g := (mkF m 532 #[iv p0, iv p1, iv p2, iv p3, iv p4, iv k, iv ch, .val cv, .unset, .unset, .unset, .unset, .unset, .unset] [(.int (109 : Int32)), (.int (15 : Int32)), (.ref b819), (.ref b819)])) rfl rfl (hb hby at_532)
    rw [show nar .char (109 : Int32) = (109 : Int32) from (by decide : nar .char (109 : Int32) = (109 : Int32))] at W946
    have sf948 : Safe Z consts_1 vm106 h938 b819 := (Safe.wr W938 sf940 R931.1 sf940)
    have R947 : CHr Z consts_1 s.vm h0 vm106 h946 := R939.trans (CHr.wr W946 sf948 R939.1)
    have O949 := O941.wr W946 ge827
    have y950 : Arv Z h946 b819 k819 .char (22 : Int32) (Ls943.set 15 (.int (109 : Int32))) (.int (0 : Int32)) := Arv.set Ar946 q946 S946 M946 H946 G946 (own_ft_char (z := (109 : Int32)) (by decide : nar .char (109 : Int32) = (109 : Int32))) W946 15 rfl (by rw [lLs943]; decide)
    obtain ⟨Ls951, hLs951⟩ : ∃ z : List Value, z = (Ls943.set 15 (.int (109 : Int32))) := ⟨_, rfl⟩
    rw [← hLs951] at y950
    have lLs951 : Ls951.length = 22 := by rw [hLs951, List.length_set, lLs943]
    have N946 := Fr.snoc X946 N938 ge827
    have g952 : Go p e below T946 (mkF m 533 #[iv p0, iv p1, iv p2, iv p3, iv p4, iv k, iv ch, .val cv, .unset, .unset, .unset, .unset, .unset, .unset] [(.ref b819)]) A0 := fun t kont => g945 t (st946 t kont)
    have g953 : Go p e below T946 (mkF m 538 #[iv p0, iv p1, iv p2, iv p3, iv p4, iv k, iv ch, .val cv, .unset, .unset, .unset, .unset, .unset, .unset] [(.int (108 : Int32)), (.int (16 : Int32)), (.ref b819), (.ref b819)]) A0 := by
      intro t kont
      refine g952 t ?_
      refine XS.dup X946.here hx rfl (hb hby at_533) rfl rfl ?_
      refine XS.bipush X946.here hx rfl (hb hby at_534) ?_
      refine XS.bipush X946.here hx rfl (hb hby at_536) ?_
      exact kont
    have zz954 := y950
    obtain ⟨cl954, Ar954, q954, S954, M954, H954, G954⟩ := zz954
    have in954 : ¬ ((16 : Int32) < 0 ∨ cl954.slots.size ≤ ((16 : Int32)).toNatClampNeg) := inb_of S954 ⟨by decide, by decide⟩
    obtain ⟨T954, h954, X954, e954, W954, st954⟩ := stC X946 hx hZ e946 Ar954 (j := (16 : Int32)) in954 (g := (mkF m 538 #[iv p0, iv p1, iv p2, iv p3, iv p4, iv k, iv ch, .val cv, .unset, .unset, .unset, .unset, .unset, .unset] [(.int (108 : Int32)), (.int (16 : Int32)), (.ref b819), (.ref b819)])) rfl rfl (hb hby at_538)
    rw [show nar .char (108 : Int32) = (108 : Int32) from (by decide : nar .char (108 : Int32) = (108 : Int32))] at W954
    have sf956 : Safe Z consts_1 vm106 h946 b819 := (Safe.wr W946 sf948 R939.1 sf948)
    have R955 : CHr Z consts_1 s.vm h0 vm106 h954 := R947.trans (CHr.wr W954 sf956 R947.1)
    have O957 := O949.wr W954 ge827
    have y958 : Arv Z h954 b819 k819 .char (22 : Int32) (Ls951.set 16 (.int (108 : Int32))) (.int (0 : Int32)) := Arv.set Ar954 q954 S954 M954 H954 G954 (own_ft_char (z := (108 : Int32)) (by decide : nar .char (108 : Int32) = (108 : Int32))) W954 16 rfl (by rw [lLs951]; decide)
    obtain ⟨Ls959, hLs959⟩ : ∃ z : List Value, z = (Ls951.set 16 (.int (108 : Int32))) := ⟨_, rfl⟩
    rw [← hLs959] at y958
    have lLs959 : Ls959.length = 22 := by rw [hLs959, List.length_set, lLs951]
    have N954 := Fr.snoc X954 N946 ge827
    have g960 : Go p e below T954 (mkF m 539 #[iv p0, iv p1, iv p2, iv p3, iv p4, iv k, iv ch, .val cv, .unset, .unset, .unset, .unset, .unset, .unset] [(.ref b819)]) A0 := fun t kont => g953 t (st954 t kont)
    have g961 : Go p e below T954 (mkF m 544 #[iv p0, iv p1, iv p2, iv p3, iv p4, iv k, iv ch, .val cv, .unset, .unset, .unset, .unset, .unset, .unset] [(.int (43 : Int32)), (.int (17 : Int32)), (.ref b819), (.ref b819)]) A0 := by
      intro t kont
      refine g960 t ?_
      refine XS.dup X954.here hx rfl (hb hby at_539) rfl rfl ?_
      refine XS.bipush X954.here hx rfl (hb hby at_540) ?_
      refine XS.bipush X954.here hx rfl (hb hby at_542) ?_
      exact kont
    have zz962 := y958
    obtain ⟨cl962, Ar962, q962, S962, M962, H962, G962⟩ := zz962
    have in962 : ¬ ((17 : Int32) < 0 ∨ cl962.slots.size ≤ ((17 : Int32)).toNatClampNeg) := inb_of S962 ⟨by decide, by decide⟩
    obtain ⟨T962, h962, X962, e962, W962, st962⟩ := stC X954 hx hZ e954 Ar962 (j := (17 : Int32)) in962 (g := (mkF m 544 #[iv p0, iv p1, iv p2, iv p3, iv p4, iv k, iv ch, .val cv, .unset, .unset, .unset, .unset, .unset, .unset] [(.int (43 : Int32)), (.int (17 : Int32)), (.ref b819), (.ref b819)])) rfl rfl (hb hby at_544)
    rw [show nar .char (43 : Int32) = (43 : Int32) from (by decide : nar .char (43 : Int32) = (43 : Int32))] at W962
    have sf964 : Safe Z consts_1 vm106 h954 b819 := (Safe.wr W954 sf956 R947.1 sf956)
    have R963 : CHr Z consts_1 s.vm h0 vm106 h962 := R955.trans (CHr.wr W962 sf964 R955.1)
    have O965 := O957.wr W962 ge827
    have y966 : Arv Z h962 b819 k819 .char (22 : Int32) (Ls959.set 17 (.int (43 : Int32))) (.int (0 : Int32)) := Arv.set Ar962 q962 S962 M962 H962 G962 (own_ft_char (z := (43 : Int32)) (by decide : nar .char (43 : Int32) = (43 : Int32))) W962 17 rfl (by rw [lLs959]; decide)
    obtain ⟨Ls967, hLs967⟩ : ∃ z : List Value, z = (Ls959.set 17 (.int (43 : Int32))) := ⟨_, rfl⟩
    rw [← hLs967] at y966
    have lLs967 : Ls967.length = 22 := by rw [hLs967, List.length_set, lLs959]
    have N962 := Fr.snoc X962 N954 ge827
    have g968 : Go p e below T962 (mkF m 545 #[iv p0, iv p1, iv p2, iv p3, iv p4, iv k, iv ch, .val cv, .unset, .unset, .unset, .unset, .unset, .unset] [(.ref b819)]) A0 := fun t kont => g961 t (st962 t kont)
    have g969 : Go p e below T962 (mkF m 550 #[iv p0, iv p1, iv p2, iv p3, iv p4, iv k, iv ch, .val cv, .unset, .unset, .unset, .unset, .unset, .unset] [(.int (120 : Int32)), (.int (18 : Int32)), (.ref b819), (.ref b819)]) A0 := by
      intro t kont
      refine g968 t ?_
      refine XS.dup X962.here hx rfl (hb hby at_545) rfl rfl ?_
      refine XS.bipush X962.here hx rfl (hb hby at_546) ?_
      refine XS.bipush X962.here hx rfl (hb hby at_548) ?_
      exact kont
    have zz970 := y966
    obtain ⟨cl970, Ar970, q970, S970, M970, H970, G970⟩ := zz970
    have in970 : ¬ ((18 : Int32) < 0 ∨ cl970.slots.size ≤ ((18 : Int32)).toNatClampNeg) := inb_of S970 ⟨by decide, by decide⟩
    obtain ⟨T970, h970, X970, e970, W970, st970⟩ := stC X962 hx hZ e962 Ar970 (j := (18 : Int32)) in970 (g := (mkF m 550 #[iv p0, iv p1, iv p2, iv p3, iv p4, iv k, iv ch, .val cv, .unset, .unset, .unset, .unset, .unset, .unset] [(.int (120 : Int32)), (.int (18 : Int32)), (.ref b819), (.ref b819)])) rfl rfl (hb hby at_550)
    rw [show nar .char (120 : Int32) = (120 : Int32) from (by decide : nar .char (120 : Int32) = (120 : Int32))] at W970
    have sf972 : Safe Z consts_1 vm106 h962 b819 := (Safe.wr W962 sf964 R955.1 sf964)
    have R971 : CHr Z consts_1 s.vm h0 vm106 h970 := R963.trans (CHr.wr W970 sf972 R963.1)
    have O973 := O965.wr W970 ge827
    have y974 : Arv Z h970 b819 k819 .char (22 : Int32) (Ls967.set 18 (.int (120 : Int32))) (.int (0 : Int32)) := Arv.set Ar970 q970 S970 M970 H970 G970 (own_ft_char (z := (120 : Int32)) (by decide : nar .char (120 : Int32) = (120 : Int32))) W970 18 rfl (by rw [lLs967]; decide)
    obtain ⟨Ls975, hLs975⟩ : ∃ z : List Value, z = (Ls967.set 18 (.int (120 : Int32))) := ⟨_, rfl⟩
    rw [← hLs975] at y974
    have lLs975 : Ls975.length = 22 := by rw [hLs975, List.length_set, lLs967]
    have N970 := Fr.snoc X970 N962 ge827
    have g976 : Go p e below T970 (mkF m 551 #[iv p0, iv p1, iv p2, iv p3, iv p4, iv k, iv ch, .val cv, .unset, .unset, .unset, .unset, .unset, .unset] [(.ref b819)]) A0 := fun t kont => g969 t (st970 t kont)
    have g977 : Go p e below T970 (mkF m 556 #[iv p0, iv p1, iv p2, iv p3, iv p4, iv k, iv ch, .val cv, .unset, .unset, .unset, .unset, .unset, .unset] [(.int (109 : Int32)), (.int (19 : Int32)), (.ref b819), (.ref b819)]) A0 := by
      intro t kont
      refine g976 t ?_
      refine XS.dup X970.here hx rfl (hb hby at_551) rfl rfl ?_
      refine XS.bipush X970.here hx rfl (hb hby at_552) ?_
      refine XS.bipush X970.here hx rfl (hb hby at_554) ?_
      exact kont
    have zz978 := y974
    obtain ⟨cl978, Ar978, q978, S978, M978, H978, G978⟩ := zz978
    have in978 : ¬ ((19 : Int32) < 0 ∨ cl978.slots.size ≤ ((19 : Int32)).toNatClampNeg) := inb_of S978 ⟨by decide, by decide⟩
    obtain ⟨T978, h978, X978, e978, W978, st978⟩ := stC X970 hx hZ e970 Ar978 (j := (19 : Int32)) in978 (g := (mkF m 556 #[iv p0, iv p1, iv p2, iv p3, iv p4, iv k, iv ch, .val cv, .unset, .unset, .unset, .unset, .unset, .unset] [(.int (109 : Int32)), (.int (19 : Int32)), (.ref b819), (.ref b819)])) rfl rfl (hb hby at_556)
    rw [show nar .char (109 : Int32) = (109 : Int32) from (by decide : nar .char (109 : Int32) = (109 : Int32))] at W978
    have sf980 : Safe Z consts_1 vm106 h970 b819 := (Safe.wr W970 sf972 R963.1 sf972)
    have R979 : CHr Z consts_1 s.vm h0 vm106 h978 := R971.trans (CHr.wr W978 sf980 R971.1)
    have O981 := O973.wr W978 ge827
    have y982 : Arv Z h978 b819 k819 .char (22 : Int32) (Ls975.set 19 (.int (109 : Int32))) (.int (0 : Int32)) := Arv.set Ar978 q978 S978 M978 H978 G978 (own_ft_char (z := (109 : Int32)) (by decide : nar .char (109 : Int32) = (109 : Int32))) W978 19 rfl (by rw [lLs975]; decide)
    obtain ⟨Ls983, hLs983⟩ : ∃ z : List Value, z = (Ls975.set 19 (.int (109 : Int32))) := ⟨_, rfl⟩
    rw [← hLs983] at y982
    have lLs983 : Ls983.length = 22 := by rw [hLs983, List.length_set, lLs975]
    have N978 := Fr.snoc X978 N970 ge827
    have g984 : Go p e below T978 (mkF m 557 #[iv p0, iv p1, iv p2, iv p3, iv p4, iv k, iv ch, .val cv, .unset, .unset, .unset, .unset, .unset, .unset] [(.ref b819)]) A0 := fun t kont => g977 t (st978 t kont)
    have g985 : Go p e below T978 (mkF m 562 #[iv p0, iv p1, iv p2, iv p3, iv p4, iv k, iv ch, .val cv, .unset, .unset, .unset, .unset, .unset, .unset] [(.int (108 : Int32)), (.int (20 : Int32)), (.ref b819), (.ref b819)]) A0 := by
      intro t kont
      refine g984 t ?_
      refine XS.dup X978.here hx rfl (hb hby at_557) rfl rfl ?_
      refine XS.bipush X978.here hx rfl (hb hby at_558) ?_
      refine XS.bipush X978.here hx rfl (hb hby at_560) ?_
      exact kont
    have zz986 := y982
    obtain ⟨cl986, Ar986, q986, S986, M986, H986, G986⟩ := zz986
    have in986 : ¬ ((20 : Int32) < 0 ∨ cl986.slots.size ≤ ((20 : Int32)).toNatClampNeg) := inb_of S986 ⟨by decide, by decide⟩
    obtain ⟨T986, h986, X986, e986, W986, st986⟩ := stC X978 hx hZ e978 Ar986 (j := (20 : Int32)) in986 (g := (mkF m 562 #[iv p0, iv p1, iv p2, iv p3, iv p4, iv k, iv ch, .val cv, .unset, .unset, .unset, .unset, .unset, .unset] [(.int (108 : Int32)), (.int (20 : Int32)), (.ref b819), (.ref b819)])) rfl rfl (hb hby at_562)
    rw [show nar .char (108 : Int32) = (108 : Int32) from (by decide : nar .char (108 : Int32) = (108 : Int32))] at W986
    have sf988 : Safe Z consts_1 vm106 h978 b819 := (Safe.wr W978 sf980 R971.1 sf980)
    have R987 : CHr Z consts_1 s.vm h0 vm106 h986 := R979.trans (CHr.wr W986 sf988 R979.1)
    have O989 := O981.wr W986 ge827
    have y990 : Arv Z h986 b819 k819 .char (22 : Int32) (Ls983.set 20 (.int (108 : Int32))) (.int (0 : Int32)) := Arv.set Ar986 q986 S986 M986 H986 G986 (own_ft_char (z := (108 : Int32)) (by decide : nar .char (108 : Int32) = (108 : Int32))) W986 20 rfl (by rw [lLs983]; decide)
    obtain ⟨Ls991, hLs991⟩ : ∃ z : List Value, z = (Ls983.set 20 (.int (108 : Int32))) := ⟨_, rfl⟩
    rw [← hLs991] at y990
    have lLs991 : Ls991.length = 22 := by rw [hLs991, List.length_set, lLs983]
    have N986 := Fr.snoc X986 N978 ge827
    have g992 : Go p e below T986 (mkF m 563 #[iv p0, iv p1, iv p2, iv p3, iv p4, iv k, iv ch, .val cv, .unset, .unset, .unset, .unset, .unset, .unset] [(.ref b819)]) A0 := fun t kont => g985 t (st986 t kont)
    have g993 : Go p e below T986 (mkF m 568 #[iv p0, iv p1, iv p2, iv p3, iv p4, iv k, iv ch, .val cv, .unset, .unset, .unset, .unset, .unset, .unset] [(.int ch), (.int (21 : Int32)), (.ref b819), (.ref b819)]) A0 := by
      intro t kont
      refine g992 t ?_
      refine XS.dup X986.here hx rfl (hb hby at_563) rfl rfl ?_
      refine XS.bipush X986.here hx rfl (hb hby at_564) ?_
      refine XS.iload X986.here hx rfl (hb hby at_566) rfl ?_
      exact kont
    have zz994 := y990
    obtain ⟨cl994, Ar994, q994, S994, M994, H994, G994⟩ := zz994
    have in994 : ¬ ((21 : Int32) < 0 ∨ cl994.slots.size ≤ ((21 : Int32)).toNatClampNeg) := inb_of S994 ⟨by decide, by decide⟩
    obtain ⟨T994, h994, X994, e994, W994, st994⟩ := stC X986 hx hZ e986 Ar994 (j := (21 : Int32)) in994 (g := (mkF m 568 #[iv p0, iv p1, iv p2, iv p3, iv p4, iv k, iv ch, .val cv, .unset, .unset, .unset, .unset, .unset, .unset] [(.int ch), (.int (21 : Int32)), (.ref b819), (.ref b819)])) rfl rfl (hb hby at_568)
    rw [show nar .char ch = ch from r_ch] at W994
    have sf996 : Safe Z consts_1 vm106 h986 b819 := (Safe.wr W986 sf988 R979.1 sf988)
    have R995 : CHr Z consts_1 s.vm h0 vm106 h994 := R987.trans (CHr.wr W994 sf996 R987.1)
    have O997 := O989.wr W994 ge827
    have y998 : Arv Z h994 b819 k819 .char (22 : Int32) (Ls991.set 21 (.int ch)) (.int (0 : Int32)) := Arv.set Ar994 q994 S994 M994 H994 G994 (own_ft_char (z := ch) r_ch) W994 21 rfl (by rw [lLs991]; decide)
    obtain ⟨Ls999, hLs999⟩ : ∃ z : List Value, z = (Ls991.set 21 (.int ch)) := ⟨_, rfl⟩
    rw [← hLs999] at y998
    have lLs999 : Ls999.length = 22 := by rw [hLs999, List.length_set, lLs991]
    have N994 := Fr.snoc X994 N986 ge827
    have g1000 : Go p e below T994 (mkF m 569 #[iv p0, iv p1, iv p2, iv p3, iv p4, iv k, iv ch, .val cv, .unset, .unset, .unset, .unset, .unset, .unset] [(.ref b819)]) A0 := fun t kont => g993 t (st994 t kont)
    have g1001 : Go p e below T994 (mkF m 571 #[iv p0, iv p1, iv p2, iv p3, iv p4, iv k, iv ch, .val cv, .unset, .unset, rv b819, .unset, .unset, .unset] []) A0 := by
      intro t kont
      refine g1000 t ?_
      refine XS.astore X994.here hx rfl (hb hby at_569) rfl rfl (l' := #[iv p0, iv p1, iv p2, iv p3, iv p4, iv k, iv ch, .val cv, .unset, .unset, rv b819, .unset, .unset, .unset]) rfl ?_
      exact kont
    obtain ⟨T1002, h1002, X1002, e1002, E1002, A1002, D1002, -, st1002⟩ := newO X994 hx hZ hown (hw _ (List.mem_of_getElem? (i := 2) rfl)) (hw _ (List.mem_of_getElem? (i := 3) rfl)) (hw _ (List.mem_of_getElem? (i := 4) rfl)) e994 (g := (mkF m 571 #[iv p0, iv p1, iv p2, iv p3, iv p4, iv k, iv ch, .val cv, .unset, .unset, rv b819, .unset, .unset, .unset] [])) rfl (hb hby at_571) (by decide) (by decide)
    obtain ⟨b1002, gb1002⟩ : ∃ z, z = h994.size := ⟨_, rfl⟩
    rw [← gb1002] at A1002 D1002 st1002
    have R1003 : CHr Z consts_1 s.vm h0 vm106 h1002 := R995.trans (CHr.ext E1002 R995.1)
    have O1004 := O997.ext E1002
    have y1005 : Fld Z h1002 b1002 "java/lang/String" "coder" "B" (.int (0 : Int32)) := D1002 (Or.inr (hw _ (List.mem_of_getElem? (i := 28) rfl))) (ty := .byte) (by decide)
    have y1006 : Fld Z h1002 b1002 "java/lang/String" "value" "[B" .null := D1002 (Or.inr (hw _ (List.mem_of_getElem? (i := 30) rfl))) (ty := (.array .byte)) (by decide)
    have g1007 : Go p e below T1002 (mkF m 574 #[iv p0, iv p1, iv p2, iv p3, iv p4, iv k, iv ch, .val cv, .unset, .unset, rv b819, .unset, .unset, .unset] [(.ref b1002)]) A0 := fun t kont => g1001 t (st1002 t kont)
    have g1008 : Go p e below T1002 (mkF m 577 #[iv p0, iv p1, iv p2, iv p3, iv p4, iv k, iv ch, .val cv, .unset, .unset, rv b819, .unset, .unset, .unset] [(.ref b819), (.ref b1002), (.ref b1002)]) A0 := by
      intro t kont
      refine g1007 t ?_
      refine XS.dup X1002.here hx rfl (hb hby at_574) rfl rfl ?_
      refine XS.aload X1002.here hx rfl (hb hby at_575) rfl rfl ?_
      exact kont
    have y1010 : Arv Z h1002 b819 k819 .char (22 : Int32) Ls999 (.int (0 : Int32)) := (y998.ext E1002)
    obtain ⟨ls1011, hls1011⟩ : ∃ z, z = [(97 : Int32), (112 : Int32), (112 : Int32), (108 : Int32), (105 : Int32), (99 : Int32), (97 : Int32), (116 : Int32), (105 : Int32), (111 : Int32), (110 : Int32), (47 : Int32), (120 : Int32), (104 : Int32), (116 : Int32), (109 : Int32), (108 : Int32), (43 : Int32), (120 : Int32), (109 : Int32), (108 : Int32), ch] := ⟨_, rfl⟩
    have lls1011 : ls1011.length = 22 := by rw [hls1011]; rfl
    have y1012 : Arv Z h1002 b819 k819 .char (Int32.ofNat ls1011.length) (ls1011.map Value.int) (.int (0 : Int32)) := by
      have q := y1010
      rw [show Ls999 = ls1011.map Value.int by rw [hLs999, hLs991, hLs983, hLs975, hLs967, hLs959, hLs951, hLs943, hLs935, hLs927, hLs919, hLs911, hLs903, hLs895, hLs887, hLs879, hLs871, hLs863, hLs855, hLs847, hLs839, hLs831, hLs823, hls1011]; simp only [List.reduceReplicate, List.set_cons_zero, List.set_cons_succ, List.map_cons, List.map_nil]] at q
      rw [lls1011]
      exact q
    have cls1011 : own_chars ls1011 := by rw [hls1011]; exact (own_ccons ⟨by decide, by decide⟩ (own_ccons ⟨by decide, by decide⟩ (own_ccons ⟨by decide, by decide⟩ (own_ccons ⟨by decide, by decide⟩ (own_ccons ⟨by decide, by decide⟩ (own_ccons ⟨by decide, by decide⟩ (own_ccons ⟨by decide, by decide⟩ (own_ccons ⟨by decide, by decide⟩ (own_ccons ⟨by decide, by decide⟩ (own_ccons ⟨by decide, by decide⟩ (own_ccons ⟨by decide, by decide⟩ (own_ccons ⟨by decide, by decide⟩ (own_ccons ⟨by decide, by decide⟩ (own_ccons ⟨by decide, by decide⟩ (own_ccons ⟨by decide, by decide⟩ (own_ccons ⟨by decide, by decide⟩ (own_ccons ⟨by decide, by decide⟩ (own_ccons ⟨by decide, by decide⟩ (own_ccons ⟨by decide, by decide⟩ (own_ccons ⟨by decide, by decide⟩ (own_ccons ⟨by decide, by decide⟩ (own_ccons ⟨z_ch, own_w255 b_ch⟩ own_cnil))))))))))))))))))))))
    have dls1011 : own_lat ls1011 := by rw [hls1011]; exact (own_lcons (by decide) (own_lcons (by decide) (own_lcons (by decide) (own_lcons (by decide) (own_lcons (by decide) (own_lcons (by decide) (own_lcons (by decide) (own_lcons (by decide) (own_lcons (by decide) (own_lcons (by decide) (own_lcons (by decide) (own_lcons (by decide) (own_lcons (by decide) (own_lcons (by decide) (own_lcons (by decide) (own_lcons (by decide) (own_lcons (by decide) (own_lcons (by decide) (own_lcons (by decide) (own_lcons (by decide) (own_lcons (by decide) (own_lcons b_ch own_lnil))))))))))))))))))))))
    have ge1013 : n0 ≤ b1002 := Nat.le_trans (own_old_le O997) (Nat.le_of_eq gb1002.symm)
    obtain ⟨_, _, ⟨T1009, L1009, k1009, n1009⟩, -, X1009, ⟨Lc1009, hQ1009, l1009, y1009, z1009⟩, st1009⟩ := X1002.specialBack hx (y := (⟨"java/lang/String", "<init>", "([C)V"⟩ : MethodName)) rfl hown (mvT hZ (hw _ (List.mem_of_getElem? (i := 5) rfl))) (mvT hZ (hw _ (List.mem_of_getElem? (i := 6) rfl))) (mvT hZ (hw _ (List.mem_of_getElem? (i := 7) rfl))) (by decide) (backOf (W := 1) (rm_sIniL l Z a0 hw [] b1002 b819 k819 ls1011 i_COMPACT_STRINGS h1002 n0 O1004 y1006 y1005 A1002 ge1013 y1012 (by rw [lls1011]; decide) (by rw [lls1011]; decide) (dls1011) S0_ hcs) hZ (hw _ (List.mem_of_getElem? (i := 7) rfl)) (hw _ (List.mem_of_getElem? (i := 4) rfl)) (by decide) (by decide)) (g := (mkF m 577 #[iv p0, iv p1, iv p2, iv p3, iv p4, iv k, iv ch, .val cv, .unset, .unset, rv b819, .unset, .unset, .unset] [(.ref b819), (.ref b1002), (.ref b1002)])) rfl (by rw [hml]; rfl) (Steps.refl _) (a := b1002) (argsL := [(.ref b819)]) (rest := [(.ref b1002)]) (lenOf pd_11 rfl) rfl (by show 2 * 0 + _ ≤ _; exact Nat.le_of_eq rfl) (hb hby at_577) (fun _ _ => ⟨rfl, e1002, (by decide : 4 + 1 ≤ _), (by decide : 31 + 22 ≤ _)⟩)
    dsimp only [Pt.U, Pt.locs, Pt.cells, Pt.slots] at X1009 l1009 y1009 z1009 st1009 hQ1009
    subst y1009 z1009
    obtain ⟨r1014, r1015, rfl, M1009, K1009, y1016, y1017, y1018, y1019, y1020⟩ := hQ1009
    have N1009 : Fr n0 L1009 := by rw [l1009]; exact Fr.app N994 M1009
    have R1021 : CHr Z consts_1 s.vm h0 vm106 T1009.heap := R1003.trans (CHr.keep K1009 (sfS (Safe.ext E1002 R995.1 (Safe.new (Nat.le_of_eq gb1002.symm))) sf0) R1003.1)
    have O1022 := O1004.keep K1009 (allS ge1013 all0)
    have g1023 : Go p e below T1009 (mkF m 580 #[iv p0, iv p1, iv p2, iv p3, iv p4, iv k, iv ch, .val cv, .unset, .unset, rv b819, .unset, .unset, .unset] [(.ref b1002)]) A0 := fun t kont => g1008 t (st1009.trans kont)
    have g1024 : Go p e below T1009 (mkF m 805 #[iv p0, iv p1, iv p2, iv p3, iv p4, iv k, iv ch, .val cv, rv b1002, iv (0 : Int32), rv b819, .unset, .unset, .unset] []) A0 := by
      intro t kont
      refine g1023 t ?_
      refine XS.astore X1009.here hx rfl (hb hby at_580) rfl rfl (l' := #[iv p0, iv p1, iv p2, iv p3, iv p4, iv k, iv ch, .val cv, rv b1002, .unset, rv b819, .unset, .unset, .unset]) rfl ?_
      refine XS.iconst X1009.here hx rfl (hb hby at_582) ?_
      refine XS.istore X1009.here hx rfl (hb hby at_583) rfl (l' := #[iv p0, iv p1, iv p2, iv p3, iv p4, iv k, iv ch, .val cv, rv b1002, iv (0 : Int32), rv b819, .unset, .unset, .unset]) rfl ?_
      refine XS.goto X1009.here hx rfl (pc0 := 585) (pc' := 805) rfl (hb hby at_585) (by decide) (by decide) ?_
      exact kont
    obtain ⟨T1025, h1025, X1025, e1025, E1025, A1025, D1025, -, st1025⟩ := newO X1009 hx hZ hown (hw _ (List.mem_of_getElem? (i := 31) rfl)) (hw _ (List.mem_of_getElem? (i := 32) rfl)) (hw _ (List.mem_of_getElem? (i := 33) rfl)) rfl (g := (mkF m 805 #[iv p0, iv p1, iv p2, iv p3, iv p4, iv k, iv ch, .val cv, rv b1002, iv (0 : Int32), rv b819, .unset, .unset, .unset] [])) rfl (hb hby at_805) (by decide) (by decide)
    obtain ⟨b1025, gb1025⟩ : ∃ z, z = T1009.heap.size := ⟨_, rfl⟩
    rw [← gb1025] at A1025 D1025 st1025
    have R1026 : CHr Z consts_1 s.vm h0 vm106 h1025 := R1021.trans (CHr.ext E1025 R1021.1)
    have O1027 := O1022.ext E1025
    have y1028 : Fld Z h1025 b1025 "com/example/fetch_from_near/fetchfromnear/ContentType" "mediaType" "Ljava/lang/String;" .null := D1025 (Or.inr (hw _ (List.mem_of_getElem? (i := 44) rfl))) (ty := (.object "java/lang/String")) (by decide)
    have y1029 : Fld Z h1025 b1025 "com/example/fetch_from_near/fetchfromnear/ContentType" "charset" "Ljava/lang/String;" .null := D1025 (Or.inr (hw _ (List.mem_of_getElem? (i := 46) rfl))) (ty := (.object "java/lang/String")) (by decide)
    have g1030 : Go p e below T1025 (mkF m 808 #[iv p0, iv p1, iv p2, iv p3, iv p4, iv k, iv ch, .val cv, rv b1002, iv (0 : Int32), rv b819, .unset, .unset, .unset] [(.ref b1025)]) A0 := fun t kont => g1024 t (st1025 t kont)
    have g1031 : Go p e below T1025 (mkF m 813 #[iv p0, iv p1, iv p2, iv p3, iv p4, iv k, iv ch, .val cv, rv b1002, iv (0 : Int32), rv b819, .unset, .unset, .unset] [cv, (.ref b1002), (.ref b1025), (.ref b1025)]) A0 := by
      intro t kont
      refine g1030 t ?_
      refine XS.dup X1025.here hx rfl (hb hby at_808) rfl rfl ?_
      refine XS.aload X1025.here hx rfl (hb hby at_809) rfl rfl ?_
      refine XS.aload X1025.here hx rfl (hb hby at_811) rfl (h_cv) ?_
      exact kont
    have ge1033 : n0 ≤ b1025 := Nat.le_trans (own_old_le O1022) (Nat.le_of_eq gb1025.symm)
    obtain ⟨_, _, ⟨T1032, L1032, k1032, n1032⟩, -, X1032, ⟨Lc1032, hQ1032, l1032, y1032, z1032⟩, st1032⟩ := X1025.specialBack hx (y := (⟨"com/example/fetch_from_near/fetchfromnear/ContentType", "<init>", "(Ljava/lang/String;Ljava/lang/String;)V"⟩ : MethodName)) rfl hown (mvT hZ (hw _ (List.mem_of_getElem? (i := 34) rfl))) (mvT hZ (hw _ (List.mem_of_getElem? (i := 35) rfl))) (mvT hZ (hw _ (List.mem_of_getElem? (i := 36) rfl))) (by decide) (backOf (W := 1) (rm_ctR l Z a0 hw [] b1025 b1002 cv h1025 n0 O1027 A1025 y1028 y1029 ge1033 h_cv) hZ (hw _ (List.mem_of_getElem? (i := 36) rfl)) (hw _ (List.mem_of_getElem? (i := 33) rfl)) (by decide) (by decide)) (g := (mkF m 813 #[iv p0, iv p1, iv p2, iv p3, iv p4, iv k, iv ch, .val cv, rv b1002, iv (0 : Int32), rv b819, .unset, .unset, .unset] [cv, (.ref b1002), (.ref b1025), (.ref b1025)])) rfl (by rw [hml]; rfl) (Steps.refl _) (a := b1025) (argsL := [(.ref b1002), cv]) (rest := [(.ref b1025)]) (lenOf pd_12 rfl) rfl (by show 2 * 0 + _ ≤ _; exact Nat.le_of_eq rfl) (hb hby at_813) (fun _ _ => ⟨rfl, e1025, (by decide : 6 + 0 ≤ _), (by decide : 55 + 0 ≤ _)⟩)
    dsimp only [Pt.U, Pt.locs, Pt.cells, Pt.slots] at X1032 l1032 y1032 z1032 st1032 hQ1032
    subst y1032 z1032
    obtain ⟨rfl, M1032, K1032, y1034, y1035⟩ := hQ1032
    have N1032 : Fr n0 L1032 := by rw [l1032]; exact Fr.app N1009 M1032
    have R1036 : CHr Z consts_1 s.vm h0 vm106 T1032.heap := R1026.trans (CHr.keep K1032 (sfS (Safe.ext E1025 R1021.1 (Safe.new (Nat.le_of_eq gb1025.symm))) sf0) R1026.1)
    have O1037 := O1027.keep K1032 (allS ge1033 all0)
    have g1038 : Go p e below T1032 (mkF m 816 #[iv p0, iv p1, iv p2, iv p3, iv p4, iv k, iv ch, .val cv, rv b1002, iv (0 : Int32), rv b819, .unset, .unset, .unset] [(.ref b1025)]) A0 := fun t kont => g1031 t (st1032.trans kont)
    have y1040 : Exa Z T1032.heap b1002 "java/lang/String" := ((y1016.ext E1025).keep K1032)
    have y1041 : Fld Z T1032.heap b1002 "java/lang/String" "coder" "B" (.int (0 : Int32)) := ((y1017.ext E1025).keep K1032 (ninS (Nat.ne_of_lt (Nat.lt_of_lt_of_le (Nat.lt_of_lt_of_le A1002.lt K1009.1) (Nat.le_of_eq gb1025.symm))) nin0))
    have y1042 : Fld Z T1032.heap b1002 "java/lang/String" "value" "[B" (.ref r1014) := ((y1018.ext E1025).keep K1032 (ninS (Nat.ne_of_lt (Nat.lt_of_lt_of_le (Nat.lt_of_lt_of_le A1002.lt K1009.1) (Nat.le_of_eq gb1025.symm))) nin0))
    have y1043 : Arv Z T1032.heap r1014 r1015 .byte (Int32.ofNat ls1011.length) (own_lb ls1011) (.int (0 : Int32)) := ((y1020.ext E1025).keep K1032 (ninS (Nat.ne_of_lt (Nat.lt_of_lt_of_le y1020.lt (Nat.le_of_eq gb1025.symm))) nin0))
    obtain ⟨cq1039, kq1039, q1039a, q1039b, q1039c⟩ := isOf hZ rfl y1034
    obtain ⟨_, _, ⟨T1039, L1039, k1039, n1039⟩, -, X1039, hS1039, hg1039, ⟨Lc1039, hQ1039, l1039, y1039, z1039, C1039⟩, st1039⟩ := X1032.virtualBackS hx (y := (⟨"com/example/fetch_from_near/fetchfromnear/ContentType", "isHtml", "()Z"⟩ : MethodName)) (z := (⟨"com/example/fetch_from_near/fetchfromnear/ContentType", "isHtml", "()Z"⟩ : MethodName)) hown (mvT hZ (hw _ (List.mem_of_getElem? (i := 47) rfl))) (mvT hZ (hw _ (List.mem_of_getElem? (i := 48) rfl))) (notFace_of_selects (args := #[]) (mvT hZ (hw _ (List.mem_of_getElem? (i := 50) rfl)))) (mvT hZ (hw _ (List.mem_of_getElem? (i := 50) rfl))) (mvT hZ (hw _ (List.mem_of_getElem? (i := 49) rfl))) (by decide) (backOfSH (W := 0) (rm_isHG l Z a0 hw [] b1025 b1002 r1014 r1015 ls1011 i_COMPACT_STRINGS T1032.heap n0 O1037 S0_ hcs y1035 y1034 y1040 y1041 y1042 y1043 (by rw [lls1011]; decide) (cls1011) (dls1011)) hZ (hw _ (List.mem_of_getElem? (i := 51) rfl)) (hw _ (List.mem_of_getElem? (i := 33) rfl)) (by decide) (by decide) (own_EW hw) R1036.1) q1039a q1039c (g := (mkF m 816 #[iv p0, iv p1, iv p2, iv p3, iv p4, iv k, iv ch, .val cv, rv b1002, iv (0 : Int32), rv b819, .unset, .unset, .unset] [(.ref b1025)])) rfl (by rw [hml]; rfl) (Steps.refl _) (argsL := []) (rest := []) (lenOf pd_13 rfl) rfl (by show 2 * 0 + _ ≤ _; exact Nat.le_of_eq rfl) (hb hby at_816) (fun _ _ => ⟨rfl, rfl, (by decide : 6 + 4 ≤ _), (by decide : 55 + 128 ≤ _)⟩)
    dsimp only [Pt.U, Pt.locs, Pt.cells, Pt.slots] at X1039 l1039 y1039 z1039 st1039 hQ1039 hS1039 hg1039 C1039
    subst y1039 z1039
    obtain ⟨X1039, hS, hZ, hown⟩ := rebS hS (n1 := T1032.heap.size) (Nat.le_trans hk (Nat.le_trans (Nat.le_trans (Nat.le_trans (Nat.le_trans (Nat.le_trans (Nat.le_trans (Nat.le_trans (Nat.le_trans (Nat.le_trans (Nat.le_trans (Nat.le_trans (Nat.le_trans (Nat.le_trans (Nat.le_trans (Nat.le_trans (Nat.le_trans (Nat.le_trans (Nat.le_trans (Nat.le_trans (Nat.le_trans (Nat.le_trans (Nat.le_trans (Nat.le_trans (Nat.le_trans (Nat.le_trans (Nat.le_trans E819.1 (Keep.of_wr W826).1) (Keep.of_wr W834).1) (Keep.of_wr W842).1) (Keep.of_wr W850).1) (Keep.of_wr W858).1) (Keep.of_wr W866).1) (Keep.of_wr W874).1) (Keep.of_wr W882).1) (Keep.of_wr W890).1) (Keep.of_wr W898).1) (Keep.of_wr W906).1) (Keep.of_wr W914).1) (Keep.of_wr W922).1) (Keep.of_wr W930).1) (Keep.of_wr W938).1) (Keep.of_wr W946).1) (Keep.of_wr W954).1) (Keep.of_wr W962).1) (Keep.of_wr W970).1) (Keep.of_wr W978).1) (Keep.of_wr W986).1) (Keep.of_wr W994).1) E1002.1) K1009.1) E1025.1) K1032.1)) X1039 hS1039 hg1039 hZ hown
    obtain ⟨r1044, rfl, M1039, K1039, y1045, y1046⟩ := hQ1039
    have N1039 : Fr n0 L1039 := by rw [l1039]; exact Fr.app N1032 M1039
    have R1047 : CHr Z consts_1 s.vm h0 T1039.vm T1039.heap := R1036.trans C1039
    have O1048 := O1037.keep K1039 all0
    have g1049 : Go p e below T1039 (mkF m 819 #[iv p0, iv p1, iv p2, iv p3, iv p4, iv k, iv ch, .val cv, rv b1002, iv (0 : Int32), rv b819, .unset, .unset, .unset] [(.int r1044)]) A0 := fun t kont => g1038 t (st1039.trans kont)
    rcases (y1045 : r1044 = (0 : Int32) ∨ r1044 = (1 : Int32)) with c1050 | c1050
    ·
      subst c1050
      have g1051 : Go p e below T1039 (mkF m 829 #[iv p0, iv p1, iv p2, iv p3, iv p4, iv k, iv ch, .val cv, rv b1002, iv (0 : Int32), rv b819, .unset, .unset, .unset] [(.int (1 : Int32))]) A0 := by
        intro t kont
        refine g1049 t ?_
        refine XS.iload X1039.here hx rfl (hb hby at_819) rfl ?_
        refine XS.icmpNo X1039.here hx rfl (hb hby at_821) rfl (teq (by decide : (0 : Int32) = (0 : Int32))).2 ?_
        refine XS.iconst X1039.here hx rfl (hb hby at_824) ?_
        refine XS.goto X1039.here hx rfl (pc0 := 825) (pc' := 829) rfl (hb hby at_825) (by decide) (by decide) ?_
        exact kont
      obtain ⟨fs, hr, hrun, hended, hRW⟩ := X1039.leaveW hS (Nat.le_refl _) (v := some (.int (1 : Int32))) (fun h => by rw [Bd.returns] at h; cases h)
      refine ⟨_, _, g1051 _ (retN X1039 hx (t := .boolean) Bd.returns (by simp) (hb hby at_829) hr), hrun, hended, _, _, rfl, ?_, ?_, hRW.1, hRW.2.1, hRW.2.2.1, hRW.2.2.2.mono (by decide) (by decide)⟩
      ·
        show Q_law Z p0 p1 p2 p3 p4 i_COMPACT_STRINGS h0 n0 _ T1039.heap _
        exact ⟨rfl, N1039⟩
      ·
        rw [hh]
        show CHr Z consts_1 s.vm h0 T1039.vm T1039.heap
        exact R1047.trans (CHv.at X1039 hZ (own_EW hw) R1047.1)
    subst c1050
    exact ((own_len lls1011) (y1046.mp rfl)).elim
  have g1053 : Go p e below T106 (mkF m 591 #[iv p0, iv p1, iv p2, iv p3, iv p4, iv k, iv ch, .val cv, .unset, .unset, .unset, .unset, .unset, .unset] [(.int (4 : Int32)), (.int k)]) A0 := by
    intro t kont
    refine g781 t ?_
    refine XS.icmpYes X106.here hx rfl (pc0 := 423) (pc' := 588) rfl (hb hby at_423) rfl (feq c780).2 (by decide) (by decide) ?_
    refine XS.iload X106.here hx rfl (hb hby at_588) rfl ?_
    refine XS.iconst X106.here hx rfl (hb hby at_590) ?_
    exact kont
  by_cases c1052 : k = (4 : Int32)
  ·
    have g1054 : Go p e below T106 (mkF m 805 #[iv p0, iv p1, iv p2, iv p3, iv p4, iv k, iv ch, .val cv, .val .null, iv (0 : Int32), .unset, .unset, .unset, .unset] []) A0 := by
      intro t kont
      refine g1053 t ?_
      refine XS.icmpNo X106.here hx rfl (hb hby at_591) rfl (teq c1052).2 ?_
      refine XS.aconstNull X106.here hx rfl (hb hby at_594) ?_
      refine XS.astore X106.here hx rfl (hb hby at_595) rfl rfl (l' := #[iv p0, iv p1, iv p2, iv p3, iv p4, iv k, iv ch, .val cv, .val .null, .unset, .unset, .unset, .unset, .unset]) rfl ?_
      refine XS.iconst X106.here hx rfl (hb hby at_597) ?_
      refine XS.istore X106.here hx rfl (hb hby at_598) rfl (l' := #[iv p0, iv p1, iv p2, iv p3, iv p4, iv k, iv ch, .val cv, .val .null, iv (0 : Int32), .unset, .unset, .unset, .unset]) rfl ?_
      refine XS.goto X106.here hx rfl (pc0 := 600) (pc' := 805) rfl (hb hby at_600) (by decide) (by decide) ?_
      exact kont
    obtain ⟨T1055, h1055, X1055, e1055, E1055, A1055, D1055, -, st1055⟩ := newO X106 hx hZ hown (hw _ (List.mem_of_getElem? (i := 31) rfl)) (hw _ (List.mem_of_getElem? (i := 32) rfl)) (hw _ (List.mem_of_getElem? (i := 33) rfl)) e106 (g := (mkF m 805 #[iv p0, iv p1, iv p2, iv p3, iv p4, iv k, iv ch, .val cv, .val .null, iv (0 : Int32), .unset, .unset, .unset, .unset] [])) rfl (hb hby at_805) (by decide) (by decide)
    obtain ⟨b1055, gb1055⟩ : ∃ z, z = h106.size := ⟨_, rfl⟩
    rw [← gb1055] at A1055 D1055 st1055
    have R1056 : CHr Z consts_1 s.vm h0 vm106 h1055 := R106.trans (CHr.ext E1055 R106.1)
    have O1057 := O126.ext E1055
    have y1058 : Fld Z h1055 b1055 "com/example/fetch_from_near/fetchfromnear/ContentType" "mediaType" "Ljava/lang/String;" .null := D1055 (Or.inr (hw _ (List.mem_of_getElem? (i := 44) rfl))) (ty := (.object "java/lang/String")) (by decide)
    have y1059 : Fld Z h1055 b1055 "com/example/fetch_from_near/fetchfromnear/ContentType" "charset" "Ljava/lang/String;" .null := D1055 (Or.inr (hw _ (List.mem_of_getElem? (i := 46) rfl))) (ty := (.object "java/lang/String")) (by decide)
    have g1060 : Go p e below T1055 (mkF m 808 #[iv p0, iv p1, iv p2, iv p3, iv p4, iv k, iv ch, .val cv, .val .null, iv (0 : Int32), .unset, .unset, .unset, .unset] [(.ref b1055)]) A0 := fun t kont => g1054 t (st1055 t kont)
    have g1061 : Go p e below T1055 (mkF m 813 #[iv p0, iv p1, iv p2, iv p3, iv p4, iv k, iv ch, .val cv, .val .null, iv (0 : Int32), .unset, .unset, .unset, .unset] [cv, .null, (.ref b1055), (.ref b1055)]) A0 := by
      intro t kont
      refine g1060 t ?_
      refine XS.dup X1055.here hx rfl (hb hby at_808) rfl rfl ?_
      refine XS.aload X1055.here hx rfl (hb hby at_809) rfl rfl ?_
      refine XS.aload X1055.here hx rfl (hb hby at_811) rfl (h_cv) ?_
      exact kont
    have ge1063 : n0 ≤ b1055 := Nat.le_trans (own_old_le O126) (Nat.le_of_eq gb1055.symm)
    obtain ⟨_, _, ⟨T1062, L1062, k1062, n1062⟩, -, X1062, ⟨Lc1062, hQ1062, l1062, y1062, z1062⟩, st1062⟩ := X1055.specialBack hx (y := (⟨"com/example/fetch_from_near/fetchfromnear/ContentType", "<init>", "(Ljava/lang/String;Ljava/lang/String;)V"⟩ : MethodName)) rfl hown (mvT hZ (hw _ (List.mem_of_getElem? (i := 34) rfl))) (mvT hZ (hw _ (List.mem_of_getElem? (i := 35) rfl))) (mvT hZ (hw _ (List.mem_of_getElem? (i := 36) rfl))) (by decide) (backOf (W := 1) (rm_ctN l Z a0 hw [] b1055 cv h1055 n0 O1057 A1055 y1058 y1059 ge1063 h_cv) hZ (hw _ (List.mem_of_getElem? (i := 36) rfl)) (hw _ (List.mem_of_getElem? (i := 33) rfl)) (by decide) (by decide)) (g := (mkF m 813 #[iv p0, iv p1, iv p2, iv p3, iv p4, iv k, iv ch, .val cv, .val .null, iv (0 : Int32), .unset, .unset, .unset, .unset] [cv, .null, (.ref b1055), (.ref b1055)])) rfl (by rw [hml]; rfl) (Steps.refl _) (a := b1055) (argsL := [.null, cv]) (rest := [(.ref b1055)]) (lenOf pd_12 rfl) rfl (by show 2 * 0 + _ ≤ _; exact Nat.le_of_eq rfl) (hb hby at_813) (fun _ _ => ⟨rfl, e1055, (by decide : 3 + 0 ≤ _), (by decide : 7 + 0 ≤ _)⟩)
    dsimp only [Pt.U, Pt.locs, Pt.cells, Pt.slots] at X1062 l1062 y1062 z1062 st1062 hQ1062
    subst y1062 z1062
    obtain ⟨rfl, M1062, K1062, y1064, y1065⟩ := hQ1062
    have N1062 : Fr n0 L1062 := by rw [l1062]; exact Fr.app N106 M1062
    have R1066 : CHr Z consts_1 s.vm h0 vm106 T1062.heap := R1056.trans (CHr.keep K1062 (sfS (Safe.ext E1055 R106.1 (Safe.new (Nat.le_of_eq gb1055.symm))) sf0) R1056.1)
    have O1067 := O1057.keep K1062 (allS ge1063 all0)
    have g1068 : Go p e below T1062 (mkF m 816 #[iv p0, iv p1, iv p2, iv p3, iv p4, iv k, iv ch, .val cv, .val .null, iv (0 : Int32), .unset, .unset, .unset, .unset] [(.ref b1055)]) A0 := fun t kont => g1061 t (st1062.trans kont)
    obtain ⟨cq1069, kq1069, q1069a, q1069b, q1069c⟩ := isOf hZ rfl y1064
    obtain ⟨_, _, ⟨T1069, L1069, k1069, n1069⟩, -, X1069, hS1069, hg1069, ⟨Lc1069, hQ1069, l1069, y1069, z1069, C1069⟩, st1069⟩ := X1062.virtualBackS hx (y := (⟨"com/example/fetch_from_near/fetchfromnear/ContentType", "isHtml", "()Z"⟩ : MethodName)) (z := (⟨"com/example/fetch_from_near/fetchfromnear/ContentType", "isHtml", "()Z"⟩ : MethodName)) hown (mvT hZ (hw _ (List.mem_of_getElem? (i := 47) rfl))) (mvT hZ (hw _ (List.mem_of_getElem? (i := 48) rfl))) (notFace_of_selects (args := #[]) (mvT hZ (hw _ (List.mem_of_getElem? (i := 50) rfl)))) (mvT hZ (hw _ (List.mem_of_getElem? (i := 50) rfl))) (mvT hZ (hw _ (List.mem_of_getElem? (i := 49) rfl))) (by decide) (backOfSH (W := 0) (rm_isHN l Z a0 hw [] b1055 T1062.heap n0 O1067 y1065 y1064) hZ (hw _ (List.mem_of_getElem? (i := 51) rfl)) (hw _ (List.mem_of_getElem? (i := 33) rfl)) (by decide) (by decide) (own_EW hw) R1066.1) q1069a q1069c (g := (mkF m 816 #[iv p0, iv p1, iv p2, iv p3, iv p4, iv k, iv ch, .val cv, .val .null, iv (0 : Int32), .unset, .unset, .unset, .unset] [(.ref b1055)])) rfl (by rw [hml]; rfl) (Steps.refl _) (argsL := []) (rest := []) (lenOf pd_13 rfl) rfl (by show 2 * 0 + _ ≤ _; exact Nat.le_of_eq rfl) (hb hby at_816) (fun _ _ => ⟨rfl, rfl, (by decide : 3 + 4 ≤ _), (by decide : 7 + 128 ≤ _)⟩)
    dsimp only [Pt.U, Pt.locs, Pt.cells, Pt.slots] at X1069 l1069 y1069 z1069 st1069 hQ1069 hS1069 hg1069 C1069
    subst y1069 z1069
    obtain ⟨X1069, hS, hZ, hown⟩ := rebS hS (n1 := T1062.heap.size) (Nat.le_trans hk (Nat.le_trans E1055.1 K1062.1)) X1069 hS1069 hg1069 hZ hown
    obtain ⟨rfl, M1069, K1069⟩ := hQ1069
    have N1069 : Fr n0 L1069 := by rw [l1069]; exact Fr.app N1062 M1069
    have R1070 : CHr Z consts_1 s.vm h0 T1069.vm T1069.heap := R1066.trans C1069
    have O1071 := O1067.keep K1069 all0
    have g1072 : Go p e below T1069 (mkF m 819 #[iv p0, iv p1, iv p2, iv p3, iv p4, iv k, iv ch, .val cv, .val .null, iv (0 : Int32), .unset, .unset, .unset, .unset] [(.int (0 : Int32))]) A0 := fun t kont => g1068 t (st1069.trans kont)
    have g1073 : Go p e below T1069 (mkF m 829 #[iv p0, iv p1, iv p2, iv p3, iv p4, iv k, iv ch, .val cv, .val .null, iv (0 : Int32), .unset, .unset, .unset, .unset] [(.int (1 : Int32))]) A0 := by
      intro t kont
      refine g1072 t ?_
      refine XS.iload X1069.here hx rfl (hb hby at_819) rfl ?_
      refine XS.icmpNo X1069.here hx rfl (hb hby at_821) rfl (teq (by decide : (0 : Int32) = (0 : Int32))).2 ?_
      refine XS.iconst X1069.here hx rfl (hb hby at_824) ?_
      refine XS.goto X1069.here hx rfl (pc0 := 825) (pc' := 829) rfl (hb hby at_825) (by decide) (by decide) ?_
      exact kont
    obtain ⟨fs, hr, hrun, hended, hRW⟩ := X1069.leaveW hS (Nat.le_refl _) (v := some (.int (1 : Int32))) (fun h => by rw [Bd.returns] at h; cases h)
    refine ⟨_, _, g1073 _ (retN X1069 hx (t := .boolean) Bd.returns (by simp) (hb hby at_829) hr), hrun, hended, _, _, rfl, ?_, ?_, hRW.1, hRW.2.1, hRW.2.2.1, hRW.2.2.2.mono (by decide) (by decide)⟩
    ·
      show Q_law Z p0 p1 p2 p3 p4 i_COMPACT_STRINGS h0 n0 _ T1069.heap _
      exact ⟨rfl, N1069⟩
    ·
      rw [hh]
      show CHr Z consts_1 s.vm h0 T1069.vm T1069.heap
      exact R1070.trans (CHv.at X1069 hZ (own_EW hw) R1070.1)
  have g1075 : Go p e below T106 (mkF m 606 #[iv p0, iv p1, iv p2, iv p3, iv p4, iv k, iv ch, .val cv, .unset, .unset, .unset, .unset, .unset, .unset] [(.int (5 : Int32)), (.int k)]) A0 := by
    intro t kont
    refine g1053 t ?_
    refine XS.icmpYes X106.here hx rfl (pc0 := 591) (pc' := 603) rfl (hb hby at_591) rfl (feq c1052).2 (by decide) (by decide) ?_
    refine XS.iload X106.here hx rfl (hb hby at_603) rfl ?_
    refine XS.iconst X106.here hx rfl (hb hby at_605) ?_
    exact kont
  by_cases c1074 : k = (5 : Int32)
  ·
    have g1077 : Go p e below T106 (mkF m 616 #[iv p0, iv p1, iv p2, iv p3, iv p4, iv k, iv ch, .val cv, .unset, .unset, iv (p3 &&& (3 : Int32)), .unset, .unset, .unset] [(.int (p3 &&& (3 : Int32)))]) A0 := by
      intro t kont
      refine g1075 t ?_
      refine XS.icmpNo X106.here hx rfl (hb hby at_606) rfl (teq c1074).2 ?_
      refine XS.iloadN X106.here hx rfl (hb hby at_609) rfl ?_
      refine XS.iconst X106.here hx rfl (hb hby at_610) ?_
      refine XS.iand X106.here hx rfl (hb hby at_611) rfl ?_
      refine XS.istore X106.here hx rfl (hb hby at_612) rfl (l' := #[iv p0, iv p1, iv p2, iv p3, iv p4, iv k, iv ch, .val cv, .unset, .unset, iv (p3 &&& (3 : Int32)), .unset, .unset, .unset]) rfl ?_
      refine XS.iload X106.here hx rfl (hb hby at_614) rfl ?_
      exact kont
    by_cases c1076 : (p3 &&& (3 : Int32)) = (0 : Int32)
    ·
      have g1078 : Go p e below T106 (mkF m 619 #[iv p0, iv p1, iv p2, iv p3, iv p4, iv k, iv ch, .val cv, .unset, .unset, iv (p3 &&& (3 : Int32)), .unset, .unset, .unset] []) A0 := by
        intro t kont
        refine g1077 t ?_
        refine XS.ifNo X106.here hx rfl (hb hby at_616) rfl ((if0 _ _).trans (teq c1076).2) ?_
        exact kont
      obtain ⟨b1079, T1079, h1079, k1079, c1079, kc1079, X1079, e1079, E1079, hS, hk, hZ, hown, A1079, F1079, G1079, V1079, la1079, lb1079, C1079, -, ne1079, st1079⟩ := ldcCH X106 hx hZ hown (hw _ (List.mem_of_getElem? (i := 86) rfl)) (own_wS hw) e106 hS hk (own_EW hw) (List.mem_of_getElem? (i := 4) rfl) R106.1 (vs := [(.int (116 : Int32)), (.int (101 : Int32)), (.int (120 : Int32)), (.int (116 : Int32)), (.int (47 : Int32)), (.int (120 : Int32)), (.int (109 : Int32)), (.int (108 : Int32))]) (z := (8 : Int32)) ⟨by decide, by decide⟩ (by decide) rfl (g := (mkF m 619 #[iv p0, iv p1, iv p2, iv p3, iv p4, iv k, iv ch, .val cv, .unset, .unset, iv (p3 &&& (3 : Int32)), .unset, .unset, .unset] [])) rfl (hb hby at_619) (n := 32) (by decide) (by decide) (by decide) (by decide)
      have R1080 : CHr Z consts_1 s.vm h0 T1079.vm h1079 := R106.trans C1079
      have O1081 := O126.ext E1079
      have g1082 : Go p e below T1079 (mkF m 621 #[iv p0, iv p1, iv p2, iv p3, iv p4, iv k, iv ch, .val cv, .unset, .unset, iv (p3 &&& (3 : Int32)), .unset, .unset, .unset] [(.ref b1079)]) A0 := fun t kont => g1078 t (st1079 t kont)
      have y1083 : Arv Z h1079 c1079 kc1079 .byte (Int32.ofNat own_l21.length) (own_lb own_l21) (.int (0 : Int32)) := by rw [show own_lb own_l21 = [(.int (116 : Int32)), (.int (101 : Int32)), (.int (120 : Int32)), (.int (116 : Int32)), (.int (47 : Int32)), (.int (120 : Int32)), (.int (109 : Int32)), (.int (108 : Int32))] from rfl]; exact V1079
      have g1084 : Go p e below T1079 (mkF m 805 #[iv p0, iv p1, iv p2, iv p3, iv p4, iv k, iv ch, .val cv, rv b1079, iv (0 : Int32), iv (p3 &&& (3 : Int32)), .unset, .unset, .unset] []) A0 := by
        intro t kont
        refine g1082 t ?_
        refine XS.goto X1079.here hx rfl (pc0 := 621) (pc' := 648) rfl (hb hby at_621) (by decide) (by decide) ?_
        refine XS.astore X1079.here hx rfl (hb hby at_648) rfl rfl (l' := #[iv p0, iv p1, iv p2, iv p3, iv p4, iv k, iv ch, .val cv, rv b1079, .unset, iv (p3 &&& (3 : Int32)), .unset, .unset, .unset]) rfl ?_
        refine XS.iconst X1079.here hx rfl (hb hby at_650) ?_
        refine XS.istore X1079.here hx rfl (hb hby at_651) rfl (l' := #[iv p0, iv p1, iv p2, iv p3, iv p4, iv k, iv ch, .val cv, rv b1079, iv (0 : Int32), iv (p3 &&& (3 : Int32)), .unset, .unset, .unset]) rfl ?_
        refine XS.goto X1079.here hx rfl (pc0 := 653) (pc' := 805) rfl (hb hby at_653) (by decide) (by decide) ?_
        exact kont
      obtain ⟨T1085, h1085, X1085, e1085, E1085, A1085, D1085, -, st1085⟩ := newO X1079 hx hZ hown (hw _ (List.mem_of_getElem? (i := 31) rfl)) (hw _ (List.mem_of_getElem? (i := 32) rfl)) (hw _ (List.mem_of_getElem? (i := 33) rfl)) e1079 (g := (mkF m 805 #[iv p0, iv p1, iv p2, iv p3, iv p4, iv k, iv ch, .val cv, rv b1079, iv (0 : Int32), iv (p3 &&& (3 : Int32)), .unset, .unset, .unset] [])) rfl (hb hby at_805) (by decide) (by decide)
      obtain ⟨b1085, gb1085⟩ : ∃ z, z = h1079.size := ⟨_, rfl⟩
      rw [← gb1085] at A1085 D1085 st1085
      have R1086 : CHr Z consts_1 s.vm h0 T1079.vm h1085 := R1080.trans (CHr.ext E1085 R1080.1)
      have O1087 := O1081.ext E1085
      have y1088 : Fld Z h1085 b1085 "com/example/fetch_from_near/fetchfromnear/ContentType" "mediaType" "Ljava/lang/String;" .null := D1085 (Or.inr (hw _ (List.mem_of_getElem? (i := 44) rfl))) (ty := (.object "java/lang/String")) (by decide)
      have y1089 : Fld Z h1085 b1085 "com/example/fetch_from_near/fetchfromnear/ContentType" "charset" "Ljava/lang/String;" .null := D1085 (Or.inr (hw _ (List.mem_of_getElem? (i := 46) rfl))) (ty := (.object "java/lang/String")) (by decide)
      have g1090 : Go p e below T1085 (mkF m 808 #[iv p0, iv p1, iv p2, iv p3, iv p4, iv k, iv ch, .val cv, rv b1079, iv (0 : Int32), iv (p3 &&& (3 : Int32)), .unset, .unset, .unset] [(.ref b1085)]) A0 := fun t kont => g1084 t (st1085 t kont)
      have g1091 : Go p e below T1085 (mkF m 813 #[iv p0, iv p1, iv p2, iv p3, iv p4, iv k, iv ch, .val cv, rv b1079, iv (0 : Int32), iv (p3 &&& (3 : Int32)), .unset, .unset, .unset] [cv, (.ref b1079), (.ref b1085), (.ref b1085)]) A0 := by
        intro t kont
        refine g1090 t ?_
        refine XS.dup X1085.here hx rfl (hb hby at_808) rfl rfl ?_
        refine XS.aload X1085.here hx rfl (hb hby at_809) rfl rfl ?_
        refine XS.aload X1085.here hx rfl (hb hby at_811) rfl (h_cv) ?_
        exact kont
      have ge1093 : n0 ≤ b1085 := Nat.le_trans (own_old_le O1081) (Nat.le_of_eq gb1085.symm)
      obtain ⟨_, _, ⟨T1092, L1092, k1092, n1092⟩, -, X1092, ⟨Lc1092, hQ1092, l1092, y1092, z1092⟩, st1092⟩ := X1085.specialBack hx (y := (⟨"com/example/fetch_from_near/fetchfromnear/ContentType", "<init>", "(Ljava/lang/String;Ljava/lang/String;)V"⟩ : MethodName)) rfl hown (mvT hZ (hw _ (List.mem_of_getElem? (i := 34) rfl))) (mvT hZ (hw _ (List.mem_of_getElem? (i := 35) rfl))) (mvT hZ (hw _ (List.mem_of_getElem? (i := 36) rfl))) (by decide) (backOf (W := 1) (rm_ctR l Z a0 hw [] b1085 b1079 cv h1085 n0 O1087 A1085 y1088 y1089 ge1093 h_cv) hZ (hw _ (List.mem_of_getElem? (i := 36) rfl)) (hw _ (List.mem_of_getElem? (i := 33) rfl)) (by decide) (by decide)) (g := (mkF m 813 #[iv p0, iv p1, iv p2, iv p3, iv p4, iv k, iv ch, .val cv, rv b1079, iv (0 : Int32), iv (p3 &&& (3 : Int32)), .unset, .unset, .unset] [cv, (.ref b1079), (.ref b1085), (.ref b1085)])) rfl (by rw [hml]; rfl) (Steps.refl _) (a := b1085) (argsL := [(.ref b1079), cv]) (rest := [(.ref b1085)]) (lenOf pd_12 rfl) rfl (by show 2 * 0 + _ ≤ _; exact Nat.le_of_eq rfl) (hb hby at_813) (fun _ _ => ⟨rfl, e1085, (by decide : 5 + 0 ≤ _), (by decide : 43 + 0 ≤ _)⟩)
      dsimp only [Pt.U, Pt.locs, Pt.cells, Pt.slots] at X1092 l1092 y1092 z1092 st1092 hQ1092
      subst y1092 z1092
      obtain ⟨rfl, M1092, K1092, y1094, y1095⟩ := hQ1092
      have N1092 : Fr n0 L1092 := by rw [l1092]; exact Fr.app N106 M1092
      have R1096 : CHr Z consts_1 s.vm h0 T1079.vm T1092.heap := R1086.trans (CHr.keep K1092 (sfS (Safe.ext E1085 R1080.1 (Safe.new (Nat.le_of_eq gb1085.symm))) sf0) R1086.1)
      have O1097 := O1087.keep K1092 (allS ge1093 all0)
      have g1098 : Go p e below T1092 (mkF m 816 #[iv p0, iv p1, iv p2, iv p3, iv p4, iv k, iv ch, .val cv, rv b1079, iv (0 : Int32), iv (p3 &&& (3 : Int32)), .unset, .unset, .unset] [(.ref b1085)]) A0 := fun t kont => g1091 t (st1092.trans kont)
      have y1100 : Exa Z T1092.heap b1079 "java/lang/String" := ((A1079.ext E1085).keep K1092)
      have y1101 : Fld Z T1092.heap b1079 "java/lang/String" "coder" "B" (.int (0 : Int32)) := ((F1079.ext E1085).keep K1092 (ninS (Nat.ne_of_lt (Nat.lt_of_lt_of_le A1079.lt (Nat.le_of_eq gb1085.symm))) nin0))
      have y1102 : Fld Z T1092.heap b1079 "java/lang/String" "value" "[B" (.ref c1079) := ((G1079.ext E1085).keep K1092 (ninS (Nat.ne_of_lt (Nat.lt_of_lt_of_le A1079.lt (Nat.le_of_eq gb1085.symm))) nin0))
      have y1103 : Arv Z T1092.heap c1079 kc1079 .byte (Int32.ofNat own_l21.length) (own_lb own_l21) (.int (0 : Int32)) := ((y1083.ext E1085).keep K1092 (ninS (Nat.ne_of_lt (Nat.lt_of_lt_of_le V1079.lt (Nat.le_of_eq gb1085.symm))) nin0))
      obtain ⟨cq1099, kq1099, q1099a, q1099b, q1099c⟩ := isOf hZ rfl y1094
      obtain ⟨_, _, ⟨T1099, L1099, k1099, n1099⟩, -, X1099, hS1099, hg1099, ⟨Lc1099, hQ1099, l1099, y1099, z1099, C1099⟩, st1099⟩ := X1092.virtualBackS hx (y := (⟨"com/example/fetch_from_near/fetchfromnear/ContentType", "isHtml", "()Z"⟩ : MethodName)) (z := (⟨"com/example/fetch_from_near/fetchfromnear/ContentType", "isHtml", "()Z"⟩ : MethodName)) hown (mvT hZ (hw _ (List.mem_of_getElem? (i := 47) rfl))) (mvT hZ (hw _ (List.mem_of_getElem? (i := 48) rfl))) (notFace_of_selects (args := #[]) (mvT hZ (hw _ (List.mem_of_getElem? (i := 50) rfl)))) (mvT hZ (hw _ (List.mem_of_getElem? (i := 50) rfl))) (mvT hZ (hw _ (List.mem_of_getElem? (i := 49) rfl))) (by decide) (backOfSH (W := 0) (rm_isHG l Z a0 hw [] b1085 b1079 c1079 kc1079 own_l21 i_COMPACT_STRINGS T1092.heap n0 O1097 S0_ hcs y1095 y1094 y1100 y1101 y1102 y1103 (by decide) (own_l21_c) (own_l21_l)) hZ (hw _ (List.mem_of_getElem? (i := 51) rfl)) (hw _ (List.mem_of_getElem? (i := 33) rfl)) (by decide) (by decide) (own_EW hw) R1096.1) q1099a q1099c (g := (mkF m 816 #[iv p0, iv p1, iv p2, iv p3, iv p4, iv k, iv ch, .val cv, rv b1079, iv (0 : Int32), iv (p3 &&& (3 : Int32)), .unset, .unset, .unset] [(.ref b1085)])) rfl (by rw [hml]; rfl) (Steps.refl _) (argsL := []) (rest := []) (lenOf pd_13 rfl) rfl (by show 2 * 0 + _ ≤ _; exact Nat.le_of_eq rfl) (hb hby at_816) (fun _ _ => ⟨rfl, rfl, (by decide : 5 + 4 ≤ _), (by decide : 43 + 128 ≤ _)⟩)
      dsimp only [Pt.U, Pt.locs, Pt.cells, Pt.slots] at X1099 l1099 y1099 z1099 st1099 hQ1099 hS1099 hg1099 C1099
      subst y1099 z1099
      obtain ⟨X1099, hS, hZ, hown⟩ := rebS hS (n1 := T1092.heap.size) (Nat.le_trans hk (Nat.le_trans E1085.1 K1092.1)) X1099 hS1099 hg1099 hZ hown
      obtain ⟨r1104, rfl, M1099, K1099, y1105, y1106⟩ := hQ1099
      have N1099 : Fr n0 L1099 := by rw [l1099]; exact Fr.app N1092 M1099
      have R1107 : CHr Z consts_1 s.vm h0 T1099.vm T1099.heap := R1096.trans C1099
      have O1108 := O1097.keep K1099 all0
      have g1109 : Go p e below T1099 (mkF m 819 #[iv p0, iv p1, iv p2, iv p3, iv p4, iv k, iv ch, .val cv, rv b1079, iv (0 : Int32), iv (p3 &&& (3 : Int32)), .unset, .unset, .unset] [(.int r1104)]) A0 := fun t kont => g1098 t (st1099.trans kont)
      rcases (y1105 : r1104 = (0 : Int32) ∨ r1104 = (1 : Int32)) with c1110 | c1110
      ·
        subst c1110
        have g1111 : Go p e below T1099 (mkF m 829 #[iv p0, iv p1, iv p2, iv p3, iv p4, iv k, iv ch, .val cv, rv b1079, iv (0 : Int32), iv (p3 &&& (3 : Int32)), .unset, .unset, .unset] [(.int (1 : Int32))]) A0 := by
          intro t kont
          refine g1109 t ?_
          refine XS.iload X1099.here hx rfl (hb hby at_819) rfl ?_
          refine XS.icmpNo X1099.here hx rfl (hb hby at_821) rfl (teq (by decide : (0 : Int32) = (0 : Int32))).2 ?_
          refine XS.iconst X1099.here hx rfl (hb hby at_824) ?_
          refine XS.goto X1099.here hx rfl (pc0 := 825) (pc' := 829) rfl (hb hby at_825) (by decide) (by decide) ?_
          exact kont
        obtain ⟨fs, hr, hrun, hended, hRW⟩ := X1099.leaveW hS (Nat.le_refl _) (v := some (.int (1 : Int32))) (fun h => by rw [Bd.returns] at h; cases h)
        refine ⟨_, _, g1111 _ (retN X1099 hx (t := .boolean) Bd.returns (by simp) (hb hby at_829) hr), hrun, hended, _, _, rfl, ?_, ?_, hRW.1, hRW.2.1, hRW.2.2.1, hRW.2.2.2.mono (by decide) (by decide)⟩
        ·
          show Q_law Z p0 p1 p2 p3 p4 i_COMPACT_STRINGS h0 n0 _ T1099.heap _
          exact ⟨rfl, N1099⟩
        ·
          rw [hh]
          show CHr Z consts_1 s.vm h0 T1099.vm T1099.heap
          exact R1107.trans (CHv.at X1099 hZ (own_EW hw) R1107.1)
      subst c1110
      exact ((own_len (rfl : own_l21.length = 8)) (y1106.mp rfl)).elim
    have g1113 : Go p e below T106 (mkF m 627 #[iv p0, iv p1, iv p2, iv p3, iv p4, iv k, iv ch, .val cv, .unset, .unset, iv (p3 &&& (3 : Int32)), .unset, .unset, .unset] [(.int (1 : Int32)), (.int (p3 &&& (3 : Int32)))]) A0 := by
      intro t kont
      refine g1077 t ?_
      refine XS.ifYes X106.here hx rfl (pc0 := 616) (pc' := 624) rfl (hb hby at_616) rfl ((if0 _ _).trans (feq c1076).2) (by decide) (by decide) ?_
      refine XS.iload X106.here hx rfl (hb hby at_624) rfl ?_
      refine XS.iconst X106.here hx rfl (hb hby at_626) ?_
      exact kont
    by_cases c1112 : (p3 &&& (3 : Int32)) = (1 : Int32)
    ·
      have g1114 : Go p e below T106 (mkF m 630 #[iv p0, iv p1, iv p2, iv p3, iv p4, iv k, iv ch, .val cv, .unset, .unset, iv (p3 &&& (3 : Int32)), .unset, .unset, .unset] []) A0 := by
        intro t kont
        refine g1113 t ?_
        refine XS.icmpNo X106.here hx rfl (hb hby at_627) rfl (teq c1112).2 ?_
        exact kont
      obtain ⟨b1115, T1115, h1115, k1115, c1115, kc1115, X1115, e1115, E1115, hS, hk, hZ, hown, A1115, F1115, G1115, V1115, la1115, lb1115, C1115, -, ne1115, st1115⟩ := ldcCH X106 hx hZ hown (hw _ (List.mem_of_getElem? (i := 83) rfl)) (own_wS hw) e106 hS hk (own_EW hw) (List.mem_of_getElem? (i := 5) rfl) R106.1 (vs := [(.int (97 : Int32)), (.int (112 : Int32)), (.int (112 : Int32)), (.int (108 : Int32)), (.int (105 : Int32)), (.int (99 : Int32)), (.int (97 : Int32)), (.int (116 : Int32)), (.int (105 : Int32)), (.int (111 : Int32)), (.int (110 : Int32)), (.int (47 : Int32)), (.int (120 : Int32)), (.int (109 : Int32)), (.int (108 : Int32))]) (z := (15 : Int32)) ⟨by decide, by decide⟩ (by decide) rfl (g := (mkF m 630 #[iv p0, iv p1, iv p2, iv p3, iv p4, iv k, iv ch, .val cv, .unset, .unset, iv (p3 &&& (3 : Int32)), .unset, .unset, .unset] [])) rfl (hb hby at_630) (n := 60) (by decide) (by decide) (by decide) (by decide)
      have R1116 : CHr Z consts_1 s.vm h0 T1115.vm h1115 := R106.trans C1115
      have O1117 := O126.ext E1115
      have g1118 : Go p e below T1115 (mkF m 632 #[iv p0, iv p1, iv p2, iv p3, iv p4, iv k, iv ch, .val cv, .unset, .unset, iv (p3 &&& (3 : Int32)), .unset, .unset, .unset] [(.ref b1115)]) A0 := fun t kont => g1114 t (st1115 t kont)
      have y1119 : Arv Z h1115 c1115 kc1115 .byte (Int32.ofNat own_l23.length) (own_lb own_l23) (.int (0 : Int32)) := by rw [show own_lb own_l23 = [(.int (97 : Int32)), (.int (112 : Int32)), (.int (112 : Int32)), (.int (108 : Int32)), (.int (105 : Int32)), (.int (99 : Int32)), (.int (97 : Int32)), (.int (116 : Int32)), (.int (105 : Int32)), (.int (111 : Int32)), (.int (110 : Int32)), (.int (47 : Int32)), (.int (120 : Int32)), (.int (109 : Int32)), (.int (108 : Int32))] from rfl]; exact V1115
      have g1120 : Go p e below T1115 (mkF m 805 #[iv p0, iv p1, iv p2, iv p3, iv p4, iv k, iv ch, .val cv, rv b1115, iv (0 : Int32), iv (p3 &&& (3 : Int32)), .unset, .unset, .unset] []) A0 := by
        intro t kont
        refine g1118 t ?_
        refine XS.goto X1115.here hx rfl (pc0 := 632) (pc' := 648) rfl (hb hby at_632) (by decide) (by decide) ?_
        refine XS.astore X1115.here hx rfl (hb hby at_648) rfl rfl (l' := #[iv p0, iv p1, iv p2, iv p3, iv p4, iv k, iv ch, .val cv, rv b1115, .unset, iv (p3 &&& (3 : Int32)), .unset, .unset, .unset]) rfl ?_
        refine XS.iconst X1115.here hx rfl (hb hby at_650) ?_
        refine XS.istore X1115.here hx rfl (hb hby at_651) rfl (l' := #[iv p0, iv p1, iv p2, iv p3, iv p4, iv k, iv ch, .val cv, rv b1115, iv (0 : Int32), iv (p3 &&& (3 : Int32)), .unset, .unset, .unset]) rfl ?_
        refine XS.goto X1115.here hx rfl (pc0 := 653) (pc' := 805) rfl (hb hby at_653) (by decide) (by decide) ?_
        exact kont
      obtain ⟨T1121, h1121, X1121, e1121, E1121, A1121, D1121, -, st1121⟩ := newO X1115 hx hZ hown (hw _ (List.mem_of_getElem? (i := 31) rfl)) (hw _ (List.mem_of_getElem? (i := 32) rfl)) (hw _ (List.mem_of_getElem? (i := 33) rfl)) e1115 (g := (mkF m 805 #[iv p0, iv p1, iv p2, iv p3, iv p4, iv k, iv ch, .val cv, rv b1115, iv (0 : Int32), iv (p3 &&& (3 : Int32)), .unset, .unset, .unset] [])) rfl (hb hby at_805) (by decide) (by decide)
      obtain ⟨b1121, gb1121⟩ : ∃ z, z = h1115.size := ⟨_, rfl⟩
      rw [← gb1121] at A1121 D1121 st1121
      have R1122 : CHr Z consts_1 s.vm h0 T1115.vm h1121 := R1116.trans (CHr.ext E1121 R1116.1)
      have O1123 := O1117.ext E1121
      have y1124 : Fld Z h1121 b1121 "com/example/fetch_from_near/fetchfromnear/ContentType" "mediaType" "Ljava/lang/String;" .null := D1121 (Or.inr (hw _ (List.mem_of_getElem? (i := 44) rfl))) (ty := (.object "java/lang/String")) (by decide)
      have y1125 : Fld Z h1121 b1121 "com/example/fetch_from_near/fetchfromnear/ContentType" "charset" "Ljava/lang/String;" .null := D1121 (Or.inr (hw _ (List.mem_of_getElem? (i := 46) rfl))) (ty := (.object "java/lang/String")) (by decide)
      have g1126 : Go p e below T1121 (mkF m 808 #[iv p0, iv p1, iv p2, iv p3, iv p4, iv k, iv ch, .val cv, rv b1115, iv (0 : Int32), iv (p3 &&& (3 : Int32)), .unset, .unset, .unset] [(.ref b1121)]) A0 := fun t kont => g1120 t (st1121 t kont)
      have g1127 : Go p e below T1121 (mkF m 813 #[iv p0, iv p1, iv p2, iv p3, iv p4, iv k, iv ch, .val cv, rv b1115, iv (0 : Int32), iv (p3 &&& (3 : Int32)), .unset, .unset, .unset] [cv, (.ref b1115), (.ref b1121), (.ref b1121)]) A0 := by
        intro t kont
        refine g1126 t ?_
        refine XS.dup X1121.here hx rfl (hb hby at_808) rfl rfl ?_
        refine XS.aload X1121.here hx rfl (hb hby at_809) rfl rfl ?_
        refine XS.aload X1121.here hx rfl (hb hby at_811) rfl (h_cv) ?_
        exact kont
      have ge1129 : n0 ≤ b1121 := Nat.le_trans (own_old_le O1117) (Nat.le_of_eq gb1121.symm)
      obtain ⟨_, _, ⟨T1128, L1128, k1128, n1128⟩, -, X1128, ⟨Lc1128, hQ1128, l1128, y1128, z1128⟩, st1128⟩ := X1121.specialBack hx (y := (⟨"com/example/fetch_from_near/fetchfromnear/ContentType", "<init>", "(Ljava/lang/String;Ljava/lang/String;)V"⟩ : MethodName)) rfl hown (mvT hZ (hw _ (List.mem_of_getElem? (i := 34) rfl))) (mvT hZ (hw _ (List.mem_of_getElem? (i := 35) rfl))) (mvT hZ (hw _ (List.mem_of_getElem? (i := 36) rfl))) (by decide) (backOf (W := 1) (rm_ctR l Z a0 hw [] b1121 b1115 cv h1121 n0 O1123 A1121 y1124 y1125 ge1129 h_cv) hZ (hw _ (List.mem_of_getElem? (i := 36) rfl)) (hw _ (List.mem_of_getElem? (i := 33) rfl)) (by decide) (by decide)) (g := (mkF m 813 #[iv p0, iv p1, iv p2, iv p3, iv p4, iv k, iv ch, .val cv, rv b1115, iv (0 : Int32), iv (p3 &&& (3 : Int32)), .unset, .unset, .unset] [cv, (.ref b1115), (.ref b1121), (.ref b1121)])) rfl (by rw [hml]; rfl) (Steps.refl _) (a := b1121) (argsL := [(.ref b1115), cv]) (rest := [(.ref b1121)]) (lenOf pd_12 rfl) rfl (by show 2 * 0 + _ ≤ _; exact Nat.le_of_eq rfl) (hb hby at_813) (fun _ _ => ⟨rfl, e1121, (by decide : 5 + 0 ≤ _), (by decide : 71 + 0 ≤ _)⟩)
      dsimp only [Pt.U, Pt.locs, Pt.cells, Pt.slots] at X1128 l1128 y1128 z1128 st1128 hQ1128
      subst y1128 z1128
      obtain ⟨rfl, M1128, K1128, y1130, y1131⟩ := hQ1128
      have N1128 : Fr n0 L1128 := by rw [l1128]; exact Fr.app N106 M1128
      have R1132 : CHr Z consts_1 s.vm h0 T1115.vm T1128.heap := R1122.trans (CHr.keep K1128 (sfS (Safe.ext E1121 R1116.1 (Safe.new (Nat.le_of_eq gb1121.symm))) sf0) R1122.1)
      have O1133 := O1123.keep K1128 (allS ge1129 all0)
      have g1134 : Go p e below T1128 (mkF m 816 #[iv p0, iv p1, iv p2, iv p3, iv p4, iv k, iv ch, .val cv, rv b1115, iv (0 : Int32), iv (p3 &&& (3 : Int32)), .unset, .unset, .unset] [(.ref b1121)]) A0 := fun t kont => g1127 t (st1128.trans kont)
      have y1136 : Exa Z T1128.heap b1115 "java/lang/String" := ((A1115.ext E1121).keep K1128)
      have y1137 : Fld Z T1128.heap b1115 "java/lang/String" "coder" "B" (.int (0 : Int32)) := ((F1115.ext E1121).keep K1128 (ninS (Nat.ne_of_lt (Nat.lt_of_lt_of_le A1115.lt (Nat.le_of_eq gb1121.symm))) nin0))
      have y1138 : Fld Z T1128.heap b1115 "java/lang/String" "value" "[B" (.ref c1115) := ((G1115.ext E1121).keep K1128 (ninS (Nat.ne_of_lt (Nat.lt_of_lt_of_le A1115.lt (Nat.le_of_eq gb1121.symm))) nin0))
      have y1139 : Arv Z T1128.heap c1115 kc1115 .byte (Int32.ofNat own_l23.length) (own_lb own_l23) (.int (0 : Int32)) := ((y1119.ext E1121).keep K1128 (ninS (Nat.ne_of_lt (Nat.lt_of_lt_of_le V1115.lt (Nat.le_of_eq gb1121.symm))) nin0))
      obtain ⟨cq1135, kq1135, q1135a, q1135b, q1135c⟩ := isOf hZ rfl y1130
      obtain ⟨_, _, ⟨T1135, L1135, k1135, n1135⟩, -, X1135, hS1135, hg1135, ⟨Lc1135, hQ1135, l1135, y1135, z1135, C1135⟩, st1135⟩ := X1128.virtualBackS hx (y := (⟨"com/example/fetch_from_near/fetchfromnear/ContentType", "isHtml", "()Z"⟩ : MethodName)) (z := (⟨"com/example/fetch_from_near/fetchfromnear/ContentType", "isHtml", "()Z"⟩ : MethodName)) hown (mvT hZ (hw _ (List.mem_of_getElem? (i := 47) rfl))) (mvT hZ (hw _ (List.mem_of_getElem? (i := 48) rfl))) (notFace_of_selects (args := #[]) (mvT hZ (hw _ (List.mem_of_getElem? (i := 50) rfl)))) (mvT hZ (hw _ (List.mem_of_getElem? (i := 50) rfl))) (mvT hZ (hw _ (List.mem_of_getElem? (i := 49) rfl))) (by decide) (backOfSH (W := 0) (rm_isHG l Z a0 hw [] b1121 b1115 c1115 kc1115 own_l23 i_COMPACT_STRINGS T1128.heap n0 O1133 S0_ hcs y1131 y1130 y1136 y1137 y1138 y1139 (by decide) (own_l23_c) (own_l23_l)) hZ (hw _ (List.mem_of_getElem? (i := 51) rfl)) (hw _ (List.mem_of_getElem? (i := 33) rfl)) (by decide) (by decide) (own_EW hw) R1132.1) q1135a q1135c (g := (mkF m 816 #[iv p0, iv p1, iv p2, iv p3, iv p4, iv k, iv ch, .val cv, rv b1115, iv (0 : Int32), iv (p3 &&& (3 : Int32)), .unset, .unset, .unset] [(.ref b1121)])) rfl (by rw [hml]; rfl) (Steps.refl _) (argsL := []) (rest := []) (lenOf pd_13 rfl) rfl (by show 2 * 0 + _ ≤ _; exact Nat.le_of_eq rfl) (hb hby at_816) (fun _ _ => ⟨rfl, rfl, (by decide : 5 + 4 ≤ _), (by decide : 71 + 128 ≤ _)⟩)
      dsimp only [Pt.U, Pt.locs, Pt.cells, Pt.slots] at X1135 l1135 y1135 z1135 st1135 hQ1135 hS1135 hg1135 C1135
      subst y1135 z1135
      obtain ⟨X1135, hS, hZ, hown⟩ := rebS hS (n1 := T1128.heap.size) (Nat.le_trans hk (Nat.le_trans E1121.1 K1128.1)) X1135 hS1135 hg1135 hZ hown
      obtain ⟨r1140, rfl, M1135, K1135, y1141, y1142⟩ := hQ1135
      have N1135 : Fr n0 L1135 := by rw [l1135]; exact Fr.app N1128 M1135
      have R1143 : CHr Z consts_1 s.vm h0 T1135.vm T1135.heap := R1132.trans C1135
      have O1144 := O1133.keep K1135 all0
      have g1145 : Go p e below T1135 (mkF m 819 #[iv p0, iv p1, iv p2, iv p3, iv p4, iv k, iv ch, .val cv, rv b1115, iv (0 : Int32), iv (p3 &&& (3 : Int32)), .unset, .unset, .unset] [(.int r1140)]) A0 := fun t kont => g1134 t (st1135.trans kont)
      rcases (y1141 : r1140 = (0 : Int32) ∨ r1140 = (1 : Int32)) with c1146 | c1146
      ·
        subst c1146
        have g1147 : Go p e below T1135 (mkF m 829 #[iv p0, iv p1, iv p2, iv p3, iv p4, iv k, iv ch, .val cv, rv b1115, iv (0 : Int32), iv (p3 &&& (3 : Int32)), .unset, .unset, .unset] [(.int (1 : Int32))]) A0 := by
          intro t kont
          refine g1145 t ?_
          refine XS.iload X1135.here hx rfl (hb hby at_819) rfl ?_
          refine XS.icmpNo X1135.here hx rfl (hb hby at_821) rfl (teq (by decide : (0 : Int32) = (0 : Int32))).2 ?_
          refine XS.iconst X1135.here hx rfl (hb hby at_824) ?_
          refine XS.goto X1135.here hx rfl (pc0 := 825) (pc' := 829) rfl (hb hby at_825) (by decide) (by decide) ?_
          exact kont
        obtain ⟨fs, hr, hrun, hended, hRW⟩ := X1135.leaveW hS (Nat.le_refl _) (v := some (.int (1 : Int32))) (fun h => by rw [Bd.returns] at h; cases h)
        refine ⟨_, _, g1147 _ (retN X1135 hx (t := .boolean) Bd.returns (by simp) (hb hby at_829) hr), hrun, hended, _, _, rfl, ?_, ?_, hRW.1, hRW.2.1, hRW.2.2.1, hRW.2.2.2.mono (by decide) (by decide)⟩
        ·
          show Q_law Z p0 p1 p2 p3 p4 i_COMPACT_STRINGS h0 n0 _ T1135.heap _
          exact ⟨rfl, N1135⟩
        ·
          rw [hh]
          show CHr Z consts_1 s.vm h0 T1135.vm T1135.heap
          exact R1143.trans (CHv.at X1135 hZ (own_EW hw) R1143.1)
      subst c1146
      exact ((own_len (rfl : own_l23.length = 15)) (y1142.mp rfl)).elim
    have g1149 : Go p e below T106 (mkF m 638 #[iv p0, iv p1, iv p2, iv p3, iv p4, iv k, iv ch, .val cv, .unset, .unset, iv (p3 &&& (3 : Int32)), .unset, .unset, .unset] [(.int (2 : Int32)), (.int (p3 &&& (3 : Int32)))]) A0 := by
      intro t kont
      refine g1113 t ?_
      refine XS.icmpYes X106.here hx rfl (pc0 := 627) (pc' := 635) rfl (hb hby at_627) rfl (feq c1112).2 (by decide) (by decide) ?_
      refine XS.iload X106.here hx rfl (hb hby at_635) rfl ?_
      refine XS.iconst X106.here hx rfl (hb hby at_637) ?_
      exact kont
    by_cases c1148 : (p3 &&& (3 : Int32)) = (2 : Int32)
    ·
      have g1150 : Go p e below T106 (mkF m 641 #[iv p0, iv p1, iv p2, iv p3, iv p4, iv k, iv ch, .val cv, .unset, .unset, iv (p3 &&& (3 : Int32)), .unset, .unset, .unset] []) A0 := by
        intro t kont
        refine g1149 t ?_
        refine XS.icmpNo X106.here hx rfl (hb hby at_638) rfl (teq c1148).2 ?_
        exact kont
      obtain ⟨b1151, T1151, h1151, k1151, c1151, kc1151, X1151, e1151, E1151, hS, hk, hZ, hown, A1151, F1151, G1151, V1151, la1151, lb1151, C1151, -, ne1151, st1151⟩ := ldcCH X106 hx hZ hown (hw _ (List.mem_of_getElem? (i := 81) rfl)) (own_wS hw) e106 hS hk (own_EW hw) (List.mem_of_getElem? (i := 6) rfl) R106.1 (vs := [(.int (116 : Int32)), (.int (101 : Int32)), (.int (120 : Int32)), (.int (116 : Int32)), (.int (47 : Int32)), (.int (112 : Int32)), (.int (108 : Int32)), (.int (97 : Int32)), (.int (105 : Int32)), (.int (110 : Int32))]) (z := (10 : Int32)) ⟨by decide, by decide⟩ (by decide) rfl (g := (mkF m 641 #[iv p0, iv p1, iv p2, iv p3, iv p4, iv k, iv ch, .val cv, .unset, .unset, iv (p3 &&& (3 : Int32)), .unset, .unset, .unset] [])) rfl (hb hby at_641) (n := 40) (by decide) (by decide) (by decide) (by decide)
      have R1152 : CHr Z consts_1 s.vm h0 T1151.vm h1151 := R106.trans C1151
      have O1153 := O126.ext E1151
      have g1154 : Go p e below T1151 (mkF m 643 #[iv p0, iv p1, iv p2, iv p3, iv p4, iv k, iv ch, .val cv, .unset, .unset, iv (p3 &&& (3 : Int32)), .unset, .unset, .unset] [(.ref b1151)]) A0 := fun t kont => g1150 t (st1151 t kont)
      have y1155 : Arv Z h1151 c1151 kc1151 .byte (Int32.ofNat own_l25.length) (own_lb own_l25) (.int (0 : Int32)) := by rw [show own_lb own_l25 = [(.int (116 : Int32)), (.int (101 : Int32)), (.int (120 : Int32)), (.int (116 : Int32)), (.int (47 : Int32)), (.int (112 : Int32)), (.int (108 : Int32)), (.int (97 : Int32)), (.int (105 : Int32)), (.int (110 : Int32))] from rfl]; exact V1151
      have g1156 : Go p e below T1151 (mkF m 805 #[iv p0, iv p1, iv p2, iv p3, iv p4, iv k, iv ch, .val cv, rv b1151, iv (0 : Int32), iv (p3 &&& (3 : Int32)), .unset, .unset, .unset] []) A0 := by
        intro t kont
        refine g1154 t ?_
        refine XS.goto X1151.here hx rfl (pc0 := 643) (pc' := 648) rfl (hb hby at_643) (by decide) (by decide) ?_
        refine XS.astore X1151.here hx rfl (hb hby at_648) rfl rfl (l' := #[iv p0, iv p1, iv p2, iv p3, iv p4, iv k, iv ch, .val cv, rv b1151, .unset, iv (p3 &&& (3 : Int32)), .unset, .unset, .unset]) rfl ?_
        refine XS.iconst X1151.here hx rfl (hb hby at_650) ?_
        refine XS.istore X1151.here hx rfl (hb hby at_651) rfl (l' := #[iv p0, iv p1, iv p2, iv p3, iv p4, iv k, iv ch, .val cv, rv b1151, iv (0 : Int32), iv (p3 &&& (3 : Int32)), .unset, .unset, .unset]) rfl ?_
        refine XS.goto X1151.here hx rfl (pc0 := 653) (pc' := 805) rfl (hb hby at_653) (by decide) (by decide) ?_
        exact kont
      obtain ⟨T1157, h1157, X1157, e1157, E1157, A1157, D1157, -, st1157⟩ := newO X1151 hx hZ hown (hw _ (List.mem_of_getElem? (i := 31) rfl)) (hw _ (List.mem_of_getElem? (i := 32) rfl)) (hw _ (List.mem_of_getElem? (i := 33) rfl)) e1151 (g := (mkF m 805 #[iv p0, iv p1, iv p2, iv p3, iv p4, iv k, iv ch, .val cv, rv b1151, iv (0 : Int32), iv (p3 &&& (3 : Int32)), .unset, .unset, .unset] [])) rfl (hb hby at_805) (by decide) (by decide)
      obtain ⟨b1157, gb1157⟩ : ∃ z, z = h1151.size := ⟨_, rfl⟩
      rw [← gb1157] at A1157 D1157 st1157
      have R1158 : CHr Z consts_1 s.vm h0 T1151.vm h1157 := R1152.trans (CHr.ext E1157 R1152.1)
      have O1159 := O1153.ext E1157
      have y1160 : Fld Z h1157 b1157 "com/example/fetch_from_near/fetchfromnear/ContentType" "mediaType" "Ljava/lang/String;" .null := D1157 (Or.inr (hw _ (List.mem_of_getElem? (i := 44) rfl))) (ty := (.object "java/lang/String")) (by decide)
      have y1161 : Fld Z h1157 b1157 "com/example/fetch_from_near/fetchfromnear/ContentType" "charset" "Ljava/lang/String;" .null := D1157 (Or.inr (hw _ (List.mem_of_getElem? (i := 46) rfl))) (ty := (.object "java/lang/String")) (by decide)
      have g1162 : Go p e below T1157 (mkF m 808 #[iv p0, iv p1, iv p2, iv p3, iv p4, iv k, iv ch, .val cv, rv b1151, iv (0 : Int32), iv (p3 &&& (3 : Int32)), .unset, .unset, .unset] [(.ref b1157)]) A0 := fun t kont => g1156 t (st1157 t kont)
      have g1163 : Go p e below T1157 (mkF m 813 #[iv p0, iv p1, iv p2, iv p3, iv p4, iv k, iv ch, .val cv, rv b1151, iv (0 : Int32), iv (p3 &&& (3 : Int32)), .unset, .unset, .unset] [cv, (.ref b1151), (.ref b1157), (.ref b1157)]) A0 := by
        intro t kont
        refine g1162 t ?_
        refine XS.dup X1157.here hx rfl (hb hby at_808) rfl rfl ?_
        refine XS.aload X1157.here hx rfl (hb hby at_809) rfl rfl ?_
        refine XS.aload X1157.here hx rfl (hb hby at_811) rfl (h_cv) ?_
        exact kont
      have ge1165 : n0 ≤ b1157 := Nat.le_trans (own_old_le O1153) (Nat.le_of_eq gb1157.symm)
      obtain ⟨_, _, ⟨T1164, L1164, k1164, n1164⟩, -, X1164, ⟨Lc1164, hQ1164, l1164, y1164, z1164⟩, st1164⟩ := X1157.specialBack hx (y := (⟨"com/example/fetch_from_near/fetchfromnear/ContentType", "<init>", "(Ljava/lang/String;Ljava/lang/String;)V"⟩ : MethodName)) rfl hown (mvT hZ (hw _ (List.mem_of_getElem? (i := 34) rfl))) (mvT hZ (hw _ (List.mem_of_getElem? (i := 35) rfl))) (mvT hZ (hw _ (List.mem_of_getElem? (i := 36) rfl))) (by decide) (backOf (W := 1) (rm_ctR l Z a0 hw [] b1157 b1151 cv h1157 n0 O1159 A1157 y1160 y1161 ge1165 h_cv) hZ (hw _ (List.mem_of_getElem? (i := 36) rfl)) (hw _ (List.mem_of_getElem? (i := 33) rfl)) (by decide) (by decide)) (g := (mkF m 813 #[iv p0, iv p1, iv p2, iv p3, iv p4, iv k, iv ch, .val cv, rv b1151, iv (0 : Int32), iv (p3 &&& (3 : Int32)), .unset, .unset, .unset] [cv, (.ref b1151), (.ref b1157), (.ref b1157)])) rfl (by rw [hml]; rfl) (Steps.refl _) (a := b1157) (argsL := [(.ref b1151), cv]) (rest := [(.ref b1157)]) (lenOf pd_12 rfl) rfl (by show 2 * 0 + _ ≤ _; exact Nat.le_of_eq rfl) (hb hby at_813) (fun _ _ => ⟨rfl, e1157, (by decide : 5 + 0 ≤ _), (by decide : 51 + 0 ≤ _)⟩)
      dsimp only [Pt.U, Pt.locs, Pt.cells, Pt.slots] at X1164 l1164 y1164 z1164 st1164 hQ1164
      subst y1164 z1164
      obtain ⟨rfl, M1164, K1164, y1166, y1167⟩ := hQ1164
      have N1164 : Fr n0 L1164 := by rw [l1164]; exact Fr.app N106 M1164
      have R1168 : CHr Z consts_1 s.vm h0 T1151.vm T1164.heap := R1158.trans (CHr.keep K1164 (sfS (Safe.ext E1157 R1152.1 (Safe.new (Nat.le_of_eq gb1157.symm))) sf0) R1158.1)
      have O1169 := O1159.keep K1164 (allS ge1165 all0)
      have g1170 : Go p e below T1164 (mkF m 816 #[iv p0, iv p1, iv p2, iv p3, iv p4, iv k, iv ch, .val cv, rv b1151, iv (0 : Int32), iv (p3 &&& (3 : Int32)), .unset, .unset, .unset] [(.ref b1157)]) A0 := fun t kont => g1163 t (st1164.trans kont)
      have y1172 : Exa Z T1164.heap b1151 "java/lang/String" := ((A1151.ext E1157).keep K1164)
      have y1173 : Fld Z T1164.heap b1151 "java/lang/String" "coder" "B" (.int (0 : Int32)) := ((F1151.ext E1157).keep K1164 (ninS (Nat.ne_of_lt (Nat.lt_of_lt_of_le A1151.lt (Nat.le_of_eq gb1157.symm))) nin0))
      have y1174 : Fld Z T1164.heap b1151 "java/lang/String" "value" "[B" (.ref c1151) := ((G1151.ext E1157).keep K1164 (ninS (Nat.ne_of_lt (Nat.lt_of_lt_of_le A1151.lt (Nat.le_of_eq gb1157.symm))) nin0))
      have y1175 : Arv Z T1164.heap c1151 kc1151 .byte (Int32.ofNat own_l25.length) (own_lb own_l25) (.int (0 : Int32)) := ((y1155.ext E1157).keep K1164 (ninS (Nat.ne_of_lt (Nat.lt_of_lt_of_le V1151.lt (Nat.le_of_eq gb1157.symm))) nin0))
      obtain ⟨cq1171, kq1171, q1171a, q1171b, q1171c⟩ := isOf hZ rfl y1166
      obtain ⟨_, _, ⟨T1171, L1171, k1171, n1171⟩, -, X1171, hS1171, hg1171, ⟨Lc1171, hQ1171, l1171, y1171, z1171, C1171⟩, st1171⟩ := X1164.virtualBackS hx (y := (⟨"com/example/fetch_from_near/fetchfromnear/ContentType", "isHtml", "()Z"⟩ : MethodName)) (z := (⟨"com/example/fetch_from_near/fetchfromnear/ContentType", "isHtml", "()Z"⟩ : MethodName)) hown (mvT hZ (hw _ (List.mem_of_getElem? (i := 47) rfl))) (mvT hZ (hw _ (List.mem_of_getElem? (i := 48) rfl))) (notFace_of_selects (args := #[]) (mvT hZ (hw _ (List.mem_of_getElem? (i := 50) rfl)))) (mvT hZ (hw _ (List.mem_of_getElem? (i := 50) rfl))) (mvT hZ (hw _ (List.mem_of_getElem? (i := 49) rfl))) (by decide) (backOfSH (W := 0) (rm_isHG l Z a0 hw [] b1157 b1151 c1151 kc1151 own_l25 i_COMPACT_STRINGS T1164.heap n0 O1169 S0_ hcs y1167 y1166 y1172 y1173 y1174 y1175 (by decide) (own_l25_c) (own_l25_l)) hZ (hw _ (List.mem_of_getElem? (i := 51) rfl)) (hw _ (List.mem_of_getElem? (i := 33) rfl)) (by decide) (by decide) (own_EW hw) R1168.1) q1171a q1171c (g := (mkF m 816 #[iv p0, iv p1, iv p2, iv p3, iv p4, iv k, iv ch, .val cv, rv b1151, iv (0 : Int32), iv (p3 &&& (3 : Int32)), .unset, .unset, .unset] [(.ref b1157)])) rfl (by rw [hml]; rfl) (Steps.refl _) (argsL := []) (rest := []) (lenOf pd_13 rfl) rfl (by show 2 * 0 + _ ≤ _; exact Nat.le_of_eq rfl) (hb hby at_816) (fun _ _ => ⟨rfl, rfl, (by decide : 5 + 4 ≤ _), (by decide : 51 + 128 ≤ _)⟩)
      dsimp only [Pt.U, Pt.locs, Pt.cells, Pt.slots] at X1171 l1171 y1171 z1171 st1171 hQ1171 hS1171 hg1171 C1171
      subst y1171 z1171
      obtain ⟨X1171, hS, hZ, hown⟩ := rebS hS (n1 := T1164.heap.size) (Nat.le_trans hk (Nat.le_trans E1157.1 K1164.1)) X1171 hS1171 hg1171 hZ hown
      obtain ⟨r1176, rfl, M1171, K1171, y1177, y1178⟩ := hQ1171
      have N1171 : Fr n0 L1171 := by rw [l1171]; exact Fr.app N1164 M1171
      have R1179 : CHr Z consts_1 s.vm h0 T1171.vm T1171.heap := R1168.trans C1171
      have O1180 := O1169.keep K1171 all0
      have g1181 : Go p e below T1171 (mkF m 819 #[iv p0, iv p1, iv p2, iv p3, iv p4, iv k, iv ch, .val cv, rv b1151, iv (0 : Int32), iv (p3 &&& (3 : Int32)), .unset, .unset, .unset] [(.int r1176)]) A0 := fun t kont => g1170 t (st1171.trans kont)
      rcases (y1177 : r1176 = (0 : Int32) ∨ r1176 = (1 : Int32)) with c1182 | c1182
      ·
        subst c1182
        have g1183 : Go p e below T1171 (mkF m 829 #[iv p0, iv p1, iv p2, iv p3, iv p4, iv k, iv ch, .val cv, rv b1151, iv (0 : Int32), iv (p3 &&& (3 : Int32)), .unset, .unset, .unset] [(.int (1 : Int32))]) A0 := by
          intro t kont
          refine g1181 t ?_
          refine XS.iload X1171.here hx rfl (hb hby at_819) rfl ?_
          refine XS.icmpNo X1171.here hx rfl (hb hby at_821) rfl (teq (by decide : (0 : Int32) = (0 : Int32))).2 ?_
          refine XS.iconst X1171.here hx rfl (hb hby at_824) ?_
          refine XS.goto X1171.here hx rfl (pc0 := 825) (pc' := 829) rfl (hb hby at_825) (by decide) (by decide) ?_
          exact kont
        obtain ⟨fs, hr, hrun, hended, hRW⟩ := X1171.leaveW hS (Nat.le_refl _) (v := some (.int (1 : Int32))) (fun h => by rw [Bd.returns] at h; cases h)
        refine ⟨_, _, g1183 _ (retN X1171 hx (t := .boolean) Bd.returns (by simp) (hb hby at_829) hr), hrun, hended, _, _, rfl, ?_, ?_, hRW.1, hRW.2.1, hRW.2.2.1, hRW.2.2.2.mono (by decide) (by decide)⟩
        ·
          show Q_law Z p0 p1 p2 p3 p4 i_COMPACT_STRINGS h0 n0 _ T1171.heap _
          exact ⟨rfl, N1171⟩
        ·
          rw [hh]
          show CHr Z consts_1 s.vm h0 T1171.vm T1171.heap
          exact R1179.trans (CHv.at X1171 hZ (own_EW hw) R1179.1)
      subst c1182
      exact ((own_len (rfl : own_l25.length = 10)) (y1178.mp rfl)).elim
    have g1184 : Go p e below T106 (mkF m 646 #[iv p0, iv p1, iv p2, iv p3, iv p4, iv k, iv ch, .val cv, .unset, .unset, iv (p3 &&& (3 : Int32)), .unset, .unset, .unset] []) A0 := by
      intro t kont
      refine g1149 t ?_
      refine XS.icmpYes X106.here hx rfl (pc0 := 638) (pc' := 646) rfl (hb hby at_638) rfl (feq c1148).2 (by decide) (by decide) ?_
      exact kont
    obtain ⟨b1185, T1185, h1185, k1185, c1185, kc1185, X1185, e1185, E1185, hS, hk, hZ, hown, A1185, F1185, G1185, V1185, la1185, lb1185, C1185, -, ne1185, st1185⟩ := ldcCH X106 hx hZ hown (hw _ (List.mem_of_getElem? (i := 85) rfl)) (own_wS hw) e106 hS hk (own_EW hw) (List.mem_of_getElem? (i := 7) rfl) R106.1 (vs := [(.int (97 : Int32)), (.int (112 : Int32)), (.int (112 : Int32)), (.int (108 : Int32)), (.int (105 : Int32)), (.int (99 : Int32)), (.int (97 : Int32)), (.int (116 : Int32)), (.int (105 : Int32)), (.int (111 : Int32)), (.int (110 : Int32)), (.int (47 : Int32)), (.int (120 : Int32)), (.int (104 : Int32)), (.int (116 : Int32)), (.int (109 : Int32)), (.int (108 : Int32))]) (z := (17 : Int32)) ⟨by decide, by decide⟩ (by decide) rfl (g := (mkF m 646 #[iv p0, iv p1, iv p2, iv p3, iv p4, iv k, iv ch, .val cv, .unset, .unset, iv (p3 &&& (3 : Int32)), .unset, .unset, .unset] [])) rfl (hb hby at_646) (n := 68) (by decide) (by decide) (by decide) (by decide)
    have R1186 : CHr Z consts_1 s.vm h0 T1185.vm h1185 := R106.trans C1185
    have O1187 := O126.ext E1185
    have g1188 : Go p e below T1185 (mkF m 648 #[iv p0, iv p1, iv p2, iv p3, iv p4, iv k, iv ch, .val cv, .unset, .unset, iv (p3 &&& (3 : Int32)), .unset, .unset, .unset] [(.ref b1185)]) A0 := fun t kont => g1184 t (st1185 t kont)
    have y1189 : Arv Z h1185 c1185 kc1185 .byte (Int32.ofNat own_l27.length) (own_lb own_l27) (.int (0 : Int32)) := by rw [show own_lb own_l27 = [(.int (97 : Int32)), (.int (112 : Int32)), (.int (112 : Int32)), (.int (108 : Int32)), (.int (105 : Int32)), (.int (99 : Int32)), (.int (97 : Int32)), (.int (116 : Int32)), (.int (105 : Int32)), (.int (111 : Int32)), (.int (110 : Int32)), (.int (47 : Int32)), (.int (120 : Int32)), (.int (104 : Int32)), (.int (116 : Int32)), (.int (109 : Int32)), (.int (108 : Int32))] from rfl]; exact V1185
    have g1190 : Go p e below T1185 (mkF m 805 #[iv p0, iv p1, iv p2, iv p3, iv p4, iv k, iv ch, .val cv, rv b1185, iv (0 : Int32), iv (p3 &&& (3 : Int32)), .unset, .unset, .unset] []) A0 := by
      intro t kont
      refine g1188 t ?_
      refine XS.astore X1185.here hx rfl (hb hby at_648) rfl rfl (l' := #[iv p0, iv p1, iv p2, iv p3, iv p4, iv k, iv ch, .val cv, rv b1185, .unset, iv (p3 &&& (3 : Int32)), .unset, .unset, .unset]) rfl ?_
      refine XS.iconst X1185.here hx rfl (hb hby at_650) ?_
      refine XS.istore X1185.here hx rfl (hb hby at_651) rfl (l' := #[iv p0, iv p1, iv p2, iv p3, iv p4, iv k, iv ch, .val cv, rv b1185, iv (0 : Int32), iv (p3 &&& (3 : Int32)), .unset, .unset, .unset]) rfl ?_
      refine XS.goto X1185.here hx rfl (pc0 := 653) (pc' := 805) rfl (hb hby at_653) (by decide) (by decide) ?_
      exact kont
    obtain ⟨T1191, h1191, X1191, e1191, E1191, A1191, D1191, -, st1191⟩ := newO X1185 hx hZ hown (hw _ (List.mem_of_getElem? (i := 31) rfl)) (hw _ (List.mem_of_getElem? (i := 32) rfl)) (hw _ (List.mem_of_getElem? (i := 33) rfl)) e1185 (g := (mkF m 805 #[iv p0, iv p1, iv p2, iv p3, iv p4, iv k, iv ch, .val cv, rv b1185, iv (0 : Int32), iv (p3 &&& (3 : Int32)), .unset, .unset, .unset] [])) rfl (hb hby at_805) (by decide) (by decide)
    obtain ⟨b1191, gb1191⟩ : ∃ z, z = h1185.size := ⟨_, rfl⟩
    rw [← gb1191] at A1191 D1191 st1191
    have R1192 : CHr Z consts_1 s.vm h0 T1185.vm h1191 := R1186.trans (CHr.ext E1191 R1186.1)
    have O1193 := O1187.ext E1191
    have y1194 : Fld Z h1191 b1191 "com/example/fetch_from_near/fetchfromnear/ContentType" "mediaType" "Ljava/lang/String;" .null := D1191 (Or.inr (hw _ (List.mem_of_getElem? (i := 44) rfl))) (ty := (.object "java/lang/String")) (by decide)
    have y1195 : Fld Z h1191 b1191 "com/example/fetch_from_near/fetchfromnear/ContentType" "charset" "Ljava/lang/String;" .null := D1191 (Or.inr (hw _ (List.mem_of_getElem? (i := 46) rfl))) (ty := (.object "java/lang/String")) (by decide)
    have g1196 : Go p e below T1191 (mkF m 808 #[iv p0, iv p1, iv p2, iv p3, iv p4, iv k, iv ch, .val cv, rv b1185, iv (0 : Int32), iv (p3 &&& (3 : Int32)), .unset, .unset, .unset] [(.ref b1191)]) A0 := fun t kont => g1190 t (st1191 t kont)
    have g1197 : Go p e below T1191 (mkF m 813 #[iv p0, iv p1, iv p2, iv p3, iv p4, iv k, iv ch, .val cv, rv b1185, iv (0 : Int32), iv (p3 &&& (3 : Int32)), .unset, .unset, .unset] [cv, (.ref b1185), (.ref b1191), (.ref b1191)]) A0 := by
      intro t kont
      refine g1196 t ?_
      refine XS.dup X1191.here hx rfl (hb hby at_808) rfl rfl ?_
      refine XS.aload X1191.here hx rfl (hb hby at_809) rfl rfl ?_
      refine XS.aload X1191.here hx rfl (hb hby at_811) rfl (h_cv) ?_
      exact kont
    have ge1199 : n0 ≤ b1191 := Nat.le_trans (own_old_le O1187) (Nat.le_of_eq gb1191.symm)
    obtain ⟨_, _, ⟨T1198, L1198, k1198, n1198⟩, -, X1198, ⟨Lc1198, hQ1198, l1198, y1198, z1198⟩, st1198⟩ := X1191.specialBack hx (y := (⟨"com/example/fetch_from_near/fetchfromnear/ContentType", "<init>", "(Ljava/lang/String;Ljava/lang/String;)V"⟩ : MethodName)) rfl hown (mvT hZ (hw _ (List.mem_of_getElem? (i := 34) rfl))) (mvT hZ (hw _ (List.mem_of_getElem? (i := 35) rfl))) (mvT hZ (hw _ (List.mem_of_getElem? (i := 36) rfl))) (by decide) (backOf (W := 1) (rm_ctR l Z a0 hw [] b1191 b1185 cv h1191 n0 O1193 A1191 y1194 y1195 ge1199 h_cv) hZ (hw _ (List.mem_of_getElem? (i := 36) rfl)) (hw _ (List.mem_of_getElem? (i := 33) rfl)) (by decide) (by decide)) (g := (mkF m 813 #[iv p0, iv p1, iv p2, iv p3, iv p4, iv k, iv ch, .val cv, rv b1185, iv (0 : Int32), iv (p3 &&& (3 : Int32)), .unset, .unset, .unset] [cv, (.ref b1185), (.ref b1191), (.ref b1191)])) rfl (by rw [hml]; rfl) (Steps.refl _) (a := b1191) (argsL := [(.ref b1185), cv]) (rest := [(.ref b1191)]) (lenOf pd_12 rfl) rfl (by show 2 * 0 + _ ≤ _; exact Nat.le_of_eq rfl) (hb hby at_813) (fun _ _ => ⟨rfl, e1191, (by decide : 5 + 0 ≤ _), (by decide : 79 + 0 ≤ _)⟩)
    dsimp only [Pt.U, Pt.locs, Pt.cells, Pt.slots] at X1198 l1198 y1198 z1198 st1198 hQ1198
    subst y1198 z1198
    obtain ⟨rfl, M1198, K1198, y1200, y1201⟩ := hQ1198
    have N1198 : Fr n0 L1198 := by rw [l1198]; exact Fr.app N106 M1198
    have R1202 : CHr Z consts_1 s.vm h0 T1185.vm T1198.heap := R1192.trans (CHr.keep K1198 (sfS (Safe.ext E1191 R1186.1 (Safe.new (Nat.le_of_eq gb1191.symm))) sf0) R1192.1)
    have O1203 := O1193.keep K1198 (allS ge1199 all0)
    have g1204 : Go p e below T1198 (mkF m 816 #[iv p0, iv p1, iv p2, iv p3, iv p4, iv k, iv ch, .val cv, rv b1185, iv (0 : Int32), iv (p3 &&& (3 : Int32)), .unset, .unset, .unset] [(.ref b1191)]) A0 := fun t kont => g1197 t (st1198.trans kont)
    have y1206 : Exa Z T1198.heap b1185 "java/lang/String" := ((A1185.ext E1191).keep K1198)
    have y1207 : Fld Z T1198.heap b1185 "java/lang/String" "coder" "B" (.int (0 : Int32)) := ((F1185.ext E1191).keep K1198 (ninS (Nat.ne_of_lt (Nat.lt_of_lt_of_le A1185.lt (Nat.le_of_eq gb1191.symm))) nin0))
    have y1208 : Fld Z T1198.heap b1185 "java/lang/String" "value" "[B" (.ref c1185) := ((G1185.ext E1191).keep K1198 (ninS (Nat.ne_of_lt (Nat.lt_of_lt_of_le A1185.lt (Nat.le_of_eq gb1191.symm))) nin0))
    have y1209 : Arv Z T1198.heap c1185 kc1185 .byte (Int32.ofNat own_l27.length) (own_lb own_l27) (.int (0 : Int32)) := ((y1189.ext E1191).keep K1198 (ninS (Nat.ne_of_lt (Nat.lt_of_lt_of_le V1185.lt (Nat.le_of_eq gb1191.symm))) nin0))
    obtain ⟨cq1205, kq1205, q1205a, q1205b, q1205c⟩ := isOf hZ rfl y1200
    obtain ⟨_, _, ⟨T1205, L1205, k1205, n1205⟩, -, X1205, hS1205, hg1205, ⟨Lc1205, hQ1205, l1205, y1205, z1205, C1205⟩, st1205⟩ := X1198.virtualBackS hx (y := (⟨"com/example/fetch_from_near/fetchfromnear/ContentType", "isHtml", "()Z"⟩ : MethodName)) (z := (⟨"com/example/fetch_from_near/fetchfromnear/ContentType", "isHtml", "()Z"⟩ : MethodName)) hown (mvT hZ (hw _ (List.mem_of_getElem? (i := 47) rfl))) (mvT hZ (hw _ (List.mem_of_getElem? (i := 48) rfl))) (notFace_of_selects (args := #[]) (mvT hZ (hw _ (List.mem_of_getElem? (i := 50) rfl)))) (mvT hZ (hw _ (List.mem_of_getElem? (i := 50) rfl))) (mvT hZ (hw _ (List.mem_of_getElem? (i := 49) rfl))) (by decide) (backOfSH (W := 0) (rm_isHG l Z a0 hw [] b1191 b1185 c1185 kc1185 own_l27 i_COMPACT_STRINGS T1198.heap n0 O1203 S0_ hcs y1201 y1200 y1206 y1207 y1208 y1209 (by decide) (own_l27_c) (own_l27_l)) hZ (hw _ (List.mem_of_getElem? (i := 51) rfl)) (hw _ (List.mem_of_getElem? (i := 33) rfl)) (by decide) (by decide) (own_EW hw) R1202.1) q1205a q1205c (g := (mkF m 816 #[iv p0, iv p1, iv p2, iv p3, iv p4, iv k, iv ch, .val cv, rv b1185, iv (0 : Int32), iv (p3 &&& (3 : Int32)), .unset, .unset, .unset] [(.ref b1191)])) rfl (by rw [hml]; rfl) (Steps.refl _) (argsL := []) (rest := []) (lenOf pd_13 rfl) rfl (by show 2 * 0 + _ ≤ _; exact Nat.le_of_eq rfl) (hb hby at_816) (fun _ _ => ⟨rfl, rfl, (by decide : 5 + 4 ≤ _), (by decide : 79 + 128 ≤ _)⟩)
    dsimp only [Pt.U, Pt.locs, Pt.cells, Pt.slots] at X1205 l1205 y1205 z1205 st1205 hQ1205 hS1205 hg1205 C1205
    subst y1205 z1205
    obtain ⟨X1205, hS, hZ, hown⟩ := rebS hS (n1 := T1198.heap.size) (Nat.le_trans hk (Nat.le_trans E1191.1 K1198.1)) X1205 hS1205 hg1205 hZ hown
    obtain ⟨r1210, rfl, M1205, K1205, y1211, y1212⟩ := hQ1205
    have N1205 : Fr n0 L1205 := by rw [l1205]; exact Fr.app N1198 M1205
    have R1213 : CHr Z consts_1 s.vm h0 T1205.vm T1205.heap := R1202.trans C1205
    have O1214 := O1203.keep K1205 all0
    have g1215 : Go p e below T1205 (mkF m 819 #[iv p0, iv p1, iv p2, iv p3, iv p4, iv k, iv ch, .val cv, rv b1185, iv (0 : Int32), iv (p3 &&& (3 : Int32)), .unset, .unset, .unset] [(.int r1210)]) A0 := fun t kont => g1204 t (st1205.trans kont)
    rcases (y1211 : r1210 = (0 : Int32) ∨ r1210 = (1 : Int32)) with c1216 | c1216
    ·
      subst c1216
      have g1217 : Go p e below T1205 (mkF m 829 #[iv p0, iv p1, iv p2, iv p3, iv p4, iv k, iv ch, .val cv, rv b1185, iv (0 : Int32), iv (p3 &&& (3 : Int32)), .unset, .unset, .unset] [(.int (1 : Int32))]) A0 := by
        intro t kont
        refine g1215 t ?_
        refine XS.iload X1205.here hx rfl (hb hby at_819) rfl ?_
        refine XS.icmpNo X1205.here hx rfl (hb hby at_821) rfl (teq (by decide : (0 : Int32) = (0 : Int32))).2 ?_
        refine XS.iconst X1205.here hx rfl (hb hby at_824) ?_
        refine XS.goto X1205.here hx rfl (pc0 := 825) (pc' := 829) rfl (hb hby at_825) (by decide) (by decide) ?_
        exact kont
      obtain ⟨fs, hr, hrun, hended, hRW⟩ := X1205.leaveW hS (Nat.le_refl _) (v := some (.int (1 : Int32))) (fun h => by rw [Bd.returns] at h; cases h)
      refine ⟨_, _, g1217 _ (retN X1205 hx (t := .boolean) Bd.returns (by simp) (hb hby at_829) hr), hrun, hended, _, _, rfl, ?_, ?_, hRW.1, hRW.2.1, hRW.2.2.1, hRW.2.2.2.mono (by decide) (by decide)⟩
      ·
        show Q_law Z p0 p1 p2 p3 p4 i_COMPACT_STRINGS h0 n0 _ T1205.heap _
        exact ⟨rfl, N1205⟩
      ·
        rw [hh]
        show CHr Z consts_1 s.vm h0 T1205.vm T1205.heap
        exact R1213.trans (CHv.at X1205 hZ (own_EW hw) R1213.1)
    subst c1216
    exact ((own_len (rfl : own_l27.length = 17)) (y1212.mp rfl)).elim
  have g1219 : Go p e below T106 (mkF m 660 #[iv p0, iv p1, iv p2, iv p3, iv p4, iv k, iv ch, .val cv, .unset, .unset, .unset, .unset, .unset, .unset] [(.int (6 : Int32)), (.int k)]) A0 := by
    intro t kont
    refine g1075 t ?_
    refine XS.icmpYes X106.here hx rfl (pc0 := 606) (pc' := 656) rfl (hb hby at_606) rfl (feq c1074).2 (by decide) (by decide) ?_
    refine XS.iload X106.here hx rfl (hb hby at_656) rfl ?_
    refine XS.bipush X106.here hx rfl (hb hby at_658) ?_
    exact kont
  by_cases c1218 : k = (6 : Int32)
  ·
    have g1220 : Go p e below T106 (mkF m 674 #[iv p0, iv p1, iv p2, iv p3, iv p4, iv k, iv ch, .val cv, .unset, .unset, iv (p3 &&& (3 : Int32)), .unset, .unset, .unset] [(.int ((p1 &&& (255 : Int32)).toUInt32.toUInt16.toUInt32.toInt32))]) A0 := by
      intro t kont
      refine g1219 t ?_
      refine XS.icmpNo X106.here hx rfl (hb hby at_660) rfl (teq c1218).2 ?_
      refine XS.iloadN X106.here hx rfl (hb hby at_663) rfl ?_
      refine XS.iconst X106.here hx rfl (hb hby at_664) ?_
      refine XS.iand X106.here hx rfl (hb hby at_665) rfl ?_
      refine XS.istore X106.here hx rfl (hb hby at_666) rfl (l' := #[iv p0, iv p1, iv p2, iv p3, iv p4, iv k, iv ch, .val cv, .unset, .unset, iv (p3 &&& (3 : Int32)), .unset, .unset, .unset]) rfl ?_
      refine XS.iloadN X106.here hx rfl (hb hby at_668) rfl ?_
      refine XS.sipush X106.here hx rfl (hb hby at_669) ?_
      refine XS.iand X106.here hx rfl (hb hby at_672) rfl ?_
      refine XS.i2c X106.here hx rfl (hb hby at_673) rfl ?_
      exact kont
    obtain ⟨c2, e_c2⟩ : ∃ z, z = ((p1 &&& (255 : Int32)).toUInt32.toUInt16.toUInt32.toInt32) := ⟨_, rfl⟩
    have g1221 : Go p e below T106 (mkF m 674 #[iv p0, iv p1, iv p2, iv p3, iv p4, iv k, iv ch, .val cv, .unset, .unset, iv (p3 &&& (3 : Int32)), .unset, .unset, .unset] [(.int c2)]) A0 := by rw [e_c2]; exact g1220
    have b_c2 : ¬ ((255 : Int32) < c2) := by rw [e_c2]; exact own_c255 _
    have z_c2 : ¬ (c2 < (0 : Int32)) := by rw [e_c2]; exact own_c0 _
    have r_c2 : nar .char c2 = c2 := by rw [e_c2]; exact own_narc _
    have g1222 : Go p e below T106 (mkF m 685 #[iv p0, iv p1, iv p2, iv p3, iv p4, iv k, iv ch, .val cv, .unset, .unset, iv (p3 &&& (3 : Int32)), iv c2, .unset, .unset] [(.int ((((p1.toUInt32 >>> ((8 : Int32) &&& 31).toUInt32).toInt32) &&& (255 : Int32)).toUInt32.toUInt16.toUInt32.toInt32))]) A0 := by
      intro t kont
      refine g1221 t ?_
      refine XS.istore X106.here hx rfl (hb hby at_674) rfl (l' := #[iv p0, iv p1, iv p2, iv p3, iv p4, iv k, iv ch, .val cv, .unset, .unset, iv (p3 &&& (3 : Int32)), iv c2, .unset, .unset]) rfl ?_
      refine XS.iloadN X106.here hx rfl (hb hby at_676) rfl ?_
      refine XS.bipush X106.here hx rfl (hb hby at_677) ?_
      refine XS.iushr X106.here hx rfl (hb hby at_679) rfl ?_
      refine XS.sipush X106.here hx rfl (hb hby at_680) ?_
      refine XS.iand X106.here hx rfl (hb hby at_683) rfl ?_
      refine XS.i2c X106.here hx rfl (hb hby at_684) rfl ?_
      exact kont
    obtain ⟨c3, e_c3⟩ : ∃ z, z = ((((p1.toUInt32 >>> ((8 : Int32) &&& 31).toUInt32).toInt32) &&& (255 : Int32)).toUInt32.toUInt16.toUInt32.toInt32) := ⟨_, rfl⟩
    have g1223 : Go p e below T106 (mkF m 685 #[iv p0, iv p1, iv p2, iv p3, iv p4, iv k, iv ch, .val cv, .unset, .unset, iv (p3 &&& (3 : Int32)), iv c2, .unset, .unset] [(.int c3)]) A0 := by rw [e_c3]; exact g1222
    have b_c3 : ¬ ((255 : Int32) < c3) := by rw [e_c3]; exact own_c255 _
    have z_c3 : ¬ (c3 < (0 : Int32)) := by rw [e_c3]; exact own_c0 _
    have r_c3 : nar .char c3 = c3 := by rw [e_c3]; exact own_narc _
    have g1225 : Go p e below T106 (mkF m 689 #[iv p0, iv p1, iv p2, iv p3, iv p4, iv k, iv ch, .val cv, .unset, .unset, iv (p3 &&& (3 : Int32)), iv c2, iv c3, .unset] [(.int (p3 &&& (3 : Int32)))]) A0 := by
      intro t kont
      refine g1223 t ?_
      refine XS.istore X106.here hx rfl (hb hby at_685) rfl (l' := #[iv p0, iv p1, iv p2, iv p3, iv p4, iv k, iv ch, .val cv, .unset, .unset, iv (p3 &&& (3 : Int32)), iv c2, iv c3, .unset]) rfl ?_
      refine XS.iload X106.here hx rfl (hb hby at_687) rfl ?_
      exact kont
    by_cases c1224 : (p3 &&& (3 : Int32)) = (0 : Int32)
    ·
      have g1226 : Go p e below T106 (mkF m 692 #[iv p0, iv p1, iv p2, iv p3, iv p4, iv k, iv ch, .val cv, .unset, .unset, iv (p3 &&& (3 : Int32)), iv c2, iv c3, .unset] []) A0 := by
        intro t kont
        refine g1225 t ?_
        refine XS.ifNo X106.here hx rfl (hb hby at_689) rfl ((if0 _ _).trans (teq c1224).2) ?_
        exact kont
      obtain ⟨b1227, T1227, h1227, k1227, c1227, kc1227, X1227, e1227, E1227, hS, hk, hZ, hown, A1227, F1227, G1227, V1227, la1227, lb1227, C1227, -, ne1227, st1227⟩ := ldcCH X106 hx hZ hown (hw _ (List.mem_of_getElem? (i := 80) rfl)) (own_wS hw) e106 hS hk (own_EW hw) (List.mem_of_getElem? (i := 8) rfl) R106.1 (vs := []) (z := (0 : Int32)) ⟨by decide, by decide⟩ (by decide) rfl (g := (mkF m 692 #[iv p0, iv p1, iv p2, iv p3, iv p4, iv k, iv ch, .val cv, .unset, .unset, iv (p3 &&& (3 : Int32)), iv c2, iv c3, .unset] [])) rfl (hb hby at_692) (n := 0) (by decide) (by decide) (by decide) (by decide)
      have R1228 : CHr Z consts_1 s.vm h0 T1227.vm h1227 := R106.trans C1227
      have O1229 := O126.ext E1227
      have g1230 : Go p e below T1227 (mkF m 694 #[iv p0, iv p1, iv p2, iv p3, iv p4, iv k, iv ch, .val cv, .unset, .unset, iv (p3 &&& (3 : Int32)), iv c2, iv c3, .unset] [(.ref b1227)]) A0 := fun t kont => g1226 t (st1227 t kont)
      have y1231 : Arv Z h1227 c1227 kc1227 .byte (Int32.ofNat own_l29.length) (own_lb own_l29) (.int (0 : Int32)) := by rw [show own_lb own_l29 = [] from rfl]; exact V1227
      have g1232 : Go p e below T1227 (mkF m 805 #[iv p0, iv p1, iv p2, iv p3, iv p4, iv k, iv ch, .val cv, rv b1227, iv (0 : Int32), iv (p3 &&& (3 : Int32)), iv c2, iv c3, .unset] []) A0 := by
        intro t kont
        refine g1230 t ?_
        refine XS.astore X1227.here hx rfl (hb hby at_694) rfl rfl (l' := #[iv p0, iv p1, iv p2, iv p3, iv p4, iv k, iv ch, .val cv, rv b1227, .unset, iv (p3 &&& (3 : Int32)), iv c2, iv c3, .unset]) rfl ?_
        refine XS.goto X1227.here hx rfl (pc0 := 696) (pc' := 781) rfl (hb hby at_696) (by decide) (by decide) ?_
        refine XS.iconst X1227.here hx rfl (hb hby at_781) ?_
        refine XS.istore X1227.here hx rfl (hb hby at_782) rfl (l' := #[iv p0, iv p1, iv p2, iv p3, iv p4, iv k, iv ch, .val cv, rv b1227, iv (0 : Int32), iv (p3 &&& (3 : Int32)), iv c2, iv c3, .unset]) rfl ?_
        refine XS.goto X1227.here hx rfl (pc0 := 784) (pc' := 805) rfl (hb hby at_784) (by decide) (by decide) ?_
        exact kont
      obtain ⟨T1233, h1233, X1233, e1233, E1233, A1233, D1233, -, st1233⟩ := newO X1227 hx hZ hown (hw _ (List.mem_of_getElem? (i := 31) rfl)) (hw _ (List.mem_of_getElem? (i := 32) rfl)) (hw _ (List.mem_of_getElem? (i := 33) rfl)) e1227 (g := (mkF m 805 #[iv p0, iv p1, iv p2, iv p3, iv p4, iv k, iv ch, .val cv, rv b1227, iv (0 : Int32), iv (p3 &&& (3 : Int32)), iv c2, iv c3, .unset] [])) rfl (hb hby at_805) (by decide) (by decide)
      obtain ⟨b1233, gb1233⟩ : ∃ z, z = h1227.size := ⟨_, rfl⟩
      rw [← gb1233] at A1233 D1233 st1233
      have R1234 : CHr Z consts_1 s.vm h0 T1227.vm h1233 := R1228.trans (CHr.ext E1233 R1228.1)
      have O1235 := O1229.ext E1233
      have y1236 : Fld Z h1233 b1233 "com/example/fetch_from_near/fetchfromnear/ContentType" "mediaType" "Ljava/lang/String;" .null := D1233 (Or.inr (hw _ (List.mem_of_getElem? (i := 44) rfl))) (ty := (.object "java/lang/String")) (by decide)
      have y1237 : Fld Z h1233 b1233 "com/example/fetch_from_near/fetchfromnear/ContentType" "charset" "Ljava/lang/String;" .null := D1233 (Or.inr (hw _ (List.mem_of_getElem? (i := 46) rfl))) (ty := (.object "java/lang/String")) (by decide)
      have g1238 : Go p e below T1233 (mkF m 808 #[iv p0, iv p1, iv p2, iv p3, iv p4, iv k, iv ch, .val cv, rv b1227, iv (0 : Int32), iv (p3 &&& (3 : Int32)), iv c2, iv c3, .unset] [(.ref b1233)]) A0 := fun t kont => g1232 t (st1233 t kont)
      have g1239 : Go p e below T1233 (mkF m 813 #[iv p0, iv p1, iv p2, iv p3, iv p4, iv k, iv ch, .val cv, rv b1227, iv (0 : Int32), iv (p3 &&& (3 : Int32)), iv c2, iv c3, .unset] [cv, (.ref b1227), (.ref b1233), (.ref b1233)]) A0 := by
        intro t kont
        refine g1238 t ?_
        refine XS.dup X1233.here hx rfl (hb hby at_808) rfl rfl ?_
        refine XS.aload X1233.here hx rfl (hb hby at_809) rfl rfl ?_
        refine XS.aload X1233.here hx rfl (hb hby at_811) rfl (h_cv) ?_
        exact kont
      have ge1241 : n0 ≤ b1233 := Nat.le_trans (own_old_le O1229) (Nat.le_of_eq gb1233.symm)
      obtain ⟨_, _, ⟨T1240, L1240, k1240, n1240⟩, -, X1240, ⟨Lc1240, hQ1240, l1240, y1240, z1240⟩, st1240⟩ := X1233.specialBack hx (y := (⟨"com/example/fetch_from_near/fetchfromnear/ContentType", "<init>", "(Ljava/lang/String;Ljava/lang/String;)V"⟩ : MethodName)) rfl hown (mvT hZ (hw _ (List.mem_of_getElem? (i := 34) rfl))) (mvT hZ (hw _ (List.mem_of_getElem? (i := 35) rfl))) (mvT hZ (hw _ (List.mem_of_getElem? (i := 36) rfl))) (by decide) (backOf (W := 1) (rm_ctR l Z a0 hw [] b1233 b1227 cv h1233 n0 O1235 A1233 y1236 y1237 ge1241 h_cv) hZ (hw _ (List.mem_of_getElem? (i := 36) rfl)) (hw _ (List.mem_of_getElem? (i := 33) rfl)) (by decide) (by decide)) (g := (mkF m 813 #[iv p0, iv p1, iv p2, iv p3, iv p4, iv k, iv ch, .val cv, rv b1227, iv (0 : Int32), iv (p3 &&& (3 : Int32)), iv c2, iv c3, .unset] [cv, (.ref b1227), (.ref b1233), (.ref b1233)])) rfl (by rw [hml]; rfl) (Steps.refl _) (a := b1233) (argsL := [(.ref b1227), cv]) (rest := [(.ref b1233)]) (lenOf pd_12 rfl) rfl (by show 2 * 0 + _ ≤ _; exact Nat.le_of_eq rfl) (hb hby at_813) (fun _ _ => ⟨rfl, e1233, (by decide : 5 + 0 ≤ _), (by decide : 11 + 0 ≤ _)⟩)
      dsimp only [Pt.U, Pt.locs, Pt.cells, Pt.slots] at X1240 l1240 y1240 z1240 st1240 hQ1240
      subst y1240 z1240
      obtain ⟨rfl, M1240, K1240, y1242, y1243⟩ := hQ1240
      have N1240 : Fr n0 L1240 := by rw [l1240]; exact Fr.app N106 M1240
      have R1244 : CHr Z consts_1 s.vm h0 T1227.vm T1240.heap := R1234.trans (CHr.keep K1240 (sfS (Safe.ext E1233 R1228.1 (Safe.new (Nat.le_of_eq gb1233.symm))) sf0) R1234.1)
      have O1245 := O1235.keep K1240 (allS ge1241 all0)
      have g1246 : Go p e below T1240 (mkF m 816 #[iv p0, iv p1, iv p2, iv p3, iv p4, iv k, iv ch, .val cv, rv b1227, iv (0 : Int32), iv (p3 &&& (3 : Int32)), iv c2, iv c3, .unset] [(.ref b1233)]) A0 := fun t kont => g1239 t (st1240.trans kont)
      have y1248 : Exa Z T1240.heap b1227 "java/lang/String" := ((A1227.ext E1233).keep K1240)
      have y1249 : Fld Z T1240.heap b1227 "java/lang/String" "coder" "B" (.int (0 : Int32)) := ((F1227.ext E1233).keep K1240 (ninS (Nat.ne_of_lt (Nat.lt_of_lt_of_le A1227.lt (Nat.le_of_eq gb1233.symm))) nin0))
      have y1250 : Fld Z T1240.heap b1227 "java/lang/String" "value" "[B" (.ref c1227) := ((G1227.ext E1233).keep K1240 (ninS (Nat.ne_of_lt (Nat.lt_of_lt_of_le A1227.lt (Nat.le_of_eq gb1233.symm))) nin0))
      have y1251 : Arv Z T1240.heap c1227 kc1227 .byte (Int32.ofNat own_l29.length) (own_lb own_l29) (.int (0 : Int32)) := ((y1231.ext E1233).keep K1240 (ninS (Nat.ne_of_lt (Nat.lt_of_lt_of_le V1227.lt (Nat.le_of_eq gb1233.symm))) nin0))
      obtain ⟨cq1247, kq1247, q1247a, q1247b, q1247c⟩ := isOf hZ rfl y1242
      obtain ⟨_, _, ⟨T1247, L1247, k1247, n1247⟩, -, X1247, hS1247, hg1247, ⟨Lc1247, hQ1247, l1247, y1247, z1247, C1247⟩, st1247⟩ := X1240.virtualBackS hx (y := (⟨"com/example/fetch_from_near/fetchfromnear/ContentType", "isHtml", "()Z"⟩ : MethodName)) (z := (⟨"com/example/fetch_from_near/fetchfromnear/ContentType", "isHtml", "()Z"⟩ : MethodName)) hown (mvT hZ (hw _ (List.mem_of_getElem? (i := 47) rfl))) (mvT hZ (hw _ (List.mem_of_getElem? (i := 48) rfl))) (notFace_of_selects (args := #[]) (mvT hZ (hw _ (List.mem_of_getElem? (i := 50) rfl)))) (mvT hZ (hw _ (List.mem_of_getElem? (i := 50) rfl))) (mvT hZ (hw _ (List.mem_of_getElem? (i := 49) rfl))) (by decide) (backOfSH (W := 0) (rm_isHG l Z a0 hw [] b1233 b1227 c1227 kc1227 own_l29 i_COMPACT_STRINGS T1240.heap n0 O1245 S0_ hcs y1243 y1242 y1248 y1249 y1250 y1251 (by decide) (own_l29_c) (own_l29_l)) hZ (hw _ (List.mem_of_getElem? (i := 51) rfl)) (hw _ (List.mem_of_getElem? (i := 33) rfl)) (by decide) (by decide) (own_EW hw) R1244.1) q1247a q1247c (g := (mkF m 816 #[iv p0, iv p1, iv p2, iv p3, iv p4, iv k, iv ch, .val cv, rv b1227, iv (0 : Int32), iv (p3 &&& (3 : Int32)), iv c2, iv c3, .unset] [(.ref b1233)])) rfl (by rw [hml]; rfl) (Steps.refl _) (argsL := []) (rest := []) (lenOf pd_13 rfl) rfl (by show 2 * 0 + _ ≤ _; exact Nat.le_of_eq rfl) (hb hby at_816) (fun _ _ => ⟨rfl, rfl, (by decide : 5 + 4 ≤ _), (by decide : 11 + 128 ≤ _)⟩)
      dsimp only [Pt.U, Pt.locs, Pt.cells, Pt.slots] at X1247 l1247 y1247 z1247 st1247 hQ1247 hS1247 hg1247 C1247
      subst y1247 z1247
      obtain ⟨X1247, hS, hZ, hown⟩ := rebS hS (n1 := T1240.heap.size) (Nat.le_trans hk (Nat.le_trans E1233.1 K1240.1)) X1247 hS1247 hg1247 hZ hown
      obtain ⟨r1252, rfl, M1247, K1247, y1253, y1254⟩ := hQ1247
      have N1247 : Fr n0 L1247 := by rw [l1247]; exact Fr.app N1240 M1247
      have R1255 : CHr Z consts_1 s.vm h0 T1247.vm T1247.heap := R1244.trans C1247
      have O1256 := O1245.keep K1247 all0
      have g1257 : Go p e below T1247 (mkF m 819 #[iv p0, iv p1, iv p2, iv p3, iv p4, iv k, iv ch, .val cv, rv b1227, iv (0 : Int32), iv (p3 &&& (3 : Int32)), iv c2, iv c3, .unset] [(.int r1252)]) A0 := fun t kont => g1246 t (st1247.trans kont)
      rcases (y1253 : r1252 = (0 : Int32) ∨ r1252 = (1 : Int32)) with c1258 | c1258
      ·
        subst c1258
        have g1259 : Go p e below T1247 (mkF m 829 #[iv p0, iv p1, iv p2, iv p3, iv p4, iv k, iv ch, .val cv, rv b1227, iv (0 : Int32), iv (p3 &&& (3 : Int32)), iv c2, iv c3, .unset] [(.int (1 : Int32))]) A0 := by
          intro t kont
          refine g1257 t ?_
          refine XS.iload X1247.here hx rfl (hb hby at_819) rfl ?_
          refine XS.icmpNo X1247.here hx rfl (hb hby at_821) rfl (teq (by decide : (0 : Int32) = (0 : Int32))).2 ?_
          refine XS.iconst X1247.here hx rfl (hb hby at_824) ?_
          refine XS.goto X1247.here hx rfl (pc0 := 825) (pc' := 829) rfl (hb hby at_825) (by decide) (by decide) ?_
          exact kont
        obtain ⟨fs, hr, hrun, hended, hRW⟩ := X1247.leaveW hS (Nat.le_refl _) (v := some (.int (1 : Int32))) (fun h => by rw [Bd.returns] at h; cases h)
        refine ⟨_, _, g1259 _ (retN X1247 hx (t := .boolean) Bd.returns (by simp) (hb hby at_829) hr), hrun, hended, _, _, rfl, ?_, ?_, hRW.1, hRW.2.1, hRW.2.2.1, hRW.2.2.2.mono (by decide) (by decide)⟩
        ·
          show Q_law Z p0 p1 p2 p3 p4 i_COMPACT_STRINGS h0 n0 _ T1247.heap _
          exact ⟨rfl, N1247⟩
        ·
          rw [hh]
          show CHr Z consts_1 s.vm h0 T1247.vm T1247.heap
          exact R1255.trans (CHv.at X1247 hZ (own_EW hw) R1255.1)
      subst c1258
      exact ((own_len (rfl : own_l29.length = 0)) (y1254.mp rfl)).elim
    have g1261 : Go p e below T106 (mkF m 702 #[iv p0, iv p1, iv p2, iv p3, iv p4, iv k, iv ch, .val cv, .unset, .unset, iv (p3 &&& (3 : Int32)), iv c2, iv c3, .unset] [(.int (1 : Int32)), (.int (p3 &&& (3 : Int32)))]) A0 := by
      intro t kont
      refine g1225 t ?_
      refine XS.ifYes X106.here hx rfl (pc0 := 689) (pc' := 699) rfl (hb hby at_689) rfl ((if0 _ _).trans (feq c1224).2) (by decide) (by decide) ?_
      refine XS.iload X106.here hx rfl (hb hby at_699) rfl ?_
      refine XS.iconst X106.here hx rfl (hb hby at_701) ?_
      exact kont
    by_cases c1260 : (p3 &&& (3 : Int32)) = (1 : Int32)
    ·
      have g1262 : Go p e below T106 (mkF m 707 #[iv p0, iv p1, iv p2, iv p3, iv p4, iv k, iv ch, .val cv, .unset, .unset, iv (p3 &&& (3 : Int32)), iv c2, iv c3, .unset] [(.int ch)]) A0 := by
        intro t kont
        refine g1261 t ?_
        refine XS.icmpNo X106.here hx rfl (hb hby at_702) rfl (teq c1260).2 ?_
        refine XS.iload X106.here hx rfl (hb hby at_705) rfl ?_
        exact kont
      obtain ⟨_, _, ⟨T1263, L1263, k1263, n1263⟩, -, X1263, ⟨Lc1263, hQ1263, l1263, y1263, z1263⟩, st1263⟩ := Jvm.LawKit.callS X106 hx (y := (⟨"java/lang/String", "valueOf", "(C)Ljava/lang/String;"⟩ : MethodName)) hown (mvT hZ (hw _ (List.mem_of_getElem? (i := 66) rfl))) (mvT hZ (hw _ (List.mem_of_getElem? (i := 67) rfl))) (mvT hZ (hw _ (List.mem_of_getElem? (i := 4) rfl))) (mvT hZ (hw _ (List.mem_of_getElem? (i := 68) rfl))) (by decide) (backOf (W := 0) (rm_valC l Z a0 hw [] ch i_COMPACT_STRINGS h106 n0 O126 S0_ hcs (b_ch)) hZ (hw _ (List.mem_of_getElem? (i := 68) rfl)) (hw _ (List.mem_of_getElem? (i := 4) rfl)) (by decide) (by decide)) (g := (mkF m 707 #[iv p0, iv p1, iv p2, iv p3, iv p4, iv k, iv ch, .val cv, .unset, .unset, iv (p3 &&& (3 : Int32)), iv c2, iv c3, .unset] [(.int ch)])) rfl (by rw [hml]; rfl) (argsL := [(.int ch)]) (rest := []) (lenOf pd_10 rfl) rfl (by show 2 * 0 + _ ≤ _; exact Nat.le_of_eq rfl) (hb hby at_707) (fun _ _ => ⟨rfl, e106, (by decide : 2 + 2 ≤ _), (by decide : 5 + 5 ≤ _)⟩)
      dsimp only [Pt.U, Pt.locs, Pt.cells, Pt.slots] at X1263 l1263 y1263 z1263 st1263 hQ1263
      subst y1263 z1263
      obtain ⟨r1264, r1265, r1266, rfl, M1263, K1263, y1267, y1268, y1269, y1270, y1271, y1272⟩ := hQ1263
      have N1263 : Fr n0 L1263 := by rw [l1263]; exact Fr.app N106 M1263
      have R1273 : CHr Z consts_1 s.vm h0 vm106 T1263.heap := R106.trans (CHr.keep K1263 sf0 R106.1)
      have O1274 := O126.keep K1263 all0
      have g1275 : Go p e below T1263 (mkF m 710 #[iv p0, iv p1, iv p2, iv p3, iv p4, iv k, iv ch, .val cv, .unset, .unset, iv (p3 &&& (3 : Int32)), iv c2, iv c3, .unset] [(.ref r1264)]) A0 := fun t kont => g1262 t (st1263 t kont)
      have y1276 : Arv Z T1263.heap r1265 r1266 .byte (Int32.ofNat [ch].length) (own_lb [ch]) (.int (0 : Int32)) := y1272
      have c_ch1 : own_chars [ch] := (own_ccons ⟨z_ch, own_w255 b_ch⟩ own_cnil)
      have d_ch1 : own_lat [ch] := (own_lcons b_ch own_lnil)
      have g1277 : Go p e below T1263 (mkF m 805 #[iv p0, iv p1, iv p2, iv p3, iv p4, iv k, iv ch, .val cv, rv r1264, iv (0 : Int32), iv (p3 &&& (3 : Int32)), iv c2, iv c3, .unset] []) A0 := by
        intro t kont
        refine g1275 t ?_
        refine XS.astore X1263.here hx rfl (hb hby at_710) rfl rfl (l' := #[iv p0, iv p1, iv p2, iv p3, iv p4, iv k, iv ch, .val cv, rv r1264, .unset, iv (p3 &&& (3 : Int32)), iv c2, iv c3, .unset]) rfl ?_
        refine XS.goto X1263.here hx rfl (pc0 := 712) (pc' := 781) rfl (hb hby at_712) (by decide) (by decide) ?_
        refine XS.iconst X1263.here hx rfl (hb hby at_781) ?_
        refine XS.istore X1263.here hx rfl (hb hby at_782) rfl (l' := #[iv p0, iv p1, iv p2, iv p3, iv p4, iv k, iv ch, .val cv, rv r1264, iv (0 : Int32), iv (p3 &&& (3 : Int32)), iv c2, iv c3, .unset]) rfl ?_
        refine XS.goto X1263.here hx rfl (pc0 := 784) (pc' := 805) rfl (hb hby at_784) (by decide) (by decide) ?_
        exact kont
      obtain ⟨T1278, h1278, X1278, e1278, E1278, A1278, D1278, -, st1278⟩ := newO X1263 hx hZ hown (hw _ (List.mem_of_getElem? (i := 31) rfl)) (hw _ (List.mem_of_getElem? (i := 32) rfl)) (hw _ (List.mem_of_getElem? (i := 33) rfl)) rfl (g := (mkF m 805 #[iv p0, iv p1, iv p2, iv p3, iv p4, iv k, iv ch, .val cv, rv r1264, iv (0 : Int32), iv (p3 &&& (3 : Int32)), iv c2, iv c3, .unset] [])) rfl (hb hby at_805) (by decide) (by decide)
      obtain ⟨b1278, gb1278⟩ : ∃ z, z = T1263.heap.size := ⟨_, rfl⟩
      rw [← gb1278] at A1278 D1278 st1278
      have R1279 : CHr Z consts_1 s.vm h0 vm106 h1278 := R1273.trans (CHr.ext E1278 R1273.1)
      have O1280 := O1274.ext E1278
      have y1281 : Fld Z h1278 b1278 "com/example/fetch_from_near/fetchfromnear/ContentType" "mediaType" "Ljava/lang/String;" .null := D1278 (Or.inr (hw _ (List.mem_of_getElem? (i := 44) rfl))) (ty := (.object "java/lang/String")) (by decide)
      have y1282 : Fld Z h1278 b1278 "com/example/fetch_from_near/fetchfromnear/ContentType" "charset" "Ljava/lang/String;" .null := D1278 (Or.inr (hw _ (List.mem_of_getElem? (i := 46) rfl))) (ty := (.object "java/lang/String")) (by decide)
      have g1283 : Go p e below T1278 (mkF m 808 #[iv p0, iv p1, iv p2, iv p3, iv p4, iv k, iv ch, .val cv, rv r1264, iv (0 : Int32), iv (p3 &&& (3 : Int32)), iv c2, iv c3, .unset] [(.ref b1278)]) A0 := fun t kont => g1277 t (st1278 t kont)
      have g1284 : Go p e below T1278 (mkF m 813 #[iv p0, iv p1, iv p2, iv p3, iv p4, iv k, iv ch, .val cv, rv r1264, iv (0 : Int32), iv (p3 &&& (3 : Int32)), iv c2, iv c3, .unset] [cv, (.ref r1264), (.ref b1278), (.ref b1278)]) A0 := by
        intro t kont
        refine g1283 t ?_
        refine XS.dup X1278.here hx rfl (hb hby at_808) rfl rfl ?_
        refine XS.aload X1278.here hx rfl (hb hby at_809) rfl rfl ?_
        refine XS.aload X1278.here hx rfl (hb hby at_811) rfl (h_cv) ?_
        exact kont
      have ge1286 : n0 ≤ b1278 := Nat.le_trans (own_old_le O1274) (Nat.le_of_eq gb1278.symm)
      obtain ⟨_, _, ⟨T1285, L1285, k1285, n1285⟩, -, X1285, ⟨Lc1285, hQ1285, l1285, y1285, z1285⟩, st1285⟩ := X1278.specialBack hx (y := (⟨"com/example/fetch_from_near/fetchfromnear/ContentType", "<init>", "(Ljava/lang/String;Ljava/lang/String;)V"⟩ : MethodName)) rfl hown (mvT hZ (hw _ (List.mem_of_getElem? (i := 34) rfl))) (mvT hZ (hw _ (List.mem_of_getElem? (i := 35) rfl))) (mvT hZ (hw _ (List.mem_of_getElem? (i := 36) rfl))) (by decide) (backOf (W := 1) (rm_ctR l Z a0 hw [] b1278 r1264 cv h1278 n0 O1280 A1278 y1281 y1282 ge1286 h_cv) hZ (hw _ (List.mem_of_getElem? (i := 36) rfl)) (hw _ (List.mem_of_getElem? (i := 33) rfl)) (by decide) (by decide)) (g := (mkF m 813 #[iv p0, iv p1, iv p2, iv p3, iv p4, iv k, iv ch, .val cv, rv r1264, iv (0 : Int32), iv (p3 &&& (3 : Int32)), iv c2, iv c3, .unset] [cv, (.ref r1264), (.ref b1278), (.ref b1278)])) rfl (by rw [hml]; rfl) (Steps.refl _) (a := b1278) (argsL := [(.ref r1264), cv]) (rest := [(.ref b1278)]) (lenOf pd_12 rfl) rfl (by show 2 * 0 + _ ≤ _; exact Nat.le_of_eq rfl) (hb hby at_813) (fun _ _ => ⟨rfl, e1278, (by decide : 5 + 0 ≤ _), (by decide : 12 + 0 ≤ _)⟩)
      dsimp only [Pt.U, Pt.locs, Pt.cells, Pt.slots] at X1285 l1285 y1285 z1285 st1285 hQ1285
      subst y1285 z1285
      obtain ⟨rfl, M1285, K1285, y1287, y1288⟩ := hQ1285
      have N1285 : Fr n0 L1285 := by rw [l1285]; exact Fr.app N1263 M1285
      have R1289 : CHr Z consts_1 s.vm h0 vm106 T1285.heap := R1279.trans (CHr.keep K1285 (sfS (Safe.ext E1278 R1273.1 (Safe.new (Nat.le_of_eq gb1278.symm))) sf0) R1279.1)
      have O1290 := O1280.keep K1285 (allS ge1286 all0)
      have g1291 : Go p e below T1285 (mkF m 816 #[iv p0, iv p1, iv p2, iv p3, iv p4, iv k, iv ch, .val cv, rv r1264, iv (0 : Int32), iv (p3 &&& (3 : Int32)), iv c2, iv c3, .unset] [(.ref b1278)]) A0 := fun t kont => g1284 t (st1285.trans kont)
      have y1293 : Exa Z T1285.heap r1264 "java/lang/String" := ((y1268.ext E1278).keep K1285)
      have y1294 : Fld Z T1285.heap r1264 "java/lang/String" "coder" "B" (.int (0 : Int32)) := ((y1269.ext E1278).keep K1285 (ninS (Nat.ne_of_lt (Nat.lt_of_lt_of_le y1268.lt (Nat.le_of_eq gb1278.symm))) nin0))
      have y1295 : Fld Z T1285.heap r1264 "java/lang/String" "value" "[B" (.ref r1265) := ((y1270.ext E1278).keep K1285 (ninS (Nat.ne_of_lt (Nat.lt_of_lt_of_le y1268.lt (Nat.le_of_eq gb1278.symm))) nin0))
      have y1296 : Arv Z T1285.heap r1265 r1266 .byte (Int32.ofNat [ch].length) (own_lb [ch]) (.int (0 : Int32)) := ((y1276.ext E1278).keep K1285 (ninS (Nat.ne_of_lt (Nat.lt_of_lt_of_le y1272.lt (Nat.le_of_eq gb1278.symm))) nin0))
      obtain ⟨cq1292, kq1292, q1292a, q1292b, q1292c⟩ := isOf hZ rfl y1287
      obtain ⟨_, _, ⟨T1292, L1292, k1292, n1292⟩, -, X1292, hS1292, hg1292, ⟨Lc1292, hQ1292, l1292, y1292, z1292, C1292⟩, st1292⟩ := X1285.virtualBackS hx (y := (⟨"com/example/fetch_from_near/fetchfromnear/ContentType", "isHtml", "()Z"⟩ : MethodName)) (z := (⟨"com/example/fetch_from_near/fetchfromnear/ContentType", "isHtml", "()Z"⟩ : MethodName)) hown (mvT hZ (hw _ (List.mem_of_getElem? (i := 47) rfl))) (mvT hZ (hw _ (List.mem_of_getElem? (i := 48) rfl))) (notFace_of_selects (args := #[]) (mvT hZ (hw _ (List.mem_of_getElem? (i := 50) rfl)))) (mvT hZ (hw _ (List.mem_of_getElem? (i := 50) rfl))) (mvT hZ (hw _ (List.mem_of_getElem? (i := 49) rfl))) (by decide) (backOfSH (W := 0) (rm_isHG l Z a0 hw [] b1278 r1264 r1265 r1266 [ch] i_COMPACT_STRINGS T1285.heap n0 O1290 S0_ hcs y1288 y1287 y1293 y1294 y1295 y1296 ((by decide : 1 ≤ 22)) (c_ch1) (d_ch1)) hZ (hw _ (List.mem_of_getElem? (i := 51) rfl)) (hw _ (List.mem_of_getElem? (i := 33) rfl)) (by decide) (by decide) (own_EW hw) R1289.1) q1292a q1292c (g := (mkF m 816 #[iv p0, iv p1, iv p2, iv p3, iv p4, iv k, iv ch, .val cv, rv r1264, iv (0 : Int32), iv (p3 &&& (3 : Int32)), iv c2, iv c3, .unset] [(.ref b1278)])) rfl (by rw [hml]; rfl) (Steps.refl _) (argsL := []) (rest := []) (lenOf pd_13 rfl) rfl (by show 2 * 0 + _ ≤ _; exact Nat.le_of_eq rfl) (hb hby at_816) (fun _ _ => ⟨rfl, rfl, (by decide : 5 + 4 ≤ _), (by decide : 12 + 128 ≤ _)⟩)
      dsimp only [Pt.U, Pt.locs, Pt.cells, Pt.slots] at X1292 l1292 y1292 z1292 st1292 hQ1292 hS1292 hg1292 C1292
      subst y1292 z1292
      obtain ⟨X1292, hS, hZ, hown⟩ := rebS hS (n1 := T1285.heap.size) (Nat.le_trans hk (Nat.le_trans (Nat.le_trans K1263.1 E1278.1) K1285.1)) X1292 hS1292 hg1292 hZ hown
      obtain ⟨r1297, rfl, M1292, K1292, y1298, y1299⟩ := hQ1292
      have N1292 : Fr n0 L1292 := by rw [l1292]; exact Fr.app N1285 M1292
      have R1300 : CHr Z consts_1 s.vm h0 T1292.vm T1292.heap := R1289.trans C1292
      have O1301 := O1290.keep K1292 all0
      have g1302 : Go p e below T1292 (mkF m 819 #[iv p0, iv p1, iv p2, iv p3, iv p4, iv k, iv ch, .val cv, rv r1264, iv (0 : Int32), iv (p3 &&& (3 : Int32)), iv c2, iv c3, .unset] [(.int r1297)]) A0 := fun t kont => g1291 t (st1292.trans kont)
      rcases (y1298 : r1297 = (0 : Int32) ∨ r1297 = (1 : Int32)) with c1303 | c1303
      ·
        subst c1303
        have g1304 : Go p e below T1292 (mkF m 829 #[iv p0, iv p1, iv p2, iv p3, iv p4, iv k, iv ch, .val cv, rv r1264, iv (0 : Int32), iv (p3 &&& (3 : Int32)), iv c2, iv c3, .unset] [(.int (1 : Int32))]) A0 := by
          intro t kont
          refine g1302 t ?_
          refine XS.iload X1292.here hx rfl (hb hby at_819) rfl ?_
          refine XS.icmpNo X1292.here hx rfl (hb hby at_821) rfl (teq (by decide : (0 : Int32) = (0 : Int32))).2 ?_
          refine XS.iconst X1292.here hx rfl (hb hby at_824) ?_
          refine XS.goto X1292.here hx rfl (pc0 := 825) (pc' := 829) rfl (hb hby at_825) (by decide) (by decide) ?_
          exact kont
        obtain ⟨fs, hr, hrun, hended, hRW⟩ := X1292.leaveW hS (Nat.le_refl _) (v := some (.int (1 : Int32))) (fun h => by rw [Bd.returns] at h; cases h)
        refine ⟨_, _, g1304 _ (retN X1292 hx (t := .boolean) Bd.returns (by simp) (hb hby at_829) hr), hrun, hended, _, _, rfl, ?_, ?_, hRW.1, hRW.2.1, hRW.2.2.1, hRW.2.2.2.mono (by decide) (by decide)⟩
        ·
          show Q_law Z p0 p1 p2 p3 p4 i_COMPACT_STRINGS h0 n0 _ T1292.heap _
          exact ⟨rfl, N1292⟩
        ·
          rw [hh]
          show CHr Z consts_1 s.vm h0 T1292.vm T1292.heap
          exact R1300.trans (CHv.at X1292 hZ (own_EW hw) R1300.1)
      subst c1303
      exact ((own_len (xs := [ch]) (n := 1) rfl) (y1299.mp rfl)).elim
    have g1306 : Go p e below T106 (mkF m 718 #[iv p0, iv p1, iv p2, iv p3, iv p4, iv k, iv ch, .val cv, .unset, .unset, iv (p3 &&& (3 : Int32)), iv c2, iv c3, .unset] [(.int (2 : Int32)), (.int (p3 &&& (3 : Int32)))]) A0 := by
      intro t kont
      refine g1261 t ?_
      refine XS.icmpYes X106.here hx rfl (pc0 := 702) (pc' := 715) rfl (hb hby at_702) rfl (feq c1260).2 (by decide) (by decide) ?_
      refine XS.iload X106.here hx rfl (hb hby at_715) rfl ?_
      refine XS.iconst X106.here hx rfl (hb hby at_717) ?_
      exact kont
    by_cases c1305 : (p3 &&& (3 : Int32)) = (2 : Int32)
    ·
      have g1307 : Go p e below T106 (mkF m 722 #[iv p0, iv p1, iv p2, iv p3, iv p4, iv k, iv ch, .val cv, .unset, .unset, iv (p3 &&& (3 : Int32)), iv c2, iv c3, .unset] [(.int (2 : Int32))]) A0 := by
        intro t kont
        refine g1306 t ?_
        refine XS.icmpNo X106.here hx rfl (hb hby at_718) rfl (teq c1305).2 ?_
        refine XS.iconst X106.here hx rfl (hb hby at_721) ?_
        exact kont
      obtain ⟨T1308, h1308, k1308, X1308, e1308, E1308, A1308, F1308, st1308⟩ := newPE X106 hx hZ (hw _ (List.mem_of_getElem? (i := 0) rfl)) e106 (g := (mkF m 722 #[iv p0, iv p1, iv p2, iv p3, iv p4, iv k, iv ch, .val cv, .unset, .unset, iv (p3 &&& (3 : Int32)), iv c2, iv c3, .unset] [(.int (2 : Int32))])) rfl (hb hby at_722) rfl (by decide) (cap := 2) (by decide) (by decide) (by decide) (by decide) (ad := "[C") (by decide)
      obtain ⟨b1308, gb1308⟩ : ∃ z, z = h106.size := ⟨_, rfl⟩
      rw [← gb1308] at A1308 F1308 st1308
      have R1309 : CHr Z consts_1 s.vm h0 vm106 h1308 := R106.trans (CHr.ext E1308 R106.1)
      have O1310 := O126.ext E1308
      have y1311 : Arv Z h1308 b1308 k1308 .char (2 : Int32) [(.int (0 : Int32)), (.int (0 : Int32))] (.int (0 : Int32)) := (Arv.new A1308 (by decide)).pad (pad_rep [] (.int (0 : Int32)) 2)
      have g1312 : Go p e below T1308 (mkF m 724 #[iv p0, iv p1, iv p2, iv p3, iv p4, iv k, iv ch, .val cv, .unset, .unset, iv (p3 &&& (3 : Int32)), iv c2, iv c3, .unset] [(.ref b1308)]) A0 := fun t kont => g1307 t (st1308 t kont)
      have g1313 : Go p e below T1308 (mkF m 728 #[iv p0, iv p1, iv p2, iv p3, iv p4, iv k, iv ch, .val cv, .unset, .unset, iv (p3 &&& (3 : Int32)), iv c2, iv c3, .unset] [(.int ch), (.int (0 : Int32)), (.ref b1308), (.ref b1308)]) A0 := by
        intro t kont
        refine g1312 t ?_
        refine XS.dup X1308.here hx rfl (hb hby at_724) rfl rfl ?_
        refine XS.iconst X1308.here hx rfl (hb hby at_725) ?_
        refine XS.iload X1308.here hx rfl (hb hby at_726) rfl ?_
        exact kont
      have ge1315 : n0 ≤ b1308 := Nat.le_trans (own_old_le O126) (Nat.le_of_eq gb1308.symm)
      have zz1314 := y1311
      obtain ⟨cl1314, Ar1314, q1314, S1314, M1314, H1314, G1314⟩ := zz1314
      have in1314 : ¬ ((0 : Int32) < 0 ∨ cl1314.slots.size ≤ ((0 : Int32)).toNatClampNeg) := inb_of S1314 ⟨by decide, by decide⟩
      obtain ⟨T1314, h1314, X1314, e1314, W1314, st1314⟩ := stC X1308 hx hZ e1308 Ar1314 (j := (0 : Int32)) in1314 (g := (mkF m 728 #[iv p0, iv p1, iv p2, iv p3, iv p4, iv k, iv ch, .val cv, .unset, .unset, iv (p3 &&& (3 : Int32)), iv c2, iv c3, .unset] [(.int ch), (.int (0 : Int32)), (.ref b1308), (.ref b1308)])) rfl rfl (hb hby at_728)
      rw [show nar .char ch = ch from r_ch] at W1314
      have R1316 : CHr Z consts_1 s.vm h0 vm106 h1314 := R1309.trans (CHr.wr W1314 (Safe.ext E1308 R106.1 (Safe.new (Nat.le_of_eq gb1308.symm))) R1309.1)
      have O1317 := O1310.wr W1314 ge1315
      have y1318 : Arv Z h1314 b1308 k1308 .char (2 : Int32) [(.int ch), (.int (0 : Int32))] (.int (0 : Int32)) := Arv.set Ar1314 q1314 S1314 M1314 H1314 G1314 (own_ft_char (z := ch) r_ch) W1314 0 rfl (Nat.le_of_ble_eq_true rfl)
      have N1314 := Fr.snoc X1314 N106 ge1315
      have g1319 : Go p e below T1314 (mkF m 729 #[iv p0, iv p1, iv p2, iv p3, iv p4, iv k, iv ch, .val cv, .unset, .unset, iv (p3 &&& (3 : Int32)), iv c2, iv c3, .unset] [(.ref b1308)]) A0 := fun t kont => g1313 t (st1314 t kont)
      have g1320 : Go p e below T1314 (mkF m 733 #[iv p0, iv p1, iv p2, iv p3, iv p4, iv k, iv ch, .val cv, .unset, .unset, iv (p3 &&& (3 : Int32)), iv c2, iv c3, .unset] [(.int c2), (.int (1 : Int32)), (.ref b1308), (.ref b1308)]) A0 := by
        intro t kont
        refine g1319 t ?_
        refine XS.dup X1314.here hx rfl (hb hby at_729) rfl rfl ?_
        refine XS.iconst X1314.here hx rfl (hb hby at_730) ?_
        refine XS.iload X1314.here hx rfl (hb hby at_731) rfl ?_
        exact kont
      have zz1321 := y1318
      obtain ⟨cl1321, Ar1321, q1321, S1321, M1321, H1321, G1321⟩ := zz1321
      have in1321 : ¬ ((1 : Int32) < 0 ∨ cl1321.slots.size ≤ ((1 : Int32)).toNatClampNeg) := inb_of S1321 ⟨by decide, by decide⟩
      obtain ⟨T1321, h1321, X1321, e1321, W1321, st1321⟩ := stC X1314 hx hZ e1314 Ar1321 (j := (1 : Int32)) in1321 (g := (mkF m 733 #[iv p0, iv p1, iv p2, iv p3, iv p4, iv k, iv ch, .val cv, .unset, .unset, iv (p3 &&& (3 : Int32)), iv c2, iv c3, .unset] [(.int c2), (.int (1 : Int32)), (.ref b1308), (.ref b1308)])) rfl rfl (hb hby at_733)
      rw [show nar .char c2 = c2 from r_c2] at W1321
      have sf1323 : Safe Z consts_1 vm106 h1314 b1308 := (Safe.wr W1314 (Safe.ext E1308 R106.1 (Safe.new (Nat.le_of_eq gb1308.symm))) R1309.1 (Safe.ext E1308 R106.1 (Safe.new (Nat.le_of_eq gb1308.symm))))
      have R1322 : CHr Z consts_1 s.vm h0 vm106 h1321 := R1316.trans (CHr.wr W1321 sf1323 R1316.1)
      have O1324 := O1317.wr W1321 ge1315
      have y1325 : Arv Z h1321 b1308 k1308 .char (2 : Int32) [(.int ch), (.int c2)] (.int (0 : Int32)) := Arv.set Ar1321 q1321 S1321 M1321 H1321 G1321 (own_ft_char (z := c2) r_c2) W1321 1 rfl (Nat.le_of_ble_eq_true rfl)
      have N1321 := Fr.snoc X1321 N1314 ge1315
      have g1326 : Go p e below T1321 (mkF m 734 #[iv p0, iv p1, iv p2, iv p3, iv p4, iv k, iv ch, .val cv, .unset, .unset, iv (p3 &&& (3 : Int32)), iv c2, iv c3, .unset] [(.ref b1308)]) A0 := fun t kont => g1320 t (st1321 t kont)
      have g1327 : Go p e below T1321 (mkF m 736 #[iv p0, iv p1, iv p2, iv p3, iv p4, iv k, iv ch, .val cv, .unset, .unset, iv (p3 &&& (3 : Int32)), iv c2, iv c3, rv b1308] []) A0 := by
        intro t kont
        refine g1326 t ?_
        refine XS.astore X1321.here hx rfl (hb hby at_734) rfl rfl (l' := #[iv p0, iv p1, iv p2, iv p3, iv p4, iv k, iv ch, .val cv, .unset, .unset, iv (p3 &&& (3 : Int32)), iv c2, iv c3, rv b1308]) rfl ?_
        exact kont
      obtain ⟨T1328, h1328, X1328, e1328, E1328, A1328, D1328, -, st1328⟩ := newO X1321 hx hZ hown (hw _ (List.mem_of_getElem? (i := 2) rfl)) (hw _ (List.mem_of_getElem? (i := 3) rfl)) (hw _ (List.mem_of_getElem? (i := 4) rfl)) e1321 (g := (mkF m 736 #[iv p0, iv p1, iv p2, iv p3, iv p4, iv k, iv ch, .val cv, .unset, .unset, iv (p3 &&& (3 : Int32)), iv c2, iv c3, rv b1308] [])) rfl (hb hby at_736) (by decide) (by decide)
      obtain ⟨b1328, gb1328⟩ : ∃ z, z = h1321.size := ⟨_, rfl⟩
      rw [← gb1328] at A1328 D1328 st1328
      have R1329 : CHr Z consts_1 s.vm h0 vm106 h1328 := R1322.trans (CHr.ext E1328 R1322.1)
      have O1330 := O1324.ext E1328
      have y1331 : Fld Z h1328 b1328 "java/lang/String" "coder" "B" (.int (0 : Int32)) := D1328 (Or.inr (hw _ (List.mem_of_getElem? (i := 28) rfl))) (ty := .byte) (by decide)
      have y1332 : Fld Z h1328 b1328 "java/lang/String" "value" "[B" .null := D1328 (Or.inr (hw _ (List.mem_of_getElem? (i := 30) rfl))) (ty := (.array .byte)) (by decide)
      have g1333 : Go p e below T1328 (mkF m 739 #[iv p0, iv p1, iv p2, iv p3, iv p4, iv k, iv ch, .val cv, .unset, .unset, iv (p3 &&& (3 : Int32)), iv c2, iv c3, rv b1308] [(.ref b1328)]) A0 := fun t kont => g1327 t (st1328 t kont)
      have g1334 : Go p e below T1328 (mkF m 742 #[iv p0, iv p1, iv p2, iv p3, iv p4, iv k, iv ch, .val cv, .unset, .unset, iv (p3 &&& (3 : Int32)), iv c2, iv c3, rv b1308] [(.ref b1308), (.ref b1328), (.ref b1328)]) A0 := by
        intro t kont
        refine g1333 t ?_
        refine XS.dup X1328.here hx rfl (hb hby at_739) rfl rfl ?_
        refine XS.aload X1328.here hx rfl (hb hby at_740) rfl rfl ?_
        exact kont
      have y1336 : Arv Z h1328 b1308 k1308 .char (2 : Int32) [(.int ch), (.int c2)] (.int (0 : Int32)) := (y1325.ext E1328)
      obtain ⟨ls1337, hls1337⟩ : ∃ z, z = [ch, c2] := ⟨_, rfl⟩
      have lls1337 : ls1337.length = 2 := by rw [hls1337]; rfl
      have y1338 : Arv Z h1328 b1308 k1308 .char (Int32.ofNat ls1337.length) (ls1337.map Value.int) (.int (0 : Int32)) := by
        have q := y1336
        rw [lls1337, hls1337]
        exact q
      have cls1337 : own_chars ls1337 := by rw [hls1337]; exact (own_ccons ⟨z_ch, own_w255 b_ch⟩ (own_ccons ⟨z_c2, own_w255 b_c2⟩ own_cnil))
      have dls1337 : own_lat ls1337 := by rw [hls1337]; exact (own_lcons b_ch (own_lcons b_c2 own_lnil))
      have ge1339 : n0 ≤ b1328 := Nat.le_trans (own_old_le O1324) (Nat.le_of_eq gb1328.symm)
      obtain ⟨_, _, ⟨T1335, L1335, k1335, n1335⟩, -, X1335, ⟨Lc1335, hQ1335, l1335, y1335, z1335⟩, st1335⟩ := X1328.specialBack hx (y := (⟨"java/lang/String", "<init>", "([C)V"⟩ : MethodName)) rfl hown (mvT hZ (hw _ (List.mem_of_getElem? (i := 5) rfl))) (mvT hZ (hw _ (List.mem_of_getElem? (i := 6) rfl))) (mvT hZ (hw _ (List.mem_of_getElem? (i := 7) rfl))) (by decide) (backOf (W := 1) (rm_sIniL l Z a0 hw [] b1328 b1308 k1308 ls1337 i_COMPACT_STRINGS h1328 n0 O1330 y1332 y1331 A1328 ge1339 y1338 (by rw [lls1337]; decide) (by rw [lls1337]; decide) (dls1337) S0_ hcs) hZ (hw _ (List.mem_of_getElem? (i := 7) rfl)) (hw _ (List.mem_of_getElem? (i := 4) rfl)) (by decide) (by decide)) (g := (mkF m 742 #[iv p0, iv p1, iv p2, iv p3, iv p4, iv k, iv ch, .val cv, .unset, .unset, iv (p3 &&& (3 : Int32)), iv c2, iv c3, rv b1308] [(.ref b1308), (.ref b1328), (.ref b1328)])) rfl (by rw [hml]; rfl) (Steps.refl _) (a := b1328) (argsL := [(.ref b1308)]) (rest := [(.ref b1328)]) (lenOf pd_11 rfl) rfl (by show 2 * 0 + _ ≤ _; exact Nat.le_of_eq rfl) (hb hby at_742) (fun _ _ => ⟨rfl, e1328, (by decide : 4 + 1 ≤ _), (by decide : 11 + 22 ≤ _)⟩)
      dsimp only [Pt.U, Pt.locs, Pt.cells, Pt.slots] at X1335 l1335 y1335 z1335 st1335 hQ1335
      subst y1335 z1335
      obtain ⟨r1340, r1341, rfl, M1335, K1335, y1342, y1343, y1344, y1345, y1346⟩ := hQ1335
      have N1335 : Fr n0 L1335 := by rw [l1335]; exact Fr.app N1321 M1335
      have R1347 : CHr Z consts_1 s.vm h0 vm106 T1335.heap := R1329.trans (CHr.keep K1335 (sfS (Safe.ext E1328 R1322.1 (Safe.new (Nat.le_of_eq gb1328.symm))) sf0) R1329.1)
      have O1348 := O1330.keep K1335 (allS ge1339 all0)
      have g1349 : Go p e below T1335 (mkF m 745 #[iv p0, iv p1, iv p2, iv p3, iv p4, iv k, iv ch, .val cv, .unset, .unset, iv (p3 &&& (3 : Int32)), iv c2, iv c3, rv b1308] [(.ref b1328)]) A0 := fun t kont => g1334 t (st1335.trans kont)
      have g1350 : Go p e below T1335 (mkF m 805 #[iv p0, iv p1, iv p2, iv p3, iv p4, iv k, iv ch, .val cv, rv b1328, iv (0 : Int32), iv (p3 &&& (3 : Int32)), iv c2, iv c3, rv b1308] []) A0 := by
        intro t kont
        refine g1349 t ?_
        refine XS.astore X1335.here hx rfl (hb hby at_745) rfl rfl (l' := #[iv p0, iv p1, iv p2, iv p3, iv p4, iv k, iv ch, .val cv, rv b1328, .unset, iv (p3 &&& (3 : Int32)), iv c2, iv c3, rv b1308]) rfl ?_
        refine XS.goto X1335.here hx rfl (pc0 := 747) (pc' := 781) rfl (hb hby at_747) (by decide) (by decide) ?_
        refine XS.iconst X1335.here hx rfl (hb hby at_781) ?_
        refine XS.istore X1335.here hx rfl (hb hby at_782) rfl (l' := #[iv p0, iv p1, iv p2, iv p3, iv p4, iv k, iv ch, .val cv, rv b1328, iv (0 : Int32), iv (p3 &&& (3 : Int32)), iv c2, iv c3, rv b1308]) rfl ?_
        refine XS.goto X1335.here hx rfl (pc0 := 784) (pc' := 805) rfl (hb hby at_784) (by decide) (by decide) ?_
        exact kont
      obtain ⟨T1351, h1351, X1351, e1351, E1351, A1351, D1351, -, st1351⟩ := newO X1335 hx hZ hown (hw _ (List.mem_of_getElem? (i := 31) rfl)) (hw _ (List.mem_of_getElem? (i := 32) rfl)) (hw _ (List.mem_of_getElem? (i := 33) rfl)) rfl (g := (mkF m 805 #[iv p0, iv p1, iv p2, iv p3, iv p4, iv k, iv ch, .val cv, rv b1328, iv (0 : Int32), iv (p3 &&& (3 : Int32)), iv c2, iv c3, rv b1308] [])) rfl (hb hby at_805) (by decide) (by decide)
      obtain ⟨b1351, gb1351⟩ : ∃ z, z = T1335.heap.size := ⟨_, rfl⟩
      rw [← gb1351] at A1351 D1351 st1351
      have R1352 : CHr Z consts_1 s.vm h0 vm106 h1351 := R1347.trans (CHr.ext E1351 R1347.1)
      have O1353 := O1348.ext E1351
      have y1354 : Fld Z h1351 b1351 "com/example/fetch_from_near/fetchfromnear/ContentType" "mediaType" "Ljava/lang/String;" .null := D1351 (Or.inr (hw _ (List.mem_of_getElem? (i := 44) rfl))) (ty := (.object "java/lang/String")) (by decide)
      have y1355 : Fld Z h1351 b1351 "com/example/fetch_from_near/fetchfromnear/ContentType" "charset" "Ljava/lang/String;" .null := D1351 (Or.inr (hw _ (List.mem_of_getElem? (i := 46) rfl))) (ty := (.object "java/lang/String")) (by decide)
      have g1356 : Go p e below T1351 (mkF m 808 #[iv p0, iv p1, iv p2, iv p3, iv p4, iv k, iv ch, .val cv, rv b1328, iv (0 : Int32), iv (p3 &&& (3 : Int32)), iv c2, iv c3, rv b1308] [(.ref b1351)]) A0 := fun t kont => g1350 t (st1351 t kont)
      have g1357 : Go p e below T1351 (mkF m 813 #[iv p0, iv p1, iv p2, iv p3, iv p4, iv k, iv ch, .val cv, rv b1328, iv (0 : Int32), iv (p3 &&& (3 : Int32)), iv c2, iv c3, rv b1308] [cv, (.ref b1328), (.ref b1351), (.ref b1351)]) A0 := by
        intro t kont
        refine g1356 t ?_
        refine XS.dup X1351.here hx rfl (hb hby at_808) rfl rfl ?_
        refine XS.aload X1351.here hx rfl (hb hby at_809) rfl rfl ?_
        refine XS.aload X1351.here hx rfl (hb hby at_811) rfl (h_cv) ?_
        exact kont
      have ge1359 : n0 ≤ b1351 := Nat.le_trans (own_old_le O1348) (Nat.le_of_eq gb1351.symm)
      obtain ⟨_, _, ⟨T1358, L1358, k1358, n1358⟩, -, X1358, ⟨Lc1358, hQ1358, l1358, y1358, z1358⟩, st1358⟩ := X1351.specialBack hx (y := (⟨"com/example/fetch_from_near/fetchfromnear/ContentType", "<init>", "(Ljava/lang/String;Ljava/lang/String;)V"⟩ : MethodName)) rfl hown (mvT hZ (hw _ (List.mem_of_getElem? (i := 34) rfl))) (mvT hZ (hw _ (List.mem_of_getElem? (i := 35) rfl))) (mvT hZ (hw _ (List.mem_of_getElem? (i := 36) rfl))) (by decide) (backOf (W := 1) (rm_ctR l Z a0 hw [] b1351 b1328 cv h1351 n0 O1353 A1351 y1354 y1355 ge1359 h_cv) hZ (hw _ (List.mem_of_getElem? (i := 36) rfl)) (hw _ (List.mem_of_getElem? (i := 33) rfl)) (by decide) (by decide)) (g := (mkF m 813 #[iv p0, iv p1, iv p2, iv p3, iv p4, iv k, iv ch, .val cv, rv b1328, iv (0 : Int32), iv (p3 &&& (3 : Int32)), iv c2, iv c3, rv b1308] [cv, (.ref b1328), (.ref b1351), (.ref b1351)])) rfl (by rw [hml]; rfl) (Steps.refl _) (a := b1351) (argsL := [(.ref b1328), cv]) (rest := [(.ref b1351)]) (lenOf pd_12 rfl) rfl (by show 2 * 0 + _ ≤ _; exact Nat.le_of_eq rfl) (hb hby at_813) (fun _ _ => ⟨rfl, e1351, (by decide : 6 + 0 ≤ _), (by decide : 35 + 0 ≤ _)⟩)
      dsimp only [Pt.U, Pt.locs, Pt.cells, Pt.slots] at X1358 l1358 y1358 z1358 st1358 hQ1358
      subst y1358 z1358
      obtain ⟨rfl, M1358, K1358, y1360, y1361⟩ := hQ1358
      have N1358 : Fr n0 L1358 := by rw [l1358]; exact Fr.app N1335 M1358
      have R1362 : CHr Z consts_1 s.vm h0 vm106 T1358.heap := R1352.trans (CHr.keep K1358 (sfS (Safe.ext E1351 R1347.1 (Safe.new (Nat.le_of_eq gb1351.symm))) sf0) R1352.1)
      have O1363 := O1353.keep K1358 (allS ge1359 all0)
      have g1364 : Go p e below T1358 (mkF m 816 #[iv p0, iv p1, iv p2, iv p3, iv p4, iv k, iv ch, .val cv, rv b1328, iv (0 : Int32), iv (p3 &&& (3 : Int32)), iv c2, iv c3, rv b1308] [(.ref b1351)]) A0 := fun t kont => g1357 t (st1358.trans kont)
      have y1366 : Exa Z T1358.heap b1328 "java/lang/String" := ((y1342.ext E1351).keep K1358)
      have y1367 : Fld Z T1358.heap b1328 "java/lang/String" "coder" "B" (.int (0 : Int32)) := ((y1343.ext E1351).keep K1358 (ninS (Nat.ne_of_lt (Nat.lt_of_lt_of_le (Nat.lt_of_lt_of_le A1328.lt K1335.1) (Nat.le_of_eq gb1351.symm))) nin0))
      have y1368 : Fld Z T1358.heap b1328 "java/lang/String" "value" "[B" (.ref r1340) := ((y1344.ext E1351).keep K1358 (ninS (Nat.ne_of_lt (Nat.lt_of_lt_of_le (Nat.lt_of_lt_of_le A1328.lt K1335.1) (Nat.le_of_eq gb1351.symm))) nin0))
      have y1369 : Arv Z T1358.heap r1340 r1341 .byte (Int32.ofNat ls1337.length) (own_lb ls1337) (.int (0 : Int32)) := ((y1346.ext E1351).keep K1358 (ninS (Nat.ne_of_lt (Nat.lt_of_lt_of_le y1346.lt (Nat.le_of_eq gb1351.symm))) nin0))
      obtain ⟨cq1365, kq1365, q1365a, q1365b, q1365c⟩ := isOf hZ rfl y1360
      obtain ⟨_, _, ⟨T1365, L1365, k1365, n1365⟩, -, X1365, hS1365, hg1365, ⟨Lc1365, hQ1365, l1365, y1365, z1365, C1365⟩, st1365⟩ := X1358.virtualBackS hx (y := (⟨"com/example/fetch_from_near/fetchfromnear/ContentType", "isHtml", "()Z"⟩ : MethodName)) (z := (⟨"com/example/fetch_from_near/fetchfromnear/ContentType", "isHtml", "()Z"⟩ : MethodName)) hown (mvT hZ (hw _ (List.mem_of_getElem? (i := 47) rfl))) (mvT hZ (hw _ (List.mem_of_getElem? (i := 48) rfl))) (notFace_of_selects (args := #[]) (mvT hZ (hw _ (List.mem_of_getElem? (i := 50) rfl)))) (mvT hZ (hw _ (List.mem_of_getElem? (i := 50) rfl))) (mvT hZ (hw _ (List.mem_of_getElem? (i := 49) rfl))) (by decide) (backOfSH (W := 0) (rm_isHG l Z a0 hw [] b1351 b1328 r1340 r1341 ls1337 i_COMPACT_STRINGS T1358.heap n0 O1363 S0_ hcs y1361 y1360 y1366 y1367 y1368 y1369 (by rw [lls1337]; decide) (cls1337) (dls1337)) hZ (hw _ (List.mem_of_getElem? (i := 51) rfl)) (hw _ (List.mem_of_getElem? (i := 33) rfl)) (by decide) (by decide) (own_EW hw) R1362.1) q1365a q1365c (g := (mkF m 816 #[iv p0, iv p1, iv p2, iv p3, iv p4, iv k, iv ch, .val cv, rv b1328, iv (0 : Int32), iv (p3 &&& (3 : Int32)), iv c2, iv c3, rv b1308] [(.ref b1351)])) rfl (by rw [hml]; rfl) (Steps.refl _) (argsL := []) (rest := []) (lenOf pd_13 rfl) rfl (by show 2 * 0 + _ ≤ _; exact Nat.le_of_eq rfl) (hb hby at_816) (fun _ _ => ⟨rfl, rfl, (by decide : 6 + 4 ≤ _), (by decide : 35 + 128 ≤ _)⟩)
      dsimp only [Pt.U, Pt.locs, Pt.cells, Pt.slots] at X1365 l1365 y1365 z1365 st1365 hQ1365 hS1365 hg1365 C1365
      subst y1365 z1365
      obtain ⟨X1365, hS, hZ, hown⟩ := rebS hS (n1 := T1358.heap.size) (Nat.le_trans hk (Nat.le_trans (Nat.le_trans (Nat.le_trans (Nat.le_trans (Nat.le_trans (Nat.le_trans E1308.1 (Keep.of_wr W1314).1) (Keep.of_wr W1321).1) E1328.1) K1335.1) E1351.1) K1358.1)) X1365 hS1365 hg1365 hZ hown
      obtain ⟨r1370, rfl, M1365, K1365, y1371, y1372⟩ := hQ1365
      have N1365 : Fr n0 L1365 := by rw [l1365]; exact Fr.app N1358 M1365
      have R1373 : CHr Z consts_1 s.vm h0 T1365.vm T1365.heap := R1362.trans C1365
      have O1374 := O1363.keep K1365 all0
      have g1375 : Go p e below T1365 (mkF m 819 #[iv p0, iv p1, iv p2, iv p3, iv p4, iv k, iv ch, .val cv, rv b1328, iv (0 : Int32), iv (p3 &&& (3 : Int32)), iv c2, iv c3, rv b1308] [(.int r1370)]) A0 := fun t kont => g1364 t (st1365.trans kont)
      rcases (y1371 : r1370 = (0 : Int32) ∨ r1370 = (1 : Int32)) with c1376 | c1376
      ·
        subst c1376
        have g1377 : Go p e below T1365 (mkF m 829 #[iv p0, iv p1, iv p2, iv p3, iv p4, iv k, iv ch, .val cv, rv b1328, iv (0 : Int32), iv (p3 &&& (3 : Int32)), iv c2, iv c3, rv b1308] [(.int (1 : Int32))]) A0 := by
          intro t kont
          refine g1375 t ?_
          refine XS.iload X1365.here hx rfl (hb hby at_819) rfl ?_
          refine XS.icmpNo X1365.here hx rfl (hb hby at_821) rfl (teq (by decide : (0 : Int32) = (0 : Int32))).2 ?_
          refine XS.iconst X1365.here hx rfl (hb hby at_824) ?_
          refine XS.goto X1365.here hx rfl (pc0 := 825) (pc' := 829) rfl (hb hby at_825) (by decide) (by decide) ?_
          exact kont
        obtain ⟨fs, hr, hrun, hended, hRW⟩ := X1365.leaveW hS (Nat.le_refl _) (v := some (.int (1 : Int32))) (fun h => by rw [Bd.returns] at h; cases h)
        refine ⟨_, _, g1377 _ (retN X1365 hx (t := .boolean) Bd.returns (by simp) (hb hby at_829) hr), hrun, hended, _, _, rfl, ?_, ?_, hRW.1, hRW.2.1, hRW.2.2.1, hRW.2.2.2.mono (by decide) (by decide)⟩
        ·
          show Q_law Z p0 p1 p2 p3 p4 i_COMPACT_STRINGS h0 n0 _ T1365.heap _
          exact ⟨rfl, N1365⟩
        ·
          rw [hh]
          show CHr Z consts_1 s.vm h0 T1365.vm T1365.heap
          exact R1373.trans (CHv.at X1365 hZ (own_EW hw) R1373.1)
      subst c1376
      exact ((own_len lls1337) (y1372.mp rfl)).elim
    have g1378 : Go p e below T106 (mkF m 751 #[iv p0, iv p1, iv p2, iv p3, iv p4, iv k, iv ch, .val cv, .unset, .unset, iv (p3 &&& (3 : Int32)), iv c2, iv c3, .unset] [(.int (3 : Int32))]) A0 := by
      intro t kont
      refine g1306 t ?_
      refine XS.icmpYes X106.here hx rfl (pc0 := 718) (pc' := 750) rfl (hb hby at_718) rfl (feq c1305).2 (by decide) (by decide) ?_
      refine XS.iconst X106.here hx rfl (hb hby at_750) ?_
      exact kont
    obtain ⟨T1379, h1379, k1379, X1379, e1379, E1379, A1379, F1379, st1379⟩ := newPE X106 hx hZ (hw _ (List.mem_of_getElem? (i := 0) rfl)) e106 (g := (mkF m 751 #[iv p0, iv p1, iv p2, iv p3, iv p4, iv k, iv ch, .val cv, .unset, .unset, iv (p3 &&& (3 : Int32)), iv c2, iv c3, .unset] [(.int (3 : Int32))])) rfl (hb hby at_751) rfl (by decide) (cap := 3) (by decide) (by decide) (by decide) (by decide) (ad := "[C") (by decide)
    obtain ⟨b1379, gb1379⟩ : ∃ z, z = h106.size := ⟨_, rfl⟩
    rw [← gb1379] at A1379 F1379 st1379
    have R1380 : CHr Z consts_1 s.vm h0 vm106 h1379 := R106.trans (CHr.ext E1379 R106.1)
    have O1381 := O126.ext E1379
    have y1382 : Arv Z h1379 b1379 k1379 .char (3 : Int32) [(.int (0 : Int32)), (.int (0 : Int32)), (.int (0 : Int32))] (.int (0 : Int32)) := (Arv.new A1379 (by decide)).pad (pad_rep [] (.int (0 : Int32)) 3)
    have g1383 : Go p e below T1379 (mkF m 753 #[iv p0, iv p1, iv p2, iv p3, iv p4, iv k, iv ch, .val cv, .unset, .unset, iv (p3 &&& (3 : Int32)), iv c2, iv c3, .unset] [(.ref b1379)]) A0 := fun t kont => g1378 t (st1379 t kont)
    have g1384 : Go p e below T1379 (mkF m 757 #[iv p0, iv p1, iv p2, iv p3, iv p4, iv k, iv ch, .val cv, .unset, .unset, iv (p3 &&& (3 : Int32)), iv c2, iv c3, .unset] [(.int ch), (.int (0 : Int32)), (.ref b1379), (.ref b1379)]) A0 := by
      intro t kont
      refine g1383 t ?_
      refine XS.dup X1379.here hx rfl (hb hby at_753) rfl rfl ?_
      refine XS.iconst X1379.here hx rfl (hb hby at_754) ?_
      refine XS.iload X1379.here hx rfl (hb hby at_755) rfl ?_
      exact kont
    have ge1386 : n0 ≤ b1379 := Nat.le_trans (own_old_le O126) (Nat.le_of_eq gb1379.symm)
    have zz1385 := y1382
    obtain ⟨cl1385, Ar1385, q1385, S1385, M1385, H1385, G1385⟩ := zz1385
    have in1385 : ¬ ((0 : Int32) < 0 ∨ cl1385.slots.size ≤ ((0 : Int32)).toNatClampNeg) := inb_of S1385 ⟨by decide, by decide⟩
    obtain ⟨T1385, h1385, X1385, e1385, W1385, st1385⟩ := stC X1379 hx hZ e1379 Ar1385 (j := (0 : Int32)) in1385 (g := (mkF m 757 #[iv p0, iv p1, iv p2, iv p3, iv p4, iv k, iv ch, .val cv, .unset, .unset, iv (p3 &&& (3 : Int32)), iv c2, iv c3, .unset] [(.int ch), (.int (0 : Int32)), (.ref b1379), (.ref b1379)])) rfl rfl (hb hby at_757)
    rw [show nar .char ch = ch from r_ch] at W1385
    have R1387 : CHr Z consts_1 s.vm h0 vm106 h1385 := R1380.trans (CHr.wr W1385 (Safe.ext E1379 R106.1 (Safe.new (Nat.le_of_eq gb1379.symm))) R1380.1)
    have O1388 := O1381.wr W1385 ge1386
    have y1389 : Arv Z h1385 b1379 k1379 .char (3 : Int32) [(.int ch), (.int (0 : Int32)), (.int (0 : Int32))] (.int (0 : Int32)) := Arv.set Ar1385 q1385 S1385 M1385 H1385 G1385 (own_ft_char (z := ch) r_ch) W1385 0 rfl (Nat.le_of_ble_eq_true rfl)
    have N1385 := Fr.snoc X1385 N106 ge1386
    have g1390 : Go p e below T1385 (mkF m 758 #[iv p0, iv p1, iv p2, iv p3, iv p4, iv k, iv ch, .val cv, .unset, .unset, iv (p3 &&& (3 : Int32)), iv c2, iv c3, .unset] [(.ref b1379)]) A0 := fun t kont => g1384 t (st1385 t kont)
    have g1391 : Go p e below T1385 (mkF m 762 #[iv p0, iv p1, iv p2, iv p3, iv p4, iv k, iv ch, .val cv, .unset, .unset, iv (p3 &&& (3 : Int32)), iv c2, iv c3, .unset] [(.int c2), (.int (1 : Int32)), (.ref b1379), (.ref b1379)]) A0 := by
      intro t kont
      refine g1390 t ?_
      refine XS.dup X1385.here hx rfl (hb hby at_758) rfl rfl ?_
      refine XS.iconst X1385.here hx rfl (hb hby at_759) ?_
      refine XS.iload X1385.here hx rfl (hb hby at_760) rfl ?_
      exact kont
    have zz1392 := y1389
    obtain ⟨cl1392, Ar1392, q1392, S1392, M1392, H1392, G1392⟩ := zz1392
    have in1392 : ¬ ((1 : Int32) < 0 ∨ cl1392.slots.size ≤ ((1 : Int32)).toNatClampNeg) := inb_of S1392 ⟨by decide, by decide⟩
    obtain ⟨T1392, h1392, X1392, e1392, W1392, st1392⟩ := stC X1385 hx hZ e1385 Ar1392 (j := (1 : Int32)) in1392 (g := (mkF m 762 #[iv p0, iv p1, iv p2, iv p3, iv p4, iv k, iv ch, .val cv, .unset, .unset, iv (p3 &&& (3 : Int32)), iv c2, iv c3, .unset] [(.int c2), (.int (1 : Int32)), (.ref b1379), (.ref b1379)])) rfl rfl (hb hby at_762)
    rw [show nar .char c2 = c2 from r_c2] at W1392
    have sf1394 : Safe Z consts_1 vm106 h1385 b1379 := (Safe.wr W1385 (Safe.ext E1379 R106.1 (Safe.new (Nat.le_of_eq gb1379.symm))) R1380.1 (Safe.ext E1379 R106.1 (Safe.new (Nat.le_of_eq gb1379.symm))))
    have R1393 : CHr Z consts_1 s.vm h0 vm106 h1392 := R1387.trans (CHr.wr W1392 sf1394 R1387.1)
    have O1395 := O1388.wr W1392 ge1386
    have y1396 : Arv Z h1392 b1379 k1379 .char (3 : Int32) [(.int ch), (.int c2), (.int (0 : Int32))] (.int (0 : Int32)) := Arv.set Ar1392 q1392 S1392 M1392 H1392 G1392 (own_ft_char (z := c2) r_c2) W1392 1 rfl (Nat.le_of_ble_eq_true rfl)
    have N1392 := Fr.snoc X1392 N1385 ge1386
    have g1397 : Go p e below T1392 (mkF m 763 #[iv p0, iv p1, iv p2, iv p3, iv p4, iv k, iv ch, .val cv, .unset, .unset, iv (p3 &&& (3 : Int32)), iv c2, iv c3, .unset] [(.ref b1379)]) A0 := fun t kont => g1391 t (st1392 t kont)
    have g1398 : Go p e below T1392 (mkF m 767 #[iv p0, iv p1, iv p2, iv p3, iv p4, iv k, iv ch, .val cv, .unset, .unset, iv (p3 &&& (3 : Int32)), iv c2, iv c3, .unset] [(.int c3), (.int (2 : Int32)), (.ref b1379), (.ref b1379)]) A0 := by
      intro t kont
      refine g1397 t ?_
      refine XS.dup X1392.here hx rfl (hb hby at_763) rfl rfl ?_
      refine XS.iconst X1392.here hx rfl (hb hby at_764) ?_
      refine XS.iload X1392.here hx rfl (hb hby at_765) rfl ?_
      exact kont
    have zz1399 := y1396
    obtain ⟨cl1399, Ar1399, q1399, S1399, M1399, H1399, G1399⟩ := zz1399
    have in1399 : ¬ ((2 : Int32) < 0 ∨ cl1399.slots.size ≤ ((2 : Int32)).toNatClampNeg) := inb_of S1399 ⟨by decide, by decide⟩
    obtain ⟨T1399, h1399, X1399, e1399, W1399, st1399⟩ := stC X1392 hx hZ e1392 Ar1399 (j := (2 : Int32)) in1399 (g := (mkF m 767 #[iv p0, iv p1, iv p2, iv p3, iv p4, iv k, iv ch, .val cv, .unset, .unset, iv (p3 &&& (3 : Int32)), iv c2, iv c3, .unset] [(.int c3), (.int (2 : Int32)), (.ref b1379), (.ref b1379)])) rfl rfl (hb hby at_767)
    rw [show nar .char c3 = c3 from r_c3] at W1399
    have sf1401 : Safe Z consts_1 vm106 h1392 b1379 := (Safe.wr W1392 sf1394 R1387.1 sf1394)
    have R1400 : CHr Z consts_1 s.vm h0 vm106 h1399 := R1393.trans (CHr.wr W1399 sf1401 R1393.1)
    have O1402 := O1395.wr W1399 ge1386
    have y1403 : Arv Z h1399 b1379 k1379 .char (3 : Int32) [(.int ch), (.int c2), (.int c3)] (.int (0 : Int32)) := Arv.set Ar1399 q1399 S1399 M1399 H1399 G1399 (own_ft_char (z := c3) r_c3) W1399 2 rfl (Nat.le_of_ble_eq_true rfl)
    have N1399 := Fr.snoc X1399 N1392 ge1386
    have g1404 : Go p e below T1399 (mkF m 768 #[iv p0, iv p1, iv p2, iv p3, iv p4, iv k, iv ch, .val cv, .unset, .unset, iv (p3 &&& (3 : Int32)), iv c2, iv c3, .unset] [(.ref b1379)]) A0 := fun t kont => g1398 t (st1399 t kont)
    have g1405 : Go p e below T1399 (mkF m 770 #[iv p0, iv p1, iv p2, iv p3, iv p4, iv k, iv ch, .val cv, .unset, .unset, iv (p3 &&& (3 : Int32)), iv c2, iv c3, rv b1379] []) A0 := by
      intro t kont
      refine g1404 t ?_
      refine XS.astore X1399.here hx rfl (hb hby at_768) rfl rfl (l' := #[iv p0, iv p1, iv p2, iv p3, iv p4, iv k, iv ch, .val cv, .unset, .unset, iv (p3 &&& (3 : Int32)), iv c2, iv c3, rv b1379]) rfl ?_
      exact kont
    obtain ⟨T1406, h1406, X1406, e1406, E1406, A1406, D1406, -, st1406⟩ := newO X1399 hx hZ hown (hw _ (List.mem_of_getElem? (i := 2) rfl)) (hw _ (List.mem_of_getElem? (i := 3) rfl)) (hw _ (List.mem_of_getElem? (i := 4) rfl)) e1399 (g := (mkF m 770 #[iv p0, iv p1, iv p2, iv p3, iv p4, iv k, iv ch, .val cv, .unset, .unset, iv (p3 &&& (3 : Int32)), iv c2, iv c3, rv b1379] [])) rfl (hb hby at_770) (by decide) (by decide)
    obtain ⟨b1406, gb1406⟩ : ∃ z, z = h1399.size := ⟨_, rfl⟩
    rw [← gb1406] at A1406 D1406 st1406
    have R1407 : CHr Z consts_1 s.vm h0 vm106 h1406 := R1400.trans (CHr.ext E1406 R1400.1)
    have O1408 := O1402.ext E1406
    have y1409 : Fld Z h1406 b1406 "java/lang/String" "coder" "B" (.int (0 : Int32)) := D1406 (Or.inr (hw _ (List.mem_of_getElem? (i := 28) rfl))) (ty := .byte) (by decide)
    have y1410 : Fld Z h1406 b1406 "java/lang/String" "value" "[B" .null := D1406 (Or.inr (hw _ (List.mem_of_getElem? (i := 30) rfl))) (ty := (.array .byte)) (by decide)
    have g1411 : Go p e below T1406 (mkF m 773 #[iv p0, iv p1, iv p2, iv p3, iv p4, iv k, iv ch, .val cv, .unset, .unset, iv (p3 &&& (3 : Int32)), iv c2, iv c3, rv b1379] [(.ref b1406)]) A0 := fun t kont => g1405 t (st1406 t kont)
    have g1412 : Go p e below T1406 (mkF m 776 #[iv p0, iv p1, iv p2, iv p3, iv p4, iv k, iv ch, .val cv, .unset, .unset, iv (p3 &&& (3 : Int32)), iv c2, iv c3, rv b1379] [(.ref b1379), (.ref b1406), (.ref b1406)]) A0 := by
      intro t kont
      refine g1411 t ?_
      refine XS.dup X1406.here hx rfl (hb hby at_773) rfl rfl ?_
      refine XS.aload X1406.here hx rfl (hb hby at_774) rfl rfl ?_
      exact kont
    have y1414 : Arv Z h1406 b1379 k1379 .char (3 : Int32) [(.int ch), (.int c2), (.int c3)] (.int (0 : Int32)) := (y1403.ext E1406)
    obtain ⟨ls1415, hls1415⟩ : ∃ z, z = [ch, c2, c3] := ⟨_, rfl⟩
    have lls1415 : ls1415.length = 3 := by rw [hls1415]; rfl
    have y1416 : Arv Z h1406 b1379 k1379 .char (Int32.ofNat ls1415.length) (ls1415.map Value.int) (.int (0 : Int32)) := by
      have q := y1414
      rw [lls1415, hls1415]
      exact q
    have cls1415 : own_chars ls1415 := by rw [hls1415]; exact (own_ccons ⟨z_ch, own_w255 b_ch⟩ (own_ccons ⟨z_c2, own_w255 b_c2⟩ (own_ccons ⟨z_c3, own_w255 b_c3⟩ own_cnil)))
    have dls1415 : own_lat ls1415 := by rw [hls1415]; exact (own_lcons b_ch (own_lcons b_c2 (own_lcons b_c3 own_lnil)))
    have ge1417 : n0 ≤ b1406 := Nat.le_trans (own_old_le O1402) (Nat.le_of_eq gb1406.symm)
    obtain ⟨_, _, ⟨T1413, L1413, k1413, n1413⟩, -, X1413, ⟨Lc1413, hQ1413, l1413, y1413, z1413⟩, st1413⟩ := X1406.specialBack hx (y := (⟨"java/lang/String", "<init>", "([C)V"⟩ : MethodName)) rfl hown (mvT hZ (hw _ (List.mem_of_getElem? (i := 5) rfl))) (mvT hZ (hw _ (List.mem_of_getElem? (i := 6) rfl))) (mvT hZ (hw _ (List.mem_of_getElem? (i := 7) rfl))) (by decide) (backOf (W := 1) (rm_sIniL l Z a0 hw [] b1406 b1379 k1379 ls1415 i_COMPACT_STRINGS h1406 n0 O1408 y1410 y1409 A1406 ge1417 y1416 (by rw [lls1415]; decide) (by rw [lls1415]; decide) (dls1415) S0_ hcs) hZ (hw _ (List.mem_of_getElem? (i := 7) rfl)) (hw _ (List.mem_of_getElem? (i := 4) rfl)) (by decide) (by decide)) (g := (mkF m 776 #[iv p0, iv p1, iv p2, iv p3, iv p4, iv k, iv ch, .val cv, .unset, .unset, iv (p3 &&& (3 : Int32)), iv c2, iv c3, rv b1379] [(.ref b1379), (.ref b1406), (.ref b1406)])) rfl (by rw [hml]; rfl) (Steps.refl _) (a := b1406) (argsL := [(.ref b1379)]) (rest := [(.ref b1406)]) (lenOf pd_11 rfl) rfl (by show 2 * 0 + _ ≤ _; exact Nat.le_of_eq rfl) (hb hby at_776) (fun _ _ => ⟨rfl, e1406, (by decide : 4 + 1 ≤ _), (by decide : 12 + 22 ≤ _)⟩)
    dsimp only [Pt.U, Pt.locs, Pt.cells, Pt.slots] at X1413 l1413 y1413 z1413 st1413 hQ1413
    subst y1413 z1413
    obtain ⟨r1418, r1419, rfl, M1413, K1413, y1420, y1421, y1422, y1423, y1424⟩ := hQ1413
    have N1413 : Fr n0 L1413 := by rw [l1413]; exact Fr.app N1399 M1413
    have R1425 : CHr Z consts_1 s.vm h0 vm106 T1413.heap := R1407.trans (CHr.keep K1413 (sfS (Safe.ext E1406 R1400.1 (Safe.new (Nat.le_of_eq gb1406.symm))) sf0) R1407.1)
    have O1426 := O1408.keep K1413 (allS ge1417 all0)
    have g1427 : Go p e below T1413 (mkF m 779 #[iv p0, iv p1, iv p2, iv p3, iv p4, iv k, iv ch, .val cv, .unset, .unset, iv (p3 &&& (3 : Int32)), iv c2, iv c3, rv b1379] [(.ref b1406)]) A0 := fun t kont => g1412 t (st1413.trans kont)
    have g1428 : Go p e below T1413 (mkF m 805 #[iv p0, iv p1, iv p2, iv p3, iv p4, iv k, iv ch, .val cv, rv b1406, iv (0 : Int32), iv (p3 &&& (3 : Int32)), iv c2, iv c3, rv b1379] []) A0 := by
      intro t kont
      refine g1427 t ?_
      refine XS.astore X1413.here hx rfl (hb hby at_779) rfl rfl (l' := #[iv p0, iv p1, iv p2, iv p3, iv p4, iv k, iv ch, .val cv, rv b1406, .unset, iv (p3 &&& (3 : Int32)), iv c2, iv c3, rv b1379]) rfl ?_
      refine XS.iconst X1413.here hx rfl (hb hby at_781) ?_
      refine XS.istore X1413.here hx rfl (hb hby at_782) rfl (l' := #[iv p0, iv p1, iv p2, iv p3, iv p4, iv k, iv ch, .val cv, rv b1406, iv (0 : Int32), iv (p3 &&& (3 : Int32)), iv c2, iv c3, rv b1379]) rfl ?_
      refine XS.goto X1413.here hx rfl (pc0 := 784) (pc' := 805) rfl (hb hby at_784) (by decide) (by decide) ?_
      exact kont
    obtain ⟨T1429, h1429, X1429, e1429, E1429, A1429, D1429, -, st1429⟩ := newO X1413 hx hZ hown (hw _ (List.mem_of_getElem? (i := 31) rfl)) (hw _ (List.mem_of_getElem? (i := 32) rfl)) (hw _ (List.mem_of_getElem? (i := 33) rfl)) rfl (g := (mkF m 805 #[iv p0, iv p1, iv p2, iv p3, iv p4, iv k, iv ch, .val cv, rv b1406, iv (0 : Int32), iv (p3 &&& (3 : Int32)), iv c2, iv c3, rv b1379] [])) rfl (hb hby at_805) (by decide) (by decide)
    obtain ⟨b1429, gb1429⟩ : ∃ z, z = T1413.heap.size := ⟨_, rfl⟩
    rw [← gb1429] at A1429 D1429 st1429
    have R1430 : CHr Z consts_1 s.vm h0 vm106 h1429 := R1425.trans (CHr.ext E1429 R1425.1)
    have O1431 := O1426.ext E1429
    have y1432 : Fld Z h1429 b1429 "com/example/fetch_from_near/fetchfromnear/ContentType" "mediaType" "Ljava/lang/String;" .null := D1429 (Or.inr (hw _ (List.mem_of_getElem? (i := 44) rfl))) (ty := (.object "java/lang/String")) (by decide)
    have y1433 : Fld Z h1429 b1429 "com/example/fetch_from_near/fetchfromnear/ContentType" "charset" "Ljava/lang/String;" .null := D1429 (Or.inr (hw _ (List.mem_of_getElem? (i := 46) rfl))) (ty := (.object "java/lang/String")) (by decide)
    have g1434 : Go p e below T1429 (mkF m 808 #[iv p0, iv p1, iv p2, iv p3, iv p4, iv k, iv ch, .val cv, rv b1406, iv (0 : Int32), iv (p3 &&& (3 : Int32)), iv c2, iv c3, rv b1379] [(.ref b1429)]) A0 := fun t kont => g1428 t (st1429 t kont)
    have g1435 : Go p e below T1429 (mkF m 813 #[iv p0, iv p1, iv p2, iv p3, iv p4, iv k, iv ch, .val cv, rv b1406, iv (0 : Int32), iv (p3 &&& (3 : Int32)), iv c2, iv c3, rv b1379] [cv, (.ref b1406), (.ref b1429), (.ref b1429)]) A0 := by
      intro t kont
      refine g1434 t ?_
      refine XS.dup X1429.here hx rfl (hb hby at_808) rfl rfl ?_
      refine XS.aload X1429.here hx rfl (hb hby at_809) rfl rfl ?_
      refine XS.aload X1429.here hx rfl (hb hby at_811) rfl (h_cv) ?_
      exact kont
    have ge1437 : n0 ≤ b1429 := Nat.le_trans (own_old_le O1426) (Nat.le_of_eq gb1429.symm)
    obtain ⟨_, _, ⟨T1436, L1436, k1436, n1436⟩, -, X1436, ⟨Lc1436, hQ1436, l1436, y1436, z1436⟩, st1436⟩ := X1429.specialBack hx (y := (⟨"com/example/fetch_from_near/fetchfromnear/ContentType", "<init>", "(Ljava/lang/String;Ljava/lang/String;)V"⟩ : MethodName)) rfl hown (mvT hZ (hw _ (List.mem_of_getElem? (i := 34) rfl))) (mvT hZ (hw _ (List.mem_of_getElem? (i := 35) rfl))) (mvT hZ (hw _ (List.mem_of_getElem? (i := 36) rfl))) (by decide) (backOf (W := 1) (rm_ctR l Z a0 hw [] b1429 b1406 cv h1429 n0 O1431 A1429 y1432 y1433 ge1437 h_cv) hZ (hw _ (List.mem_of_getElem? (i := 36) rfl)) (hw _ (List.mem_of_getElem? (i := 33) rfl)) (by decide) (by decide)) (g := (mkF m 813 #[iv p0, iv p1, iv p2, iv p3, iv p4, iv k, iv ch, .val cv, rv b1406, iv (0 : Int32), iv (p3 &&& (3 : Int32)), iv c2, iv c3, rv b1379] [cv, (.ref b1406), (.ref b1429), (.ref b1429)])) rfl (by rw [hml]; rfl) (Steps.refl _) (a := b1429) (argsL := [(.ref b1406), cv]) (rest := [(.ref b1429)]) (lenOf pd_12 rfl) rfl (by show 2 * 0 + _ ≤ _; exact Nat.le_of_eq rfl) (hb hby at_813) (fun _ _ => ⟨rfl, e1429, (by decide : 6 + 0 ≤ _), (by decide : 36 + 0 ≤ _)⟩)
    dsimp only [Pt.U, Pt.locs, Pt.cells, Pt.slots] at X1436 l1436 y1436 z1436 st1436 hQ1436
    subst y1436 z1436
    obtain ⟨rfl, M1436, K1436, y1438, y1439⟩ := hQ1436
    have N1436 : Fr n0 L1436 := by rw [l1436]; exact Fr.app N1413 M1436
    have R1440 : CHr Z consts_1 s.vm h0 vm106 T1436.heap := R1430.trans (CHr.keep K1436 (sfS (Safe.ext E1429 R1425.1 (Safe.new (Nat.le_of_eq gb1429.symm))) sf0) R1430.1)
    have O1441 := O1431.keep K1436 (allS ge1437 all0)
    have g1442 : Go p e below T1436 (mkF m 816 #[iv p0, iv p1, iv p2, iv p3, iv p4, iv k, iv ch, .val cv, rv b1406, iv (0 : Int32), iv (p3 &&& (3 : Int32)), iv c2, iv c3, rv b1379] [(.ref b1429)]) A0 := fun t kont => g1435 t (st1436.trans kont)
    have y1444 : Exa Z T1436.heap b1406 "java/lang/String" := ((y1420.ext E1429).keep K1436)
    have y1445 : Fld Z T1436.heap b1406 "java/lang/String" "coder" "B" (.int (0 : Int32)) := ((y1421.ext E1429).keep K1436 (ninS (Nat.ne_of_lt (Nat.lt_of_lt_of_le (Nat.lt_of_lt_of_le A1406.lt K1413.1) (Nat.le_of_eq gb1429.symm))) nin0))
    have y1446 : Fld Z T1436.heap b1406 "java/lang/String" "value" "[B" (.ref r1418) := ((y1422.ext E1429).keep K1436 (ninS (Nat.ne_of_lt (Nat.lt_of_lt_of_le (Nat.lt_of_lt_of_le A1406.lt K1413.1) (Nat.le_of_eq gb1429.symm))) nin0))
    have y1447 : Arv Z T1436.heap r1418 r1419 .byte (Int32.ofNat ls1415.length) (own_lb ls1415) (.int (0 : Int32)) := ((y1424.ext E1429).keep K1436 (ninS (Nat.ne_of_lt (Nat.lt_of_lt_of_le y1424.lt (Nat.le_of_eq gb1429.symm))) nin0))
    obtain ⟨cq1443, kq1443, q1443a, q1443b, q1443c⟩ := isOf hZ rfl y1438
    obtain ⟨_, _, ⟨T1443, L1443, k1443, n1443⟩, -, X1443, hS1443, hg1443, ⟨Lc1443, hQ1443, l1443, y1443, z1443, C1443⟩, st1443⟩ := X1436.virtualBackS hx (y := (⟨"com/example/fetch_from_near/fetchfromnear/ContentType", "isHtml", "()Z"⟩ : MethodName)) (z := (⟨"com/example/fetch_from_near/fetchfromnear/ContentType", "isHtml", "()Z"⟩ : MethodName)) hown (mvT hZ (hw _ (List.mem_of_getElem? (i := 47) rfl))) (mvT hZ (hw _ (List.mem_of_getElem? (i := 48) rfl))) (notFace_of_selects (args := #[]) (mvT hZ (hw _ (List.mem_of_getElem? (i := 50) rfl)))) (mvT hZ (hw _ (List.mem_of_getElem? (i := 50) rfl))) (mvT hZ (hw _ (List.mem_of_getElem? (i := 49) rfl))) (by decide) (backOfSH (W := 0) (rm_isHG l Z a0 hw [] b1429 b1406 r1418 r1419 ls1415 i_COMPACT_STRINGS T1436.heap n0 O1441 S0_ hcs y1439 y1438 y1444 y1445 y1446 y1447 (by rw [lls1415]; decide) (cls1415) (dls1415)) hZ (hw _ (List.mem_of_getElem? (i := 51) rfl)) (hw _ (List.mem_of_getElem? (i := 33) rfl)) (by decide) (by decide) (own_EW hw) R1440.1) q1443a q1443c (g := (mkF m 816 #[iv p0, iv p1, iv p2, iv p3, iv p4, iv k, iv ch, .val cv, rv b1406, iv (0 : Int32), iv (p3 &&& (3 : Int32)), iv c2, iv c3, rv b1379] [(.ref b1429)])) rfl (by rw [hml]; rfl) (Steps.refl _) (argsL := []) (rest := []) (lenOf pd_13 rfl) rfl (by show 2 * 0 + _ ≤ _; exact Nat.le_of_eq rfl) (hb hby at_816) (fun _ _ => ⟨rfl, rfl, (by decide : 6 + 4 ≤ _), (by decide : 36 + 128 ≤ _)⟩)
    dsimp only [Pt.U, Pt.locs, Pt.cells, Pt.slots] at X1443 l1443 y1443 z1443 st1443 hQ1443 hS1443 hg1443 C1443
    subst y1443 z1443
    obtain ⟨X1443, hS, hZ, hown⟩ := rebS hS (n1 := T1436.heap.size) (Nat.le_trans hk (Nat.le_trans (Nat.le_trans (Nat.le_trans (Nat.le_trans (Nat.le_trans (Nat.le_trans (Nat.le_trans E1379.1 (Keep.of_wr W1385).1) (Keep.of_wr W1392).1) (Keep.of_wr W1399).1) E1406.1) K1413.1) E1429.1) K1436.1)) X1443 hS1443 hg1443 hZ hown
    obtain ⟨r1448, rfl, M1443, K1443, y1449, y1450⟩ := hQ1443
    have N1443 : Fr n0 L1443 := by rw [l1443]; exact Fr.app N1436 M1443
    have R1451 : CHr Z consts_1 s.vm h0 T1443.vm T1443.heap := R1440.trans C1443
    have O1452 := O1441.keep K1443 all0
    have g1453 : Go p e below T1443 (mkF m 819 #[iv p0, iv p1, iv p2, iv p3, iv p4, iv k, iv ch, .val cv, rv b1406, iv (0 : Int32), iv (p3 &&& (3 : Int32)), iv c2, iv c3, rv b1379] [(.int r1448)]) A0 := fun t kont => g1442 t (st1443.trans kont)
    rcases (y1449 : r1448 = (0 : Int32) ∨ r1448 = (1 : Int32)) with c1454 | c1454
    ·
      subst c1454
      have g1455 : Go p e below T1443 (mkF m 829 #[iv p0, iv p1, iv p2, iv p3, iv p4, iv k, iv ch, .val cv, rv b1406, iv (0 : Int32), iv (p3 &&& (3 : Int32)), iv c2, iv c3, rv b1379] [(.int (1 : Int32))]) A0 := by
        intro t kont
        refine g1453 t ?_
        refine XS.iload X1443.here hx rfl (hb hby at_819) rfl ?_
        refine XS.icmpNo X1443.here hx rfl (hb hby at_821) rfl (teq (by decide : (0 : Int32) = (0 : Int32))).2 ?_
        refine XS.iconst X1443.here hx rfl (hb hby at_824) ?_
        refine XS.goto X1443.here hx rfl (pc0 := 825) (pc' := 829) rfl (hb hby at_825) (by decide) (by decide) ?_
        exact kont
      obtain ⟨fs, hr, hrun, hended, hRW⟩ := X1443.leaveW hS (Nat.le_refl _) (v := some (.int (1 : Int32))) (fun h => by rw [Bd.returns] at h; cases h)
      refine ⟨_, _, g1455 _ (retN X1443 hx (t := .boolean) Bd.returns (by simp) (hb hby at_829) hr), hrun, hended, _, _, rfl, ?_, ?_, hRW.1, hRW.2.1, hRW.2.2.1, hRW.2.2.2.mono (by decide) (by decide)⟩
      ·
        show Q_law Z p0 p1 p2 p3 p4 i_COMPACT_STRINGS h0 n0 _ T1443.heap _
        exact ⟨rfl, N1443⟩
      ·
        rw [hh]
        show CHr Z consts_1 s.vm h0 T1443.vm T1443.heap
        exact R1451.trans (CHv.at X1443 hZ (own_EW hw) R1451.1)
    subst c1454
    exact ((own_len lls1415) (y1450.mp rfl)).elim
  have g1457 : Go p e below T106 (mkF m 790 #[iv p0, iv p1, iv p2, iv p3, iv p4, iv k, iv ch, .val cv, .unset, .unset, .unset, .unset, .unset, .unset] [(.int (p3 &&& (1 : Int32)))]) A0 := by
    intro t kont
    refine g1219 t ?_
    refine XS.icmpYes X106.here hx rfl (pc0 := 660) (pc' := 787) rfl (hb hby at_660) rfl (feq c1218).2 (by decide) (by decide) ?_
    refine XS.iloadN X106.here hx rfl (hb hby at_787) rfl ?_
    refine XS.iconst X106.here hx rfl (hb hby at_788) ?_
    refine XS.iand X106.here hx rfl (hb hby at_789) rfl ?_
    exact kont
  by_cases c1456 : (p3 &&& (1 : Int32)) = (0 : Int32)
  ·
    have g1458 : Go p e below T106 (mkF m 793 #[iv p0, iv p1, iv p2, iv p3, iv p4, iv k, iv ch, .val cv, .unset, .unset, .unset, .unset, .unset, .unset] []) A0 := by
      intro t kont
      refine g1457 t ?_
      refine XS.ifNo X106.here hx rfl (hb hby at_790) rfl ((if0 _ _).trans (teq c1456).2) ?_
      exact kont
    obtain ⟨b1459, T1459, h1459, k1459, c1459, kc1459, X1459, e1459, E1459, hS, hk, hZ, hown, A1459, F1459, G1459, V1459, la1459, lb1459, C1459, -, ne1459, st1459⟩ := ldcCH X106 hx hZ hown (hw _ (List.mem_of_getElem? (i := 78) rfl)) (own_wS hw) e106 hS hk (own_EW hw) (List.mem_of_getElem? (i := 9) rfl) R106.1 (vs := [(.int (97 : Int32)), (.int (112 : Int32)), (.int (112 : Int32)), (.int (108 : Int32)), (.int (105 : Int32)), (.int (99 : Int32)), (.int (97 : Int32)), (.int (116 : Int32)), (.int (105 : Int32)), (.int (111 : Int32)), (.int (110 : Int32)), (.int (47 : Int32)), (.int (104 : Int32)), (.int (116 : Int32)), (.int (109 : Int32)), (.int (108 : Int32))]) (z := (16 : Int32)) ⟨by decide, by decide⟩ (by decide) rfl (g := (mkF m 793 #[iv p0, iv p1, iv p2, iv p3, iv p4, iv k, iv ch, .val cv, .unset, .unset, .unset, .unset, .unset, .unset] [])) rfl (hb hby at_793) (n := 64) (by decide) (by decide) (by decide) (by decide)
    have R1460 : CHr Z consts_1 s.vm h0 T1459.vm h1459 := R106.trans C1459
    have O1461 := O126.ext E1459
    have g1462 : Go p e below T1459 (mkF m 795 #[iv p0, iv p1, iv p2, iv p3, iv p4, iv k, iv ch, .val cv, .unset, .unset, .unset, .unset, .unset, .unset] [(.ref b1459)]) A0 := fun t kont => g1458 t (st1459 t kont)
    have y1463 : Arv Z h1459 c1459 kc1459 .byte (Int32.ofNat own_l31.length) (own_lb own_l31) (.int (0 : Int32)) := by rw [show own_lb own_l31 = [(.int (97 : Int32)), (.int (112 : Int32)), (.int (112 : Int32)), (.int (108 : Int32)), (.int (105 : Int32)), (.int (99 : Int32)), (.int (97 : Int32)), (.int (116 : Int32)), (.int (105 : Int32)), (.int (111 : Int32)), (.int (110 : Int32)), (.int (47 : Int32)), (.int (104 : Int32)), (.int (116 : Int32)), (.int (109 : Int32)), (.int (108 : Int32))] from rfl]; exact V1459
    have g1464 : Go p e below T1459 (mkF m 805 #[iv p0, iv p1, iv p2, iv p3, iv p4, iv k, iv ch, .val cv, rv b1459, iv (0 : Int32), .unset, .unset, .unset, .unset] []) A0 := by
      intro t kont
      refine g1462 t ?_
      refine XS.goto X1459.here hx rfl (pc0 := 795) (pc' := 800) rfl (hb hby at_795) (by decide) (by decide) ?_
      refine XS.astore X1459.here hx rfl (hb hby at_800) rfl rfl (l' := #[iv p0, iv p1, iv p2, iv p3, iv p4, iv k, iv ch, .val cv, rv b1459, .unset, .unset, .unset, .unset, .unset]) rfl ?_
      refine XS.iconst X1459.here hx rfl (hb hby at_802) ?_
      refine XS.istore X1459.here hx rfl (hb hby at_803) rfl (l' := #[iv p0, iv p1, iv p2, iv p3, iv p4, iv k, iv ch, .val cv, rv b1459, iv (0 : Int32), .unset, .unset, .unset, .unset]) rfl ?_
      exact kont
    obtain ⟨T1465, h1465, X1465, e1465, E1465, A1465, D1465, -, st1465⟩ := newO X1459 hx hZ hown (hw _ (List.mem_of_getElem? (i := 31) rfl)) (hw _ (List.mem_of_getElem? (i := 32) rfl)) (hw _ (List.mem_of_getElem? (i := 33) rfl)) e1459 (g := (mkF m 805 #[iv p0, iv p1, iv p2, iv p3, iv p4, iv k, iv ch, .val cv, rv b1459, iv (0 : Int32), .unset, .unset, .unset, .unset] [])) rfl (hb hby at_805) (by decide) (by decide)
    obtain ⟨b1465, gb1465⟩ : ∃ z, z = h1459.size := ⟨_, rfl⟩
    rw [← gb1465] at A1465 D1465 st1465
    have R1466 : CHr Z consts_1 s.vm h0 T1459.vm h1465 := R1460.trans (CHr.ext E1465 R1460.1)
    have O1467 := O1461.ext E1465
    have y1468 : Fld Z h1465 b1465 "com/example/fetch_from_near/fetchfromnear/ContentType" "mediaType" "Ljava/lang/String;" .null := D1465 (Or.inr (hw _ (List.mem_of_getElem? (i := 44) rfl))) (ty := (.object "java/lang/String")) (by decide)
    have y1469 : Fld Z h1465 b1465 "com/example/fetch_from_near/fetchfromnear/ContentType" "charset" "Ljava/lang/String;" .null := D1465 (Or.inr (hw _ (List.mem_of_getElem? (i := 46) rfl))) (ty := (.object "java/lang/String")) (by decide)
    have g1470 : Go p e below T1465 (mkF m 808 #[iv p0, iv p1, iv p2, iv p3, iv p4, iv k, iv ch, .val cv, rv b1459, iv (0 : Int32), .unset, .unset, .unset, .unset] [(.ref b1465)]) A0 := fun t kont => g1464 t (st1465 t kont)
    have g1471 : Go p e below T1465 (mkF m 813 #[iv p0, iv p1, iv p2, iv p3, iv p4, iv k, iv ch, .val cv, rv b1459, iv (0 : Int32), .unset, .unset, .unset, .unset] [cv, (.ref b1459), (.ref b1465), (.ref b1465)]) A0 := by
      intro t kont
      refine g1470 t ?_
      refine XS.dup X1465.here hx rfl (hb hby at_808) rfl rfl ?_
      refine XS.aload X1465.here hx rfl (hb hby at_809) rfl rfl ?_
      refine XS.aload X1465.here hx rfl (hb hby at_811) rfl (h_cv) ?_
      exact kont
    have ge1473 : n0 ≤ b1465 := Nat.le_trans (own_old_le O1461) (Nat.le_of_eq gb1465.symm)
    obtain ⟨_, _, ⟨T1472, L1472, k1472, n1472⟩, -, X1472, ⟨Lc1472, hQ1472, l1472, y1472, z1472⟩, st1472⟩ := X1465.specialBack hx (y := (⟨"com/example/fetch_from_near/fetchfromnear/ContentType", "<init>", "(Ljava/lang/String;Ljava/lang/String;)V"⟩ : MethodName)) rfl hown (mvT hZ (hw _ (List.mem_of_getElem? (i := 34) rfl))) (mvT hZ (hw _ (List.mem_of_getElem? (i := 35) rfl))) (mvT hZ (hw _ (List.mem_of_getElem? (i := 36) rfl))) (by decide) (backOf (W := 1) (rm_ctR l Z a0 hw [] b1465 b1459 cv h1465 n0 O1467 A1465 y1468 y1469 ge1473 h_cv) hZ (hw _ (List.mem_of_getElem? (i := 36) rfl)) (hw _ (List.mem_of_getElem? (i := 33) rfl)) (by decide) (by decide)) (g := (mkF m 813 #[iv p0, iv p1, iv p2, iv p3, iv p4, iv k, iv ch, .val cv, rv b1459, iv (0 : Int32), .unset, .unset, .unset, .unset] [cv, (.ref b1459), (.ref b1465), (.ref b1465)])) rfl (by rw [hml]; rfl) (Steps.refl _) (a := b1465) (argsL := [(.ref b1459), cv]) (rest := [(.ref b1465)]) (lenOf pd_12 rfl) rfl (by show 2 * 0 + _ ≤ _; exact Nat.le_of_eq rfl) (hb hby at_813) (fun _ _ => ⟨rfl, e1465, (by decide : 5 + 0 ≤ _), (by decide : 75 + 0 ≤ _)⟩)
    dsimp only [Pt.U, Pt.locs, Pt.cells, Pt.slots] at X1472 l1472 y1472 z1472 st1472 hQ1472
    subst y1472 z1472
    obtain ⟨rfl, M1472, K1472, y1474, y1475⟩ := hQ1472
    have N1472 : Fr n0 L1472 := by rw [l1472]; exact Fr.app N106 M1472
    have R1476 : CHr Z consts_1 s.vm h0 T1459.vm T1472.heap := R1466.trans (CHr.keep K1472 (sfS (Safe.ext E1465 R1460.1 (Safe.new (Nat.le_of_eq gb1465.symm))) sf0) R1466.1)
    have O1477 := O1467.keep K1472 (allS ge1473 all0)
    have g1478 : Go p e below T1472 (mkF m 816 #[iv p0, iv p1, iv p2, iv p3, iv p4, iv k, iv ch, .val cv, rv b1459, iv (0 : Int32), .unset, .unset, .unset, .unset] [(.ref b1465)]) A0 := fun t kont => g1471 t (st1472.trans kont)
    have y1480 : Exa Z T1472.heap b1459 "java/lang/String" := ((A1459.ext E1465).keep K1472)
    have y1481 : Fld Z T1472.heap b1459 "java/lang/String" "coder" "B" (.int (0 : Int32)) := ((F1459.ext E1465).keep K1472 (ninS (Nat.ne_of_lt (Nat.lt_of_lt_of_le A1459.lt (Nat.le_of_eq gb1465.symm))) nin0))
    have y1482 : Fld Z T1472.heap b1459 "java/lang/String" "value" "[B" (.ref c1459) := ((G1459.ext E1465).keep K1472 (ninS (Nat.ne_of_lt (Nat.lt_of_lt_of_le A1459.lt (Nat.le_of_eq gb1465.symm))) nin0))
    have y1483 : Arv Z T1472.heap c1459 kc1459 .byte (Int32.ofNat own_l31.length) (own_lb own_l31) (.int (0 : Int32)) := ((y1463.ext E1465).keep K1472 (ninS (Nat.ne_of_lt (Nat.lt_of_lt_of_le V1459.lt (Nat.le_of_eq gb1465.symm))) nin0))
    obtain ⟨cq1479, kq1479, q1479a, q1479b, q1479c⟩ := isOf hZ rfl y1474
    obtain ⟨_, _, ⟨T1479, L1479, k1479, n1479⟩, -, X1479, hS1479, hg1479, ⟨Lc1479, hQ1479, l1479, y1479, z1479, C1479⟩, st1479⟩ := X1472.virtualBackS hx (y := (⟨"com/example/fetch_from_near/fetchfromnear/ContentType", "isHtml", "()Z"⟩ : MethodName)) (z := (⟨"com/example/fetch_from_near/fetchfromnear/ContentType", "isHtml", "()Z"⟩ : MethodName)) hown (mvT hZ (hw _ (List.mem_of_getElem? (i := 47) rfl))) (mvT hZ (hw _ (List.mem_of_getElem? (i := 48) rfl))) (notFace_of_selects (args := #[]) (mvT hZ (hw _ (List.mem_of_getElem? (i := 50) rfl)))) (mvT hZ (hw _ (List.mem_of_getElem? (i := 50) rfl))) (mvT hZ (hw _ (List.mem_of_getElem? (i := 49) rfl))) (by decide) (backOfSH (W := 0) (rm_isHG l Z a0 hw [] b1465 b1459 c1459 kc1459 own_l31 i_COMPACT_STRINGS T1472.heap n0 O1477 S0_ hcs y1475 y1474 y1480 y1481 y1482 y1483 (by decide) (own_l31_c) (own_l31_l)) hZ (hw _ (List.mem_of_getElem? (i := 51) rfl)) (hw _ (List.mem_of_getElem? (i := 33) rfl)) (by decide) (by decide) (own_EW hw) R1476.1) q1479a q1479c (g := (mkF m 816 #[iv p0, iv p1, iv p2, iv p3, iv p4, iv k, iv ch, .val cv, rv b1459, iv (0 : Int32), .unset, .unset, .unset, .unset] [(.ref b1465)])) rfl (by rw [hml]; rfl) (Steps.refl _) (argsL := []) (rest := []) (lenOf pd_13 rfl) rfl (by show 2 * 0 + _ ≤ _; exact Nat.le_of_eq rfl) (hb hby at_816) (fun _ _ => ⟨rfl, rfl, (by decide : 5 + 4 ≤ _), (by decide : 75 + 128 ≤ _)⟩)
    dsimp only [Pt.U, Pt.locs, Pt.cells, Pt.slots] at X1479 l1479 y1479 z1479 st1479 hQ1479 hS1479 hg1479 C1479
    subst y1479 z1479
    obtain ⟨X1479, hS, hZ, hown⟩ := rebS hS (n1 := T1472.heap.size) (Nat.le_trans hk (Nat.le_trans E1465.1 K1472.1)) X1479 hS1479 hg1479 hZ hown
    obtain ⟨r1484, rfl, M1479, K1479, y1485, y1486⟩ := hQ1479
    have N1479 : Fr n0 L1479 := by rw [l1479]; exact Fr.app N1472 M1479
    have R1487 : CHr Z consts_1 s.vm h0 T1479.vm T1479.heap := R1476.trans C1479
    have O1488 := O1477.keep K1479 all0
    have g1489 : Go p e below T1479 (mkF m 819 #[iv p0, iv p1, iv p2, iv p3, iv p4, iv k, iv ch, .val cv, rv b1459, iv (0 : Int32), .unset, .unset, .unset, .unset] [(.int r1484)]) A0 := fun t kont => g1478 t (st1479.trans kont)
    rcases (y1485 : r1484 = (0 : Int32) ∨ r1484 = (1 : Int32)) with c1490 | c1490
    ·
      subst c1490
      have g1491 : Go p e below T1479 (mkF m 829 #[iv p0, iv p1, iv p2, iv p3, iv p4, iv k, iv ch, .val cv, rv b1459, iv (0 : Int32), .unset, .unset, .unset, .unset] [(.int (1 : Int32))]) A0 := by
        intro t kont
        refine g1489 t ?_
        refine XS.iload X1479.here hx rfl (hb hby at_819) rfl ?_
        refine XS.icmpNo X1479.here hx rfl (hb hby at_821) rfl (teq (by decide : (0 : Int32) = (0 : Int32))).2 ?_
        refine XS.iconst X1479.here hx rfl (hb hby at_824) ?_
        refine XS.goto X1479.here hx rfl (pc0 := 825) (pc' := 829) rfl (hb hby at_825) (by decide) (by decide) ?_
        exact kont
      obtain ⟨fs, hr, hrun, hended, hRW⟩ := X1479.leaveW hS (Nat.le_refl _) (v := some (.int (1 : Int32))) (fun h => by rw [Bd.returns] at h; cases h)
      refine ⟨_, _, g1491 _ (retN X1479 hx (t := .boolean) Bd.returns (by simp) (hb hby at_829) hr), hrun, hended, _, _, rfl, ?_, ?_, hRW.1, hRW.2.1, hRW.2.2.1, hRW.2.2.2.mono (by decide) (by decide)⟩
      ·
        show Q_law Z p0 p1 p2 p3 p4 i_COMPACT_STRINGS h0 n0 _ T1479.heap _
        exact ⟨rfl, N1479⟩
      ·
        rw [hh]
        show CHr Z consts_1 s.vm h0 T1479.vm T1479.heap
        exact R1487.trans (CHv.at X1479 hZ (own_EW hw) R1487.1)
    subst c1490
    exact ((own_len (rfl : own_l31.length = 16)) (y1486.mp rfl)).elim
  have g1492 : Go p e below T106 (mkF m 798 #[iv p0, iv p1, iv p2, iv p3, iv p4, iv k, iv ch, .val cv, .unset, .unset, .unset, .unset, .unset, .unset] []) A0 := by
    intro t kont
    refine g1457 t ?_
    refine XS.ifYes X106.here hx rfl (pc0 := 790) (pc' := 798) rfl (hb hby at_790) rfl ((if0 _ _).trans (feq c1456).2) (by decide) (by decide) ?_
    exact kont
  obtain ⟨b1493, T1493, h1493, k1493, c1493, kc1493, X1493, e1493, E1493, hS, hk, hZ, hown, A1493, F1493, G1493, V1493, la1493, lb1493, C1493, -, ne1493, st1493⟩ := ldcCH X106 hx hZ hown (hw _ (List.mem_of_getElem? (i := 84) rfl)) (own_wS hw) e106 hS hk (own_EW hw) (List.mem_of_getElem? (i := 10) rfl) R106.1 (vs := [(.int (116 : Int32)), (.int (101 : Int32)), (.int (120 : Int32)), (.int (116 : Int32)), (.int (47 : Int32)), (.int (120 : Int32)), (.int (104 : Int32)), (.int (116 : Int32)), (.int (109 : Int32)), (.int (108 : Int32)), (.int (43 : Int32)), (.int (120 : Int32)), (.int (109 : Int32)), (.int (108 : Int32))]) (z := (14 : Int32)) ⟨by decide, by decide⟩ (by decide) rfl (g := (mkF m 798 #[iv p0, iv p1, iv p2, iv p3, iv p4, iv k, iv ch, .val cv, .unset, .unset, .unset, .unset, .unset, .unset] [])) rfl (hb hby at_798) (n := 56) (by decide) (by decide) (by decide) (by decide)
  have R1494 : CHr Z consts_1 s.vm h0 T1493.vm h1493 := R106.trans C1493
  have O1495 := O126.ext E1493
  have g1496 : Go p e below T1493 (mkF m 800 #[iv p0, iv p1, iv p2, iv p3, iv p4, iv k, iv ch, .val cv, .unset, .unset, .unset, .unset, .unset, .unset] [(.ref b1493)]) A0 := fun t kont => g1492 t (st1493 t kont)
  have y1497 : Arv Z h1493 c1493 kc1493 .byte (Int32.ofNat own_l33.length) (own_lb own_l33) (.int (0 : Int32)) := by rw [show own_lb own_l33 = [(.int (116 : Int32)), (.int (101 : Int32)), (.int (120 : Int32)), (.int (116 : Int32)), (.int (47 : Int32)), (.int (120 : Int32)), (.int (104 : Int32)), (.int (116 : Int32)), (.int (109 : Int32)), (.int (108 : Int32)), (.int (43 : Int32)), (.int (120 : Int32)), (.int (109 : Int32)), (.int (108 : Int32))] from rfl]; exact V1493
  have g1498 : Go p e below T1493 (mkF m 805 #[iv p0, iv p1, iv p2, iv p3, iv p4, iv k, iv ch, .val cv, rv b1493, iv (0 : Int32), .unset, .unset, .unset, .unset] []) A0 := by
    intro t kont
    refine g1496 t ?_
    refine XS.astore X1493.here hx rfl (hb hby at_800) rfl rfl (l' := #[iv p0, iv p1, iv p2, iv p3, iv p4, iv k, iv ch, .val cv, rv b1493, .unset, .unset, .unset, .unset, .unset]) rfl ?_
    refine XS.iconst X1493.here hx rfl (hb hby at_802) ?_
    refine XS.istore X1493.here hx rfl (hb hby at_803) rfl (l' := #[iv p0, iv p1, iv p2, iv p3, iv p4, iv k, iv ch, .val cv, rv b1493, iv (0 : Int32), .unset, .unset, .unset, .unset]) rfl ?_
    exact kont
  obtain ⟨T1499, h1499, X1499, e1499, E1499, A1499, D1499, -, st1499⟩ := newO X1493 hx hZ hown (hw _ (List.mem_of_getElem? (i := 31) rfl)) (hw _ (List.mem_of_getElem? (i := 32) rfl)) (hw _ (List.mem_of_getElem? (i := 33) rfl)) e1493 (g := (mkF m 805 #[iv p0, iv p1, iv p2, iv p3, iv p4, iv k, iv ch, .val cv, rv b1493, iv (0 : Int32), .unset, .unset, .unset, .unset] [])) rfl (hb hby at_805) (by decide) (by decide)
  obtain ⟨b1499, gb1499⟩ : ∃ z, z = h1493.size := ⟨_, rfl⟩
  rw [← gb1499] at A1499 D1499 st1499
  have R1500 : CHr Z consts_1 s.vm h0 T1493.vm h1499 := R1494.trans (CHr.ext E1499 R1494.1)
  have O1501 := O1495.ext E1499
  have y1502 : Fld Z h1499 b1499 "com/example/fetch_from_near/fetchfromnear/ContentType" "mediaType" "Ljava/lang/String;" .null := D1499 (Or.inr (hw _ (List.mem_of_getElem? (i := 44) rfl))) (ty := (.object "java/lang/String")) (by decide)
  have y1503 : Fld Z h1499 b1499 "com/example/fetch_from_near/fetchfromnear/ContentType" "charset" "Ljava/lang/String;" .null := D1499 (Or.inr (hw _ (List.mem_of_getElem? (i := 46) rfl))) (ty := (.object "java/lang/String")) (by decide)
  have g1504 : Go p e below T1499 (mkF m 808 #[iv p0, iv p1, iv p2, iv p3, iv p4, iv k, iv ch, .val cv, rv b1493, iv (0 : Int32), .unset, .unset, .unset, .unset] [(.ref b1499)]) A0 := fun t kont => g1498 t (st1499 t kont)
  have g1505 : Go p e below T1499 (mkF m 813 #[iv p0, iv p1, iv p2, iv p3, iv p4, iv k, iv ch, .val cv, rv b1493, iv (0 : Int32), .unset, .unset, .unset, .unset] [cv, (.ref b1493), (.ref b1499), (.ref b1499)]) A0 := by
    intro t kont
    refine g1504 t ?_
    refine XS.dup X1499.here hx rfl (hb hby at_808) rfl rfl ?_
    refine XS.aload X1499.here hx rfl (hb hby at_809) rfl rfl ?_
    refine XS.aload X1499.here hx rfl (hb hby at_811) rfl (h_cv) ?_
    exact kont
  have ge1507 : n0 ≤ b1499 := Nat.le_trans (own_old_le O1495) (Nat.le_of_eq gb1499.symm)
  obtain ⟨_, _, ⟨T1506, L1506, k1506, n1506⟩, -, X1506, ⟨Lc1506, hQ1506, l1506, y1506, z1506⟩, st1506⟩ := X1499.specialBack hx (y := (⟨"com/example/fetch_from_near/fetchfromnear/ContentType", "<init>", "(Ljava/lang/String;Ljava/lang/String;)V"⟩ : MethodName)) rfl hown (mvT hZ (hw _ (List.mem_of_getElem? (i := 34) rfl))) (mvT hZ (hw _ (List.mem_of_getElem? (i := 35) rfl))) (mvT hZ (hw _ (List.mem_of_getElem? (i := 36) rfl))) (by decide) (backOf (W := 1) (rm_ctR l Z a0 hw [] b1499 b1493 cv h1499 n0 O1501 A1499 y1502 y1503 ge1507 h_cv) hZ (hw _ (List.mem_of_getElem? (i := 36) rfl)) (hw _ (List.mem_of_getElem? (i := 33) rfl)) (by decide) (by decide)) (g := (mkF m 813 #[iv p0, iv p1, iv p2, iv p3, iv p4, iv k, iv ch, .val cv, rv b1493, iv (0 : Int32), .unset, .unset, .unset, .unset] [cv, (.ref b1493), (.ref b1499), (.ref b1499)])) rfl (by rw [hml]; rfl) (Steps.refl _) (a := b1499) (argsL := [(.ref b1493), cv]) (rest := [(.ref b1499)]) (lenOf pd_12 rfl) rfl (by show 2 * 0 + _ ≤ _; exact Nat.le_of_eq rfl) (hb hby at_813) (fun _ _ => ⟨rfl, e1499, (by decide : 5 + 0 ≤ _), (by decide : 67 + 0 ≤ _)⟩)
  dsimp only [Pt.U, Pt.locs, Pt.cells, Pt.slots] at X1506 l1506 y1506 z1506 st1506 hQ1506
  subst y1506 z1506
  obtain ⟨rfl, M1506, K1506, y1508, y1509⟩ := hQ1506
  have N1506 : Fr n0 L1506 := by rw [l1506]; exact Fr.app N106 M1506
  have R1510 : CHr Z consts_1 s.vm h0 T1493.vm T1506.heap := R1500.trans (CHr.keep K1506 (sfS (Safe.ext E1499 R1494.1 (Safe.new (Nat.le_of_eq gb1499.symm))) sf0) R1500.1)
  have O1511 := O1501.keep K1506 (allS ge1507 all0)
  have g1512 : Go p e below T1506 (mkF m 816 #[iv p0, iv p1, iv p2, iv p3, iv p4, iv k, iv ch, .val cv, rv b1493, iv (0 : Int32), .unset, .unset, .unset, .unset] [(.ref b1499)]) A0 := fun t kont => g1505 t (st1506.trans kont)
  have y1514 : Exa Z T1506.heap b1493 "java/lang/String" := ((A1493.ext E1499).keep K1506)
  have y1515 : Fld Z T1506.heap b1493 "java/lang/String" "coder" "B" (.int (0 : Int32)) := ((F1493.ext E1499).keep K1506 (ninS (Nat.ne_of_lt (Nat.lt_of_lt_of_le A1493.lt (Nat.le_of_eq gb1499.symm))) nin0))
  have y1516 : Fld Z T1506.heap b1493 "java/lang/String" "value" "[B" (.ref c1493) := ((G1493.ext E1499).keep K1506 (ninS (Nat.ne_of_lt (Nat.lt_of_lt_of_le A1493.lt (Nat.le_of_eq gb1499.symm))) nin0))
  have y1517 : Arv Z T1506.heap c1493 kc1493 .byte (Int32.ofNat own_l33.length) (own_lb own_l33) (.int (0 : Int32)) := ((y1497.ext E1499).keep K1506 (ninS (Nat.ne_of_lt (Nat.lt_of_lt_of_le V1493.lt (Nat.le_of_eq gb1499.symm))) nin0))
  obtain ⟨cq1513, kq1513, q1513a, q1513b, q1513c⟩ := isOf hZ rfl y1508
  obtain ⟨_, _, ⟨T1513, L1513, k1513, n1513⟩, -, X1513, hS1513, hg1513, ⟨Lc1513, hQ1513, l1513, y1513, z1513, C1513⟩, st1513⟩ := X1506.virtualBackS hx (y := (⟨"com/example/fetch_from_near/fetchfromnear/ContentType", "isHtml", "()Z"⟩ : MethodName)) (z := (⟨"com/example/fetch_from_near/fetchfromnear/ContentType", "isHtml", "()Z"⟩ : MethodName)) hown (mvT hZ (hw _ (List.mem_of_getElem? (i := 47) rfl))) (mvT hZ (hw _ (List.mem_of_getElem? (i := 48) rfl))) (notFace_of_selects (args := #[]) (mvT hZ (hw _ (List.mem_of_getElem? (i := 50) rfl)))) (mvT hZ (hw _ (List.mem_of_getElem? (i := 50) rfl))) (mvT hZ (hw _ (List.mem_of_getElem? (i := 49) rfl))) (by decide) (backOfSH (W := 0) (rm_isHG l Z a0 hw [] b1499 b1493 c1493 kc1493 own_l33 i_COMPACT_STRINGS T1506.heap n0 O1511 S0_ hcs y1509 y1508 y1514 y1515 y1516 y1517 (by decide) (own_l33_c) (own_l33_l)) hZ (hw _ (List.mem_of_getElem? (i := 51) rfl)) (hw _ (List.mem_of_getElem? (i := 33) rfl)) (by decide) (by decide) (own_EW hw) R1510.1) q1513a q1513c (g := (mkF m 816 #[iv p0, iv p1, iv p2, iv p3, iv p4, iv k, iv ch, .val cv, rv b1493, iv (0 : Int32), .unset, .unset, .unset, .unset] [(.ref b1499)])) rfl (by rw [hml]; rfl) (Steps.refl _) (argsL := []) (rest := []) (lenOf pd_13 rfl) rfl (by show 2 * 0 + _ ≤ _; exact Nat.le_of_eq rfl) (hb hby at_816) (fun _ _ => ⟨rfl, rfl, (by decide : 5 + 4 ≤ _), (by decide : 67 + 128 ≤ _)⟩)
  dsimp only [Pt.U, Pt.locs, Pt.cells, Pt.slots] at X1513 l1513 y1513 z1513 st1513 hQ1513 hS1513 hg1513 C1513
  subst y1513 z1513
  obtain ⟨X1513, hS, hZ, hown⟩ := rebS hS (n1 := T1506.heap.size) (Nat.le_trans hk (Nat.le_trans E1499.1 K1506.1)) X1513 hS1513 hg1513 hZ hown
  obtain ⟨r1518, rfl, M1513, K1513, y1519, y1520⟩ := hQ1513
  have N1513 : Fr n0 L1513 := by rw [l1513]; exact Fr.app N1506 M1513
  have R1521 : CHr Z consts_1 s.vm h0 T1513.vm T1513.heap := R1510.trans C1513
  have O1522 := O1511.keep K1513 all0
  have g1523 : Go p e below T1513 (mkF m 819 #[iv p0, iv p1, iv p2, iv p3, iv p4, iv k, iv ch, .val cv, rv b1493, iv (0 : Int32), .unset, .unset, .unset, .unset] [(.int r1518)]) A0 := fun t kont => g1512 t (st1513.trans kont)
  rcases (y1519 : r1518 = (0 : Int32) ∨ r1518 = (1 : Int32)) with c1524 | c1524
  ·
    subst c1524
    have g1525 : Go p e below T1513 (mkF m 829 #[iv p0, iv p1, iv p2, iv p3, iv p4, iv k, iv ch, .val cv, rv b1493, iv (0 : Int32), .unset, .unset, .unset, .unset] [(.int (1 : Int32))]) A0 := by
      intro t kont
      refine g1523 t ?_
      refine XS.iload X1513.here hx rfl (hb hby at_819) rfl ?_
      refine XS.icmpNo X1513.here hx rfl (hb hby at_821) rfl (teq (by decide : (0 : Int32) = (0 : Int32))).2 ?_
      refine XS.iconst X1513.here hx rfl (hb hby at_824) ?_
      refine XS.goto X1513.here hx rfl (pc0 := 825) (pc' := 829) rfl (hb hby at_825) (by decide) (by decide) ?_
      exact kont
    obtain ⟨fs, hr, hrun, hended, hRW⟩ := X1513.leaveW hS (Nat.le_refl _) (v := some (.int (1 : Int32))) (fun h => by rw [Bd.returns] at h; cases h)
    refine ⟨_, _, g1525 _ (retN X1513 hx (t := .boolean) Bd.returns (by simp) (hb hby at_829) hr), hrun, hended, _, _, rfl, ?_, ?_, hRW.1, hRW.2.1, hRW.2.2.1, hRW.2.2.2.mono (by decide) (by decide)⟩
    ·
      show Q_law Z p0 p1 p2 p3 p4 i_COMPACT_STRINGS h0 n0 _ T1513.heap _
      exact ⟨rfl, N1513⟩
    ·
      rw [hh]
      show CHr Z consts_1 s.vm h0 T1513.vm T1513.heap
      exact R1521.trans (CHv.at X1513 hZ (own_EW hw) R1521.1)
  subst c1524
  exact ((own_len (rfl : own_l33.length = 14)) (y1520.mp rfl)).elim
set_option maxRecDepth 65536 in
set_option maxHeartbeats 40000000 in
theorem comes_1 {Post : Tables → Env → Array Value → State → Outcome → State → Prop} (hpost : ∀ tb e args s v u, (limb_1_1.after args s (.returned v) u = true ∧ limb_1_2.after args s (.returned v) u = true ∧ True) → ReturnedEndW s (.returned v) u (Jvm.fieldLocs frame_1_writes args s ++ Jvm.arrayLocs frame_1_arrays args s ++ Jvm.staticLocs frame_1_statics s) 48 11520 → Post tb e args s (.returned v) u) :
    ArmFor flags0 classFile x code maxLocals ret World_1 tables_1 room_1 Calls_1 rest_1 Pre_1 Post := by
  intro l hfl _ _ p e ha hc hk s m args below hf hA hF happ hP
  obtain ⟨hcalls, hrest, hpre⟩ := hP
  obtain ⟨-, -, -, hnamed, -, -, -, hat⟩ := (Spec.applies_iff hf).mp happ
  obtain ⟨hg, hn⟩ := and_e (Cond.before_iff.mp (show (Jvm.Cond.and given_1 narrow_1).before args s = true from hpre))
  obtain ⟨hcount, hg⟩ := and_e hg
  obtain ⟨ha0, hg⟩ := and_e hg
  obtain ⟨ha1, hg⟩ := and_e hg
  obtain ⟨ha2, hg⟩ := and_e hg
  obtain ⟨ha3, hg⟩ := and_e hg
  have ha4 := hg
  obtain ⟨w0, w1, w2, w3, w4, rfl⟩ : ∃ w0 w1 w2 w3 w4 : Value, args = #[w0, w1, w2, w3, w4] := by
    have hs : args.size = 5 := by simpa [Cond.value, given_1] using hcount
    obtain ⟨L⟩ := args
    match L, hs with
    | [w0, w1, w2, w3, w4], _ => exact ⟨w0, w1, w2, w3, w4, rfl⟩
  have hw := fun d (hd : d ∈ tables_1) => atoms_spec (ws := Jvm.Cond.code x code maxLocals ret :: tables_1) hat d (List.mem_cons_of_mem _ hd)
  obtain ⟨hsets, hown0⟩ := atoms_of _ (rest_1_c_eq ▸ (show rest_1_c.before _ s = true from hrest))
  have hfit : Fit s := fun {y c} hc i hi => by
    obtain ⟨ha, rfl⟩ := Array.getElem?_eq_some_iff.mp hc
    have q := List.all_eq_true.mp ((Array.all_eq_true_iff_forall_mem.mp hF) _ (Array.getElem_mem ha)) i (List.mem_range.mpr hi)
    simpa [Array.getElem?_eq_getElem hi] using q
  obtain ⟨p0, ea0⟩ := is_v ha0
  obtain rfl : w0 = (.int p0) := Option.some.inj ea0
  obtain ⟨p1, ea1⟩ := is_v ha1
  obtain rfl : w1 = (.int p1) := Option.some.inj ea1
  obtain ⟨p2, ea2⟩ := is_v ha2
  obtain rfl : w2 = (.int p2) := Option.some.inj ea2
  obtain ⟨p3, ea3⟩ := is_v ha3
  obtain rfl : w3 = (.int p3) := Option.some.inj ea3
  obtain ⟨p4, ea4⟩ := is_v ha4
  obtain rfl : w4 = (.int p4) := Option.some.inj ea4
  obtain ⟨i_COMPACT_STRINGS, ev_COMPACT_STRINGS⟩ := is_v (Cond.before_iff.mp (hsets _ (List.mem_of_getElem? (i := 1) rfl)))
  obtain ⟨v_SIOOBE_FORMATTER, ev_SIOOBE_FORMATTER, r_SIOOBE_FORMATTER⟩ := isR_v (Cond.before_iff.mp (hsets _ (List.mem_of_getElem? (i := 8) rfl)))
  have S_COMPACT_STRINGS : Sta s s.heap "java/lang/String" "COMPACT_STRINGS" "Z" (.int i_COMPACT_STRINGS) := Sta.start ev_COMPACT_STRINGS (Or.inl (hsets _ (List.mem_of_getElem? (i := 0) rfl)))
  have S_SIOOBE_FORMATTER : Sta s s.heap "jdk/internal/util/Preconditions" "SIOOBE_FORMATTER" "Ljava/util/function/BiFunction;" v_SIOOBE_FORMATTER := Sta.start ev_SIOOBE_FORMATTER (Or.inl (hsets _ (List.mem_of_getElem? (i := 7) rfl)))
  have c_COMPACT_STRINGS : ¬ (i_COMPACT_STRINGS = (0 : Int32)) := gotF (Cond.eq_ints ev_COMPACT_STRINGS (Term.int_eval (0))) (not_v (Cond.before_iff.mp (hsets _ (List.mem_of_getElem? (i := 2) rfl))))
  have hch : CHv s consts_1 s.vm s.heap := CHv.start (own_EW hw) (fun p hp => hcalls.1 p hp) (own_compact hsets) (hw _ (List.mem_of_getElem? (i := 20) rfl)) (hw _ (List.mem_of_getElem? (i := 3) rfl))
  obtain ⟨n, o, h1, h2, h3, _, L, rfl, ⟨rfl, N⟩, -, hq⟩ := rm_law l s _ hw tables_1 p0 p1 p2 p3 p4 i_COMPACT_STRINGS s.heap s.heap.size (Old.start s) S_COMPACT_STRINGS c_COMPACT_STRINGS p e ha hc hk s m _ below hf ((Spec.applies_iff_loose hf).mp happ).1 ⟨rfl, State.Warmed39.refl s, rfl, hch⟩ trivial
  refine ⟨n, _, h1, h2, h3, hpost _ _ _ _ _ _ ⟨Cond.after_iff.mpr rfl, Cond.after_iff.mpr (eq_i res_at (Term.int_eval (1)) rfl), trivial⟩ ⟨hq.1, hq.2.1, hq.2.2.1, (hq.2.2.2.sift fun y hy => Or.inr (N y hy)).mono (by decide) (by decide)⟩⟩
theorem main_1_1 : Claimed_1_1 := comes_1 fun _ _ _ _ _ _ h hF => ⟨h.1, hF⟩
theorem main_1_2 : Claimed_1_2 := comes_1 fun _ _ _ _ _ _ h hF => ⟨h.2.1, hF⟩
end Jvm.Pilot.@@N@@
namespace Jvm.Pilot.@@N@@
open Jvm Jvm.ClassFile Sem Op Lib Jvm.Free Jvm.Stand Jvm.Pilot.@@N@@.Jvm.D
/-! MADE BY PROGRAM (witnessworld.py) out of the Statement's table words and the real class files: 21 classes; the members and pool entries that the words name. The judged class is class 1, her method 1. -/
namespace start1
open Jvm.ClassFile
def u (s : String) : CpInfo := .utf8 (stringToUtf16 s)
/-- a pool by its gaps: so many unusable entries, then the entry; so many at the end -/
def gap : Nat → List CpInfo → List CpInfo
  | 0, r => r
  | n + 1, r => .unusable :: gap n r
def poolList (es : List (Nat × CpInfo)) (last : Nat) : List CpInfo := es.foldr (fun e r => gap e.1 (e.2 :: r)) (gap last [])
def pool (es : List (Nat × CpInfo)) (last : Nat) : Array CpInfo := ⟨poolList es last⟩
def fileOf (pool : Array CpInfo) (this : Nat) (attrs : Array Attribute := #[]) (ms : Array MethodInfo := #[]) (fl : Nat := 33) (sup : Nat := 0) (ifs : Array Nat := #[]) (fds : Array FieldInfo := #[]) : ClassFile where
  minorVersion := 0
  majorVersion := 65
  constantPool := pool
  accessFlags := fl
  thisClass := this
  superClass := sup
  interfaces := ifs
  fields := fds
  methods := ms
  attributes := attrs
def plain (name : String) (sup : Option ClassId) : Class where
  name := name
  kind := .ordinary
  loader := none
  accessFlags := 33
  super := sup
  interfaces := #[]
  cf := none
  fields := #[]
  methods := #[]
  instanceTypes := #[]
  staticTypes := #[]
  resolved := #[]
  callSites := []
  init := .initialized
  statics := none
  mirror := none

def pool0 : Array CpInfo := pool [(5, u "<init>"), (0, u "()V"), (1, .class_ 10), (1, u "java/lang/Object")] 113

def k0c0 : Code := { maxStack := 0, maxLocals := 1, code := object_method_1_code, exceptionTable := #[], attributes := #[] }
def k0m0 : Method := { name := "<init>", desc := "()V", sig := { parameters := [], returnType := none }, accessFlags := 1, code := some k0c0 }
/-- java/lang/Object -/
def k0 : Class := { plain "java/lang/Object" none with
  accessFlags := 33
  interfaces := #[]
  cf := some (fileOf pool0 8 #[] #[{ accessFlags := 1, nameIndex := 5, descriptorIndex := 6, attributes := #[] }] 33 0 #[] #[])
  fields := #[]
  methods := #[k0m0]
  instanceTypes := #[]
  staticTypes := #[]
  resolved := Array.replicate 124 none
  statics := none }

def pool1 : Array CpInfo := pool [(2, .class_ 4), (1, u "java/lang/Object"), (0, u "<init>"), (0, u "()V"), (0, .methodref 8 9), (0, .class_ 10), (0, .nameAndType 11 12), (0, u "java/lang/String"), (0, u "valueOf"), (0, u "(C)Ljava/lang/String;"), (0, .integer 2147483647), (0, .methodref 8 15), (0, .nameAndType 5 16), (0, u "([C)V"), (0, .string 18), (0, u "text/htm"), (0, .string 20), (0, u "application/xhtml+xm"), (0, .string 22), (0, u "text/xml"), (0, .string 24), (0, u "application/xml"), (0, .string 26), (0, u "text/plain"), (0, .string 28), (0, u "application/xhtml"), (0, .string 30), (0, u ""), (0, .string 32), (0, u "application/html"), (0, .string 34), (0, u "text/xhtml+xml"), (0, .class_ 36), (0, u "com/example/fetch_from_near/fetchfromnear/ContentType"), (0, .methodref 35 38), (0, .nameAndType 5 39), (0, u "(Ljava/lang/String;Ljava/lang/String;)V"), (0, .methodref 35 41), (0, .nameAndType 42 43), (0, u "isHtml"), (0, u "()Z"), (0, .class_ 45), (0, u "com/example/fetch_from_near/fetchfromnear/ContentTypeIsHtmlPinLaw"), (2, u "law"), (0, u "(IIIII)Z")] 5

def k1m0 : Method := { name := "<init>", desc := "()V", sig := { parameters := [], returnType := none }, accessFlags := 1, code := none }
def k1c1 : Code := { maxStack := 4, maxLocals := 14, code := code, exceptionTable := #[], attributes := #[] }
def k1m1 : Method := { name := "law", desc := "(IIIII)Z", sig := { parameters := [.int, .int, .int, .int, .int], returnType := some .boolean }, accessFlags := 9, code := some k1c1 }
/-- com/example/fetch_from_near/fetchfromnear/ContentTypeIsHtmlPinLaw -/
def k1 : Class := { plain "com/example/fetch_from_near/fetchfromnear/ContentTypeIsHtmlPinLaw" (some 0) with
  accessFlags := 49
  interfaces := #[]
  cf := some (fileOf pool1 44 #[] #[{ accessFlags := 1, nameIndex := 5, descriptorIndex := 6, attributes := #[] }, { accessFlags := 9, nameIndex := 48, descriptorIndex := 49, attributes := #[] }] 49 2 #[] #[])
  fields := #[]
  methods := #[k1m0, k1m1]
  instanceTypes := #[]
  staticTypes := #[]
  resolved := Array.replicate 55 none
  statics := none }

def pool2 : Array CpInfo := pool [(1, .class_ 2), (0, u "java/io/Serializable"), (0, .class_ 4), (0, u "java/lang/Object")] 2

/-- java/io/Serializable -/
def k2 : Class := { plain "java/io/Serializable" (some 0) with
  accessFlags := 1537
  interfaces := #[]
  cf := some (fileOf pool2 1 #[] #[] 1537 3 #[] #[])
  fields := #[]
  methods := #[]
  instanceTypes := #[]
  staticTypes := #[]
  resolved := Array.replicate 7 none
  statics := none }

def pool3 : Array CpInfo := pool [(1, .class_ 2), (0, u "java/lang/Comparable"), (0, .class_ 4), (0, u "java/lang/Object")] 7

/-- java/lang/Comparable -/
def k3 : Class := { plain "java/lang/Comparable" (some 0) with
  accessFlags := 1537
  interfaces := #[]
  cf := some (fileOf pool3 1 #[] #[] 1537 3 #[] #[])
  fields := #[]
  methods := #[]
  instanceTypes := #[]
  staticTypes := #[]
  resolved := Array.replicate 12 none
  statics := none }

def pool4 : Array CpInfo := pool [(2, .class_ 4), (1, u "java/lang/CharSequence"), (42, .class_ 48), (0, u "java/lang/CharSequence$1CodePointIterator"), (10, .class_ 60), (0, u "java/lang/CharSequence$1CharIterator"), (5, .class_ 67), (0, u "java/lang/Object")] 63

/-- java/lang/CharSequence -/
def k4 : Class := { plain "java/lang/CharSequence" (some 0) with
  accessFlags := 1537
  interfaces := #[]
  cf := some (fileOf pool4 2 #[.nestMembers #[47, 59]] #[] 1537 66 #[] #[])
  fields := #[]
  methods := #[]
  instanceTypes := #[]
  staticTypes := #[]
  resolved := Array.replicate 131 none
  statics := none }

def pool5 : Array CpInfo := pool [(1, .class_ 2), (0, u "java/lang/constant/Constable"), (0, .class_ 4), (0, u "java/lang/Object")] 6

/-- java/lang/constant/Constable -/
def k5 : Class := { plain "java/lang/constant/Constable" (some 0) with
  accessFlags := 1537
  interfaces := #[]
  cf := some (fileOf pool5 1 #[] #[] 1537 3 #[] #[])
  fields := #[]
  methods := #[]
  instanceTypes := #[]
  staticTypes := #[]
  resolved := Array.replicate 11 none
  statics := none }

def pool6 : Array CpInfo := pool [(1, .class_ 2), (0, u "java/lang/constant/ConstantDesc"), (0, .class_ 4), (0, u "java/lang/Object")] 32

/-- java/lang/constant/ConstantDesc -/
def k6 : Class := { plain "java/lang/constant/ConstantDesc" (some 0) with
  accessFlags := 1537
  interfaces := #[]
  cf := some (fileOf pool6 1 #[] #[] 1537 3 #[] #[])
  fields := #[]
  methods := #[]
  instanceTypes := #[]
  staticTypes := #[]
  resolved := Array.replicate 37 none
  statics := none }

def pool7 : Array CpInfo := pool [(1, .methodref 2 3), (0, .class_ 4), (0, .nameAndType 5 6), (0, u "java/lang/Object"), (0, u "<init>"), (0, u "()V"), (2, .fieldref 10 11), (0, .class_ 12), (0, .nameAndType 13 14), (0, u "java/lang/String"), (0, u "value"), (0, u "[B"), (0, .fieldref 10 16), (0, .nameAndType 17 18), (0, u "coder"), (0, u "B"), (2, u "hash"), (0, u "I"), (2, u "hashIsZero"), (0, u "Z"), (0, .methodref 10 28), (0, .nameAndType 5 29), (0, u "([CIILjava/lang/Void;)V"), (8, .fieldref 10 39), (0, .nameAndType 40 26), (0, u "COMPACT_STRINGS"), (1, .class_ 44), (1, u "java/lang/StringUTF16"), (0, u "compress"), (1, .methodref 42 48), (0, .nameAndType 49 50), (0, u "coderFromArrayLen"), (0, u "([BI)B"), (2, u "toBytes"), (53, .class_ 109), (1, u "java/lang/StringLatin1"), (67, .methodref 42 178), (0, .nameAndType 45 179), (0, u "([CII)[B"), (29, .methodref 10 210), (0, .nameAndType 5 211), (0, u "([BB)V"), (157, u "(C)Z"), (171, .methodref 107 542), (0, .nameAndType 543 544), (0, u "equals"), (0, u "([B[B)Z"), (28, u "(Ljava/lang/Object;)Z"), (1, .class_ 576), (0, u "java/lang/CharSequence"), (22, u "CASE_INSENSITIVE_ORDER"), (0, u "Ljava/util/Comparator;"), (181, u "valueOf"), (0, u "(C)Ljava/lang/String;"), (226, u "([C)V"), (4, .methodref 107 1016), (0, .nameAndType 1017 369), (0, u "canEncode"), (0, .methodref 107 1019), (0, .nameAndType 53 1020), (0, u "(C)[B"), (80, u "serialPersistentFields"), (0, u "[Ljava/io/ObjectStreamField;"), (0, .class_ 1104), (0, u "java/lang/String$CaseInsensitiveComparator"), (1, .class_ 1107), (0, u "java/io/Serializable"), (0, .class_ 1109), (0, u "java/lang/Comparable"), (0, .class_ 1111), (0, u "java/lang/constant/Constable"), (0, .class_ 1113), (0, u "java/lang/constant/ConstantDesc"), (2, u "serialVersionUID"), (0, u "J"), (3, u "REPL"), (0, u "C"), (2, u "LATIN1"), (1, u "UTF16")] 323

def k7m0 : Method := { name := "<init>", desc := "()V", sig := { parameters := [], returnType := none }, accessFlags := 1, code := none }
def k7c1 : Code := { maxStack := 5, maxLocals := 2, code := jdk_42_method_3_code, exceptionTable := #[], attributes := #[] }
def k7m1 : Method := { name := "<init>", desc := "([C)V", sig := { parameters := [(.array .char)], returnType := none }, accessFlags := 1, code := some k7c1 }
def k7c2 : Code := { maxStack := 2, maxLocals := 3, code := jdk_42_method_66_code, exceptionTable := #[], attributes := #[] }
def k7m2 : Method := { name := "equals", desc := "(Ljava/lang/Object;)Z", sig := { parameters := [(.object "java/lang/Object")], returnType := some .boolean }, accessFlags := 1, code := some k7c2 }
def k7c3 : Code := { maxStack := 4, maxLocals := 1, code := jdk_42_method_139_code, exceptionTable := #[], attributes := #[] }
def k7m3 : Method := { name := "valueOf", desc := "(C)Ljava/lang/String;", sig := { parameters := [.char], returnType := some (.object "java/lang/String") }, accessFlags := 9, code := some k7c3 }
def k7c4 : Code := { maxStack := 4, maxLocals := 6, code := jdk_42_method_149_code, exceptionTable := #[], attributes := #[] }
def k7m4 : Method := { name := "<init>", desc := "([CIILjava/lang/Void;)V", sig := { parameters := [(.array .char), .int, .int, (.object "java/lang/Void")], returnType := none }, accessFlags := 2, code := some k7c4 }
def k7c5 : Code := { maxStack := 2, maxLocals := 3, code := jdk_42_method_151_code, exceptionTable := #[], attributes := #[] }
def k7m5 : Method := { name := "<init>", desc := "([BB)V", sig := { parameters := [(.array .byte), .byte], returnType := none }, accessFlags := 0, code := some k7c5 }
/-- java/lang/String -/
def k7 : Class := { plain "java/lang/String" (some 0) with
  accessFlags := 49
  interfaces := #[2, 3, 4, 5, 6]
  cf := some (fileOf pool7 10 #[.nestMembers #[1103]] #[{ accessFlags := 1, nameIndex := 5, descriptorIndex := 6, attributes := #[] }, { accessFlags := 1, nameIndex := 5, descriptorIndex := 1010, attributes := #[] }, { accessFlags := 1, nameIndex := 543, descriptorIndex := 573, attributes := #[] }, { accessFlags := 9, nameIndex := 782, descriptorIndex := 783, attributes := #[] }, { accessFlags := 2, nameIndex := 5, descriptorIndex := 29, attributes := #[] }, { accessFlags := 0, nameIndex := 5, descriptorIndex := 211, attributes := #[] }] 49 2 #[1106, 1108, 575, 1110, 1112] #[{ accessFlags := 18, nameIndex := 13, descriptorIndex := 14, attributes := #[] }, { accessFlags := 18, nameIndex := 17, descriptorIndex := 18, attributes := #[] }, { accessFlags := 2, nameIndex := 21, descriptorIndex := 22, attributes := #[] }, { accessFlags := 2, nameIndex := 25, descriptorIndex := 26, attributes := #[] }, { accessFlags := 26, nameIndex := 1116, descriptorIndex := 1117, attributes := #[] }, { accessFlags := 24, nameIndex := 40, descriptorIndex := 26, attributes := #[] }, { accessFlags := 26, nameIndex := 1101, descriptorIndex := 1102, attributes := #[] }, { accessFlags := 26, nameIndex := 1121, descriptorIndex := 1122, attributes := #[] }, { accessFlags := 25, nameIndex := 599, descriptorIndex := 600, attributes := #[] }, { accessFlags := 24, nameIndex := 1125, descriptorIndex := 18, attributes := #[] }, { accessFlags := 24, nameIndex := 1127, descriptorIndex := 18, attributes := #[] }])
  fields := #[{ name := "value", type := (.array .byte), accessFlags := 18, slot := 0, constantValue := 0 }, { name := "coder", type := .byte, accessFlags := 18, slot := 1, constantValue := 0 }, { name := "hash", type := .int, accessFlags := 2, slot := 2, constantValue := 0 }, { name := "hashIsZero", type := .boolean, accessFlags := 2, slot := 3, constantValue := 0 }, { name := "serialVersionUID", type := .long, accessFlags := 26, slot := 0, constantValue := 0 }, { name := "COMPACT_STRINGS", type := .boolean, accessFlags := 24, slot := 1, constantValue := 0 }, { name := "serialPersistentFields", type := (.array (.object "java/io/ObjectStreamField")), accessFlags := 26, slot := 2, constantValue := 0 }, { name := "REPL", type := .char, accessFlags := 26, slot := 3, constantValue := 0 }, { name := "CASE_INSENSITIVE_ORDER", type := (.object "java/util/Comparator"), accessFlags := 25, slot := 4, constantValue := 0 }, { name := "LATIN1", type := .byte, accessFlags := 24, slot := 5, constantValue := 0 }, { name := "UTF16", type := .byte, accessFlags := 24, slot := 6, constantValue := 0 }]
  methods := #[k7m0, k7m1, k7m2, k7m3, k7m4, k7m5]
  instanceTypes := #[(.array .byte), .byte, .int, .boolean]
  staticTypes := #[.long, .boolean, (.array (.object "java/io/ObjectStreamField")), .char, (.object "java/util/Comparator"), .byte, .byte]
  resolved := Array.replicate 1451 none
  statics := some 0 }

def pool8 : Array CpInfo := pool [(6, .class_ 8), (1, u "java/lang/Object"), (0, u "<init>"), (0, u "()V"), (1, .class_ 14), (1, u "java/lang/StringUTF16"), (31, u "$assertionsDisabled"), (0, u "Z"), (13, u "HI_BYTE_SHIFT"), (0, u "I"), (2, u "LO_BYTE_SHIFT"), (49, .methodref 12 116), (0, .nameAndType 117 118), (0, u "compress"), (0, u "([CI[BII)I"), (3, u "([CII)[B"), (138, u "coderFromArrayLen"), (0, u "([BI)B"), (106, .class_ 371), (1, u "java/lang/StringUTF16$LinesSpliterator"), (58, u "MAX_LENGTH"), (196, .class_ 628), (0, u "java/lang/StringUTF16$CodePointsSpliterator"), (0, .class_ 630), (0, u "java/lang/StringUTF16$CharsSpliterator")] 4

def k8m0 : Method := { name := "<init>", desc := "()V", sig := { parameters := [], returnType := none }, accessFlags := 0, code := none }
def k8c1 : Code := { maxStack := 2, maxLocals := 2, code := jdk_52_method_15_code, exceptionTable := #[], attributes := #[] }
def k8m1 : Method := { name := "coderFromArrayLen", desc := "([BI)B", sig := { parameters := [(.array .byte), .int], returnType := some .byte }, accessFlags := 8, code := some k8c1 }
def k8c2 : Code := { maxStack := 5, maxLocals := 6, code := jdk_52_method_16_code, exceptionTable := #[], attributes := #[] }
def k8m2 : Method := { name := "compress", desc := "([CII)[B", sig := { parameters := [(.array .char), .int, .int], returnType := some (.array .byte) }, accessFlags := 9, code := some k8c2 }
def k8c3 : Code := { maxStack := 3, maxLocals := 7, code := jdk_52_method_21_code, exceptionTable := #[], attributes := #[] }
def k8m3 : Method := { name := "compress", desc := "([CI[BII)I", sig := { parameters := [(.array .char), .int, (.array .byte), .int, .int], returnType := some .int }, accessFlags := 9, code := some k8c3 }
/-- java/lang/StringUTF16 -/
def k8 : Class := { plain "java/lang/StringUTF16" (some 0) with
  accessFlags := 48
  interfaces := #[]
  cf := some (fileOf pool8 12 #[.nestMembers #[627, 629, 369]] #[{ accessFlags := 0, nameIndex := 9, descriptorIndex := 10, attributes := #[] }, { accessFlags := 8, nameIndex := 261, descriptorIndex := 262, attributes := #[] }, { accessFlags := 9, nameIndex := 117, descriptorIndex := 122, attributes := #[] }, { accessFlags := 9, nameIndex := 117, descriptorIndex := 118, attributes := #[] }] 48 6 #[] #[{ accessFlags := 26, nameIndex := 61, descriptorIndex := 62, attributes := #[] }, { accessFlags := 26, nameIndex := 65, descriptorIndex := 62, attributes := #[] }, { accessFlags := 24, nameIndex := 430, descriptorIndex := 62, attributes := #[] }, { accessFlags := 4120, nameIndex := 46, descriptorIndex := 47, attributes := #[] }])
  fields := #[{ name := "HI_BYTE_SHIFT", type := .int, accessFlags := 26, slot := 0, constantValue := 0 }, { name := "LO_BYTE_SHIFT", type := .int, accessFlags := 26, slot := 1, constantValue := 0 }, { name := "MAX_LENGTH", type := .int, accessFlags := 24, slot := 2, constantValue := 0 }, { name := "$assertionsDisabled", type := .boolean, accessFlags := 4120, slot := 3, constantValue := 0 }]
  methods := #[k8m0, k8m1, k8m2, k8m3]
  instanceTypes := #[]
  staticTypes := #[.int, .int, .int, .boolean]
  resolved := Array.replicate 635 none
  statics := none }

def pool9 : Array CpInfo := pool [(1, .methodref 2 3), (0, .class_ 4), (0, .nameAndType 5 6), (0, u "java/lang/Object"), (0, u "<init>"), (0, u "()V"), (0, .class_ 8), (0, u "java/lang/Record")] 13

def k9c0 : Code := { maxStack := 1, maxLocals := 1, code := jdk_30_method_1_code, exceptionTable := #[], attributes := #[] }
def k9m0 : Method := { name := "<init>", desc := "()V", sig := { parameters := [], returnType := none }, accessFlags := 4, code := some k9c0 }
/-- java/lang/Record -/
def k9 : Class := { plain "java/lang/Record" (some 0) with
  accessFlags := 1057
  interfaces := #[]
  cf := some (fileOf pool9 7 #[] #[{ accessFlags := 4, nameIndex := 5, descriptorIndex := 6, attributes := #[] }] 1057 2 #[] #[])
  fields := #[]
  methods := #[k9m0]
  instanceTypes := #[]
  staticTypes := #[]
  resolved := Array.replicate 22 none
  statics := none }

def pool10 : Array CpInfo := pool [(1, .methodref 2 3), (0, .class_ 4), (0, .nameAndType 5 6), (0, u "java/lang/Record"), (0, u "<init>"), (0, u "()V"), (0, .fieldref 8 9), (0, .class_ 10), (0, .nameAndType 11 12), (0, u "com/example/fetch_from_near/fetchfromnear/ContentType"), (0, u "mediaType"), (0, u "Ljava/lang/String;"), (0, .fieldref 8 14), (0, .nameAndType 15 12), (0, u "charset"), (2, u "(Ljava/lang/String;Ljava/lang/String;)V"), (1, .class_ 22), (1, u "java/lang/String"), (22, u "CHARSET"), (0, u "Ljava/util/regex/Pattern;"), (8, u "MEDIA_TYPE"), (5, u "()Z"), (7, .string 70), (0, u "text/html"), (0, .methodref 20 72), (0, .nameAndType 73 74), (0, u "equals"), (0, u "(Ljava/lang/Object;)Z"), (0, .string 76), (0, u "application/xhtml+xml"), (28, u "isHtml")] 23

def k10c0 : Code := { maxStack := 2, maxLocals := 3, code := prog_3_method_1_code, exceptionTable := #[], attributes := #[] }
def k10m0 : Method := { name := "<init>", desc := "(Ljava/lang/String;Ljava/lang/String;)V", sig := { parameters := [(.object "java/lang/String"), (.object "java/lang/String")], returnType := none }, accessFlags := 1, code := some k10c0 }
def k10c1 : Code := { maxStack := 2, maxLocals := 1, code := prog_3_method_3_code, exceptionTable := #[], attributes := #[] }
def k10m1 : Method := { name := "isHtml", desc := "()Z", sig := { parameters := [], returnType := some .boolean }, accessFlags := 1, code := some k10c1 }
/-- com/example/fetch_from_near/fetchfromnear/ContentType -/
def k10 : Class := { plain "com/example/fetch_from_near/fetchfromnear/ContentType" (some 9) with
  accessFlags := 49
  interfaces := #[]
  cf := some (fileOf pool10 8 #[] #[{ accessFlags := 1, nameIndex := 5, descriptorIndex := 18, attributes := #[] }, { accessFlags := 1, nameIndex := 105, descriptorIndex := 61, attributes := #[] }] 49 2 #[] #[{ accessFlags := 18, nameIndex := 11, descriptorIndex := 12, attributes := #[] }, { accessFlags := 18, nameIndex := 15, descriptorIndex := 12, attributes := #[] }, { accessFlags := 24, nameIndex := 55, descriptorIndex := 46, attributes := #[] }, { accessFlags := 26, nameIndex := 45, descriptorIndex := 46, attributes := #[] }])
  fields := #[{ name := "mediaType", type := (.object "java/lang/String"), accessFlags := 18, slot := 0, constantValue := 0 }, { name := "charset", type := (.object "java/lang/String"), accessFlags := 18, slot := 1, constantValue := 0 }, { name := "MEDIA_TYPE", type := (.object "java/util/regex/Pattern"), accessFlags := 24, slot := 0, constantValue := 0 }, { name := "CHARSET", type := (.object "java/util/regex/Pattern"), accessFlags := 26, slot := 1, constantValue := 0 }]
  methods := #[k10m0, k10m1]
  instanceTypes := #[(.object "java/lang/String"), (.object "java/lang/String")]
  staticTypes := #[(.object "java/util/regex/Pattern"), (.object "java/util/regex/Pattern")]
  resolved := Array.replicate 129 none
  statics := none }

def pool11 : Array CpInfo := pool [(4, .class_ 6), (1, u "java/lang/Object"), (0, u "<init>"), (0, u "()V"), (5, .class_ 16), (1, u "java/lang/StringLatin1"), (73, u "canEncode"), (14, u "(C)Z"), (15, u "$assertionsDisabled"), (0, u "Z"), (98, .class_ 223), (1, u "java/lang/StringLatin1$LinesSpliterator"), (57, u "equals"), (0, u "([B[B)Z"), (97, u "toBytes"), (1, u "(C)[B"), (7, .class_ 391), (0, u "java/lang/StringLatin1$CharsSpliterator")] 3

def k11m0 : Method := { name := "<init>", desc := "()V", sig := { parameters := [], returnType := none }, accessFlags := 0, code := none }
def k11c1 : Code := { maxStack := 2, maxLocals := 1, code := jdk_43_method_3_code, exceptionTable := #[], attributes := #[] }
def k11m1 : Method := { name := "canEncode", desc := "(C)Z", sig := { parameters := [.char], returnType := some .boolean }, accessFlags := 9, code := some k11c1 }
def k11c2 : Code := { maxStack := 3, maxLocals := 3, code := jdk_43_method_13_code, exceptionTable := #[], attributes := #[] }
def k11m2 : Method := { name := "equals", desc := "([B[B)Z", sig := { parameters := [(.array .byte), (.array .byte)], returnType := some .boolean }, accessFlags := 9, code := some k11c2 }
def k11c3 : Code := { maxStack := 4, maxLocals := 1, code := jdk_43_method_46_code, exceptionTable := #[], attributes := #[] }
def k11m3 : Method := { name := "toBytes", desc := "(C)[B", sig := { parameters := [.char], returnType := some (.array .byte) }, accessFlags := 9, code := some k11c3 }
/-- java/lang/StringLatin1 -/
def k11 : Class := { plain "java/lang/StringLatin1" (some 0) with
  accessFlags := 48
  interfaces := #[]
  cf := some (fileOf pool11 14 #[.nestMembers #[390, 221]] #[{ accessFlags := 0, nameIndex := 7, descriptorIndex := 8, attributes := #[] }, { accessFlags := 9, nameIndex := 90, descriptorIndex := 105, attributes := #[] }, { accessFlags := 9, nameIndex := 281, descriptorIndex := 282, attributes := #[] }, { accessFlags := 9, nameIndex := 380, descriptorIndex := 382, attributes := #[] }] 48 4 #[] #[{ accessFlags := 4120, nameIndex := 121, descriptorIndex := 122, attributes := #[] }])
  fields := #[{ name := "$assertionsDisabled", type := .boolean, accessFlags := 4120, slot := 0, constantValue := 0 }]
  methods := #[k11m0, k11m1, k11m2, k11m3]
  instanceTypes := #[]
  staticTypes := #[.boolean]
  resolved := Array.replicate 395 none
  statics := none }

def pool12 : Array CpInfo := pool [(2, .class_ 4), (1, u "java/lang/Object"), (0, u "<init>"), (0, u "()V"), (17, .class_ 26), (1, u "jdk/internal/util/Preconditions"), (28, .class_ 56), (0, u "jdk/internal/util/Preconditions$4"), (57, .class_ 115), (0, u "jdk/internal/util/Preconditions$1"), (7, u "SIOOBE_FORMATTER"), (0, u "Ljava/util/function/BiFunction;"), (0, .class_ 126), (0, u "jdk/internal/util/Preconditions$2"), (3, u "AIOOBE_FORMATTER"), (0, .class_ 132), (0, u "jdk/internal/util/Preconditions$3"), (3, u "IOOBE_FORMATTER")] 57

def k12m0 : Method := { name := "<init>", desc := "()V", sig := { parameters := [], returnType := none }, accessFlags := 1, code := none }
/-- jdk/internal/util/Preconditions -/
def k12 : Class := { plain "jdk/internal/util/Preconditions" (some 0) with
  accessFlags := 33
  interfaces := #[]
  cf := some (fileOf pool12 24 #[.nestMembers #[55, 131, 125, 114]] #[{ accessFlags := 1, nameIndex := 5, descriptorIndex := 6, attributes := #[] }] 33 2 #[] #[{ accessFlags := 25, nameIndex := 123, descriptorIndex := 124, attributes := #[] }, { accessFlags := 25, nameIndex := 130, descriptorIndex := 124, attributes := #[] }, { accessFlags := 25, nameIndex := 136, descriptorIndex := 124, attributes := #[] }])
  fields := #[{ name := "SIOOBE_FORMATTER", type := (.object "java/util/function/BiFunction"), accessFlags := 25, slot := 0, constantValue := 0 }, { name := "AIOOBE_FORMATTER", type := (.object "java/util/function/BiFunction"), accessFlags := 25, slot := 1, constantValue := 0 }, { name := "IOOBE_FORMATTER", type := (.object "java/util/function/BiFunction"), accessFlags := 25, slot := 2, constantValue := 0 }]
  methods := #[k12m0]
  instanceTypes := #[]
  staticTypes := #[(.object "java/util/function/BiFunction"), (.object "java/util/function/BiFunction"), (.object "java/util/function/BiFunction")]
  resolved := Array.replicate 194 none
  statics := some 1 }

def pool13 : Array CpInfo := pool [(9, u "<init>"), (6, .class_ 18), (1, u "java/lang/Object"), (0, u "()V"), (1, .class_ 23), (1, u "jdk/internal/util/ArraysSupport"), (0, u "LOG2_ARRAY_LONG_INDEX_SCALE"), (0, u "I"), (2, u "U"), (0, u "Ljdk/internal/misc/Unsafe;"), (8, u "BIG_ENDIAN"), (0, u "Z"), (8, u "LOG2_BYTE_BIT_SIZE"), (4, u "LOG2_ARRAY_INT_INDEX_SCALE"), (54, u "JLA"), (0, u "Ljdk/internal/access/JavaLangAccess;"), (11, u "LOG2_ARRAY_BOOLEAN_INDEX_SCALE"), (9, u "LOG2_ARRAY_BYTE_INDEX_SCALE"), (5, u "LOG2_ARRAY_CHAR_INDEX_SCALE"), (5, u "LOG2_ARRAY_SHORT_INDEX_SCALE"), (18, u "LOG2_ARRAY_FLOAT_INDEX_SCALE"), (24, u "LOG2_ARRAY_DOUBLE_INDEX_SCALE"), (89, u "T_BOOLEAN"), (2, u "T_CHAR"), (1, u "T_FLOAT"), (1, u "T_DOUBLE"), (1, u "T_BYTE"), (1, u "T_SHORT"), (1, u "T_INT"), (1, u "T_LONG"), (1, u "SOFT_MAX_ARRAY_LENGTH")] 83

def k13m0 : Method := { name := "<init>", desc := "()V", sig := { parameters := [], returnType := none }, accessFlags := 2, code := none }
/-- jdk/internal/util/ArraysSupport -/
def k13 : Class := { plain "jdk/internal/util/ArraysSupport" (some 0) with
  accessFlags := 33
  interfaces := #[]
  cf := some (fileOf pool13 21 #[] #[{ accessFlags := 2, nameIndex := 9, descriptorIndex := 19, attributes := #[] }] 33 16 #[] #[{ accessFlags := 24, nameIndex := 28, descriptorIndex := 29, attributes := #[] }, { accessFlags := 26, nameIndex := 38, descriptorIndex := 39, attributes := #[] }, { accessFlags := 25, nameIndex := 121, descriptorIndex := 25, attributes := #[] }, { accessFlags := 25, nameIndex := 131, descriptorIndex := 25, attributes := #[] }, { accessFlags := 25, nameIndex := 137, descriptorIndex := 25, attributes := #[] }, { accessFlags := 25, nameIndex := 143, descriptorIndex := 25, attributes := #[] }, { accessFlags := 25, nameIndex := 53, descriptorIndex := 25, attributes := #[] }, { accessFlags := 25, nameIndex := 24, descriptorIndex := 25, attributes := #[] }, { accessFlags := 25, nameIndex := 162, descriptorIndex := 25, attributes := #[] }, { accessFlags := 25, nameIndex := 187, descriptorIndex := 25, attributes := #[] }, { accessFlags := 26, nameIndex := 48, descriptorIndex := 25, attributes := #[] }, { accessFlags := 25, nameIndex := 277, descriptorIndex := 25, attributes := #[] }, { accessFlags := 25, nameIndex := 280, descriptorIndex := 25, attributes := #[] }, { accessFlags := 25, nameIndex := 282, descriptorIndex := 25, attributes := #[] }, { accessFlags := 25, nameIndex := 284, descriptorIndex := 25, attributes := #[] }, { accessFlags := 25, nameIndex := 286, descriptorIndex := 25, attributes := #[] }, { accessFlags := 25, nameIndex := 288, descriptorIndex := 25, attributes := #[] }, { accessFlags := 25, nameIndex := 290, descriptorIndex := 25, attributes := #[] }, { accessFlags := 25, nameIndex := 292, descriptorIndex := 25, attributes := #[] }, { accessFlags := 26, nameIndex := 108, descriptorIndex := 109, attributes := #[] }, { accessFlags := 25, nameIndex := 294, descriptorIndex := 25, attributes := #[] }])
  fields := #[{ name := "U", type := (.object "jdk/internal/misc/Unsafe"), accessFlags := 24, slot := 0, constantValue := 0 }, { name := "BIG_ENDIAN", type := .boolean, accessFlags := 26, slot := 1, constantValue := 0 }, { name := "LOG2_ARRAY_BOOLEAN_INDEX_SCALE", type := .int, accessFlags := 25, slot := 2, constantValue := 0 }, { name := "LOG2_ARRAY_BYTE_INDEX_SCALE", type := .int, accessFlags := 25, slot := 3, constantValue := 0 }, { name := "LOG2_ARRAY_CHAR_INDEX_SCALE", type := .int, accessFlags := 25, slot := 4, constantValue := 0 }, { name := "LOG2_ARRAY_SHORT_INDEX_SCALE", type := .int, accessFlags := 25, slot := 5, constantValue := 0 }, { name := "LOG2_ARRAY_INT_INDEX_SCALE", type := .int, accessFlags := 25, slot := 6, constantValue := 0 }, { name := "LOG2_ARRAY_LONG_INDEX_SCALE", type := .int, accessFlags := 25, slot := 7, constantValue := 0 }, { name := "LOG2_ARRAY_FLOAT_INDEX_SCALE", type := .int, accessFlags := 25, slot := 8, constantValue := 0 }, { name := "LOG2_ARRAY_DOUBLE_INDEX_SCALE", type := .int, accessFlags := 25, slot := 9, constantValue := 0 }, { name := "LOG2_BYTE_BIT_SIZE", type := .int, accessFlags := 26, slot := 10, constantValue := 0 }, { name := "T_BOOLEAN", type := .int, accessFlags := 25, slot := 11, constantValue := 0 }, { name := "T_CHAR", type := .int, accessFlags := 25, slot := 12, constantValue := 0 }, { name := "T_FLOAT", type := .int, accessFlags := 25, slot := 13, constantValue := 0 }, { name := "T_DOUBLE", type := .int, accessFlags := 25, slot := 14, constantValue := 0 }, { name := "T_BYTE", type := .int, accessFlags := 25, slot := 15, constantValue := 0 }, { name := "T_SHORT", type := .int, accessFlags := 25, slot := 16, constantValue := 0 }, { name := "T_INT", type := .int, accessFlags := 25, slot := 17, constantValue := 0 }, { name := "T_LONG", type := .int, accessFlags := 25, slot := 18, constantValue := 0 }, { name := "JLA", type := (.object "jdk/internal/access/JavaLangAccess"), accessFlags := 26, slot := 19, constantValue := 0 }, { name := "SOFT_MAX_ARRAY_LENGTH", type := .int, accessFlags := 25, slot := 20, constantValue := 0 }]
  methods := #[k13m0]
  instanceTypes := #[]
  staticTypes := #[(.object "jdk/internal/misc/Unsafe"), .boolean, .int, .int, .int, .int, .int, .int, .int, .int, .int, .int, .int, .int, .int, .int, .int, .int, .int, (.object "jdk/internal/access/JavaLangAccess"), .int]
  resolved := Array.replicate 378 none
  statics := none }

def pool14 : Array CpInfo := pool [(1, u "java/lang/Cloneable"), (0, .class_ 1), (0, u "java/lang/Object"), (0, .class_ 3)] 3

/-- java/lang/Cloneable -/
def k14 : Class := { plain "java/lang/Cloneable" (some 0) with
  accessFlags := 1537
  interfaces := #[]
  cf := some (fileOf pool14 2 #[] #[] 1537 4 #[] #[])
  fields := #[]
  methods := #[]
  instanceTypes := #[]
  staticTypes := #[]
  resolved := Array.replicate 8 none
  statics := none }

/-- the primitive byte -/
def k15 : Class := { plain "byte" none with kind := .primitive 'B', accessFlags := 0x411 }
/-- [B -/
def k16 : Class := { plain "[B" (some 0) with kind := .array 15 .byte, interfaces := #[14, 2], accessFlags := 1041 }

/-- the primitive char -/
def k17 : Class := { plain "char" none with kind := .primitive 'C', accessFlags := 0x411 }
/-- [C -/
def k18 : Class := { plain "[C" (some 0) with kind := .array 17 .char, interfaces := #[14, 2], accessFlags := 1041 }

/-- the primitive int -/
def k19 : Class := { plain "int" none with kind := .primitive 'I', accessFlags := 0x411 }
/-- [I -/
def k20 : Class := { plain "[I" (some 0) with kind := .array 19 .int, interfaces := #[14, 2], accessFlags := 1041 }

def heap : Heap := #[{ cls := 7, slots := #[.long 0, .int 1, .null, .int 0, .null, .int 0, .int 0], vm := .statics 7 },
  { cls := 12, slots := #[.null, .null, .null], vm := .statics 12 }]
def classes : Array Class := #[k0, k1, k2, k3, k4, k5, k6, k7, k8, k9, k10, k11, k12, k13, k14, k15, k16, k17, k18, k19, k20]
def interned : List (Array UInt16 × Addr) := []
def slotsUsed : Nat := 10
def theMethod : MethodId := ⟨1, 1⟩
def args0 : Array Value := #[.int 0, .int 3, .int 116, .int 1, .int 131]
def aboutOver (below : List Frame) : State where
  vm := { classes := classes, interned := interned.toArray }
  heap := heap
  slotsUsed := slotsUsed
  threads := #[{ frames := .invoking theMethod args0 :: below }]
def below0 : List Frame := [.native { method := ⟨0, 0⟩, args := #[] }]
def about1 : State := aboutOver below0
def p0 : Program := .bare "" "" ""
def e0 : Env := launch0.env 0 0 0
theorem w_frames : about1.frames = Frame.invoking theMethod args0 :: below0 := rfl
set_option maxRecDepth 65536 in
theorem w_args : argsFit about1.vm theMethod args0 = true := by decide +kernel
set_option maxRecDepth 65536 in
theorem w_heap : heapFits about1 = true := by decide +kernel
set_option maxRecDepth 65536 in
theorem w_runnable : about1.curStatus? = some .runnable := by decide +kernel
set_option maxRecDepth 65536 in
theorem w_alone : about1.alone = true := by decide +kernel
set_option maxRecDepth 65536 in
theorem w_named : about1.methodNamed? x = some theMethod := by decide +kernel
set_option maxRecDepth 65536 in
theorem w_hears : about1.hears theMethod below0 = true := by decide +kernel
set_option maxRecDepth 65536 in
theorem w_ripe : about1.ripe theMethod args0 below0 = true := by decide +kernel
theorem w_running : about1.status = .running := rfl
set_option maxRecDepth 65536 in
theorem w_room : about1.hasRoom e0.platform room_1 = true :=
  launch0.hasRoom_least _ room_1 (by decide +kernel) (by decide +kernel) (by decide +kernel) (by decide +kernel) (by decide +kernel) (by decide +kernel)
theorem allAtoms_all (ts : List Jvm.Cond) (a : Array Jvm.Value) (st : Jvm.State) : (allAtoms ts).before a st = ts.all (fun c => c.before a st) := by
  induction ts with
  | nil => rfl
  | cons c t ih =>
    show (Jvm.Cond.and c (allAtoms t)).before a st = _
    rw [Jvm.Cond.before_and, ih, List.all_cons]
def words1 : List Jvm.Cond := Jvm.Cond.code x code maxLocals ret :: tables_1
/-- a 'code' word, met by the world's own term for the bytes: nothing is compared byte by byte -/
theorem code_word {y : MethodName} {bytes : ByteArray} {mx : Nat} {rt : Option FieldType} {a : Array Value} {s : State} {m : MethodId} {meth : Method} {c : Code} (h1 : s.methodNamed? y = some m) (h2 : s.vm.method? m = some meth) (h3 : meth.code = some c) (h4 : c.code = bytes)
    (h5 : (c.maxLocals == mx && c.exceptionTable.isEmpty && decide (c.maxStack ≤ mostOperands) && decide (meth.sig.returnType = rt) && !meth.locks && decide (parseMethodDescriptor y.desc = some meth.sig)) = true) : (Jvm.Cond.code y bytes mx rt).before a s = true := by
  simp only [Bool.and_eq_true, beq_iff_eq, Bool.not_eq_true', decide_eq_true_eq] at h5
  obtain ⟨⟨⟨⟨⟨g1, g2⟩, g3⟩, g4⟩, g5⟩, g6⟩ := h5
  simp [Cond.before, Cond.holds, Cond.value, h1, h2, h3, h4, g1, g2, g3, g4, g5, g6]
def isCode : Jvm.Cond → Bool
  | .code _ _ _ _ => true
  | _ => false
theorem all_split {L : List Jvm.Cond} {P : Jvm.Cond → Bool} (h1 : L.all (fun c => isCode c || P c) = true) (h2 : ∀ c ∈ L.filter isCode, P c = true) : L.all P = true := by
  refine List.all_eq_true.mpr fun c hc => ?_
  have h := List.all_eq_true.mp h1 c hc
  rcases Bool.eq_false_or_eq_true (isCode c) with hi | hi
  · exact h2 c (List.mem_filter.mpr ⟨hc, hi⟩)
  · simpa [hi] using h
set_option maxRecDepth 65536 in
theorem w_c0 : (Jvm.Cond.code x code maxLocals ret).before args0 about1 = true := code_word (m := ⟨1, 1⟩) (meth := k1m1) (c := k1c1) (by decide +kernel) rfl rfl rfl (by decide +kernel)
set_option maxRecDepth 65536 in
theorem w_c1 : (Jvm.Cond.code ({ cls := "java/lang/String", name := "<init>", desc := "([C)V" } : Jvm.MethodName) jdk_42_method_3_code (2 : Nat) (Option.none : Option Jvm.ClassFile.FieldType)).before args0 about1 = true := code_word (m := ⟨7, 1⟩) (meth := k7m1) (c := k7c1) (by decide +kernel) rfl rfl rfl (by decide +kernel)
set_option maxRecDepth 65536 in
theorem w_c2 : (Jvm.Cond.code ({ cls := "java/lang/String", name := "<init>", desc := "([CIILjava/lang/Void;)V" } : Jvm.MethodName) jdk_42_method_149_code (6 : Nat) (Option.none : Option Jvm.ClassFile.FieldType)).before args0 about1 = true := code_word (m := ⟨7, 4⟩) (meth := k7m4) (c := k7c4) (by decide +kernel) rfl rfl rfl (by decide +kernel)
set_option maxRecDepth 65536 in
theorem w_c3 : (Jvm.Cond.code ({ cls := "java/lang/Object", name := "<init>", desc := "()V" } : Jvm.MethodName) object_method_1_code (1 : Nat) (Option.none : Option Jvm.ClassFile.FieldType)).before args0 about1 = true := code_word (m := ⟨0, 0⟩) (meth := k0m0) (c := k0c0) (by decide +kernel) rfl rfl rfl (by decide +kernel)
set_option maxRecDepth 65536 in
theorem w_c4 : (Jvm.Cond.code ({ cls := "java/lang/StringUTF16", name := "compress", desc := "([CII)[B" } : Jvm.MethodName) jdk_52_method_16_code (6 : Nat) (Option.some (Jvm.ClassFile.FieldType.array Jvm.ClassFile.FieldType.byte))).before args0 about1 = true := code_word (m := ⟨8, 2⟩) (meth := k8m2) (c := k8c2) (by decide +kernel) rfl rfl rfl (by decide +kernel)
set_option maxRecDepth 65536 in
theorem w_c5 : (Jvm.Cond.code ({ cls := "java/lang/StringUTF16", name := "compress", desc := "([CI[BII)I" } : Jvm.MethodName) jdk_52_method_21_code (7 : Nat) (Option.some Jvm.ClassFile.FieldType.int)).before args0 about1 = true := code_word (m := ⟨8, 3⟩) (meth := k8m3) (c := k8c3) (by decide +kernel) rfl rfl rfl (by decide +kernel)
set_option maxRecDepth 65536 in
theorem w_c6 : (Jvm.Cond.code ({ cls := "java/lang/StringUTF16", name := "coderFromArrayLen", desc := "([BI)B" } : Jvm.MethodName) jdk_52_method_15_code (2 : Nat) (Option.some Jvm.ClassFile.FieldType.byte)).before args0 about1 = true := code_word (m := ⟨8, 1⟩) (meth := k8m1) (c := k8c1) (by decide +kernel) rfl rfl rfl (by decide +kernel)
set_option maxRecDepth 65536 in
theorem w_c7 : (Jvm.Cond.code ({ cls := "com/example/fetch_from_near/fetchfromnear/ContentType", name := "<init>", desc := "(Ljava/lang/String;Ljava/lang/String;)V" } : Jvm.MethodName) prog_3_method_1_code (3 : Nat) (Option.none : Option Jvm.ClassFile.FieldType)).before args0 about1 = true := code_word (m := ⟨10, 0⟩) (meth := k10m0) (c := k10c0) (by decide +kernel) rfl rfl rfl (by decide +kernel)
set_option maxRecDepth 65536 in
theorem w_c8 : (Jvm.Cond.code ({ cls := "java/lang/Record", name := "<init>", desc := "()V" } : Jvm.MethodName) jdk_30_method_1_code (1 : Nat) (Option.none : Option Jvm.ClassFile.FieldType)).before args0 about1 = true := code_word (m := ⟨9, 0⟩) (meth := k9m0) (c := k9c0) (by decide +kernel) rfl rfl rfl (by decide +kernel)
set_option maxRecDepth 65536 in
theorem w_c9 : (Jvm.Cond.code ({ cls := "com/example/fetch_from_near/fetchfromnear/ContentType", name := "isHtml", desc := "()Z" } : Jvm.MethodName) prog_3_method_3_code (1 : Nat) (Option.some Jvm.ClassFile.FieldType.boolean)).before args0 about1 = true := code_word (m := ⟨10, 1⟩) (meth := k10m1) (c := k10c1) (by decide +kernel) rfl rfl rfl (by decide +kernel)
set_option maxRecDepth 65536 in
theorem w_c10 : (Jvm.Cond.code ({ cls := "java/lang/String", name := "equals", desc := "(Ljava/lang/Object;)Z" } : Jvm.MethodName) jdk_42_method_66_code (3 : Nat) (Option.some Jvm.ClassFile.FieldType.boolean)).before args0 about1 = true := code_word (m := ⟨7, 2⟩) (meth := k7m2) (c := k7c2) (by decide +kernel) rfl rfl rfl (by decide +kernel)
set_option maxRecDepth 65536 in
theorem w_c11 : (Jvm.Cond.code ({ cls := "java/lang/StringLatin1", name := "equals", desc := "([B[B)Z" } : Jvm.MethodName) jdk_43_method_13_code (3 : Nat) (Option.some Jvm.ClassFile.FieldType.boolean)).before args0 about1 = true := code_word (m := ⟨11, 2⟩) (meth := k11m2) (c := k11c2) (by decide +kernel) rfl rfl rfl (by decide +kernel)
set_option maxRecDepth 65536 in
theorem w_c12 : (Jvm.Cond.code ({ cls := "java/lang/String", name := "valueOf", desc := "(C)Ljava/lang/String;" } : Jvm.MethodName) jdk_42_method_139_code (1 : Nat) (Option.some (Jvm.ClassFile.FieldType.object "java/lang/String"))).before args0 about1 = true := code_word (m := ⟨7, 3⟩) (meth := k7m3) (c := k7c3) (by decide +kernel) rfl rfl rfl (by decide +kernel)
set_option maxRecDepth 65536 in
theorem w_c13 : (Jvm.Cond.code ({ cls := "java/lang/StringLatin1", name := "canEncode", desc := "(C)Z" } : Jvm.MethodName) jdk_43_method_3_code (1 : Nat) (Option.some Jvm.ClassFile.FieldType.boolean)).before args0 about1 = true := code_word (m := ⟨11, 1⟩) (meth := k11m1) (c := k11c1) (by decide +kernel) rfl rfl rfl (by decide +kernel)
set_option maxRecDepth 65536 in
theorem w_c14 : (Jvm.Cond.code ({ cls := "java/lang/StringLatin1", name := "toBytes", desc := "(C)[B" } : Jvm.MethodName) jdk_43_method_46_code (1 : Nat) (Option.some (Jvm.ClassFile.FieldType.array Jvm.ClassFile.FieldType.byte))).before args0 about1 = true := code_word (m := ⟨11, 3⟩) (meth := k11m3) (c := k11c3) (by decide +kernel) rfl rfl rfl (by decide +kernel)
set_option maxRecDepth 65536 in
theorem w_c15 : (Jvm.Cond.code ({ cls := "java/lang/String", name := "<init>", desc := "([BB)V" } : Jvm.MethodName) jdk_42_method_151_code (3 : Nat) (Option.none : Option Jvm.ClassFile.FieldType)).before args0 about1 = true := code_word (m := ⟨7, 5⟩) (meth := k7m5) (c := k7c5) (by decide +kernel) rfl rfl rfl (by decide +kernel)
def codes1 : List Jvm.Cond := [Jvm.Cond.code x code maxLocals ret, Jvm.Cond.code ({ cls := "java/lang/String", name := "<init>", desc := "([C)V" } : Jvm.MethodName) jdk_42_method_3_code (2 : Nat) (Option.none : Option Jvm.ClassFile.FieldType), Jvm.Cond.code ({ cls := "java/lang/String", name := "<init>", desc := "([CIILjava/lang/Void;)V" } : Jvm.MethodName) jdk_42_method_149_code (6 : Nat) (Option.none : Option Jvm.ClassFile.FieldType), Jvm.Cond.code ({ cls := "java/lang/Object", name := "<init>", desc := "()V" } : Jvm.MethodName) object_method_1_code (1 : Nat) (Option.none : Option Jvm.ClassFile.FieldType), Jvm.Cond.code ({ cls := "java/lang/StringUTF16", name := "compress", desc := "([CII)[B" } : Jvm.MethodName) jdk_52_method_16_code (6 : Nat) (Option.some (Jvm.ClassFile.FieldType.array Jvm.ClassFile.FieldType.byte)), Jvm.Cond.code ({ cls := "java/lang/StringUTF16", name := "compress", desc := "([CI[BII)I" } : Jvm.MethodName) jdk_52_method_21_code (7 : Nat) (Option.some Jvm.ClassFile.FieldType.int), Jvm.Cond.code ({ cls := "java/lang/StringUTF16", name := "coderFromArrayLen", desc := "([BI)B" } : Jvm.MethodName) jdk_52_method_15_code (2 : Nat) (Option.some Jvm.ClassFile.FieldType.byte), Jvm.Cond.code ({ cls := "com/example/fetch_from_near/fetchfromnear/ContentType", name := "<init>", desc := "(Ljava/lang/String;Ljava/lang/String;)V" } : Jvm.MethodName) prog_3_method_1_code (3 : Nat) (Option.none : Option Jvm.ClassFile.FieldType), Jvm.Cond.code ({ cls := "java/lang/Record", name := "<init>", desc := "()V" } : Jvm.MethodName) jdk_30_method_1_code (1 : Nat) (Option.none : Option Jvm.ClassFile.FieldType), Jvm.Cond.code ({ cls := "com/example/fetch_from_near/fetchfromnear/ContentType", name := "isHtml", desc := "()Z" } : Jvm.MethodName) prog_3_method_3_code (1 : Nat) (Option.some Jvm.ClassFile.FieldType.boolean), Jvm.Cond.code ({ cls := "java/lang/String", name := "equals", desc := "(Ljava/lang/Object;)Z" } : Jvm.MethodName) jdk_42_method_66_code (3 : Nat) (Option.some Jvm.ClassFile.FieldType.boolean), Jvm.Cond.code ({ cls := "java/lang/StringLatin1", name := "equals", desc := "([B[B)Z" } : Jvm.MethodName) jdk_43_method_13_code (3 : Nat) (Option.some Jvm.ClassFile.FieldType.boolean), Jvm.Cond.code ({ cls := "java/lang/String", name := "valueOf", desc := "(C)Ljava/lang/String;" } : Jvm.MethodName) jdk_42_method_139_code (1 : Nat) (Option.some (Jvm.ClassFile.FieldType.object "java/lang/String")), Jvm.Cond.code ({ cls := "java/lang/StringLatin1", name := "canEncode", desc := "(C)Z" } : Jvm.MethodName) jdk_43_method_3_code (1 : Nat) (Option.some Jvm.ClassFile.FieldType.boolean), Jvm.Cond.code ({ cls := "java/lang/StringLatin1", name := "toBytes", desc := "(C)[B" } : Jvm.MethodName) jdk_43_method_46_code (1 : Nat) (Option.some (Jvm.ClassFile.FieldType.array Jvm.ClassFile.FieldType.byte)), Jvm.Cond.code ({ cls := "java/lang/String", name := "<init>", desc := "([BB)V" } : Jvm.MethodName) jdk_42_method_151_code (3 : Nat) (Option.none : Option Jvm.ClassFile.FieldType)]
set_option maxRecDepth 65536 in
theorem codes_eq : words1.filter isCode = codes1 := rfl
theorem w_codes : ∀ c ∈ words1.filter isCode, c.before args0 about1 = true := by
  rw [codes_eq]
  intro c hc
  simp only [codes1, List.mem_cons, List.not_mem_nil, or_false] at hc
  rcases hc with rfl | rfl | rfl | rfl | rfl | rfl | rfl | rfl | rfl | rfl | rfl | rfl | rfl | rfl | rfl | rfl
  · exact w_c0
  · exact w_c1
  · exact w_c2
  · exact w_c3
  · exact w_c4
  · exact w_c5
  · exact w_c6
  · exact w_c7
  · exact w_c8
  · exact w_c9
  · exact w_c10
  · exact w_c11
  · exact w_c12
  · exact w_c13
  · exact w_c14
  · exact w_c15
set_option maxRecDepth 65536 in
theorem w_t1 : (words1.take 24).all (fun c => isCode c || c.before args0 about1) = true := by decide +kernel
set_option maxRecDepth 65536 in
theorem w_t2 : ((words1.drop 24).take 24).all (fun c => isCode c || c.before args0 about1) = true := by decide +kernel
set_option maxRecDepth 65536 in
theorem w_t3 : (((words1.drop 24).drop 24).take 24).all (fun c => isCode c || c.before args0 about1) = true := by decide +kernel
set_option maxRecDepth 65536 in
theorem w_t4 : (((words1.drop 24).drop 24).drop 24).all (fun c => isCode c || c.before args0 about1) = true := by decide +kernel
theorem w_tables : (allAtoms (Jvm.Cond.code x code maxLocals ret :: tables_1)).before args0 about1 = true := by
  rw [allAtoms_all]
  show words1.all (fun c => c.before args0 about1) = true
  refine all_split ?_ w_codes
  rw [← List.take_append_drop 24 words1, List.all_append, w_t1, ← List.take_append_drop 24 (words1.drop 24), List.all_append, w_t2, ← List.take_append_drop 24 ((words1.drop 24).drop 24), List.all_append, w_t3, w_t4]
  rfl
set_option maxRecDepth 65536 in
theorem w_rest : rest_1_c.before args0 about1 = true := by decide +kernel
set_option maxRecDepth 65536 in
theorem w_case : (Jvm.Cond.and given_1 narrow_1).before args0 about1 = true := by decide +kernel
set_option maxRecDepth 65536 in
theorem w_consts : constsHeld consts_1 about1 := Jvm.Lit.constsHeldB_iff.mp (by decide +kernel)
theorem w_applies : (headSpec (Jvm.Cond.code x code maxLocals ret :: tables_1) room_1).applies x e0.platform about1 = true :=
  (Spec.applies_iff w_frames).mpr ⟨w_running, w_runnable, w_alone, w_named, w_hears, w_ripe, w_room, w_tables⟩
theorem atStart : AtStart classFile x code maxLocals ret World_1 tables_1 room_1 Calls_1 rest_1 Pre_1 launch0 p0 e0 about1 theMethod args0 below0 :=
  ⟨lists_1, trivial, launch0.admits_env _ _ _, launch0.least_env, fairChoices_fair.cas, fairChoices_fair.clock, w_frames, w_args, w_heap, w_applies, ⟨w_consts, trivial⟩, w_rest, w_case⟩
end start1
theorem witness_1 : WitnessClaimed_1 := ⟨start1.p0, start1.e0, start1.about1, start1.theMethod, start1.args0, start1.below0, start1.atStart⟩
end Jvm.Pilot.@@N@@
