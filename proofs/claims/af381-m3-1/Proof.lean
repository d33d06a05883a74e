import JvmDerived
import JvmDerived.Pilot.@@N@@Statement
import JvmDerived.Pilot.@@N@@Code
set_option linter.unusedVariables false
set_option linter.unusedSimpArgs false
namespace Jvm.RoadKit
open Sem ClassFile Op Lib Jvm.Stand Jvm.Free Jvm.LawKit
section New
variable {p : Program} {l : Launch} {e : Env} {R : Room} {s : State} {m : MethodId} {args : Array Value} {below : List Frame} {meth : Method} {c : Code} {T : State} {locs : List Loc} {cells slots : Nat}
theorem retI (X : Stand p l e R s m args below meth c T locs cells slots) (hx : p.tables.exec = Jvm.exec) {pc : Nat} {Ls : Array Slot} {z : Int32} {rest : List Value} (hret : meth.sig.returnType = some .int) (hd : decode c.code pc = .ok (.ireturn, 1)) {fs : List Frame}
    (hl : ∀ (f : JFrame) (acts : List Action), f.method = m → f.locked = none → f.entered = [] → (doReturn e (T.setTop f) acts (some (.int z))).1 = T.setFrames fs) : Steps p.tables e below (T.setTop (mkF m pc Ls (.int z :: rest))) (T.setFrames fs) := by
  have hm' : T.vm.method? m = some meth := X.method'
  have hn : narrow .int (.int z) = .int z := rfl
  show Steps p.tables e below (T.setTop { method := m, pc := pc, locals := Ls, stack := _ :: rest, locked := none }) _
  jvm_step X.here [X.here.top, hx, hd, hm', hret, hn]
  first | (intro acts; rw [hl _ acts rfl rfl rfl]) | rw [hl _ _ rfl rfl rfl]
  exact Steps.refl _
end New
abbrev Go (p : Program) (e : Env) (below : List Frame) (T : State) (f : JFrame) (A : State) : Prop := ∀ t, Steps p.tables e below (T.setTop f) t → Steps p.tables e below A t
theorem own_retA (w : Value) (h : w.isRef = true) (t : FieldType) (ht : t.isReference = true) : narrow t w = w := by
  cases w <;> simp [Value.isRef] at h <;> cases t <;> simp [FieldType.isReference] at ht <;> rfl
theorem own_fitA (w : Value) (h : w.isRef = true) (t : FieldType) (ht : t.isReference = true) : fits t w = true := by
  cases w <;> simp [Value.isRef] at h <;> cases t <;> simp [FieldType.isReference] at ht <;> rfl
theorem own_narb (x : Int32) : nar .byte (x.toInt8.toInt32) = x.toInt8.toInt32 := by
  show x.toInt8.toInt32.toInt8.toInt32 = _
  simp
theorem own_ft_byte {z y : Int32} (e : nar .byte z = y) : fits .byte (.int y) = true := by rw [← e]; exact fits_nar_byte z
theorem own_ft_char {z y : Int32} (e : nar .char z = y) : fits .char (.int y) = true := by rw [← e]; exact fits_nar_char z
theorem own_ft_short {z y : Int32} (e : nar .short z = y) : fits .short (.int y) = true := by rw [← e]; exact fits_nar_short z
theorem own_ft_boolean {z y : Int32} (e : nar .boolean z = y) : fits .boolean (.int y) = true := by rw [← e]; exact fits_nar_bool z
theorem own_nw_byte {z y : Int32} (e : nar .byte z = y) : narrow .byte (.int z) = .int y := by rw [← e]; rfl
theorem own_nw_char {z y : Int32} (e : nar .char z = y) : narrow .char (.int z) = .int y := by rw [← e]; rfl
theorem own_nw_short {z y : Int32} (e : nar .short z = y) : narrow .short (.int z) = .int y := by rw [← e]; rfl
theorem own_nw_boolean {z y : Int32} (e : nar .boolean z = y) : narrow .boolean (.int z) = .int y := by rw [← e]; rfl
theorem own_narc (x : Int32) : nar .char (x.toUInt32.toUInt16.toUInt32.toInt32) = x.toUInt32.toUInt16.toUInt32.toInt32 := by
  show x.toUInt32.toUInt16.toUInt32.toInt32.toUInt32.toUInt16.toUInt32.toInt32 = _
  have q := c_i2c x
  have r := c_i2c x.toUInt32.toUInt16.toUInt32.toInt32
  apply Int32.toInt_inj.mp
  omega
theorem own_ext_refl {h : Heap} : Ext h h := ⟨Nat.le_refl _, fun _ _ q => q⟩
theorem own_ext_trans {h h' h2 : Heap} (A : Ext h h') (B : Ext h' h2) : Ext h h2 := ⟨Nat.le_trans A.1 B.1, fun a c q => B.2 a c (A.2 a c q)⟩
theorem own_ext_keep {h h' : Heap} (K : Keep h h' []) : Ext h h' := ⟨K.1, fun a c q => K.2.1 a c q nin0⟩
theorem own_lcmp_self (x : Int64) : lcmpW x x = (0 : Int32) := by rw [lcW]; exact (lc_eq x x).mpr rfl
theorem own_catV {v : Value} (h : v.isRef = true) : v.category = 1 := by cases v <;> simp [Value.isRef] at h <;> rfl
end Jvm.RoadKit
namespace Jvm.RoadKit
open Sem ClassFile Op Lib Jvm.Stand Jvm.Free Jvm.LawKit
theorem own_old_le {Z : State} {n0 : Nat} {h : Heap} (O : Old Z n0 h) : n0 ≤ h.size := O.1 ▸ O.2.1
theorem own_fld_int {args : Array Value} {s : State} {t : Term} {C n d : String} {k : Int32} {a : Addr} (h : (Cond.eq (.field t C n d) (.int k)).value args s none s [] = some true) (ev : t.eval args s none [] s = some (.ref a)) : Fld s s.heap a C n d (.int k) := by
  obtain ⟨x, y, h1, h2, -, k2⟩ := cmp_v (Or.inl h)
  cases h2.symm.trans (Term.int_eval k)
  obtain ⟨z, rfl⟩ := k2
  have e : z = k := gotT (Cond.eq_ints h1 h2) h
  subst e
  exact Fld.start ((fld_at ev).symm.trans h1)
theorem own_eqint {args : Array Value} {s : State} {t : Term} {k : Int32} (h : (Cond.eq t (.int k)).value args s none s [] = some true) : t.eval args s none [] s = some (.int k) := by
  obtain ⟨x, y, h1, h2, -, k2⟩ := cmp_v (Or.inl h)
  cases h2.symm.trans (Term.int_eval k)
  obtain ⟨z, rfl⟩ := k2
  have e : z = k := gotT (Cond.eq_ints h1 h2) h
  subst e
  exact h1
end Jvm.RoadKit
namespace Jvm.RoadKit
open Sem ClassFile Op Lib Jvm.Stand Jvm.Free Jvm.LawKit
theorem own_c255 (x : Int32) : ¬ ((255 : Int32) < ((x &&& (255 : Int32)).toUInt32.toUInt16.toUInt32.toInt32)) := by
  rw [i2c_mask, Int32.lt_iff_toInt_lt]
  have h : (x &&& 255).toInt ≤ 255 := (c_and x 255 (by decide)).2
  show ¬ (255 < (x &&& 255).toInt)
  omega
theorem own_c0 (x : Int32) : ¬ (((x &&& (255 : Int32)).toUInt32.toUInt16.toUInt32.toInt32) < (0 : Int32)) := by
  rw [i2c_mask, Int32.lt_iff_toInt_lt]
  have h : 0 ≤ (x &&& 255).toInt := (c_and x 255 (by decide)).1
  show ¬ ((x &&& 255).toInt < 0)
  omega
end Jvm.RoadKit
namespace Jvm.RoadKit
open Sem ClassFile Op Lib Jvm.Stand Jvm.Free Jvm.LawKit
theorem own_safe_null {Z : State} {EL : List (String × Nat)} {vm : Vm} {h : Heap} {x : Addr} (hal : Z.vm.Alike vm) (E : Exa Z h x "java/lang/String") (F : Fld Z h x "java/lang/String" "value" "[B" .null) : Safe Z EL vm h x := fun B => by
  obtain ⟨p, -, u, a, -, q, -, G, rfl | rfl⟩ := B
  · obtain ⟨cS, ⟨⟨s1, s2, s3, ⟨cv, kv, iv, s4, s4'⟩, -, s6, s7, s8, -⟩, hfS, hcS⟩, -⟩ := G
    obtain ⟨cell, cf, k, i, f, h1, h2, h3, h4, h5, h6, h7⟩ := F
    obtain ⟨k', z4⟩ := ff_back (U := Wst Z vm h) hal s4
    cases (show h[q.sa]? = some q.sC from s1).symm.trans h1
    cases h2.symm.trans z4
    cases h7.symm.trans s8
  · obtain ⟨cell, k, e1, e2, e3, -, -⟩ := E
    cases (show h[q.sd]? = some q.SA from G.hd).symm.trans e1
    obtain ⟨cS, -, -, f, -⟩ := G
    have f : vm.findClass "[B" = some q.SA.cls := f
    rw [hal.findClass] at f
    obtain ⟨k1, q1, q2⟩ := Vm.findClass_spec f
    obtain ⟨k2, q3, q4⟩ := Vm.findClass_spec e2
    cases q1.symm.trans q3
    exact absurd (q2.symm.trans q4) (by decide)
end Jvm.RoadKit
namespace Jvm.RoadKit
open Sem ClassFile Op Lib Jvm.Stand Jvm.Free Jvm.LawKit
theorem own_narid {c : Int32} (h0 : ¬ (c < (0 : Int32))) (h1 : ¬ ((65535 : Int32) < c)) : nar .char c = c := by
  show c.toUInt32.toUInt16.toUInt32.toInt32 = c
  have q := c_i2c c
  have a' : ¬ (c.toInt < 0) := fun z => h0 (Int32.lt_iff_toInt_lt.mpr z)
  have b' : ¬ (65535 < c.toInt) := fun z => h1 (Int32.lt_iff_toInt_lt.mpr z)
  apply Int32.toInt_inj.mp
  omega
theorem own_w255 {c : Int32} (h : ¬ ((255 : Int32) < c)) : ¬ ((65535 : Int32) < c) := by
  intro q
  have b' : ¬ (255 < c.toInt) := fun z => h (Int32.lt_iff_toInt_lt.mpr z)
  have q' : 65535 < c.toInt := Int32.lt_iff_toInt_lt.mp q
  omega
theorem own_i2c0 (x : Int32) : ¬ (x.toUInt32.toUInt16.toUInt32.toInt32 < (0 : Int32)) := by
  intro z
  have q := c_i2c x
  have z' : x.toUInt32.toUInt16.toUInt32.toInt32.toInt < 0 := Int32.lt_iff_toInt_lt.mp z
  omega
theorem own_i2c1 (x : Int32) : ¬ ((65535 : Int32) < x.toUInt32.toUInt16.toUInt32.toInt32) := by
  intro z
  have q := c_i2c x
  have z' : 65535 < x.toUInt32.toUInt16.toUInt32.toInt32.toInt := Int32.lt_iff_toInt_lt.mp z
  omega
theorem own_rec8 {c : Int32} (h0 : ¬ (c < (0 : Int32))) (h1 : ¬ ((255 : Int32) < c)) : (c.toInt8.toInt32 &&& (255 : Int32)).toUInt32.toUInt16.toUInt32.toInt32 = c := by
  rw [i2c_mask]
  have q := c_i2b c
  have r : (c.toInt8.toInt32 &&& (255 : Int32)).toInt = c.toInt8.toInt32.toInt % 256 := c_mask c.toInt8.toInt32 255 8 (by decide) (by decide)
  have a' : ¬ (c.toInt < 0) := fun z => h0 (Int32.lt_iff_toInt_lt.mpr z)
  have b' : ¬ (255 < c.toInt) := fun z => h1 (Int32.lt_iff_toInt_lt.mpr z)
  apply Int32.toInt_inj.mp
  omega
theorem own_rec16 {c : Int32} (h0 : ¬ (c < (0 : Int32))) (h1 : ¬ ((65535 : Int32) < c)) :
    ((((c >>> ((0 : Int32) &&& 31)).toInt8.toInt32 &&& (255 : Int32)) <<< ((0 : Int32) &&& 31)) ||| (((c >>> ((8 : Int32) &&& 31)).toInt8.toInt32 &&& (255 : Int32)) <<< ((8 : Int32) &&& 31))).toUInt32.toUInt16.toUInt32.toInt32 = c := by
  have a' : ¬ (c.toInt < 0) := fun z => h0 (Int32.lt_iff_toInt_lt.mpr z)
  have b' : ¬ (65535 < c.toInt) := fun z => h1 (Int32.lt_iff_toInt_lt.mpr z)
  have a1 : (c >>> ((0 : Int32) &&& 31)).toInt = c.toInt / 1 := c_ishr c 0 0 (by decide)
  have a2 : (c >>> ((8 : Int32) &&& 31)).toInt = c.toInt / 256 := c_ishr c 8 8 (by decide)
  have b1 := c_i2b (c >>> ((0 : Int32) &&& 31))
  have b2 := c_i2b (c >>> ((8 : Int32) &&& 31))
  have d1 : ((c >>> ((0 : Int32) &&& 31)).toInt8.toInt32 &&& (255 : Int32)).toInt = (c >>> ((0 : Int32) &&& 31)).toInt8.toInt32.toInt % 256 := c_mask _ 255 8 (by decide) (by decide)
  have d2 : ((c >>> ((8 : Int32) &&& 31)).toInt8.toInt32 &&& (255 : Int32)).toInt = (c >>> ((8 : Int32) &&& 31)).toInt8.toInt32.toInt % 256 := c_mask _ 255 8 (by decide) (by decide)
  generalize (c >>> ((0 : Int32) &&& 31)).toInt8.toInt32 &&& (255 : Int32) = u at *
  generalize (c >>> ((8 : Int32) &&& 31)).toInt8.toInt32 &&& (255 : Int32) = w at *
  have f1 : (u <<< ((0 : Int32) &&& 31)) = u := by rw [shlm (m := 1) (by decide)]; simp
  have f2 : (w <<< ((8 : Int32) &&& 31)) = w * 256 := shlm (by decide)
  rw [f1, f2]
  have g2 : ((w * 256).toInt - (w.toInt * 256)) % 4294967296 = 0 := c_imul w 256
  have r2 := rng32 (w * 256)
  have m1 : (w * 256).toInt = w.toInt * 256 := by omega
  have k := c_or' u (w * 256) 8 (by decide) 256 (by decide)
  have o := c_i2c (u ||| w * 256)
  have ro := rng32 (u ||| w * 256)
  apply Int32.toInt_inj.mp
  have := k (by omega) (by omega) (by omega)
  omega
end Jvm.RoadKit
namespace Jvm.RoadKit
open Sem ClassFile Op Lib Jvm.Stand Jvm.Free Jvm.LawKit
theorem own_nn {k : Nat} (h : k < 2147483648) : (Int32.ofNat k).toInt = k := Int32.toInt_ofNat_of_lt h
theorem own_lt {a b : Nat} (h : a < b) (hb : b < 2147483648) : Int32.ofNat a < Int32.ofNat b := by
  rw [Int32.lt_iff_toInt_lt, own_nn (by omega), own_nn hb]; omega
theorem own_nlt {a b : Nat} (h : b ≤ a) (ha : a < 2147483648) : ¬ (Int32.ofNat a < Int32.ofNat b) := by
  rw [Int32.lt_iff_toInt_lt, own_nn ha, own_nn (by omega)]; omega
theorem own_nonneg {k : Nat} (h : k < 2147483648) : ¬ (Int32.ofNat k < (0 : Int32)) := by
  intro q
  have q' : (Int32.ofNat k).toInt < 0 := Int32.lt_iff_toInt_lt.mp q
  rw [own_nn h] at q'; omega
theorem own_clamp {k : Nat} (h : k < 2147483648) : (Int32.ofNat k).toNatClampNeg = k := by
  simp only [Int32.toNatClampNeg, own_nn h]; rfl
theorem own_succ (k : Nat) : Int32.ofNat k + (1 : Int32) = Int32.ofNat (k + 1) := (Int32.ofNat_add k 1).symm
theorem own_inj {a b : Nat} (ha : a < 2147483648) (hb : b < 2147483648) (h : ¬ (a = b)) : ¬ (Int32.ofNat a = Int32.ofNat b) := fun q => h (by
  have := congrArg Int32.toInt q
  rw [own_nn ha, own_nn hb] at this; omega)
theorem own_getc (ls : List Int32) (i : Nat) : (ls.map Value.int).getD i (.int 0) = .int (ls.getD i 0) := by
  simp only [List.getD_eq_getElem?_getD, List.getElem?_map]
  cases ls[i]? <;> rfl
def own_b8 (c : Int32) : Int32 := c.toInt8.toInt32
def own_lo (c : Int32) : Int32 := (c >>> ((0 : Int32) &&& 31)).toInt8.toInt32
def own_hi (c : Int32) : Int32 := (c >>> ((8 : Int32) &&& 31)).toInt8.toInt32
def own_lb (ls : List Int32) : List Value := ls.map (fun c => .int (own_b8 c))
def own_wb : List Int32 → List Value
  | [] => []
  | c :: r => .int (own_lo c) :: .int (own_hi c) :: own_wb r
theorem own_lb_len (ls : List Int32) : (own_lb ls).length = ls.length := by simp [own_lb]
theorem own_wb_len : ∀ ls : List Int32, (own_wb ls).length = 2 * ls.length
  | [] => rfl
  | c :: r => by simp [own_wb, own_wb_len r]; omega
theorem own_lb_get {ls : List Int32} {i : Nat} (h : i < ls.length) : (own_lb ls).getD i (.int 0) = .int ((ls.getD i 0).toInt8.toInt32) := by
  simp [own_lb, List.getD_eq_getElem?_getD, h, own_b8]
theorem own_wb_get0 : ∀ {ls : List Int32} {i : Nat}, i < ls.length → (own_wb ls).getD (2 * i) (.int 0) = .int (((ls.getD i 0) >>> ((0 : Int32) &&& 31)).toInt8.toInt32)
  | c :: r, 0, _ => by simp [own_wb, own_lo]
  | c :: r, i + 1, h => by
    have := own_wb_get0 (ls := r) (i := i) (by simpa using h)
    simpa [own_wb, Nat.mul_add] using this
theorem own_wb_get1 : ∀ {ls : List Int32} {i : Nat}, i < ls.length → (own_wb ls).getD (2 * i + 1) (.int 0) = .int (((ls.getD i 0) >>> ((8 : Int32) &&& 31)).toInt8.toInt32)
  | c :: r, 0, _ => by simp [own_wb, own_hi]
  | c :: r, i + 1, h => by
    have := own_wb_get1 (ls := r) (i := i) (by simpa using h)
    simpa [own_wb, Nat.mul_add] using this
def own_F (ls : List Int32) (k : Nat) : List Value := own_lb (ls.take k) ++ List.replicate (ls.length - k) (.int 0)
theorem own_F0 (ls : List Int32) : own_F ls 0 = List.replicate ls.length (.int 0) := by simp [own_F, own_lb]
theorem own_Fn (ls : List Int32) : own_F ls ls.length = own_lb ls := by simp [own_F]
theorem own_Flen {ls : List Int32} {k : Nat} (h : k ≤ ls.length) : (own_F ls k).length = ls.length := by simp [own_F, own_lb]; omega
theorem own_FS {ls : List Int32} {k : Nat} (h : k < ls.length) : (own_F ls k).set k (.int ((ls.getD k 0).toInt8.toInt32)) = own_F ls (k + 1) := by
  have e : ls.length - k = (ls.length - (k + 1)) + 1 := by omega
  have t : (own_lb (ls.take k)).length = k := by rw [own_lb_len, List.length_take]; omega
  unfold own_F
  rw [List.set_append_right k _ (by omega), t, Nat.sub_self, e, List.replicate_succ, List.set_cons_zero]
  have u : ls.take (k + 1) = ls.take k ++ [ls.getD k 0] := by
    rw [List.take_add_one, List.getD_eq_getElem?_getD, List.getElem?_eq_getElem h]; rfl
  rw [u]
  simp [own_lb, own_b8]
def own_G (ls : List Int32) (k : Nat) : List Value := own_wb (ls.take k) ++ List.replicate (2 * (ls.length - k)) (.int 0)
theorem own_G0 (ls : List Int32) : own_G ls 0 = List.replicate (2 * ls.length) (.int 0) := by simp [own_G, own_wb]
theorem own_Gn (ls : List Int32) : own_G ls ls.length = own_wb ls := by simp [own_G]
theorem own_Glen {ls : List Int32} {k : Nat} (h : k ≤ ls.length) : (own_G ls k).length = 2 * ls.length := by simp [own_G, own_wb_len]; omega
theorem own_wb_app : ∀ (a b : List Int32), own_wb (a ++ b) = own_wb a ++ own_wb b
  | [], b => rfl
  | c :: r, b => by simp [own_wb, own_wb_app r b]
theorem own_GS {ls : List Int32} {k : Nat} (h : k < ls.length) : ((own_G ls k).set (2 * k) (.int (((ls.getD k 0) >>> ((0 : Int32) &&& 31)).toInt8.toInt32))).set (2 * k + 1) (.int (((ls.getD k 0) >>> ((8 : Int32) &&& 31)).toInt8.toInt32)) = own_G ls (k + 1) := by
  have e : 2 * (ls.length - k) = (2 * (ls.length - (k + 1))) + 1 + 1 := by omega
  have t : (own_wb (ls.take k)).length = 2 * k := by rw [own_wb_len, List.length_take]; omega
  unfold own_G
  rw [List.set_append_right _ _ (by omega), t, Nat.sub_self, e, List.replicate_succ, List.replicate_succ, List.set_cons_zero, List.set_append_right _ _ (by omega), t]
  have u : ls.take (k + 1) = ls.take k ++ [ls.getD k 0] := by
    rw [List.take_add_one, List.getD_eq_getElem?_getD, List.getElem?_eq_getElem h]; rfl
  rw [u, own_wb_app, show 2 * k + 1 - 2 * k = 1 by omega, List.set_cons_succ, List.set_cons_zero]
  simp [own_wb, own_lo, own_hi]
theorem own_first (P : Nat → Prop) (n : Nat) (h : ¬ ∀ i, i < n → ¬ P i) : ∃ r, r < n ∧ P r ∧ ∀ i, i < r → ¬ P i := by
  induction n with
  | zero => exact absurd (fun i hi => absurd hi (Nat.not_lt_zero i)) h
  | succ n ih =>
    by_cases q : ∀ i, i < n → ¬ P i
    · refine ⟨n, by omega, Classical.byContradiction fun z => h fun i hi => ?_, q⟩
      by_cases e : i = n
      · subst e; exact z
      · exact q i (by omega)
    · obtain ⟨r, h1, h2, h3⟩ := ih q
      exact ⟨r, by omega, h2, h3⟩
theorem own_dbl {n : Nat} (h : 2 * n < 2147483648) : Int32.ofNat n <<< ((1 : Int32) &&& 31) = Int32.ofNat (2 * n) := by
  have e : Int32.ofNat n <<< ((1 : Int32) &&& 31) = Int32.ofNat n * 2 := shlm (by decide)
  rw [e, Nat.mul_comm]; exact (Int32.ofNat_mul n 2).symm
theorem own_half {n : Nat} (h : 2 * n < 2147483648) : Int32.ofNat (2 * n) >>> ((1 : Int32) &&& 31) = Int32.ofNat n := by
  apply Int32.toInt_inj.mp
  have e : (Int32.ofNat (2 * n) >>> ((1 : Int32) &&& 31)).toInt = (Int32.ofNat (2 * n)).toInt / 2 := c_ishr _ 1 1 (by decide)
  rw [e, own_nn h, own_nn (by omega)]; omega
theorem own_shr0 (x : Int32) : x >>> ((0 : Int32) &&& 31) = x := by
  apply Int32.toInt_inj.mp
  have e : (x >>> ((0 : Int32) &&& 31)).toInt = x.toInt / 1 := c_ishr _ 0 0 (by decide)
  rw [e]; omega
theorem own_cfa0 (x : Int32) : (((x - x).toUInt32 >>> ((31 : Int32) &&& 31).toUInt32).toInt32).toInt8.toInt32 = (0 : Int32) := by
  rw [Int32.sub_self]; decide
theorem own_cfa1 {n : Nat} (h0 : 0 < n) (h : 2 * n < 2147483648) : (((Int32.ofNat n - Int32.ofNat (2 * n)).toUInt32 >>> ((31 : Int32) &&& 31).toUInt32).toInt32).toInt8.toInt32 = (1 : Int32) := by
  have b := c_isub (Int32.ofNat n) (Int32.ofNat (2 * n))
  rw [own_nn (by omega), own_nn h] at b
  have r := rng32 (Int32.ofNat n - Int32.ofNat (2 * n))
  have u : (((Int32.ofNat n - Int32.ofNat (2 * n)).toUInt32 >>> ((31 : Int32) &&& 31).toUInt32).toInt32).toInt = ((Int32.ofNat n - Int32.ofNat (2 * n)).toInt % 4294967296) / 2147483648 := c_iushr _ 31 31 (by decide) (by decide)
  have v : (((Int32.ofNat n - Int32.ofNat (2 * n)).toUInt32 >>> ((31 : Int32) &&& 31).toUInt32).toInt32) = 1 := by
    apply Int32.toInt_inj.mp
    show _ = 1
    omega
  rw [v]; decide
def own_chars (ls : List Int32) : Prop := ∀ i, i < ls.length → ¬ (ls.getD i 0 < (0 : Int32)) ∧ ¬ ((65535 : Int32) < ls.getD i 0)
def own_lat (ls : List Int32) : Prop := ∀ i, i < ls.length → ¬ ((255 : Int32) < ls.getD i 0)
def own_cod (ls : List Int32) (cd z : Int32) (vs : List Value) : Prop := (cd = (0 : Int32) ∧ z = Int32.ofNat ls.length ∧ vs = own_lb ls ∧ own_lat ls) ∨ (cd = (1 : Int32) ∧ z = Int32.ofNat (2 * ls.length) ∧ vs = own_wb ls)
theorem own_cod01 {ls : List Int32} {cd z : Int32} {vs : List Value} (h : own_cod ls cd z vs) : cd = (0 : Int32) ∨ cd = (1 : Int32) := h.imp (·.1) (·.1)
theorem own_codz {ls : List Int32} {cd z : Int32} {vs : List Value} (h : own_cod ls cd z vs) (h0 : 0 < ls.length) (hB : ls.length ≤ 4000) : ¬ (z = (0 : Int32)) := by
  rcases h with ⟨-, rfl, -⟩ | ⟨-, rfl, -⟩
  · exact own_inj (b := 0) (by omega) (by omega) (by omega)
  · exact own_inj (b := 0) (by omega) (by omega) (by omega)
theorem own_cdlen {ls : List Int32} {cd z : Int32} {vs : List Value} (h : own_cod ls cd z vs) (hB : ls.length ≤ 4000) : z >>> (cd &&& 31) = Int32.ofNat ls.length := by
  rcases h with ⟨rfl, rfl, -⟩ | ⟨rfl, rfl, -⟩
  · exact own_shr0 _
  · exact own_half (by omega)
theorem own_cnil : own_chars [] := fun i h => absurd h (Nat.not_lt_zero i)
theorem own_ccons {c : Int32} {r : List Int32} (h : ¬ (c < (0 : Int32)) ∧ ¬ ((65535 : Int32) < c)) (t : own_chars r) : own_chars (c :: r) := by
  intro i hi
  cases i with
  | zero => exact h
  | succ i => exact t i (by simpa using hi)
theorem own_nar01 {c : Int32} (h : c = (0 : Int32) ∨ c = (1 : Int32)) : nar .byte c = c := by rcases h with rfl | rfl <;> decide
end Jvm.RoadKit
namespace Jvm.RoadKit
def own_al (c : Int32) : Prop := (65 ≤ c.toInt ∧ c.toInt ≤ 90) ∨ (97 ≤ c.toInt ∧ c.toInt ≤ 122) ∨ (48 ≤ c.toInt ∧ c.toInt ≤ 57)
def own_sy (c : Int32) : Prop := c.toInt = 33 ∨ c.toInt = 35 ∨ c.toInt = 36 ∨ c.toInt = 37 ∨ c.toInt = 38 ∨ c.toInt = 39 ∨ c.toInt = 42 ∨ c.toInt = 43 ∨ c.toInt = 45 ∨ c.toInt = 46 ∨ c.toInt = 94 ∨ c.toInt = 95 ∨ c.toInt = 96 ∨ c.toInt = 124 ∨ c.toInt = 126
def own_tok (c : Int32) : Prop := own_al c ∨ own_sy c
theorem own_t1 {c : Int32} (h : (1 : Int32) = (1 : Int32) ↔ own_al c) : own_tok c := Or.inl (h.mp rfl)
theorem own_t2 {c i : Int32} (h : i < (0 : Int32) ↔ ¬ own_sy c) (g : ¬ (i < (0 : Int32))) : own_tok c := Or.inr (Classical.byContradiction fun q => g (h.mpr q))
theorem own_t3 {c i : Int32} (h : (0 : Int32) = (1 : Int32) ↔ own_al c) (h2 : i < (0 : Int32) ↔ ¬ own_sy c) (g : i < (0 : Int32)) : ¬ own_tok c := fun q => q.elim (fun z => absurd (h.mpr z) (by decide)) (fun z => h2.mp g z)
theorem own_r0 {r : Int32} {P : Prop} (h01 : r = (0 : Int32) ∨ r = (1 : Int32)) (h : r = (1 : Int32) ↔ P) (n : ¬ P) : r = (0 : Int32) := h01.elim id (fun q => absurd (h.mp q) n)
theorem own_b0 {b : Int32} {P : Prop} (h : b = (1 : Int32) ↔ P) (g : b = (0 : Int32)) : ¬ P := fun q => by have := h.mpr q; rw [g] at this; exact absurd this (by decide)
theorem own_b1 {b : Int32} {P : Prop} (h01 : b = (0 : Int32) ∨ b = (1 : Int32)) (h : b = (1 : Int32) ↔ P) (g : ¬ (b = (0 : Int32))) : P := h.mp (h01.resolve_left g)
theorem own_u1 {c : Int32} (h : (0 : Int32) = (1 : Int32) ↔ own_al c) (t : own_tok c) : own_sy c := t.resolve_left (fun z => absurd (h.mpr z) (by decide))
theorem own_u2 {c i : Int32} (h : i < (0 : Int32) ↔ ¬ own_sy c) (g : own_sy c) : ¬ (i < (0 : Int32)) := fun q => h.mp q g
theorem own_u3 {c i : Int32} (h : i < (0 : Int32) ↔ ¬ own_sy c) (g : ¬ (own_tok c)) : i < (0 : Int32) := h.mpr (fun q => g (Or.inr q))
theorem own_eqb {a b : Int32} {P : Prop} (a01 : a = (0 : Int32) ∨ a = (1 : Int32)) (ha : a = (1 : Int32) ↔ P) (b01 : b = (0 : Int32) ∨ b = (1 : Int32)) (hb : b = (1 : Int32) ↔ P) : a = b := by
  rcases a01 with rfl | rfl <;> rcases b01 with rfl | rfl
  · rfl
  · exact ha.mpr (hb.mp rfl)
  · exact (hb.mpr (ha.mp rfl)).symm
  · rfl
theorem own_and3 {x k : Int32} (e : k = (x &&& (3 : Int32))) : k = (0 : Int32) ∨ k = (1 : Int32) ∨ k = (2 : Int32) ∨ k = (3 : Int32) := by
  have h0 : 0 ≤ k.toInt := by rw [e]; exact (c_and x 3 (by decide)).1
  have h1 : k.toInt ≤ 3 := by rw [e]; exact (c_and x 3 (by decide)).2
  have : k.toInt = 0 ∨ k.toInt = 1 ∨ k.toInt = 2 ∨ k.toInt = 3 := by omega
  rcases this with q | q | q | q
  · exact Or.inl (Int32.toInt_inj.mp q)
  · exact Or.inr (Or.inl (Int32.toInt_inj.mp q))
  · exact Or.inr (Or.inr (Or.inl (Int32.toInt_inj.mp q)))
  · exact Or.inr (Or.inr (Or.inr (Int32.toInt_inj.mp q)))
end Jvm.RoadKit
namespace Jvm.Pilot.@@N@@
open Jvm Jvm.ClassFile Sem Op Lib Jvm.Free Jvm.Stand Jvm.LawKit Jvm.RoadKit Bundle Jvm.Pilot.@@N@@.Jvm.D
theorem own_EW {Z : State} {a0 : Array Value} (hw : ∀ d ∈ tables_1, d.before a0 Z = true) : EW Z a0 consts_1 := (EW.cons (hw _ (List.mem_of_getElem? (i := 82) rfl)) (by decide) (EW.cons (hw _ (List.mem_of_getElem? (i := 19) rfl)) (by decide) EW.nil))
theorem own_wS {Z : State} {a0 : Array Value} (hw : ∀ d ∈ tables_1, d.before a0 Z = true) : ∀ a ∈ Bundle.stringAtoms, a.before a0 Z = true := by
  intro a ha
  simp only [Bundle.stringAtoms, Bundle.sN, List.mem_cons, List.not_mem_nil, or_false] at ha
  rcases ha with rfl | rfl | rfl | rfl | rfl | rfl | rfl
  · exact (hw _ (List.mem_of_getElem? (i := 8) rfl))
  · exact (hw _ (List.mem_of_getElem? (i := 7) rfl))
  · exact (hw _ (List.mem_of_getElem? (i := 20) rfl))
  · exact (hw _ (List.mem_of_getElem? (i := 21) rfl))
  · exact (hw _ (List.mem_of_getElem? (i := 22) rfl))
  · exact (hw _ (List.mem_of_getElem? (i := 23) rfl))
  · exact (hw _ (List.mem_of_getElem? (i := 24) rfl))
theorem own_compact {Z : State} {a0 : Array Value} (hsets : ∀ d ∈ jdkStatics_1, d.before a0 Z = true) : Jvm.Lit.compactW.before a0 Z = true := hsets _ (List.mem_of_getElem? (i := 2) rfl)
theorem d1_0 : decode method_2_code 0 = .ok (.iload_n 0, 1) := by decide +kernel
theorem d1_1 : decode method_2_code 1 = .ok (.ldc 7, 2) := by decide +kernel
theorem d1_3 : decode method_2_code 3 = .ok (.iand, 1) := by decide +kernel
theorem d1_4 : decode method_2_code 4 = .ok (.ifCond .eq 9, 3) := by decide +kernel
theorem d1_13 : decode method_2_code 13 = .ok (.iload_n 0, 1) := by decide +kernel
theorem d1_14 : decode method_2_code 14 = .ok (.i2c, 1) := by decide +kernel
theorem d1_15 : decode method_2_code 15 = .ok (.ireturn, 1) := by decide +kernel
theorem d1_7 : decode method_2_code 7 = .ok (.iload_n 0, 1) := by decide +kernel
theorem d1_8 : decode method_2_code 8 = .ok (.bipush 127, 2) := by decide +kernel
theorem d1_10 : decode method_2_code 10 = .ok (.iand, 1) := by decide +kernel
theorem d1_11 : decode method_2_code 11 = .ok (.i2c, 1) := by decide +kernel
theorem d1_12 : decode method_2_code 12 = .ok (.ireturn, 1) := by decide +kernel
theorem pn_com_example_rolegate_rolegate_MethodSetIsMethodNamePinLaw : plainName "com/example/rolegate/rolegate/MethodSetIsMethodNamePinLaw" = true := by first | (simp [plainName, overriddenIn]; done) | decide +kernel
theorem ef_pick (m : MethodId) (x0 : Int32)  : entryFrame m #[(.int x0)] 1 = mkF m 0 #[.val (.int x0)] [] := by first | (simp [entryFrame, mkF, argsToLocals, Value.category]; done) | rfl
def Q_pick (Z : State) (i1 : Int32) (h0 : Heap) (n0 : Nat) (v : Option Value) (h : Heap) (L : List Loc) : Prop := ∃ (ch : Int32), v = some (.int ch) ∧ Fr n0 L ∧ h = h0 ∧ (¬ (ch < (0 : Int32))) ∧ (¬ ((65535 : Int32) < ch))
set_option maxRecDepth 65536 in
set_option maxHeartbeats 40000000 in
theorem rm_pick (l : Launch) (Z : State) (a0 : Array Value) (hw : ∀ d ∈ tables_1, d.before a0 Z = true) (ws : List Jvm.Cond) (i1 : Int32) (h0 : Heap) (n0 : Nat) (O0 : Old Z n0 h0)  :
    MetFree l (⟨"com/example/rolegate/rolegate/MethodSetIsMethodNamePinLaw", "pick", "(I)C"⟩ : MethodName) (head1 (Jvm.Cond.code (⟨"com/example/rolegate/rolegate/MethodSetIsMethodNamePinLaw", "pick", "(I)C"⟩ : MethodName) method_2_code 1 (some .char) :: ws) ({ frames := 0, cells := 0, slots := 0, locals := 0 } : Room)) (fun a U => a = #[(.int i1)] ∧ Z.Warmed39 U.vm ∧ U.heap = h0) (fun _ _ _ _ _ => True) (fun _ U o U' => ∃ v L, o = .returned v ∧ Q_pick Z i1 h0 n0 v U'.heap L ∧ FrameEnd U o U' L ({ frames := 0, cells := 0, slots := 0, locals := 0 } : Room).cells ({ frames := 0, cells := 0, slots := 0, locals := 0 } : Room).slots) := by
  refine MetFree.of_bodySF (plainFor_of_name pn_com_example_rolegate_rolegate_MethodSetIsMethodNamePinLaw) hisR ?_
  intro p e s m args below meth c s₁ Bd hml0 hP hK
  obtain ⟨rfl, hZ, hh⟩ := hP
  have hx := Bd.exec
  have hby := Bd.bytes
  have hml : c.maxLocals = 1 := hml0
  have hown : s.vm.findClass "com/example/rolegate/rolegate/MethodSetIsMethodNamePinLaw" = some m.cls := findClass_of_methodNamed Bd.named
  have hnm := (name_of_methodNamed Bd.named Bd.method).1
  have X0 : Stand p l e ({ frames := 0, cells := 0, slots := 0, locals := 0 } : Room) s m #[(.int i1)] below meth c s₁ [] 0 0 := Stand.of_body Bd
  have e0 : s₁.heap = h0 := by rw [← hh, Bd.state]; rfl
  have N0 := Fr.nil n0
  have g0 : Go p e below s₁ (mkF m 0 #[iv i1] []) (s₁.setTop (entryFrame m #[(.int i1)] 1)) := fun t kont => castTop (ef_pick m i1 ) kont
  generalize s₁.setTop (entryFrame m #[(.int i1)] 1) = A0 at g0 ⊢
  have g102 : Go p e below s₁ (mkF m 4 #[iv i1] [(.int (i1 &&& (65536 : Int32)))]) A0 := by
    intro t kont
    refine g0 t ?_
    refine XS.iloadN X0.here hx rfl (hb hby d1_0) rfl ?_
    refine X0.ldcInt hx hown (mvT hZ (hw _ (List.mem_of_getElem? (i := 4) rfl))) (g := (mkF m 1 #[iv i1] [(.int i1)])) rfl (hb hby d1_1) _ ?_
    refine XS.iand X0.here hx rfl (hb hby d1_3) rfl ?_
    exact kont
  by_cases c101 : (i1 &&& (65536 : Int32)) = (0 : Int32)
  ·
    have g103 : Go p e below s₁ (mkF m 15 #[iv i1] [(.int (i1.toUInt32.toUInt16.toUInt32.toInt32))]) A0 := by
      intro t kont
      refine g102 t ?_
      refine XS.ifYes X0.here hx rfl (pc0 := 4) (pc' := 13) rfl (hb hby d1_4) rfl ((if0 _ _).trans (teq c101).1) (by decide) (by decide) ?_
      refine XS.iloadN X0.here hx rfl (hb hby d1_13) rfl ?_
      refine XS.i2c X0.here hx rfl (hb hby d1_14) rfl ?_
      exact kont
    obtain ⟨fs, hr, hrun, hended, hW, hsame⟩ := X0.leave (v := some (.int (i1.toUInt32.toUInt16.toUInt32.toInt32))) (fun h => by rw [Bd.returns] at h; cases h)
    refine ⟨_, _, g103 _ (retN X0 hx (t := .char) Bd.returns (by simp) (hb hby d1_15) (by rw [(own_narc _)]; exact hr)), hrun, hended, _, _, rfl, ?_, ⟨_, rfl⟩, hW, hsame.mono (by decide) (by decide)⟩
    show Q_pick Z i1 h0 n0 _ s₁.heap _
    rw [e0]
    exact ⟨(i1.toUInt32.toUInt16.toUInt32.toInt32), rfl, N0, rfl, own_i2c0 _, own_i2c1 _⟩
  have g104 : Go p e below s₁ (mkF m 12 #[iv i1] [(.int ((i1 &&& (127 : Int32)).toUInt32.toUInt16.toUInt32.toInt32))]) A0 := by
    intro t kont
    refine g102 t ?_
    refine XS.ifNo X0.here hx rfl (hb hby d1_4) rfl ((if0 _ _).trans (feq c101).1) ?_
    refine XS.iloadN X0.here hx rfl (hb hby d1_7) rfl ?_
    refine XS.bipush X0.here hx rfl (hb hby d1_8) ?_
    refine XS.iand X0.here hx rfl (hb hby d1_10) rfl ?_
    refine XS.i2c X0.here hx rfl (hb hby d1_11) rfl ?_
    exact kont
  obtain ⟨fs, hr, hrun, hended, hW, hsame⟩ := X0.leave (v := some (.int ((i1 &&& (127 : Int32)).toUInt32.toUInt16.toUInt32.toInt32))) (fun h => by rw [Bd.returns] at h; cases h)
  refine ⟨_, _, g104 _ (retN X0 hx (t := .char) Bd.returns (by simp) (hb hby d1_12) (by rw [(own_narc _)]; exact hr)), hrun, hended, _, _, rfl, ?_, ⟨_, rfl⟩, hW, hsame.mono (by decide) (by decide)⟩
  show Q_pick Z i1 h0 n0 _ s₁.heap _
  rw [e0]
  exact ⟨((i1 &&& (127 : Int32)).toUInt32.toUInt16.toUInt32.toInt32), rfl, N0, rfl, own_i2c0 _, own_i2c1 _⟩
theorem d10_0 : decode method_3_code 0 = .ok (.iload_n 0, 1) := by decide +kernel
theorem d10_1 : decode method_3_code 1 = .ok (.bipush 48, 2) := by decide +kernel
theorem d10_3 : decode method_3_code 3 = .ok (.if_icmp .lt 11, 3) := by decide +kernel
theorem d10_6 : decode method_3_code 6 = .ok (.iload_n 0, 1) := by decide +kernel
theorem d10_7 : decode method_3_code 7 = .ok (.bipush 57, 2) := by decide +kernel
theorem d10_9 : decode method_3_code 9 = .ok (.if_icmp .gt 5, 3) := by decide +kernel
theorem d10_12 : decode method_3_code 12 = .ok (.iconst 1, 1) := by decide +kernel
theorem d10_13 : decode method_3_code 13 = .ok (.ireturn, 1) := by decide +kernel
theorem d10_14 : decode method_3_code 14 = .ok (.iload_n 0, 1) := by decide +kernel
theorem d10_15 : decode method_3_code 15 = .ok (.bipush 65, 2) := by decide +kernel
theorem d10_17 : decode method_3_code 17 = .ok (.if_icmp .lt 11, 3) := by decide +kernel
theorem d10_20 : decode method_3_code 20 = .ok (.iload_n 0, 1) := by decide +kernel
theorem d10_21 : decode method_3_code 21 = .ok (.bipush 90, 2) := by decide +kernel
theorem d10_23 : decode method_3_code 23 = .ok (.if_icmp .gt 5, 3) := by decide +kernel
theorem d10_26 : decode method_3_code 26 = .ok (.iconst 1, 1) := by decide +kernel
theorem d10_27 : decode method_3_code 27 = .ok (.ireturn, 1) := by decide +kernel
theorem d10_28 : decode method_3_code 28 = .ok (.iload_n 0, 1) := by decide +kernel
theorem d10_29 : decode method_3_code 29 = .ok (.bipush 97, 2) := by decide +kernel
theorem d10_31 : decode method_3_code 31 = .ok (.if_icmp .lt 11, 3) := by decide +kernel
theorem d10_34 : decode method_3_code 34 = .ok (.iload_n 0, 1) := by decide +kernel
theorem d10_35 : decode method_3_code 35 = .ok (.bipush 122, 2) := by decide +kernel
theorem d10_37 : decode method_3_code 37 = .ok (.if_icmp .gt 5, 3) := by decide +kernel
theorem d10_40 : decode method_3_code 40 = .ok (.iconst 1, 1) := by decide +kernel
theorem d10_41 : decode method_3_code 41 = .ok (.ireturn, 1) := by decide +kernel
theorem d10_42 : decode method_3_code 42 = .ok (.iload_n 0, 1) := by decide +kernel
theorem d10_43 : decode method_3_code 43 = .ok (.bipush 33, 2) := by decide +kernel
theorem d10_45 : decode method_3_code 45 = .ok (.if_icmp .eq 87, 3) := by decide +kernel
theorem d10_132 : decode method_3_code 132 = .ok (.iconst 1, 1) := by decide +kernel
theorem d10_133 : decode method_3_code 133 = .ok (.goto 4, 3) := by decide +kernel
theorem d10_137 : decode method_3_code 137 = .ok (.ireturn, 1) := by decide +kernel
theorem d10_48 : decode method_3_code 48 = .ok (.iload_n 0, 1) := by decide +kernel
theorem d10_49 : decode method_3_code 49 = .ok (.bipush 35, 2) := by decide +kernel
theorem d10_51 : decode method_3_code 51 = .ok (.if_icmp .eq 81, 3) := by decide +kernel
theorem d10_54 : decode method_3_code 54 = .ok (.iload_n 0, 1) := by decide +kernel
theorem d10_55 : decode method_3_code 55 = .ok (.bipush 36, 2) := by decide +kernel
theorem d10_57 : decode method_3_code 57 = .ok (.if_icmp .eq 75, 3) := by decide +kernel
theorem d10_60 : decode method_3_code 60 = .ok (.iload_n 0, 1) := by decide +kernel
theorem d10_61 : decode method_3_code 61 = .ok (.bipush 37, 2) := by decide +kernel
theorem d10_63 : decode method_3_code 63 = .ok (.if_icmp .eq 69, 3) := by decide +kernel
theorem d10_66 : decode method_3_code 66 = .ok (.iload_n 0, 1) := by decide +kernel
theorem d10_67 : decode method_3_code 67 = .ok (.bipush 38, 2) := by decide +kernel
theorem d10_69 : decode method_3_code 69 = .ok (.if_icmp .eq 63, 3) := by decide +kernel
theorem d10_72 : decode method_3_code 72 = .ok (.iload_n 0, 1) := by decide +kernel
theorem d10_73 : decode method_3_code 73 = .ok (.bipush 39, 2) := by decide +kernel
theorem d10_75 : decode method_3_code 75 = .ok (.if_icmp .eq 57, 3) := by decide +kernel
theorem d10_78 : decode method_3_code 78 = .ok (.iload_n 0, 1) := by decide +kernel
theorem d10_79 : decode method_3_code 79 = .ok (.bipush 42, 2) := by decide +kernel
theorem d10_81 : decode method_3_code 81 = .ok (.if_icmp .eq 51, 3) := by decide +kernel
theorem d10_84 : decode method_3_code 84 = .ok (.iload_n 0, 1) := by decide +kernel
theorem d10_85 : decode method_3_code 85 = .ok (.bipush 43, 2) := by decide +kernel
theorem d10_87 : decode method_3_code 87 = .ok (.if_icmp .eq 45, 3) := by decide +kernel
theorem d10_90 : decode method_3_code 90 = .ok (.iload_n 0, 1) := by decide +kernel
theorem d10_91 : decode method_3_code 91 = .ok (.bipush 45, 2) := by decide +kernel
theorem d10_93 : decode method_3_code 93 = .ok (.if_icmp .eq 39, 3) := by decide +kernel
theorem d10_96 : decode method_3_code 96 = .ok (.iload_n 0, 1) := by decide +kernel
theorem d10_97 : decode method_3_code 97 = .ok (.bipush 46, 2) := by decide +kernel
theorem d10_99 : decode method_3_code 99 = .ok (.if_icmp .eq 33, 3) := by decide +kernel
theorem d10_102 : decode method_3_code 102 = .ok (.iload_n 0, 1) := by decide +kernel
theorem d10_103 : decode method_3_code 103 = .ok (.bipush 94, 2) := by decide +kernel
theorem d10_105 : decode method_3_code 105 = .ok (.if_icmp .eq 27, 3) := by decide +kernel
theorem d10_108 : decode method_3_code 108 = .ok (.iload_n 0, 1) := by decide +kernel
theorem d10_109 : decode method_3_code 109 = .ok (.bipush 95, 2) := by decide +kernel
theorem d10_111 : decode method_3_code 111 = .ok (.if_icmp .eq 21, 3) := by decide +kernel
theorem d10_114 : decode method_3_code 114 = .ok (.iload_n 0, 1) := by decide +kernel
theorem d10_115 : decode method_3_code 115 = .ok (.bipush 96, 2) := by decide +kernel
theorem d10_117 : decode method_3_code 117 = .ok (.if_icmp .eq 15, 3) := by decide +kernel
theorem d10_120 : decode method_3_code 120 = .ok (.iload_n 0, 1) := by decide +kernel
theorem d10_121 : decode method_3_code 121 = .ok (.bipush 124, 2) := by decide +kernel
theorem d10_123 : decode method_3_code 123 = .ok (.if_icmp .eq 9, 3) := by decide +kernel
theorem d10_126 : decode method_3_code 126 = .ok (.iload_n 0, 1) := by decide +kernel
theorem d10_127 : decode method_3_code 127 = .ok (.bipush 126, 2) := by decide +kernel
theorem d10_129 : decode method_3_code 129 = .ok (.if_icmp .ne 7, 3) := by decide +kernel
theorem d10_136 : decode method_3_code 136 = .ok (.iconst 0, 1) := by decide +kernel
theorem ef_tch (m : MethodId) (x0 : Int32)  : entryFrame m #[(.int x0)] 1 = mkF m 0 #[.val (.int x0)] [] := by first | (simp [entryFrame, mkF, argsToLocals, Value.category]; done) | rfl
def Q_tch (Z : State) (ch : Int32) (h0 : Heap) (n0 : Nat) (v : Option Value) (h : Heap) (L : List Loc) : Prop := ∃ (bb : Int32), v = some (.int bb) ∧ Fr n0 L ∧ h = h0 ∧ (bb = (0 : Int32) ∨ bb = (1 : Int32)) ∧ (bb = (1 : Int32) ↔ own_tok ch)
set_option maxRecDepth 65536 in
set_option maxHeartbeats 40000000 in
theorem rm_tch (l : Launch) (Z : State) (a0 : Array Value) (hw : ∀ d ∈ tables_1, d.before a0 Z = true) (ws : List Jvm.Cond) (ch : Int32) (h0 : Heap) (n0 : Nat) (O0 : Old Z n0 h0)  :
    MetFree l (⟨"com/example/rolegate/rolegate/MethodSetIsMethodNamePinLaw", "tchar", "(C)Z"⟩ : MethodName) (head1 (Jvm.Cond.code (⟨"com/example/rolegate/rolegate/MethodSetIsMethodNamePinLaw", "tchar", "(C)Z"⟩ : MethodName) method_3_code 1 (some .boolean) :: ws) ({ frames := 0, cells := 0, slots := 0, locals := 0 } : Room)) (fun a U => a = #[(.int ch)] ∧ Z.Warmed39 U.vm ∧ U.heap = h0) (fun _ _ _ _ _ => True) (fun _ U o U' => ∃ v L, o = .returned v ∧ Q_tch Z ch h0 n0 v U'.heap L ∧ FrameEnd U o U' L ({ frames := 0, cells := 0, slots := 0, locals := 0 } : Room).cells ({ frames := 0, cells := 0, slots := 0, locals := 0 } : Room).slots) := by
  refine MetFree.of_bodySF (plainFor_of_name pn_com_example_rolegate_rolegate_MethodSetIsMethodNamePinLaw) hisR ?_
  intro p e s m args below meth c s₁ Bd hml0 hP hK
  obtain ⟨rfl, hZ, hh⟩ := hP
  have hx := Bd.exec
  have hby := Bd.bytes
  have hml : c.maxLocals = 1 := hml0
  have hown : s.vm.findClass "com/example/rolegate/rolegate/MethodSetIsMethodNamePinLaw" = some m.cls := findClass_of_methodNamed Bd.named
  have hnm := (name_of_methodNamed Bd.named Bd.method).1
  have X0 : Stand p l e ({ frames := 0, cells := 0, slots := 0, locals := 0 } : Room) s m #[(.int ch)] below meth c s₁ [] 0 0 := Stand.of_body Bd
  have e0 : s₁.heap = h0 := by rw [← hh, Bd.state]; rfl
  have N0 := Fr.nil n0
  have g0 : Go p e below s₁ (mkF m 0 #[iv ch] []) (s₁.setTop (entryFrame m #[(.int ch)] 1)) := fun t kont => castTop (ef_tch m ch ) kont
  generalize s₁.setTop (entryFrame m #[(.int ch)] 1) = A0 at g0 ⊢
  by_cases c101 : 48 ≤ ch.toInt ∧ ch.toInt ≤ 57
  ·
    have g102 : Go p e below s₁ (mkF m 13 #[iv ch] [(.int (1 : Int32))]) A0 := by
      intro t kont
      refine g0 t ?_
      refine XS.iloadN X0.here hx rfl (hb hby d10_0) rfl ?_
      refine XS.bipush X0.here hx rfl (hb hby d10_1) ?_
      refine XS.icmpNo X0.here hx rfl (hb hby d10_3) rfl (flt (fun z => absurd (show ch.toInt < 48 from Int32.lt_iff_toInt_lt.mp z) (by omega) : ¬ (ch < (48 : Int32)))).1 ?_
      refine XS.iloadN X0.here hx rfl (hb hby d10_6) rfl ?_
      refine XS.bipush X0.here hx rfl (hb hby d10_7) ?_
      refine XS.icmpNo X0.here hx rfl (hb hby d10_9) rfl (flt (fun z => absurd (show 57 < ch.toInt from Int32.lt_iff_toInt_lt.mp z) (by omega) : ¬ ((57 : Int32) < ch))).2.2.1 ?_
      refine XS.iconst X0.here hx rfl (hb hby d10_12) ?_
      exact kont
    obtain ⟨fs, hr, hrun, hended, hW, hsame⟩ := X0.leave (v := some (.int (1 : Int32))) (fun h => by rw [Bd.returns] at h; cases h)
    refine ⟨_, _, g102 _ (retN X0 hx (t := .boolean) Bd.returns (by simp) (hb hby d10_13) hr), hrun, hended, _, _, rfl, ?_, ⟨_, rfl⟩, hW, hsame.mono (by decide) (by decide)⟩
    show Q_tch Z ch h0 n0 _ s₁.heap _
    rw [e0]
    exact ⟨(1 : Int32), rfl, N0, rfl, Or.inr rfl, by unfold own_tok own_al own_sy; exact iff_of_true rfl (by omega)⟩
  obtain ⟨T103, lc103, X103, e103, N103, g103⟩ : ∃ (T103 : State) (lc103 : List Loc), Stand p l e ({ frames := 0, cells := 0, slots := 0, locals := 0 } : Room) s m #[(.int ch)] below meth c T103 lc103 0 0 ∧ T103.heap = h0 ∧ Fr n0 lc103 ∧ Go p e below T103 (mkF m 14 #[iv ch] []) A0 := by
    have g105 : Go p e below s₁ (mkF m 3 #[iv ch] [(.int (48 : Int32)), (.int ch)]) A0 := by
      intro t kont
      refine g0 t ?_
      refine XS.iloadN X0.here hx rfl (hb hby d10_0) rfl ?_
      refine XS.bipush X0.here hx rfl (hb hby d10_1) ?_
      exact kont
    by_cases c104 : ch < (48 : Int32)
    ·
      have q106 : ch.toInt < 48 := Int32.lt_iff_toInt_lt.mp c104
      have g107 : Go p e below s₁ (mkF m 14 #[iv ch] []) A0 := by
        intro t kont
        refine g105 t ?_
        refine XS.icmpYes X0.here hx rfl (pc0 := 3) (pc' := 14) rfl (hb hby d10_3) rfl (tlt c104).1 (by decide) (by decide) ?_
        exact kont
      exact ⟨_, _, X0, e0, N0, g107⟩
    have q108 : ¬ (ch.toInt < 48) := fun z => c104 (Int32.lt_iff_toInt_lt.mpr z)
    have g109 : Go p e below s₁ (mkF m 14 #[iv ch] []) A0 := by
      intro t kont
      refine g105 t ?_
      refine XS.icmpNo X0.here hx rfl (hb hby d10_3) rfl (flt c104).1 ?_
      refine XS.iloadN X0.here hx rfl (hb hby d10_6) rfl ?_
      refine XS.bipush X0.here hx rfl (hb hby d10_7) ?_
      refine XS.icmpYes X0.here hx rfl (pc0 := 9) (pc' := 14) rfl (hb hby d10_9) rfl (tlt (Int32.lt_iff_toInt_lt.mpr (show 57 < ch.toInt by omega) : (57 : Int32) < ch)).2.2.1 (by decide) (by decide) ?_
      exact kont
    exact ⟨_, _, X0, e0, N0, g109⟩
  by_cases c110 : 65 ≤ ch.toInt ∧ ch.toInt ≤ 90
  ·
    have g111 : Go p e below T103 (mkF m 27 #[iv ch] [(.int (1 : Int32))]) A0 := by
      intro t kont
      refine g103 t ?_
      refine XS.iloadN X103.here hx rfl (hb hby d10_14) rfl ?_
      refine XS.bipush X103.here hx rfl (hb hby d10_15) ?_
      refine XS.icmpNo X103.here hx rfl (hb hby d10_17) rfl (flt (fun z => absurd (show ch.toInt < 65 from Int32.lt_iff_toInt_lt.mp z) (by omega) : ¬ (ch < (65 : Int32)))).1 ?_
      refine XS.iloadN X103.here hx rfl (hb hby d10_20) rfl ?_
      refine XS.bipush X103.here hx rfl (hb hby d10_21) ?_
      refine XS.icmpNo X103.here hx rfl (hb hby d10_23) rfl (flt (fun z => absurd (show 90 < ch.toInt from Int32.lt_iff_toInt_lt.mp z) (by omega) : ¬ ((90 : Int32) < ch))).2.2.1 ?_
      refine XS.iconst X103.here hx rfl (hb hby d10_26) ?_
      exact kont
    obtain ⟨fs, hr, hrun, hended, hW, hsame⟩ := X103.leave (v := some (.int (1 : Int32))) (fun h => by rw [Bd.returns] at h; cases h)
    refine ⟨_, _, g111 _ (retN X103 hx (t := .boolean) Bd.returns (by simp) (hb hby d10_27) hr), hrun, hended, _, _, rfl, ?_, ⟨_, rfl⟩, hW, hsame.mono (by decide) (by decide)⟩
    show Q_tch Z ch h0 n0 _ T103.heap _
    rw [e103]
    exact ⟨(1 : Int32), rfl, N103, rfl, Or.inr rfl, by unfold own_tok own_al own_sy; exact iff_of_true rfl (by omega)⟩
  obtain ⟨T112, lc112, X112, e112, N112, g112⟩ : ∃ (T112 : State) (lc112 : List Loc), Stand p l e ({ frames := 0, cells := 0, slots := 0, locals := 0 } : Room) s m #[(.int ch)] below meth c T112 lc112 0 0 ∧ T112.heap = h0 ∧ Fr n0 lc112 ∧ Go p e below T112 (mkF m 28 #[iv ch] []) A0 := by
    have g114 : Go p e below T103 (mkF m 17 #[iv ch] [(.int (65 : Int32)), (.int ch)]) A0 := by
      intro t kont
      refine g103 t ?_
      refine XS.iloadN X103.here hx rfl (hb hby d10_14) rfl ?_
      refine XS.bipush X103.here hx rfl (hb hby d10_15) ?_
      exact kont
    by_cases c113 : ch < (65 : Int32)
    ·
      have q115 : ch.toInt < 65 := Int32.lt_iff_toInt_lt.mp c113
      have g116 : Go p e below T103 (mkF m 28 #[iv ch] []) A0 := by
        intro t kont
        refine g114 t ?_
        refine XS.icmpYes X103.here hx rfl (pc0 := 17) (pc' := 28) rfl (hb hby d10_17) rfl (tlt c113).1 (by decide) (by decide) ?_
        exact kont
      exact ⟨_, _, X103, e103, N103, g116⟩
    have q117 : ¬ (ch.toInt < 65) := fun z => c113 (Int32.lt_iff_toInt_lt.mpr z)
    have g118 : Go p e below T103 (mkF m 28 #[iv ch] []) A0 := by
      intro t kont
      refine g114 t ?_
      refine XS.icmpNo X103.here hx rfl (hb hby d10_17) rfl (flt c113).1 ?_
      refine XS.iloadN X103.here hx rfl (hb hby d10_20) rfl ?_
      refine XS.bipush X103.here hx rfl (hb hby d10_21) ?_
      refine XS.icmpYes X103.here hx rfl (pc0 := 23) (pc' := 28) rfl (hb hby d10_23) rfl (tlt (Int32.lt_iff_toInt_lt.mpr (show 90 < ch.toInt by omega) : (90 : Int32) < ch)).2.2.1 (by decide) (by decide) ?_
      exact kont
    exact ⟨_, _, X103, e103, N103, g118⟩
  by_cases c119 : 97 ≤ ch.toInt ∧ ch.toInt ≤ 122
  ·
    have g120 : Go p e below T112 (mkF m 41 #[iv ch] [(.int (1 : Int32))]) A0 := by
      intro t kont
      refine g112 t ?_
      refine XS.iloadN X112.here hx rfl (hb hby d10_28) rfl ?_
      refine XS.bipush X112.here hx rfl (hb hby d10_29) ?_
      refine XS.icmpNo X112.here hx rfl (hb hby d10_31) rfl (flt (fun z => absurd (show ch.toInt < 97 from Int32.lt_iff_toInt_lt.mp z) (by omega) : ¬ (ch < (97 : Int32)))).1 ?_
      refine XS.iloadN X112.here hx rfl (hb hby d10_34) rfl ?_
      refine XS.bipush X112.here hx rfl (hb hby d10_35) ?_
      refine XS.icmpNo X112.here hx rfl (hb hby d10_37) rfl (flt (fun z => absurd (show 122 < ch.toInt from Int32.lt_iff_toInt_lt.mp z) (by omega) : ¬ ((122 : Int32) < ch))).2.2.1 ?_
      refine XS.iconst X112.here hx rfl (hb hby d10_40) ?_
      exact kont
    obtain ⟨fs, hr, hrun, hended, hW, hsame⟩ := X112.leave (v := some (.int (1 : Int32))) (fun h => by rw [Bd.returns] at h; cases h)
    refine ⟨_, _, g120 _ (retN X112 hx (t := .boolean) Bd.returns (by simp) (hb hby d10_41) hr), hrun, hended, _, _, rfl, ?_, ⟨_, rfl⟩, hW, hsame.mono (by decide) (by decide)⟩
    show Q_tch Z ch h0 n0 _ T112.heap _
    rw [e112]
    exact ⟨(1 : Int32), rfl, N112, rfl, Or.inr rfl, by unfold own_tok own_al own_sy; exact iff_of_true rfl (by omega)⟩
  obtain ⟨T121, lc121, X121, e121, N121, g121⟩ : ∃ (T121 : State) (lc121 : List Loc), Stand p l e ({ frames := 0, cells := 0, slots := 0, locals := 0 } : Room) s m #[(.int ch)] below meth c T121 lc121 0 0 ∧ T121.heap = h0 ∧ Fr n0 lc121 ∧ Go p e below T121 (mkF m 42 #[iv ch] []) A0 := by
    have g123 : Go p e below T112 (mkF m 31 #[iv ch] [(.int (97 : Int32)), (.int ch)]) A0 := by
      intro t kont
      refine g112 t ?_
      refine XS.iloadN X112.here hx rfl (hb hby d10_28) rfl ?_
      refine XS.bipush X112.here hx rfl (hb hby d10_29) ?_
      exact kont
    by_cases c122 : ch < (97 : Int32)
    ·
      have q124 : ch.toInt < 97 := Int32.lt_iff_toInt_lt.mp c122
      have g125 : Go p e below T112 (mkF m 42 #[iv ch] []) A0 := by
        intro t kont
        refine g123 t ?_
        refine XS.icmpYes X112.here hx rfl (pc0 := 31) (pc' := 42) rfl (hb hby d10_31) rfl (tlt c122).1 (by decide) (by decide) ?_
        exact kont
      exact ⟨_, _, X112, e112, N112, g125⟩
    have q126 : ¬ (ch.toInt < 97) := fun z => c122 (Int32.lt_iff_toInt_lt.mpr z)
    have g127 : Go p e below T112 (mkF m 42 #[iv ch] []) A0 := by
      intro t kont
      refine g123 t ?_
      refine XS.icmpNo X112.here hx rfl (hb hby d10_31) rfl (flt c122).1 ?_
      refine XS.iloadN X112.here hx rfl (hb hby d10_34) rfl ?_
      refine XS.bipush X112.here hx rfl (hb hby d10_35) ?_
      refine XS.icmpYes X112.here hx rfl (pc0 := 37) (pc' := 42) rfl (hb hby d10_37) rfl (tlt (Int32.lt_iff_toInt_lt.mpr (show 122 < ch.toInt by omega) : (122 : Int32) < ch)).2.2.1 (by decide) (by decide) ?_
      exact kont
    exact ⟨_, _, X112, e112, N112, g127⟩
  have g129 : Go p e below T121 (mkF m 45 #[iv ch] [(.int (33 : Int32)), (.int ch)]) A0 := by
    intro t kont
    refine g121 t ?_
    refine XS.iloadN X121.here hx rfl (hb hby d10_42) rfl ?_
    refine XS.bipush X121.here hx rfl (hb hby d10_43) ?_
    exact kont
  by_cases c128 : ch = (33 : Int32)
  ·
    have q130 : ch.toInt = 33 := congrArg Int32.toInt c128
    have g131 : Go p e below T121 (mkF m 137 #[iv ch] [(.int (1 : Int32))]) A0 := by
      intro t kont
      refine g129 t ?_
      refine XS.icmpYes X121.here hx rfl (pc0 := 45) (pc' := 132) rfl (hb hby d10_45) rfl (teq c128).1 (by decide) (by decide) ?_
      refine XS.iconst X121.here hx rfl (hb hby d10_132) ?_
      refine XS.goto X121.here hx rfl (pc0 := 133) (pc' := 137) rfl (hb hby d10_133) (by decide) (by decide) ?_
      exact kont
    obtain ⟨fs, hr, hrun, hended, hW, hsame⟩ := X121.leave (v := some (.int (1 : Int32))) (fun h => by rw [Bd.returns] at h; cases h)
    refine ⟨_, _, g131 _ (retN X121 hx (t := .boolean) Bd.returns (by simp) (hb hby d10_137) hr), hrun, hended, _, _, rfl, ?_, ⟨_, rfl⟩, hW, hsame.mono (by decide) (by decide)⟩
    show Q_tch Z ch h0 n0 _ T121.heap _
    rw [e121]
    exact ⟨(1 : Int32), rfl, N121, rfl, Or.inr rfl, by unfold own_tok own_al own_sy; exact iff_of_true rfl (by omega)⟩
  have q132 : ¬ (ch.toInt = 33) := fun z => c128 (Int32.toInt_inj.mp z)
  have g134 : Go p e below T121 (mkF m 51 #[iv ch] [(.int (35 : Int32)), (.int ch)]) A0 := by
    intro t kont
    refine g129 t ?_
    refine XS.icmpNo X121.here hx rfl (hb hby d10_45) rfl (feq c128).1 ?_
    refine XS.iloadN X121.here hx rfl (hb hby d10_48) rfl ?_
    refine XS.bipush X121.here hx rfl (hb hby d10_49) ?_
    exact kont
  by_cases c133 : ch = (35 : Int32)
  ·
    have q135 : ch.toInt = 35 := congrArg Int32.toInt c133
    have g136 : Go p e below T121 (mkF m 137 #[iv ch] [(.int (1 : Int32))]) A0 := by
      intro t kont
      refine g134 t ?_
      refine XS.icmpYes X121.here hx rfl (pc0 := 51) (pc' := 132) rfl (hb hby d10_51) rfl (teq c133).1 (by decide) (by decide) ?_
      refine XS.iconst X121.here hx rfl (hb hby d10_132) ?_
      refine XS.goto X121.here hx rfl (pc0 := 133) (pc' := 137) rfl (hb hby d10_133) (by decide) (by decide) ?_
      exact kont
    obtain ⟨fs, hr, hrun, hended, hW, hsame⟩ := X121.leave (v := some (.int (1 : Int32))) (fun h => by rw [Bd.returns] at h; cases h)
    refine ⟨_, _, g136 _ (retN X121 hx (t := .boolean) Bd.returns (by simp) (hb hby d10_137) hr), hrun, hended, _, _, rfl, ?_, ⟨_, rfl⟩, hW, hsame.mono (by decide) (by decide)⟩
    show Q_tch Z ch h0 n0 _ T121.heap _
    rw [e121]
    exact ⟨(1 : Int32), rfl, N121, rfl, Or.inr rfl, by unfold own_tok own_al own_sy; exact iff_of_true rfl (by omega)⟩
  have q137 : ¬ (ch.toInt = 35) := fun z => c133 (Int32.toInt_inj.mp z)
  have g139 : Go p e below T121 (mkF m 57 #[iv ch] [(.int (36 : Int32)), (.int ch)]) A0 := by
    intro t kont
    refine g134 t ?_
    refine XS.icmpNo X121.here hx rfl (hb hby d10_51) rfl (feq c133).1 ?_
    refine XS.iloadN X121.here hx rfl (hb hby d10_54) rfl ?_
    refine XS.bipush X121.here hx rfl (hb hby d10_55) ?_
    exact kont
  by_cases c138 : ch = (36 : Int32)
  ·
    have q140 : ch.toInt = 36 := congrArg Int32.toInt c138
    have g141 : Go p e below T121 (mkF m 137 #[iv ch] [(.int (1 : Int32))]) A0 := by
      intro t kont
      refine g139 t ?_
      refine XS.icmpYes X121.here hx rfl (pc0 := 57) (pc' := 132) rfl (hb hby d10_57) rfl (teq c138).1 (by decide) (by decide) ?_
      refine XS.iconst X121.here hx rfl (hb hby d10_132) ?_
      refine XS.goto X121.here hx rfl (pc0 := 133) (pc' := 137) rfl (hb hby d10_133) (by decide) (by decide) ?_
      exact kont
    obtain ⟨fs, hr, hrun, hended, hW, hsame⟩ := X121.leave (v := some (.int (1 : Int32))) (fun h => by rw [Bd.returns] at h; cases h)
    refine ⟨_, _, g141 _ (retN X121 hx (t := .boolean) Bd.returns (by simp) (hb hby d10_137) hr), hrun, hended, _, _, rfl, ?_, ⟨_, rfl⟩, hW, hsame.mono (by decide) (by decide)⟩
    show Q_tch Z ch h0 n0 _ T121.heap _
    rw [e121]
    exact ⟨(1 : Int32), rfl, N121, rfl, Or.inr rfl, by unfold own_tok own_al own_sy; exact iff_of_true rfl (by omega)⟩
  have q142 : ¬ (ch.toInt = 36) := fun z => c138 (Int32.toInt_inj.mp z)
  have g144 : Go p e below T121 (mkF m 63 #[iv ch] [(.int (37 : Int32)), (.int ch)]) A0 := by
    intro t kont
    refine g139 t ?_
    refine XS.icmpNo X121.here hx rfl (hb hby d10_57) rfl (feq c138).1 ?_
    refine XS.iloadN X121.here hx rfl (hb hby d10_60) rfl ?_
    refine XS.bipush X121.here hx rfl (hb hby d10_61) ?_
    exact kont
  by_cases c143 : ch = (37 : Int32)
  ·
    have q145 : ch.toInt = 37 := congrArg Int32.toInt c143
    have g146 : Go p e below T121 (mkF m 137 #[iv ch] [(.int (1 : Int32))]) A0 := by
      intro t kont
      refine g144 t ?_
      refine XS.icmpYes X121.here hx rfl (pc0 := 63) (pc' := 132) rfl (hb hby d10_63) rfl (teq c143).1 (by decide) (by decide) ?_
      refine XS.iconst X121.here hx rfl (hb hby d10_132) ?_
      refine XS.goto X121.here hx rfl (pc0 := 133) (pc' := 137) rfl (hb hby d10_133) (by decide) (by decide) ?_
      exact kont
    obtain ⟨fs, hr, hrun, hended, hW, hsame⟩ := X121.leave (v := some (.int (1 : Int32))) (fun h => by rw [Bd.returns] at h; cases h)
    refine ⟨_, _, g146 _ (retN X121 hx (t := .boolean) Bd.returns (by simp) (hb hby d10_137) hr), hrun, hended, _, _, rfl, ?_, ⟨_, rfl⟩, hW, hsame.mono (by decide) (by decide)⟩
    show Q_tch Z ch h0 n0 _ T121.heap _
    rw [e121]
    exact ⟨(1 : Int32), rfl, N121, rfl, Or.inr rfl, by unfold own_tok own_al own_sy; exact iff_of_true rfl (by omega)⟩
  have q147 : ¬ (ch.toInt = 37) := fun z => c143 (Int32.toInt_inj.mp z)
  have g149 : Go p e below T121 (mkF m 69 #[iv ch] [(.int (38 : Int32)), (.int ch)]) A0 := by
    intro t kont
    refine g144 t ?_
    refine XS.icmpNo X121.here hx rfl (hb hby d10_63) rfl (feq c143).1 ?_
    refine XS.iloadN X121.here hx rfl (hb hby d10_66) rfl ?_
    refine XS.bipush X121.here hx rfl (hb hby d10_67) ?_
    exact kont
  by_cases c148 : ch = (38 : Int32)
  ·
    have q150 : ch.toInt = 38 := congrArg Int32.toInt c148
    have g151 : Go p e below T121 (mkF m 137 #[iv ch] [(.int (1 : Int32))]) A0 := by
      intro t kont
      refine g149 t ?_
      refine XS.icmpYes X121.here hx rfl (pc0 := 69) (pc' := 132) rfl (hb hby d10_69) rfl (teq c148).1 (by decide) (by decide) ?_
      refine XS.iconst X121.here hx rfl (hb hby d10_132) ?_
      refine XS.goto X121.here hx rfl (pc0 := 133) (pc' := 137) rfl (hb hby d10_133) (by decide) (by decide) ?_
      exact kont
    obtain ⟨fs, hr, hrun, hended, hW, hsame⟩ := X121.leave (v := some (.int (1 : Int32))) (fun h => by rw [Bd.returns] at h; cases h)
    refine ⟨_, _, g151 _ (retN X121 hx (t := .boolean) Bd.returns (by simp) (hb hby d10_137) hr), hrun, hended, _, _, rfl, ?_, ⟨_, rfl⟩, hW, hsame.mono (by decide) (by decide)⟩
    show Q_tch Z ch h0 n0 _ T121.heap _
    rw [e121]
    exact ⟨(1 : Int32), rfl, N121, rfl, Or.inr rfl, by unfold own_tok own_al own_sy; exact iff_of_true rfl (by omega)⟩
  have q152 : ¬ (ch.toInt = 38) := fun z => c148 (Int32.toInt_inj.mp z)
  have g154 : Go p e below T121 (mkF m 75 #[iv ch] [(.int (39 : Int32)), (.int ch)]) A0 := by
    intro t kont
    refine g149 t ?_
    refine XS.icmpNo X121.here hx rfl (hb hby d10_69) rfl (feq c148).1 ?_
    refine XS.iloadN X121.here hx rfl (hb hby d10_72) rfl ?_
    refine XS.bipush X121.here hx rfl (hb hby d10_73) ?_
    exact kont
  by_cases c153 : ch = (39 : Int32)
  ·
    have q155 : ch.toInt = 39 := congrArg Int32.toInt c153
    have g156 : Go p e below T121 (mkF m 137 #[iv ch] [(.int (1 : Int32))]) A0 := by
      intro t kont
      refine g154 t ?_
      refine XS.icmpYes X121.here hx rfl (pc0 := 75) (pc' := 132) rfl (hb hby d10_75) rfl (teq c153).1 (by decide) (by decide) ?_
      refine XS.iconst X121.here hx rfl (hb hby d10_132) ?_
      refine XS.goto X121.here hx rfl (pc0 := 133) (pc' := 137) rfl (hb hby d10_133) (by decide) (by decide) ?_
      exact kont
    obtain ⟨fs, hr, hrun, hended, hW, hsame⟩ := X121.leave (v := some (.int (1 : Int32))) (fun h => by rw [Bd.returns] at h; cases h)
    refine ⟨_, _, g156 _ (retN X121 hx (t := .boolean) Bd.returns (by simp) (hb hby d10_137) hr), hrun, hended, _, _, rfl, ?_, ⟨_, rfl⟩, hW, hsame.mono (by decide) (by decide)⟩
    show Q_tch Z ch h0 n0 _ T121.heap _
    rw [e121]
    exact ⟨(1 : Int32), rfl, N121, rfl, Or.inr rfl, by unfold own_tok own_al own_sy; exact iff_of_true rfl (by omega)⟩
  have q157 : ¬ (ch.toInt = 39) := fun z => c153 (Int32.toInt_inj.mp z)
  have g159 : Go p e below T121 (mkF m 81 #[iv ch] [(.int (42 : Int32)), (.int ch)]) A0 := by
    intro t kont
    refine g154 t ?_
    refine XS.icmpNo X121.here hx rfl (hb hby d10_75) rfl (feq c153).1 ?_
    refine XS.iloadN X121.here hx rfl (hb hby d10_78) rfl ?_
    refine XS.bipush X121.here hx rfl (hb hby d10_79) ?_
    exact kont
  by_cases c158 : ch = (42 : Int32)
  ·
    have q160 : ch.toInt = 42 := congrArg Int32.toInt c158
    have g161 : Go p e below T121 (mkF m 137 #[iv ch] [(.int (1 : Int32))]) A0 := by
      intro t kont
      refine g159 t ?_
      refine XS.icmpYes X121.here hx rfl (pc0 := 81) (pc' := 132) rfl (hb hby d10_81) rfl (teq c158).1 (by decide) (by decide) ?_
      refine XS.iconst X121.here hx rfl (hb hby d10_132) ?_
      refine XS.goto X121.here hx rfl (pc0 := 133) (pc' := 137) rfl (hb hby d10_133) (by decide) (by decide) ?_
      exact kont
    obtain ⟨fs, hr, hrun, hended, hW, hsame⟩ := X121.leave (v := some (.int (1 : Int32))) (fun h => by rw [Bd.returns] at h; cases h)
    refine ⟨_, _, g161 _ (retN X121 hx (t := .boolean) Bd.returns (by simp) (hb hby d10_137) hr), hrun, hended, _, _, rfl, ?_, ⟨_, rfl⟩, hW, hsame.mono (by decide) (by decide)⟩
    show Q_tch Z ch h0 n0 _ T121.heap _
    rw [e121]
    exact ⟨(1 : Int32), rfl, N121, rfl, Or.inr rfl, by unfold own_tok own_al own_sy; exact iff_of_true rfl (by omega)⟩
  have q162 : ¬ (ch.toInt = 42) := fun z => c158 (Int32.toInt_inj.mp z)
  have g164 : Go p e below T121 (mkF m 87 #[iv ch] [(.int (43 : Int32)), (.int ch)]) A0 := by
    intro t kont
    refine g159 t ?_
    refine XS.icmpNo X121.here hx rfl (hb hby d10_81) rfl (feq c158).1 ?_
    refine XS.iloadN X121.here hx rfl (hb hby d10_84) rfl ?_
    refine XS.bipush X121.here hx rfl (hb hby d10_85) ?_
    exact kont
  by_cases c163 : ch = (43 : Int32)
  ·
    have q165 : ch.toInt = 43 := congrArg Int32.toInt c163
    have g166 : Go p e below T121 (mkF m 137 #[iv ch] [(.int (1 : Int32))]) A0 := by
      intro t kont
      refine g164 t ?_
      refine XS.icmpYes X121.here hx rfl (pc0 := 87) (pc' := 132) rfl (hb hby d10_87) rfl (teq c163).1 (by decide) (by decide) ?_
      refine XS.iconst X121.here hx rfl (hb hby d10_132) ?_
      refine XS.goto X121.here hx rfl (pc0 := 133) (pc' := 137) rfl (hb hby d10_133) (by decide) (by decide) ?_
      exact kont
    obtain ⟨fs, hr, hrun, hended, hW, hsame⟩ := X121.leave (v := some (.int (1 : Int32))) (fun h => by rw [Bd.returns] at h; cases h)
    refine ⟨_, _, g166 _ (retN X121 hx (t := .boolean) Bd.returns (by simp) (hb hby d10_137) hr), hrun, hended, _, _, rfl, ?_, ⟨_, rfl⟩, hW, hsame.mono (by decide) (by decide)⟩
    show Q_tch Z ch h0 n0 _ T121.heap _
    rw [e121]
    exact ⟨(1 : Int32), rfl, N121, rfl, Or.inr rfl, by unfold own_tok own_al own_sy; exact iff_of_true rfl (by omega)⟩
  have q167 : ¬ (ch.toInt = 43) := fun z => c163 (Int32.toInt_inj.mp z)
  have g169 : Go p e below T121 (mkF m 93 #[iv ch] [(.int (45 : Int32)), (.int ch)]) A0 := by
    intro t kont
    refine g164 t ?_
    refine XS.icmpNo X121.here hx rfl (hb hby d10_87) rfl (feq c163).1 ?_
    refine XS.iloadN X121.here hx rfl (hb hby d10_90) rfl ?_
    refine XS.bipush X121.here hx rfl (hb hby d10_91) ?_
    exact kont
  by_cases c168 : ch = (45 : Int32)
  ·
    have q170 : ch.toInt = 45 := congrArg Int32.toInt c168
    have g171 : Go p e below T121 (mkF m 137 #[iv ch] [(.int (1 : Int32))]) A0 := by
      intro t kont
      refine g169 t ?_
      refine XS.icmpYes X121.here hx rfl (pc0 := 93) (pc' := 132) rfl (hb hby d10_93) rfl (teq c168).1 (by decide) (by decide) ?_
      refine XS.iconst X121.here hx rfl (hb hby d10_132) ?_
      refine XS.goto X121.here hx rfl (pc0 := 133) (pc' := 137) rfl (hb hby d10_133) (by decide) (by decide) ?_
      exact kont
    obtain ⟨fs, hr, hrun, hended, hW, hsame⟩ := X121.leave (v := some (.int (1 : Int32))) (fun h => by rw [Bd.returns] at h; cases h)
    refine ⟨_, _, g171 _ (retN X121 hx (t := .boolean) Bd.returns (by simp) (hb hby d10_137) hr), hrun, hended, _, _, rfl, ?_, ⟨_, rfl⟩, hW, hsame.mono (by decide) (by decide)⟩
    show Q_tch Z ch h0 n0 _ T121.heap _
    rw [e121]
    exact ⟨(1 : Int32), rfl, N121, rfl, Or.inr rfl, by unfold own_tok own_al own_sy; exact iff_of_true rfl (by omega)⟩
  have q172 : ¬ (ch.toInt = 45) := fun z => c168 (Int32.toInt_inj.mp z)
  have g174 : Go p e below T121 (mkF m 99 #[iv ch] [(.int (46 : Int32)), (.int ch)]) A0 := by
    intro t kont
    refine g169 t ?_
    refine XS.icmpNo X121.here hx rfl (hb hby d10_93) rfl (feq c168).1 ?_
    refine XS.iloadN X121.here hx rfl (hb hby d10_96) rfl ?_
    refine XS.bipush X121.here hx rfl (hb hby d10_97) ?_
    exact kont
  by_cases c173 : ch = (46 : Int32)
  ·
    have q175 : ch.toInt = 46 := congrArg Int32.toInt c173
    have g176 : Go p e below T121 (mkF m 137 #[iv ch] [(.int (1 : Int32))]) A0 := by
      intro t kont
      refine g174 t ?_
      refine XS.icmpYes X121.here hx rfl (pc0 := 99) (pc' := 132) rfl (hb hby d10_99) rfl (teq c173).1 (by decide) (by decide) ?_
      refine XS.iconst X121.here hx rfl (hb hby d10_132) ?_
      refine XS.goto X121.here hx rfl (pc0 := 133) (pc' := 137) rfl (hb hby d10_133) (by decide) (by decide) ?_
      exact kont
    obtain ⟨fs, hr, hrun, hended, hW, hsame⟩ := X121.leave (v := some (.int (1 : Int32))) (fun h => by rw [Bd.returns] at h; cases h)
    refine ⟨_, _, g176 _ (retN X121 hx (t := .boolean) Bd.returns (by simp) (hb hby d10_137) hr), hrun, hended, _, _, rfl, ?_, ⟨_, rfl⟩, hW, hsame.mono (by decide) (by decide)⟩
    show Q_tch Z ch h0 n0 _ T121.heap _
    rw [e121]
    exact ⟨(1 : Int32), rfl, N121, rfl, Or.inr rfl, by unfold own_tok own_al own_sy; exact iff_of_true rfl (by omega)⟩
  have q177 : ¬ (ch.toInt = 46) := fun z => c173 (Int32.toInt_inj.mp z)
  have g179 : Go p e below T121 (mkF m 105 #[iv ch] [(.int (94 : Int32)), (.int ch)]) A0 := by
    intro t kont
    refine g174 t ?_
    refine XS.icmpNo X121.here hx rfl (hb hby d10_99) rfl (feq c173).1 ?_
    refine XS.iloadN X121.here hx rfl (hb hby d10_102) rfl ?_
    refine XS.bipush X121.here hx rfl (hb hby d10_103) ?_
    exact kont
  by_cases c178 : ch = (94 : Int32)
  ·
    have q180 : ch.toInt = 94 := congrArg Int32.toInt c178
    have g181 : Go p e below T121 (mkF m 137 #[iv ch] [(.int (1 : Int32))]) A0 := by
      intro t kont
      refine g179 t ?_
      refine XS.icmpYes X121.here hx rfl (pc0 := 105) (pc' := 132) rfl (hb hby d10_105) rfl (teq c178).1 (by decide) (by decide) ?_
      refine XS.iconst X121.here hx rfl (hb hby d10_132) ?_
      refine XS.goto X121.here hx rfl (pc0 := 133) (pc' := 137) rfl (hb hby d10_133) (by decide) (by decide) ?_
      exact kont
    obtain ⟨fs, hr, hrun, hended, hW, hsame⟩ := X121.leave (v := some (.int (1 : Int32))) (fun h => by rw [Bd.returns] at h; cases h)
    refine ⟨_, _, g181 _ (retN X121 hx (t := .boolean) Bd.returns (by simp) (hb hby d10_137) hr), hrun, hended, _, _, rfl, ?_, ⟨_, rfl⟩, hW, hsame.mono (by decide) (by decide)⟩
    show Q_tch Z ch h0 n0 _ T121.heap _
    rw [e121]
    exact ⟨(1 : Int32), rfl, N121, rfl, Or.inr rfl, by unfold own_tok own_al own_sy; exact iff_of_true rfl (by omega)⟩
  have q182 : ¬ (ch.toInt = 94) := fun z => c178 (Int32.toInt_inj.mp z)
  have g184 : Go p e below T121 (mkF m 111 #[iv ch] [(.int (95 : Int32)), (.int ch)]) A0 := by
    intro t kont
    refine g179 t ?_
    refine XS.icmpNo X121.here hx rfl (hb hby d10_105) rfl (feq c178).1 ?_
    refine XS.iloadN X121.here hx rfl (hb hby d10_108) rfl ?_
    refine XS.bipush X121.here hx rfl (hb hby d10_109) ?_
    exact kont
  by_cases c183 : ch = (95 : Int32)
  ·
    have q185 : ch.toInt = 95 := congrArg Int32.toInt c183
    have g186 : Go p e below T121 (mkF m 137 #[iv ch] [(.int (1 : Int32))]) A0 := by
      intro t kont
      refine g184 t ?_
      refine XS.icmpYes X121.here hx rfl (pc0 := 111) (pc' := 132) rfl (hb hby d10_111) rfl (teq c183).1 (by decide) (by decide) ?_
      refine XS.iconst X121.here hx rfl (hb hby d10_132) ?_
      refine XS.goto X121.here hx rfl (pc0 := 133) (pc' := 137) rfl (hb hby d10_133) (by decide) (by decide) ?_
      exact kont
    obtain ⟨fs, hr, hrun, hended, hW, hsame⟩ := X121.leave (v := some (.int (1 : Int32))) (fun h => by rw [Bd.returns] at h; cases h)
    refine ⟨_, _, g186 _ (retN X121 hx (t := .boolean) Bd.returns (by simp) (hb hby d10_137) hr), hrun, hended, _, _, rfl, ?_, ⟨_, rfl⟩, hW, hsame.mono (by decide) (by decide)⟩
    show Q_tch Z ch h0 n0 _ T121.heap _
    rw [e121]
    exact ⟨(1 : Int32), rfl, N121, rfl, Or.inr rfl, by unfold own_tok own_al own_sy; exact iff_of_true rfl (by omega)⟩
  have q187 : ¬ (ch.toInt = 95) := fun z => c183 (Int32.toInt_inj.mp z)
  have g189 : Go p e below T121 (mkF m 117 #[iv ch] [(.int (96 : Int32)), (.int ch)]) A0 := by
    intro t kont
    refine g184 t ?_
    refine XS.icmpNo X121.here hx rfl (hb hby d10_111) rfl (feq c183).1 ?_
    refine XS.iloadN X121.here hx rfl (hb hby d10_114) rfl ?_
    refine XS.bipush X121.here hx rfl (hb hby d10_115) ?_
    exact kont
  by_cases c188 : ch = (96 : Int32)
  ·
    have q190 : ch.toInt = 96 := congrArg Int32.toInt c188
    have g191 : Go p e below T121 (mkF m 137 #[iv ch] [(.int (1 : Int32))]) A0 := by
      intro t kont
      refine g189 t ?_
      refine XS.icmpYes X121.here hx rfl (pc0 := 117) (pc' := 132) rfl (hb hby d10_117) rfl (teq c188).1 (by decide) (by decide) ?_
      refine XS.iconst X121.here hx rfl (hb hby d10_132) ?_
      refine XS.goto X121.here hx rfl (pc0 := 133) (pc' := 137) rfl (hb hby d10_133) (by decide) (by decide) ?_
      exact kont
    obtain ⟨fs, hr, hrun, hended, hW, hsame⟩ := X121.leave (v := some (.int (1 : Int32))) (fun h => by rw [Bd.returns] at h; cases h)
    refine ⟨_, _, g191 _ (retN X121 hx (t := .boolean) Bd.returns (by simp) (hb hby d10_137) hr), hrun, hended, _, _, rfl, ?_, ⟨_, rfl⟩, hW, hsame.mono (by decide) (by decide)⟩
    show Q_tch Z ch h0 n0 _ T121.heap _
    rw [e121]
    exact ⟨(1 : Int32), rfl, N121, rfl, Or.inr rfl, by unfold own_tok own_al own_sy; exact iff_of_true rfl (by omega)⟩
  have q192 : ¬ (ch.toInt = 96) := fun z => c188 (Int32.toInt_inj.mp z)
  have g194 : Go p e below T121 (mkF m 123 #[iv ch] [(.int (124 : Int32)), (.int ch)]) A0 := by
    intro t kont
    refine g189 t ?_
    refine XS.icmpNo X121.here hx rfl (hb hby d10_117) rfl (feq c188).1 ?_
    refine XS.iloadN X121.here hx rfl (hb hby d10_120) rfl ?_
    refine XS.bipush X121.here hx rfl (hb hby d10_121) ?_
    exact kont
  by_cases c193 : ch = (124 : Int32)
  ·
    have q195 : ch.toInt = 124 := congrArg Int32.toInt c193
    have g196 : Go p e below T121 (mkF m 137 #[iv ch] [(.int (1 : Int32))]) A0 := by
      intro t kont
      refine g194 t ?_
      refine XS.icmpYes X121.here hx rfl (pc0 := 123) (pc' := 132) rfl (hb hby d10_123) rfl (teq c193).1 (by decide) (by decide) ?_
      refine XS.iconst X121.here hx rfl (hb hby d10_132) ?_
      refine XS.goto X121.here hx rfl (pc0 := 133) (pc' := 137) rfl (hb hby d10_133) (by decide) (by decide) ?_
      exact kont
    obtain ⟨fs, hr, hrun, hended, hW, hsame⟩ := X121.leave (v := some (.int (1 : Int32))) (fun h => by rw [Bd.returns] at h; cases h)
    refine ⟨_, _, g196 _ (retN X121 hx (t := .boolean) Bd.returns (by simp) (hb hby d10_137) hr), hrun, hended, _, _, rfl, ?_, ⟨_, rfl⟩, hW, hsame.mono (by decide) (by decide)⟩
    show Q_tch Z ch h0 n0 _ T121.heap _
    rw [e121]
    exact ⟨(1 : Int32), rfl, N121, rfl, Or.inr rfl, by unfold own_tok own_al own_sy; exact iff_of_true rfl (by omega)⟩
  have q197 : ¬ (ch.toInt = 124) := fun z => c193 (Int32.toInt_inj.mp z)
  have g199 : Go p e below T121 (mkF m 129 #[iv ch] [(.int (126 : Int32)), (.int ch)]) A0 := by
    intro t kont
    refine g194 t ?_
    refine XS.icmpNo X121.here hx rfl (hb hby d10_123) rfl (feq c193).1 ?_
    refine XS.iloadN X121.here hx rfl (hb hby d10_126) rfl ?_
    refine XS.bipush X121.here hx rfl (hb hby d10_127) ?_
    exact kont
  by_cases c198 : ch = (126 : Int32)
  ·
    have q200 : ch.toInt = 126 := congrArg Int32.toInt c198
    have g201 : Go p e below T121 (mkF m 137 #[iv ch] [(.int (1 : Int32))]) A0 := by
      intro t kont
      refine g199 t ?_
      refine XS.icmpNo X121.here hx rfl (hb hby d10_129) rfl (teq c198).2 ?_
      refine XS.iconst X121.here hx rfl (hb hby d10_132) ?_
      refine XS.goto X121.here hx rfl (pc0 := 133) (pc' := 137) rfl (hb hby d10_133) (by decide) (by decide) ?_
      exact kont
    obtain ⟨fs, hr, hrun, hended, hW, hsame⟩ := X121.leave (v := some (.int (1 : Int32))) (fun h => by rw [Bd.returns] at h; cases h)
    refine ⟨_, _, g201 _ (retN X121 hx (t := .boolean) Bd.returns (by simp) (hb hby d10_137) hr), hrun, hended, _, _, rfl, ?_, ⟨_, rfl⟩, hW, hsame.mono (by decide) (by decide)⟩
    show Q_tch Z ch h0 n0 _ T121.heap _
    rw [e121]
    exact ⟨(1 : Int32), rfl, N121, rfl, Or.inr rfl, by unfold own_tok own_al own_sy; exact iff_of_true rfl (by omega)⟩
  have q202 : ¬ (ch.toInt = 126) := fun z => c198 (Int32.toInt_inj.mp z)
  have g203 : Go p e below T121 (mkF m 137 #[iv ch] [(.int (0 : Int32))]) A0 := by
    intro t kont
    refine g199 t ?_
    refine XS.icmpYes X121.here hx rfl (pc0 := 129) (pc' := 136) rfl (hb hby d10_129) rfl (feq c198).2 (by decide) (by decide) ?_
    refine XS.iconst X121.here hx rfl (hb hby d10_136) ?_
    exact kont
  obtain ⟨fs, hr, hrun, hended, hW, hsame⟩ := X121.leave (v := some (.int (0 : Int32))) (fun h => by rw [Bd.returns] at h; cases h)
  refine ⟨_, _, g203 _ (retN X121 hx (t := .boolean) Bd.returns (by simp) (hb hby d10_137) hr), hrun, hended, _, _, rfl, ?_, ⟨_, rfl⟩, hW, hsame.mono (by decide) (by decide)⟩
  show Q_tch Z ch h0 n0 _ T121.heap _
  rw [e121]
  exact ⟨(0 : Int32), rfl, N121, rfl, Or.inl rfl, by unfold own_tok own_al own_sy; exact iff_of_false (by decide) (by omega)⟩
theorem d3_0 : decode jdk_42_method_149_code 0 = .ok (.aload_n 0, 1) := by decide +kernel
theorem d3_1 : decode jdk_42_method_149_code 1 = .ok (.invokespecial 1, 3) := by decide +kernel
theorem d3_4 : decode jdk_42_method_149_code 4 = .ok (.iload_n 3, 1) := by decide +kernel
theorem d3_5 : decode jdk_42_method_149_code 5 = .ok (.ifCond .ne 22, 3) := by decide +kernel
theorem d3_8 : decode jdk_42_method_149_code 8 = .ok (.aload_n 0, 1) := by decide +kernel
theorem d3_9 : decode jdk_42_method_149_code 9 = .ok (.ldc 7, 2) := by decide +kernel
theorem d3_11 : decode jdk_42_method_149_code 11 = .ok (.getfield 9, 3) := by decide +kernel
theorem d3_14 : decode jdk_42_method_149_code 14 = .ok (.putfield 9, 3) := by decide +kernel
theorem d3_17 : decode jdk_42_method_149_code 17 = .ok (.aload_n 0, 1) := by decide +kernel
theorem d3_18 : decode jdk_42_method_149_code 18 = .ok (.ldc 7, 2) := by decide +kernel
theorem d3_20 : decode jdk_42_method_149_code 20 = .ok (.getfield 15, 3) := by decide +kernel
theorem d3_23 : decode jdk_42_method_149_code 23 = .ok (.putfield 15, 3) := by decide +kernel
theorem d3_26 : decode jdk_42_method_149_code 26 = .ok (.return_, 1) := by decide +kernel
theorem pn_java_lang_String : plainName "java/lang/String" = true := by first | (simp [plainName, overriddenIn]; done) | decide +kernel
theorem ef_sin0 (m : MethodId) (x0 : Addr) (x1 : Addr) (x2 : Int32) (x3 : Int32)  : entryFrame m #[(.ref x0), (.ref x1), (.int x2), (.int x3), .null] 6 = mkF m 0 #[.val (.ref x0), .val (.ref x1), .val (.int x2), .val (.int x3), .val .null, .unset] [] := by first | (simp [entryFrame, mkF, argsToLocals, Value.category]; done) | rfl
def Q_sin0 (Z : State) (a1 : Addr) (s1 : Addr) (h0 : Heap) (n0 : Nat) (v : Option Value) (h : Heap) (L : List Loc) : Prop := ∃ (r : Addr), ∃ (kid : ClassId), v = none ∧ Fr n0 L ∧ Keep h0 h [a1] ∧ (Exa Z h a1 "java/lang/String") ∧ (Fld Z h a1 "java/lang/String" "coder" "B" (.int (0 : Int32))) ∧ (Fld Z h a1 "java/lang/String" "value" "[B" (.ref r)) ∧ (Arv Z h r kid .byte (0 : Int32) [] (.int (0 : Int32)))
set_option maxRecDepth 65536 in
set_option maxHeartbeats 40000000 in
theorem rm_sin0 (l : Launch) (Z : State) (a0 : Array Value) (hw : ∀ d ∈ tables_1, d.before a0 Z = true) (ws : List Jvm.Cond) (a1 : Addr) (s1 : Addr) (h0 : Heap) (n0 : Nat) (O0 : Old Z n0 h0) (F0_ : Fld Z h0 a1 "java/lang/String" "value" "[B" .null) (F1_ : Fld Z h0 a1 "java/lang/String" "coder" "B" (.int (0 : Int32))) (E2_ : Exa Z h0 a1 "java/lang/String") (G3_ : n0 ≤ a1) :
    MetFree l (⟨"java/lang/String", "<init>", "([CIILjava/lang/Void;)V"⟩ : MethodName) (head1 (Jvm.Cond.code (⟨"java/lang/String", "<init>", "([CIILjava/lang/Void;)V"⟩ : MethodName) jdk_42_method_149_code 6 none :: ws) ({ frames := 1, cells := 4, slots := 8, locals := 12 } : Room)) (fun a U => a = #[(.ref a1), (.ref s1), (.int (0 : Int32)), (.int (0 : Int32)), .null] ∧ Z.Warmed39 U.vm ∧ U.heap = h0 ∧ CHv Z consts_1 U.vm h0) (fun _ _ _ _ _ => True) (fun _ U o U' => ∃ v L, o = .returned v ∧ Q_sin0 Z a1 s1 h0 n0 v U'.heap L ∧ CHr Z consts_1 U.vm U.heap U'.vm U'.heap ∧ ReturnedEndW U o U' L ({ frames := 1, cells := 4, slots := 8, locals := 12 } : Room).cells ({ frames := 1, cells := 4, slots := 8, locals := 12 } : Room).slots) := by
  refine MetFree.of_bodySF (plainFor_of_name pn_java_lang_String) hisR ?_
  intro p e s m args below meth c s₁ Bd hml0 hP hK
  obtain ⟨rfl, hZ, hh, hC0⟩ := hP
  have hx := Bd.exec
  have hby := Bd.bytes
  have hml : c.maxLocals = 6 := hml0
  have hown : s.vm.findClass "java/lang/String" = some m.cls := findClass_of_methodNamed Bd.named
  have hnm := (name_of_methodNamed Bd.named Bd.method).1
  have X0 : Stand p l e ({ frames := 1, cells := 4, slots := 8, locals := 12 } : Room) (s.setVm s.vm) m #[(.ref a1), (.ref s1), (.int (0 : Int32)), (.int (0 : Int32)), .null] below meth c s₁ [] 0 0 := Stand.of_body Bd
  have e0 : s₁.heap = h0 := by rw [← hh, Bd.state]; rfl
  have N0 := Fr.nil n0
  have hS : s.Since s.vm 0 := (State.WarmedH.refl s).since 0
  have hk : 0 ≤ h0.size := Nat.zero_le _
  have hZ : Z.Warmed39 (s.setVm s.vm).vm := hZ
  have hown : (s.setVm s.vm).vm.findClass "java/lang/String" = some m.cls := hown
  have R0 : CHr Z consts_1 s.vm h0 s.vm h0 := CHr.refl hC0
  have g0 : Go p e below s₁ (mkF m 0 #[rv a1, rv s1, iv (0 : Int32), iv (0 : Int32), .val .null, .unset] []) (s₁.setTop (entryFrame m #[(.ref a1), (.ref s1), (.int (0 : Int32)), (.int (0 : Int32)), .null] 6)) := fun t kont => castTop (ef_sin0 m a1 s1 (0 : Int32) (0 : Int32) ) kont
  generalize s₁.setTop (entryFrame m #[(.ref a1), (.ref s1), (.int (0 : Int32)), (.int (0 : Int32)), .null] 6) = A0 at g0 ⊢
  have g101 : Go p e below s₁ (mkF m 1 #[rv a1, rv s1, iv (0 : Int32), iv (0 : Int32), .val .null, .unset] [(.ref a1)]) A0 := by
    intro t kont
    refine g0 t ?_
    refine XS.aloadN X0.here hx rfl (hb hby d3_0) rfl rfl ?_
    exact kont
  obtain ⟨T102, X102, e102, st102⟩ := initO X0 hx hZ hown (hw _ (List.mem_of_getElem? (i := 16) rfl)) (hw _ (List.mem_of_getElem? (i := 17) rfl)) (hw _ (List.mem_of_getElem? (i := 18) rfl)) e0 (g := (mkF m 1 #[rv a1, rv s1, iv (0 : Int32), iv (0 : Int32), .val .null, .unset] [(.ref a1)])) rfl (by rw [hml]; rfl) rfl (hb hby d3_1) (by decide) (W := 0) (by show 2 * 0 + _ ≤ _; exact Nat.le_of_eq rfl) (by decide)
  have g103 : Go p e below T102 (mkF m 4 #[rv a1, rv s1, iv (0 : Int32), iv (0 : Int32), .val .null, .unset] []) A0 := fun t kont => g101 t (st102 t kont)
  have g104 : Go p e below T102 (mkF m 9 #[rv a1, rv s1, iv (0 : Int32), iv (0 : Int32), .val .null, .unset] [(.ref a1)]) A0 := by
    intro t kont
    refine g103 t ?_
    refine XS.iloadN X102.here hx rfl (hb hby d3_4) rfl ?_
    refine XS.ifNo X102.here hx rfl (hb hby d3_5) rfl ((if0 _ _).trans (teq (by decide : (0 : Int32) = (0 : Int32))).2) ?_
    refine XS.aloadN X102.here hx rfl (hb hby d3_8) rfl rfl ?_
    exact kont
  have sf106 : Safe Z consts_1 s.vm h0 a1 := own_safe_null hZ.alike E2_ F0_
  obtain ⟨b105, T105, h105, k105, c105, kc105, X105, e105, E105, hS, hk, hZ, hown, A105, F105, G105, V105, la105, lb105, C105, -, ne105, st105⟩ := ldcCH X102 hx hZ hown (hw _ (List.mem_of_getElem? (i := 19) rfl)) (own_wS hw) e102 hS hk (own_EW hw) (List.mem_of_getElem? (i := 1) rfl) R0.1 (vs := []) (z := (0 : Int32)) ⟨by decide, by decide⟩ (by decide) rfl (g := (mkF m 9 #[rv a1, rv s1, iv (0 : Int32), iv (0 : Int32), .val .null, .unset] [(.ref a1)])) rfl (hb hby d3_9) (n := 0) (by decide) (by decide) (by decide) (by decide)
  have R107 : CHr Z consts_1 s.vm h0 T105.vm h105 := R0.trans C105
  have O108 := O0.ext E105
  have sf109 : Safe Z consts_1 T105.vm h105 a1 := (CHr.safe C105 F0_.lt sf106)
  have hn110 := ne105 a1 sf109
  have g111 : Go p e below T105 (mkF m 11 #[rv a1, rv s1, iv (0 : Int32), iv (0 : Int32), .val .null, .unset] [(.ref b105), (.ref a1)]) A0 := fun t kont => g104 t (st105 t kont)
  obtain ⟨T112, X112, e112, st112⟩ := getF X105 hx hZ hown (host := "") (Or.inl (hw _ (List.mem_of_getElem? (i := 25) rfl))) Via.refl e105 G105 (g := (mkF m 11 #[rv a1, rv s1, iv (0 : Int32), iv (0 : Int32), .val .null, .unset] [(.ref b105), (.ref a1)])) rfl rfl (hb hby d3_11)
  have g113 : Go p e below T112 (mkF m 14 #[rv a1, rv s1, iv (0 : Int32), iv (0 : Int32), .val .null, .unset] [(.ref c105), (.ref a1)]) A0 := fun t kont => g111 t (st112 t kont)
  have y114 : Exa Z h105 a1 "java/lang/String" := (E2_.ext E105)
  have y115 : Fld Z h105 a1 "java/lang/String" "value" "[B" .null := (F0_.ext E105)
  obtain ⟨T116, h116, X116, e116, W116, st116⟩ := putF X112 hx hZ hown (host := "") (Or.inl (hw _ (List.mem_of_getElem? (i := 25) rfl))) Via.refl e112 y115 y114 (Or.inr ⟨(hw _ (List.mem_of_getElem? (i := 21) rfl)), rfl, hnm⟩) (hw _ (List.mem_of_getElem? (i := 7) rfl)) (ty := (.array .byte)) (by decide) rfl rfl (g := (mkF m 14 #[rv a1, rv s1, iv (0 : Int32), iv (0 : Int32), .val .null, .unset] [(.ref c105), (.ref a1)])) rfl rfl (hb hby d3_14)
  have R117 : CHr Z consts_1 s.vm h0 T105.vm h116 := R107.trans (CHr.wr W116 sf109 R107.1)
  have O118 := O108.wr W116 G3_
  have y119 : Fld Z h116 a1 "java/lang/String" "value" "[B" (.ref c105) := y115.same W116
  have N116 := Fr.snoc X116 N0 G3_
  have g120 : Go p e below T116 (mkF m 17 #[rv a1, rv s1, iv (0 : Int32), iv (0 : Int32), .val .null, .unset] []) A0 := fun t kont => g113 t (st116 t kont)
  have g121 : Go p e below T116 (mkF m 18 #[rv a1, rv s1, iv (0 : Int32), iv (0 : Int32), .val .null, .unset] [(.ref a1)]) A0 := by
    intro t kont
    refine g120 t ?_
    refine XS.aloadN X116.here hx rfl (hb hby d3_17) rfl rfl ?_
    exact kont
  obtain ⟨b122, T122, h122, k122, c122, kc122, X122, e122, E122, hS, hk, hZ, hown, A122, F122, G122, V122, la122, lb122, C122, -, ne122, st122⟩ := ldcCH X116 hx hZ hown (hw _ (List.mem_of_getElem? (i := 19) rfl)) (own_wS hw) e116 hS (Nat.le_trans hk (Keep.of_wr W116).1) (own_EW hw) (List.mem_of_getElem? (i := 1) rfl) R117.1 (vs := []) (z := (0 : Int32)) ⟨by decide, by decide⟩ (by decide) rfl (g := (mkF m 18 #[rv a1, rv s1, iv (0 : Int32), iv (0 : Int32), .val .null, .unset] [(.ref a1)])) rfl (hb hby d3_18) (n := 0) (by decide) (by decide) (by decide) (by decide)
  have R123 : CHr Z consts_1 s.vm h0 T122.vm h122 := R117.trans C122
  have O124 := O118.ext E122
  have sf125 : Safe Z consts_1 T122.vm h122 a1 := (CHr.safe C122 (Nat.lt_of_lt_of_le F0_.lt (Nat.le_trans E105.1 (Keep.of_wr W116).1)) (Safe.wr W116 sf109 R107.1 sf109))
  have hn126 := ne122 a1 sf125
  have g127 : Go p e below T122 (mkF m 20 #[rv a1, rv s1, iv (0 : Int32), iv (0 : Int32), .val .null, .unset] [(.ref b122), (.ref a1)]) A0 := fun t kont => g121 t (st122 t kont)
  obtain ⟨T128, X128, e128, st128⟩ := getF X122 hx hZ hown (host := "") (Or.inl (hw _ (List.mem_of_getElem? (i := 26) rfl))) Via.refl e122 F122 (g := (mkF m 20 #[rv a1, rv s1, iv (0 : Int32), iv (0 : Int32), .val .null, .unset] [(.ref b122), (.ref a1)])) rfl rfl (hb hby d3_20)
  have g129 : Go p e below T128 (mkF m 23 #[rv a1, rv s1, iv (0 : Int32), iv (0 : Int32), .val .null, .unset] [(.int (0 : Int32)), (.ref a1)]) A0 := fun t kont => g127 t (st128 t kont)
  have y130 : Exa Z h122 a1 "java/lang/String" := ((y114.wr W116).ext E122)
  have y131 : Fld Z h122 a1 "java/lang/String" "coder" "B" (.int (0 : Int32)) := (((F1_.ext E105).other W116 (Or.inr (slot_ne (Or.inr (hw _ (List.mem_of_getElem? (i := 22) rfl))) (Or.inr (hw _ (List.mem_of_getElem? (i := 21) rfl))) (by decide) (t := .byte) (t' := (.array .byte)) (by decide) (by decide)))).ext E122)
  obtain ⟨T132, h132, X132, e132, W132, st132⟩ := putFN X128 hx hZ hown (hw _ (List.mem_of_getElem? (i := 26) rfl)) Via.refl e128 y131 y130 (Or.inr ⟨(hw _ (List.mem_of_getElem? (i := 22) rfl)), rfl, hnm⟩) (hw _ (List.mem_of_getElem? (i := 7) rfl)) (ty := .byte) (v := (.int (0 : Int32))) (v' := (.int (0 : Int32))) (by decide) (own_nw_byte (by decide : nar .byte (0 : Int32) = (0 : Int32))) (own_ft_byte (by decide : nar .byte (0 : Int32) = (0 : Int32))) (g := (mkF m 23 #[rv a1, rv s1, iv (0 : Int32), iv (0 : Int32), .val .null, .unset] [(.int (0 : Int32)), (.ref a1)])) rfl rfl (hb hby d3_23)
  have R133 : CHr Z consts_1 s.vm h0 T122.vm h132 := R123.trans (CHr.wr W132 sf125 R123.1)
  have O134 := O124.wr W132 G3_
  have y135 : Fld Z h132 a1 "java/lang/String" "coder" "B" (.int (0 : Int32)) := y131.same W132
  have N132 := Fr.snoc X132 N116 G3_
  have g136 : Go p e below T132 (mkF m 26 #[rv a1, rv s1, iv (0 : Int32), iv (0 : Int32), .val .null, .unset] []) A0 := fun t kont => g129 t (st132 t kont)
  have K137 : Keep h0 h132 [a1] := (((((Keep.refl h0 [a1]).ext E105).wr W116 (Or.inl (List.mem_of_getElem? (i := 0) rfl))).ext E122).wr W132 (Or.inl (List.mem_of_getElem? (i := 0) rfl)))
  have y138 : Exa Z h132 a1 "java/lang/String" := (y130.wr W132)
  have y139 : Fld Z h132 a1 "java/lang/String" "value" "[B" (.ref c105) := ((y119.ext E122).other W132 (Or.inr (slot_ne (Or.inr (hw _ (List.mem_of_getElem? (i := 21) rfl))) (Or.inr (hw _ (List.mem_of_getElem? (i := 22) rfl))) (by decide) (t := (.array .byte)) (t' := .byte) (by decide) (by decide))))
  have y140 : Arv Z h132 c105 kc105 .byte (0 : Int32) [] (.int (0 : Int32)) := (((V105.other W116 (Ne.symm hn110.2)).ext E122).other W132 (Ne.symm hn110.2))
  obtain ⟨fs, hr, hrun, hended, hRW⟩ := X132.leaveW hS (by rw [e132]; exact (Nat.le_trans hk (Keep.of_wr W132).1)) (v := none) (fun _ => rfl)
  refine ⟨_, _, g136 _ (X132.returnOut hx Bd.returns (hb hby d3_26) hr), hrun, hended, _, _, rfl, ?_, ?_, hRW.1, hRW.2.1, hRW.2.2.1, hRW.2.2.2.mono (by decide) (by decide)⟩
  ·
    show Q_sin0 Z a1 s1 h0 n0 _ T132.heap _
    rw [e132]
    exact ⟨c105, kc105, rfl, N132, K137, y138, y135, y139, y140⟩
  ·
    rw [hh]
    show CHr Z consts_1 s.vm h0 T132.vm T132.heap
    rw [e132]
    exact R133.trans (CHv.at X132 hZ (own_EW hw) R133.1)
theorem d2_0 : decode jdk_42_method_3_code 0 = .ok (.aload_n 0, 1) := by decide +kernel
theorem d2_1 : decode jdk_42_method_3_code 1 = .ok (.aload_n 1, 1) := by decide +kernel
theorem d2_2 : decode jdk_42_method_3_code 2 = .ok (.iconst 0, 1) := by decide +kernel
theorem d2_3 : decode jdk_42_method_3_code 3 = .ok (.aload_n 1, 1) := by decide +kernel
theorem d2_4 : decode jdk_42_method_3_code 4 = .ok (.arraylength, 1) := by decide +kernel
theorem d2_5 : decode jdk_42_method_3_code 5 = .ok (.aconst_null, 1) := by decide +kernel
theorem d2_6 : decode jdk_42_method_3_code 6 = .ok (.invokespecial 27, 3) := by decide +kernel
theorem pd_0 : parseMethodDescriptor "([CIILjava/lang/Void;)V" = some ⟨[(.array .char), .int, .int, (.object "java/lang/Void")], none⟩ := by decide +kernel
theorem d2_9 : decode jdk_42_method_3_code 9 = .ok (.return_, 1) := by decide +kernel
theorem ef_sIni0 (m : MethodId) (x0 : Addr) (x1 : Addr)  : entryFrame m #[(.ref x0), (.ref x1)] 2 = mkF m 0 #[.val (.ref x0), .val (.ref x1)] [] := by first | (simp [entryFrame, mkF, argsToLocals, Value.category]; done) | rfl
def Q_sIni0 (Z : State) (a1 : Addr) (s1 : Addr) (ks : ClassId) (h0 : Heap) (n0 : Nat) (v : Option Value) (h : Heap) (L : List Loc) : Prop := ∃ (r : Addr), ∃ (kid : ClassId), v = none ∧ Fr n0 L ∧ Keep h0 h [a1] ∧ (Exa Z h a1 "java/lang/String") ∧ (Fld Z h a1 "java/lang/String" "coder" "B" (.int (0 : Int32))) ∧ (Fld Z h a1 "java/lang/String" "value" "[B" (.ref r)) ∧ (Arv Z h r kid .byte (0 : Int32) [] (.int (0 : Int32)))
set_option maxRecDepth 65536 in
set_option maxHeartbeats 40000000 in
theorem rm_sIni0 (l : Launch) (Z : State) (a0 : Array Value) (hw : ∀ d ∈ tables_1, d.before a0 Z = true) (ws : List Jvm.Cond) (a1 : Addr) (s1 : Addr) (ks : ClassId) (h0 : Heap) (n0 : Nat) (O0 : Old Z n0 h0) (F0_ : Fld Z h0 a1 "java/lang/String" "value" "[B" .null) (F1_ : Fld Z h0 a1 "java/lang/String" "coder" "B" (.int (0 : Int32))) (E2_ : Exa Z h0 a1 "java/lang/String") (G3_ : n0 ≤ a1) (A4_ : Arv Z h0 s1 ks .char (0 : Int32) [] (.int (0 : Int32))) :
    MetFree l (⟨"java/lang/String", "<init>", "([C)V"⟩ : MethodName) (head1 (Jvm.Cond.code (⟨"java/lang/String", "<init>", "([C)V"⟩ : MethodName) jdk_42_method_3_code 2 none :: ws) ({ frames := 2, cells := 4, slots := 8, locals := 29 } : Room)) (fun a U => a = #[(.ref a1), (.ref s1)] ∧ Z.Warmed39 U.vm ∧ U.heap = h0 ∧ CHv Z consts_1 U.vm h0) (fun _ _ _ _ _ => True) (fun _ U o U' => ∃ v L, o = .returned v ∧ Q_sIni0 Z a1 s1 ks h0 n0 v U'.heap L ∧ CHr Z consts_1 U.vm U.heap U'.vm U'.heap ∧ ReturnedEndW U o U' L ({ frames := 2, cells := 4, slots := 8, locals := 29 } : Room).cells ({ frames := 2, cells := 4, slots := 8, locals := 29 } : Room).slots) := by
  refine MetFree.of_bodySF (plainFor_of_name pn_java_lang_String) hisR ?_
  intro p e s m args below meth c s₁ Bd hml0 hP hK
  obtain ⟨rfl, hZ, hh, hC0⟩ := hP
  have hx := Bd.exec
  have hby := Bd.bytes
  have hml : c.maxLocals = 2 := hml0
  have hown : s.vm.findClass "java/lang/String" = some m.cls := findClass_of_methodNamed Bd.named
  have hnm := (name_of_methodNamed Bd.named Bd.method).1
  have X0 : Stand p l e ({ frames := 2, cells := 4, slots := 8, locals := 29 } : Room) (s.setVm s.vm) m #[(.ref a1), (.ref s1)] below meth c s₁ [] 0 0 := Stand.of_body Bd
  have e0 : s₁.heap = h0 := by rw [← hh, Bd.state]; rfl
  have N0 := Fr.nil n0
  have hS : s.Since s.vm 0 := (State.WarmedH.refl s).since 0
  have hk : 0 ≤ h0.size := Nat.zero_le _
  have hZ : Z.Warmed39 (s.setVm s.vm).vm := hZ
  have hown : (s.setVm s.vm).vm.findClass "java/lang/String" = some m.cls := hown
  have R0 : CHr Z consts_1 s.vm h0 s.vm h0 := CHr.refl hC0
  have g0 : Go p e below s₁ (mkF m 0 #[rv a1, rv s1] []) (s₁.setTop (entryFrame m #[(.ref a1), (.ref s1)] 2)) := fun t kont => castTop (ef_sIni0 m a1 s1 ) kont
  generalize s₁.setTop (entryFrame m #[(.ref a1), (.ref s1)] 2) = A0 at g0 ⊢
  have g101 : Go p e below s₁ (mkF m 4 #[rv a1, rv s1] [(.ref s1), (.int (0 : Int32)), (.ref s1), (.ref a1)]) A0 := by
    intro t kont
    refine g0 t ?_
    refine XS.aloadN X0.here hx rfl (hb hby d2_0) rfl rfl ?_
    refine XS.aloadN X0.here hx rfl (hb hby d2_1) rfl rfl ?_
    refine XS.iconst X0.here hx rfl (hb hby d2_2) ?_
    refine XS.aloadN X0.here hx rfl (hb hby d2_3) rfl rfl ?_
    exact kont
  have zz102 := A4_
  obtain ⟨cl102, Ar102, -, S102, M102, -, -⟩ := zz102
  have g103 : Go p e below s₁ (mkF m 5 #[rv a1, rv s1] [(.int (0 : Int32)), (.int (0 : Int32)), (.ref s1), (.ref a1)]) A0 := by
    intro t kont
    refine g101 t ?_
    refine X0.arraylength hx (by rw [e0]; exact Ar102.1) (State.isArrayOf_alike hZ.alike Ar102.2.1) (g := (mkF m 4 #[rv a1, rv s1] [(.ref s1), (.int (0 : Int32)), (.ref s1), (.ref a1)])) rfl rfl (hb hby d2_4) _ ?_
    rw [len_of S102 M102]
    exact kont
  have g104 : Go p e below s₁ (mkF m 6 #[rv a1, rv s1] [.null, (.int (0 : Int32)), (.int (0 : Int32)), (.ref s1), (.ref a1)]) A0 := by
    intro t kont
    refine g103 t ?_
    refine XS.aconstNull X0.here hx rfl (hb hby d2_5) ?_
    exact kont
  obtain ⟨_, _, ⟨T105, L105, k105, n105⟩, -, X105, hS105, hg105, ⟨Lc105, hQ105, l105, y105, z105, C105⟩, st105⟩ := X0.specialBackS hx (y := (⟨"java/lang/String", "<init>", "([CIILjava/lang/Void;)V"⟩ : MethodName)) rfl hown (mvT hZ (hw _ (List.mem_of_getElem? (i := 12) rfl))) (mvT hZ (hw _ (List.mem_of_getElem? (i := 13) rfl))) (mvT hZ (hw _ (List.mem_of_getElem? (i := 15) rfl))) (by decide) (backOfSH (W := 0) (rm_sin0 l Z a0 hw [] a1 s1 h0 n0 O0 F0_ F1_ E2_ G3_) hZ (hw _ (List.mem_of_getElem? (i := 15) rfl)) (hw _ (List.mem_of_getElem? (i := 8) rfl)) (by decide) (by decide) (own_EW hw) R0.1) (g := (mkF m 6 #[rv a1, rv s1] [.null, (.int (0 : Int32)), (.int (0 : Int32)), (.ref s1), (.ref a1)])) rfl (by rw [hml]; rfl) (Steps.refl _) (a := a1) (argsL := [(.ref s1), (.int (0 : Int32)), (.int (0 : Int32)), .null]) (rest := []) (lenOf pd_0 rfl) rfl (by show 2 * 0 + _ ≤ _; exact Nat.le_of_eq rfl) (hb hby d2_6) (fun _ _ => ⟨rfl, e0, (by decide : 0 + 4 ≤ _), (by decide : 0 + 8 ≤ _)⟩)
  dsimp only [Pt.U, Pt.locs, Pt.cells, Pt.slots] at X105 l105 y105 z105 st105 hQ105 hS105 hg105 C105
  subst l105 y105 z105
  obtain ⟨X105, hS, hZ, hown⟩ := rebS hS (n1 := s₁.heap.size) (by rw [e0]; exact hk) X105 hS105 hg105 hZ hown
  obtain ⟨r106, r107, rfl, M105, K105, y108, y109, y110, y111⟩ := hQ105
  have N105 := Fr.app N0 M105
  have R112 : CHr Z consts_1 s.vm h0 T105.vm T105.heap := R0.trans C105
  have O113 := O0.keep K105 (allS G3_ all0)
  have g114 : Go p e below T105 (mkF m 9 #[rv a1, rv s1] []) A0 := fun t kont => g104 t (st105.trans kont)
  have K115 : Keep h0 T105.heap [a1] := ((Keep.refl h0 [a1]).trans K105 (allS (P := fun x => x ∈ [a1] ∨ h0.size ≤ x) (Or.inl (List.mem_of_getElem? (i := 0) rfl)) all0))
  obtain ⟨fs, hr, hrun, hended, hRW⟩ := X105.leaveW hS (Nat.le_refl _) (v := none) (fun _ => rfl)
  refine ⟨_, _, g114 _ (X105.returnOut hx Bd.returns (hb hby d2_9) hr), hrun, hended, _, _, rfl, ?_, ?_, hRW.1, hRW.2.1, hRW.2.2.1, hRW.2.2.2.mono (by decide) (by decide)⟩
  ·
    show Q_sIni0 Z a1 s1 ks h0 n0 _ T105.heap _
    exact ⟨r106, r107, rfl, N105, K115, y108, y109, y110, y111⟩
  ·
    rw [hh]
    show CHr Z consts_1 s.vm h0 T105.vm T105.heap
    exact R112.trans (CHv.at X105 hZ (own_EW hw) R112.1)
theorem d8_0 : decode jdk_52_method_21_code 0 = .ok (.iconst 0, 1) := by decide +kernel
theorem d8_1 : decode jdk_52_method_21_code 1 = .ok (.istore 5, 2) := by decide +kernel
theorem d8_3 : decode jdk_52_method_21_code 3 = .ok (.iload 5, 2) := by decide +kernel
theorem d8_5 : decode jdk_52_method_21_code 5 = .ok (.iload 4, 2) := by decide +kernel
theorem d8_7 : decode jdk_52_method_21_code 7 = .ok (.if_icmp .ge 37, 3) := by decide +kernel
theorem d8_10 : decode jdk_52_method_21_code 10 = .ok (.aload_n 0, 1) := by decide +kernel
theorem d8_11 : decode jdk_52_method_21_code 11 = .ok (.iload_n 1, 1) := by decide +kernel
theorem d8_12 : decode jdk_52_method_21_code 12 = .ok (.caload, 1) := by decide +kernel
theorem d8_13 : decode jdk_52_method_21_code 13 = .ok (.istore 6, 2) := by decide +kernel
theorem d8_15 : decode jdk_52_method_21_code 15 = .ok (.iload 6, 2) := by decide +kernel
theorem d8_17 : decode jdk_52_method_21_code 17 = .ok (.sipush 255, 3) := by decide +kernel
theorem d8_20 : decode jdk_52_method_21_code 20 = .ok (.if_icmp .le 6, 3) := by decide +kernel
theorem d8_26 : decode jdk_52_method_21_code 26 = .ok (.aload_n 2, 1) := by decide +kernel
theorem d8_27 : decode jdk_52_method_21_code 27 = .ok (.iload_n 3, 1) := by decide +kernel
theorem d8_28 : decode jdk_52_method_21_code 28 = .ok (.iload 6, 2) := by decide +kernel
theorem d8_30 : decode jdk_52_method_21_code 30 = .ok (.i2b, 1) := by decide +kernel
theorem d8_31 : decode jdk_52_method_21_code 31 = .ok (.bastore, 1) := by decide +kernel
theorem d8_32 : decode jdk_52_method_21_code 32 = .ok (.iinc 1 1, 3) := by decide +kernel
theorem d8_35 : decode jdk_52_method_21_code 35 = .ok (.iinc 3 1, 3) := by decide +kernel
theorem d8_38 : decode jdk_52_method_21_code 38 = .ok (.iinc 5 1, 3) := by decide +kernel
theorem d8_41 : decode jdk_52_method_21_code 41 = .ok (.goto (-38), 3) := by decide +kernel
theorem d8_23 : decode jdk_52_method_21_code 23 = .ok (.iload 5, 2) := by decide +kernel
theorem d8_25 : decode jdk_52_method_21_code 25 = .ok (.ireturn, 1) := by decide +kernel
theorem d8_44 : decode jdk_52_method_21_code 44 = .ok (.iload 4, 2) := by decide +kernel
theorem d8_46 : decode jdk_52_method_21_code 46 = .ok (.ireturn, 1) := by decide +kernel
theorem pn_java_lang_StringUTF16 : plainName "java/lang/StringUTF16" = true := by first | (simp [plainName, overriddenIn]; done) | decide +kernel
theorem ef_cmpG (m : MethodId) (x0 : Addr) (x1 : Int32) (x2 : Addr) (x3 : Int32) (x4 : Int32)  : entryFrame m #[(.ref x0), (.int x1), (.ref x2), (.int x3), (.int x4)] 7 = mkF m 0 #[.val (.ref x0), .val (.int x1), .val (.ref x2), .val (.int x3), .val (.int x4), .unset, .unset] [] := by first | (simp [entryFrame, mkF, argsToLocals, Value.category]; done) | rfl
def Q_cmpG (Z : State) (s1 : Addr) (d1 : Addr) (ks : ClassId) (kd : ClassId) (ls : List Int32) (rn : Nat) (h0 : Heap) (n0 : Nat) (v : Option Value) (h : Heap) (L : List Loc) : Prop := v = some (.int (Int32.ofNat rn)) ∧ Fr n0 L ∧ Keep h0 h [d1] ∧ (Arv Z h d1 kd .byte (Int32.ofNat ls.length) (own_F ls rn) (.int (0 : Int32)))
set_option maxRecDepth 65536 in
set_option maxHeartbeats 40000000 in
theorem rm_cmpG (l : Launch) (Z : State) (a0 : Array Value) (hw : ∀ d ∈ tables_1, d.before a0 Z = true) (ws : List Jvm.Cond) (s1 : Addr) (d1 : Addr) (ks : ClassId) (kd : ClassId) (ls : List Int32) (rn : Nat) (h0 : Heap) (n0 : Nat) (O0 : Old Z n0 h0) (A0_ : Arv Z h0 s1 ks .char (Int32.ofNat ls.length) (ls.map Value.int) (.int (0 : Int32))) (A1_ : Arv Z h0 d1 kd .byte (Int32.ofNat ls.length) (List.replicate ls.length (.int (0 : Int32))) (.int (0 : Int32))) (G2_ : n0 ≤ d1) (NE3_ : ¬ (s1 = d1)) (hB : ls.length ≤ 3) (hr : rn ≤ ls.length) (hl : ∀ i, i < rn → ¬ ((255 : Int32) < ls.getD i 0)) (hwd : rn < ls.length → (255 : Int32) < ls.getD rn 0) :
    MetFree l (⟨"java/lang/StringUTF16", "compress", "([CI[BII)I"⟩ : MethodName) (head1 (Jvm.Cond.code (⟨"java/lang/StringUTF16", "compress", "([CI[BII)I"⟩ : MethodName) jdk_52_method_21_code 7 (some .int) :: ws) ({ frames := 0, cells := 0, slots := 0, locals := 0 } : Room)) (fun a U => a = #[(.ref s1), (.int (0 : Int32)), (.ref d1), (.int (0 : Int32)), (.int (Int32.ofNat ls.length))] ∧ Z.Warmed39 U.vm ∧ U.heap = h0) (fun _ _ _ _ _ => True) (fun _ U o U' => ∃ v L, o = .returned v ∧ Q_cmpG Z s1 d1 ks kd ls rn h0 n0 v U'.heap L ∧ FrameEnd U o U' L ({ frames := 0, cells := 0, slots := 0, locals := 0 } : Room).cells ({ frames := 0, cells := 0, slots := 0, locals := 0 } : Room).slots) := by
  refine MetFree.of_bodySF (plainFor_of_name pn_java_lang_StringUTF16) hisR ?_
  intro p e s m args below meth c s₁ Bd hml0 hP hK
  obtain ⟨rfl, hZ, hh⟩ := hP
  have hx := Bd.exec
  have hby := Bd.bytes
  have hml : c.maxLocals = 7 := hml0
  have hown : s.vm.findClass "java/lang/StringUTF16" = some m.cls := findClass_of_methodNamed Bd.named
  have hnm := (name_of_methodNamed Bd.named Bd.method).1
  have X0 : Stand p l e ({ frames := 0, cells := 0, slots := 0, locals := 0 } : Room) s m #[(.ref s1), (.int (0 : Int32)), (.ref d1), (.int (0 : Int32)), (.int (Int32.ofNat ls.length))] below meth c s₁ [] 0 0 := Stand.of_body Bd
  have e0 : s₁.heap = h0 := by rw [← hh, Bd.state]; rfl
  have N0 := Fr.nil n0
  have g0 : Go p e below s₁ (mkF m 0 #[rv s1, iv (0 : Int32), rv d1, iv (0 : Int32), iv (Int32.ofNat ls.length), .unset, .unset] []) (s₁.setTop (entryFrame m #[(.ref s1), (.int (0 : Int32)), (.ref d1), (.int (0 : Int32)), (.int (Int32.ofNat ls.length))] 7)) := fun t kont => castTop (ef_cmpG m s1 (0 : Int32) d1 (0 : Int32) (Int32.ofNat ls.length) ) kont
  generalize s₁.setTop (entryFrame m #[(.ref s1), (.int (0 : Int32)), (.ref d1), (.int (0 : Int32)), (.int (Int32.ofNat ls.length))] 7) = A0 at g0 ⊢
  have g101 : Go p e below s₁ (mkF m 3 #[rv s1, iv (0 : Int32), rv d1, iv (0 : Int32), iv (Int32.ofNat ls.length), iv (0 : Int32), .unset] []) A0 := by
    intro t kont
    refine g0 t ?_
    refine XS.iconst X0.here hx rfl (hb hby d8_0) ?_
    refine XS.istore X0.here hx rfl (hb hby d8_1) rfl (l' := #[rv s1, iv (0 : Int32), rv d1, iv (0 : Int32), iv (Int32.ofNat ls.length), iv (0 : Int32), .unset]) rfl ?_
    exact kont
  have loop102 : ∀ k : Nat, k ≤ rn → ∃ (T102 : State) (lc102 : List Loc) (h102 : Heap) (sl6 : Slot), Stand p l e ({ frames := 0, cells := 0, slots := 0, locals := 0 } : Room) s m #[(.ref s1), (.int (0 : Int32)), (.ref d1), (.int (0 : Int32)), (.int (Int32.ofNat ls.length))] below meth c T102 lc102 0 0 ∧ T102.heap = h102 ∧ Keep h0 h102 [d1] ∧ Fr n0 lc102 ∧ One sl6 ∧ (Arv Z h102 d1 kd .byte (Int32.ofNat ls.length) (own_F ls k) (.int (0 : Int32))) ∧ Go p e below T102 (mkF m 3 #[rv s1, iv (Int32.ofNat k), rv d1, iv (Int32.ofNat k), iv (Int32.ofNat ls.length), iv (Int32.ofNat k), sl6] []) A0 := by
    intro k
    induction k with
    | zero =>
      intro _
      exact ⟨_, _, _, .unset, X0, e0, (Keep.refl _ _), N0, One.u, (by rw [own_F0]; exact A1_), g101⟩
    | succ k ih =>
      intro hk_k
      obtain ⟨T103, lc103, h103, sl6, X103, e103, K103, N103, One_sl6, y104, g103⟩ := ih (Nat.le_of_succ_le hk_k)
      have O105 := O0.keep K103 (allS G2_ all0)
      have g106 : Go p e below T103 (mkF m 12 #[rv s1, iv (Int32.ofNat k), rv d1, iv (Int32.ofNat k), iv (Int32.ofNat ls.length), iv (Int32.ofNat k), sl6] [(.int (Int32.ofNat k)), (.ref s1)]) A0 := by
        intro t kont
        refine g103 t ?_
        refine XS.iload X103.here hx rfl (hb hby d8_3) rfl ?_
        refine XS.iload X103.here hx rfl (hb hby d8_5) rfl ?_
        refine XS.icmpNo X103.here hx rfl (hb hby d8_7) rfl (tlt (own_lt (by omega) (by omega) : (Int32.ofNat k) < (Int32.ofNat ls.length))).2.1 ?_
        refine XS.aloadN X103.here hx rfl (hb hby d8_10) rfl rfl ?_
        refine XS.iloadN X103.here hx rfl (hb hby d8_11) rfl ?_
        exact kont
      have y107 : Arv Z h103 s1 ks .char (Int32.ofNat ls.length) (ls.map Value.int) (.int (0 : Int32)) := (A0_.keep K103 (ninS NE3_ nin0))
      have zz108 := y107
      obtain ⟨cl108, Ar108, q108, S108, M108, H108, G108⟩ := zz108
      have in108 : ¬ ((Int32.ofNat k) < 0 ∨ cl108.slots.size ≤ ((Int32.ofNat k)).toNatClampNeg) := inb_of S108 ⟨own_nonneg (by omega), own_lt (by omega) (by omega)⟩
      have at108 : cl108.slots[((Int32.ofNat k)).toNatClampNeg]? = some (.int (ls.getD k 0)) := Has.at H108 in108 (by rw [own_clamp (by omega)]; exact own_getc ls k)
      have g109 : Go p e below T103 (mkF m 13 #[rv s1, iv (Int32.ofNat k), rv d1, iv (Int32.ofNat k), iv (Int32.ofNat ls.length), iv (Int32.ofNat k), sl6] [(.int (ls.getD k 0))]) A0 := fun t kont => g106 t (X103.caload hx (j := (Int32.ofNat k)) (v := (.int (ls.getD k 0))) (by rw [e103]; exact Ar108.1) (State.isArrayOf_alike hZ.alike Ar108.2.1) Ar108.2.2 in108 at108 (g := (mkF m 12 #[rv s1, iv (Int32.ofNat k), rv d1, iv (Int32.ofNat k), iv (Int32.ofNat ls.length), iv (Int32.ofNat k), sl6] [(.int (Int32.ofNat k)), (.ref s1)])) rfl rfl (hb hby d8_12) t kont)
      have g110 : Go p e below T103 (mkF m 31 #[rv s1, iv (Int32.ofNat k), rv d1, iv (Int32.ofNat k), iv (Int32.ofNat ls.length), iv (Int32.ofNat k), iv (ls.getD k 0)] [(.int ((ls.getD k 0).toInt8.toInt32)), (.int (Int32.ofNat k)), (.ref d1)]) A0 := by
        intro t kont
        refine g109 t ?_
        refine XS.istore X103.here hx rfl (hb hby d8_13) rfl (l' := #[rv s1, iv (Int32.ofNat k), rv d1, iv (Int32.ofNat k), iv (Int32.ofNat ls.length), iv (Int32.ofNat k), iv (ls.getD k 0)]) (XS.store1 (o := sl6) rfl One_sl6 rfl) ?_
        refine XS.iload X103.here hx rfl (hb hby d8_15) rfl ?_
        refine XS.sipush X103.here hx rfl (hb hby d8_17) ?_
        refine XS.icmpYes X103.here hx rfl (pc0 := 20) (pc' := 26) rfl (hb hby d8_20) rfl (flt (hl k (by omega) : ¬ ((255 : Int32) < (ls.getD k 0)))).2.2.2 (by decide) (by decide) ?_
        refine XS.aloadN X103.here hx rfl (hb hby d8_26) rfl rfl ?_
        refine XS.iloadN X103.here hx rfl (hb hby d8_27) rfl ?_
        refine XS.iload X103.here hx rfl (hb hby d8_28) rfl ?_
        refine XS.i2b X103.here hx rfl (hb hby d8_30) rfl ?_
        exact kont
      have zz111 := y104
      obtain ⟨cl111, Ar111, q111, S111, M111, H111, G111⟩ := zz111
      have in111 : ¬ ((Int32.ofNat k) < 0 ∨ cl111.slots.size ≤ ((Int32.ofNat k)).toNatClampNeg) := inb_of S111 ⟨own_nonneg (by omega), own_lt (by omega) (by omega)⟩
      obtain ⟨T111, h111, X111, e111, W111, st111⟩ := stB X103 hx hZ e103 Ar111 (j := (Int32.ofNat k)) in111 (g := (mkF m 31 #[rv s1, iv (Int32.ofNat k), rv d1, iv (Int32.ofNat k), iv (Int32.ofNat ls.length), iv (Int32.ofNat k), iv (ls.getD k 0)] [(.int ((ls.getD k 0).toInt8.toInt32)), (.int (Int32.ofNat k)), (.ref d1)])) rfl rfl (hb hby d8_31)
      rw [show nar .byte ((ls.getD k 0).toInt8.toInt32) = ((ls.getD k 0).toInt8.toInt32) from (own_narb _)] at W111
      have O112 := O105.wr W111 G2_
      have y113 : Arv Z h111 d1 kd .byte (Int32.ofNat ls.length) ((own_F ls k).set k (.int ((ls.getD k 0).toInt8.toInt32))) (.int (0 : Int32)) := Arv.set Ar111 q111 S111 M111 H111 G111 (own_ft_byte (z := ((ls.getD k 0).toInt8.toInt32)) (own_narb _)) W111 k (own_clamp (by omega)) (by rw [own_Flen (by omega)]; omega)
      have N111 := Fr.snoc X111 N103 G2_
      have g114 : Go p e below T111 (mkF m 32 #[rv s1, iv (Int32.ofNat k), rv d1, iv (Int32.ofNat k), iv (Int32.ofNat ls.length), iv (Int32.ofNat k), iv (ls.getD k 0)] []) A0 := fun t kont => g110 t (st111 t kont)
      have g115 : Go p e below T111 (mkF m 3 #[rv s1, iv ((Int32.ofNat k) + (1 : Int32)), rv d1, iv ((Int32.ofNat k) + (1 : Int32)), iv (Int32.ofNat ls.length), iv ((Int32.ofNat k) + (1 : Int32)), iv (ls.getD k 0)] []) A0 := by
        intro t kont
        refine g114 t ?_
        refine XS.iinc X111.here hx rfl (hb hby d8_32) rfl (l' := #[rv s1, iv ((Int32.ofNat k) + (1 : Int32)), rv d1, iv (Int32.ofNat k), iv (Int32.ofNat ls.length), iv (Int32.ofNat k), iv (ls.getD k 0)]) rfl ?_
        refine XS.iinc X111.here hx rfl (hb hby d8_35) rfl (l' := #[rv s1, iv ((Int32.ofNat k) + (1 : Int32)), rv d1, iv ((Int32.ofNat k) + (1 : Int32)), iv (Int32.ofNat ls.length), iv (Int32.ofNat k), iv (ls.getD k 0)]) rfl ?_
        refine XS.iinc X111.here hx rfl (hb hby d8_38) rfl (l' := #[rv s1, iv ((Int32.ofNat k) + (1 : Int32)), rv d1, iv ((Int32.ofNat k) + (1 : Int32)), iv (Int32.ofNat ls.length), iv ((Int32.ofNat k) + (1 : Int32)), iv (ls.getD k 0)]) rfl ?_
        refine XS.goto X111.here hx rfl (pc0 := 41) (pc' := 3) rfl (hb hby d8_41) (by decide) (by decide) ?_
        exact kont
      have g116 : Go p e below T111 (mkF m 3 #[rv s1, iv (Int32.ofNat (k + 1)), rv d1, iv (Int32.ofNat (k + 1)), iv (Int32.ofNat ls.length), iv (Int32.ofNat (k + 1)), iv (ls.getD k 0)] []) A0 := by rw [← own_succ k]; exact g115
      exact ⟨_, _, _, (iv (ls.getD k 0)), X111, e111, (((Keep.refl h0 [d1]).trans K103 (allS (P := fun x => x ∈ [d1] ∨ h0.size ≤ x) (Or.inl (List.mem_of_getElem? (i := 0) rfl)) all0)).wr W111 (Or.inl (List.mem_of_getElem? (i := 0) rfl))), N111, (One.val rfl), (by rw [← own_FS (show k < ls.length by omega)]; exact y113), g116⟩
  obtain ⟨T117, lc117, h117, sl6, X117, e117, K117, N117, One_sl6, y118, g117⟩ := loop102 rn (Nat.le_refl _)
  have O119 := O0.keep K117 (allS G2_ all0)
  by_cases c120 : rn < ls.length
  ·
    have g121 : Go p e below T117 (mkF m 12 #[rv s1, iv (Int32.ofNat rn), rv d1, iv (Int32.ofNat rn), iv (Int32.ofNat ls.length), iv (Int32.ofNat rn), sl6] [(.int (Int32.ofNat rn)), (.ref s1)]) A0 := by
      intro t kont
      refine g117 t ?_
      refine XS.iload X117.here hx rfl (hb hby d8_3) rfl ?_
      refine XS.iload X117.here hx rfl (hb hby d8_5) rfl ?_
      refine XS.icmpNo X117.here hx rfl (hb hby d8_7) rfl (tlt (own_lt (by omega) (by omega) : (Int32.ofNat rn) < (Int32.ofNat ls.length))).2.1 ?_
      refine XS.aloadN X117.here hx rfl (hb hby d8_10) rfl rfl ?_
      refine XS.iloadN X117.here hx rfl (hb hby d8_11) rfl ?_
      exact kont
    have y122 : Arv Z h117 s1 ks .char (Int32.ofNat ls.length) (ls.map Value.int) (.int (0 : Int32)) := (A0_.keep K117 (ninS NE3_ nin0))
    have zz123 := y122
    obtain ⟨cl123, Ar123, q123, S123, M123, H123, G123⟩ := zz123
    have in123 : ¬ ((Int32.ofNat rn) < 0 ∨ cl123.slots.size ≤ ((Int32.ofNat rn)).toNatClampNeg) := inb_of S123 ⟨own_nonneg (by omega), own_lt (by omega) (by omega)⟩
    have at123 : cl123.slots[((Int32.ofNat rn)).toNatClampNeg]? = some (.int (ls.getD rn 0)) := Has.at H123 in123 (by rw [own_clamp (by omega)]; exact own_getc ls rn)
    have g124 : Go p e below T117 (mkF m 13 #[rv s1, iv (Int32.ofNat rn), rv d1, iv (Int32.ofNat rn), iv (Int32.ofNat ls.length), iv (Int32.ofNat rn), sl6] [(.int (ls.getD rn 0))]) A0 := fun t kont => g121 t (X117.caload hx (j := (Int32.ofNat rn)) (v := (.int (ls.getD rn 0))) (by rw [e117]; exact Ar123.1) (State.isArrayOf_alike hZ.alike Ar123.2.1) Ar123.2.2 in123 at123 (g := (mkF m 12 #[rv s1, iv (Int32.ofNat rn), rv d1, iv (Int32.ofNat rn), iv (Int32.ofNat ls.length), iv (Int32.ofNat rn), sl6] [(.int (Int32.ofNat rn)), (.ref s1)])) rfl rfl (hb hby d8_12) t kont)
    have g125 : Go p e below T117 (mkF m 25 #[rv s1, iv (Int32.ofNat rn), rv d1, iv (Int32.ofNat rn), iv (Int32.ofNat ls.length), iv (Int32.ofNat rn), iv (ls.getD rn 0)] [(.int (Int32.ofNat rn))]) A0 := by
      intro t kont
      refine g124 t ?_
      refine XS.istore X117.here hx rfl (hb hby d8_13) rfl (l' := #[rv s1, iv (Int32.ofNat rn), rv d1, iv (Int32.ofNat rn), iv (Int32.ofNat ls.length), iv (Int32.ofNat rn), iv (ls.getD rn 0)]) (XS.store1 (o := sl6) rfl One_sl6 rfl) ?_
      refine XS.iload X117.here hx rfl (hb hby d8_15) rfl ?_
      refine XS.sipush X117.here hx rfl (hb hby d8_17) ?_
      refine XS.icmpNo X117.here hx rfl (hb hby d8_20) rfl (tlt (hwd c120 : (255 : Int32) < (ls.getD rn 0))).2.2.2 ?_
      refine XS.iload X117.here hx rfl (hb hby d8_23) rfl ?_
      exact kont
    have K126 : Keep h0 h117 [d1] := ((Keep.refl h0 [d1]).trans K117 (allS (P := fun x => x ∈ [d1] ∨ h0.size ≤ x) (Or.inl (List.mem_of_getElem? (i := 0) rfl)) all0))
    obtain ⟨fs, hr, hrun, hended, hW, hsame⟩ := X117.leave (v := some (.int (Int32.ofNat rn))) (fun h => by rw [Bd.returns] at h; cases h)
    refine ⟨_, _, g125 _ (retI X117 hx Bd.returns (hb hby d8_25) hr), hrun, hended, _, _, rfl, ?_, ⟨_, rfl⟩, hW, hsame.mono (by decide) (by decide)⟩
    show Q_cmpG Z s1 d1 ks kd ls rn h0 n0 _ T117.heap _
    rw [e117]
    exact ⟨rfl, N117, K126, y118⟩
  have g127 : Go p e below T117 (mkF m 46 #[rv s1, iv (Int32.ofNat rn), rv d1, iv (Int32.ofNat rn), iv (Int32.ofNat ls.length), iv (Int32.ofNat rn), sl6] [(.int (Int32.ofNat ls.length))]) A0 := by
    intro t kont
    refine g117 t ?_
    refine XS.iload X117.here hx rfl (hb hby d8_3) rfl ?_
    refine XS.iload X117.here hx rfl (hb hby d8_5) rfl ?_
    refine XS.icmpYes X117.here hx rfl (pc0 := 7) (pc' := 44) rfl (hb hby d8_7) rfl (flt (own_nlt (by omega) (by omega) : ¬ ((Int32.ofNat rn) < (Int32.ofNat ls.length)))).2.1 (by decide) (by decide) ?_
    refine XS.iload X117.here hx rfl (hb hby d8_44) rfl ?_
    exact kont
  have K128 : Keep h0 h117 [d1] := ((Keep.refl h0 [d1]).trans K117 (allS (P := fun x => x ∈ [d1] ∨ h0.size ≤ x) (Or.inl (List.mem_of_getElem? (i := 0) rfl)) all0))
  obtain ⟨fs, hr, hrun, hended, hW, hsame⟩ := X117.leave (v := some (.int (Int32.ofNat ls.length))) (fun h => by rw [Bd.returns] at h; cases h)
  refine ⟨_, _, g127 _ (retI X117 hx Bd.returns (hb hby d8_46) hr), hrun, hended, _, _, rfl, ?_, ⟨_, rfl⟩, hW, hsame.mono (by decide) (by decide)⟩
  show Q_cmpG Z s1 d1 ks kd ls rn h0 n0 _ T117.heap _
  rw [e117]
  exact ⟨congrArg (fun z => some (Value.int z)) (congrArg Int32.ofNat (show ls.length = rn by omega)), N117, K128, y118⟩
theorem d27_0 : decode jdk_52_method_3_code 0 = .ok (.iload_n 0, 1) := by decide +kernel
theorem d27_1 : decode jdk_52_method_3_code 1 = .ok (.ifCond .ge 11, 3) := by decide +kernel
theorem d27_12 : decode jdk_52_method_3_code 12 = .ok (.iload_n 0, 1) := by decide +kernel
theorem d27_13 : decode jdk_52_method_3_code 13 = .ok (.ldc 20, 2) := by decide +kernel
theorem d27_15 : decode jdk_52_method_3_code 15 = .ok (.if_icmp .lt 40, 3) := by decide +kernel
theorem d27_55 : decode jdk_52_method_3_code 55 = .ok (.iload_n 0, 1) := by decide +kernel
theorem d27_56 : decode jdk_52_method_3_code 56 = .ok (.iconst 1, 1) := by decide +kernel
theorem d27_57 : decode jdk_52_method_3_code 57 = .ok (.ishl, 1) := by decide +kernel
theorem d27_58 : decode jdk_52_method_3_code 58 = .ok (.ireturn, 1) := by decide +kernel
theorem ef_nblG (m : MethodId) (x0 : Int32)  : entryFrame m #[(.int x0)] 1 = mkF m 0 #[.val (.int x0)] [] := by first | (simp [entryFrame, mkF, argsToLocals, Value.category]; done) | rfl
def Q_nblG (Z : State) (ls : List Int32) (h0 : Heap) (n0 : Nat) (v : Option Value) (h : Heap) (L : List Loc) : Prop := v = some (.int (Int32.ofNat (2 * ls.length))) ∧ Fr n0 L ∧ h = h0
set_option maxRecDepth 65536 in
set_option maxHeartbeats 40000000 in
theorem rm_nblG (l : Launch) (Z : State) (a0 : Array Value) (hw : ∀ d ∈ tables_1, d.before a0 Z = true) (ws : List Jvm.Cond) (ls : List Int32) (h0 : Heap) (n0 : Nat) (O0 : Old Z n0 h0) (hB : ls.length ≤ 3) :
    MetFree l (⟨"java/lang/StringUTF16", "newBytesLength", "(I)I"⟩ : MethodName) (head1 (Jvm.Cond.code (⟨"java/lang/StringUTF16", "newBytesLength", "(I)I"⟩ : MethodName) jdk_52_method_3_code 1 (some .int) :: ws) ({ frames := 0, cells := 0, slots := 0, locals := 0 } : Room)) (fun a U => a = #[(.int (Int32.ofNat ls.length))] ∧ Z.Warmed39 U.vm ∧ U.heap = h0) (fun _ _ _ _ _ => True) (fun _ U o U' => ∃ v L, o = .returned v ∧ Q_nblG Z ls h0 n0 v U'.heap L ∧ FrameEnd U o U' L ({ frames := 0, cells := 0, slots := 0, locals := 0 } : Room).cells ({ frames := 0, cells := 0, slots := 0, locals := 0 } : Room).slots) := by
  refine MetFree.of_bodySF (plainFor_of_name pn_java_lang_StringUTF16) hisR ?_
  intro p e s m args below meth c s₁ Bd hml0 hP hK
  obtain ⟨rfl, hZ, hh⟩ := hP
  have hx := Bd.exec
  have hby := Bd.bytes
  have hml : c.maxLocals = 1 := hml0
  have hown : s.vm.findClass "java/lang/StringUTF16" = some m.cls := findClass_of_methodNamed Bd.named
  have hnm := (name_of_methodNamed Bd.named Bd.method).1
  have X0 : Stand p l e ({ frames := 0, cells := 0, slots := 0, locals := 0 } : Room) s m #[(.int (Int32.ofNat ls.length))] below meth c s₁ [] 0 0 := Stand.of_body Bd
  have e0 : s₁.heap = h0 := by rw [← hh, Bd.state]; rfl
  have N0 := Fr.nil n0
  have g0 : Go p e below s₁ (mkF m 0 #[iv (Int32.ofNat ls.length)] []) (s₁.setTop (entryFrame m #[(.int (Int32.ofNat ls.length))] 1)) := fun t kont => castTop (ef_nblG m (Int32.ofNat ls.length) ) kont
  generalize s₁.setTop (entryFrame m #[(.int (Int32.ofNat ls.length))] 1) = A0 at g0 ⊢
  have g101 : Go p e below s₁ (mkF m 58 #[iv (Int32.ofNat ls.length)] [(.int ((Int32.ofNat ls.length) <<< ((1 : Int32) &&& 31)))]) A0 := by
    intro t kont
    refine g0 t ?_
    refine XS.iloadN X0.here hx rfl (hb hby d27_0) rfl ?_
    refine XS.ifYes X0.here hx rfl (pc0 := 1) (pc' := 12) rfl (hb hby d27_1) rfl ((if0 _ _).trans (flt (own_nonneg (by omega) : ¬ ((Int32.ofNat ls.length) < (0 : Int32)))).2.1) (by decide) (by decide) ?_
    refine XS.iloadN X0.here hx rfl (hb hby d27_12) rfl ?_
    refine X0.ldcInt hx hown (mvT hZ (hw _ (List.mem_of_getElem? (i := 119) rfl))) (g := (mkF m 13 #[iv (Int32.ofNat ls.length)] [(.int (Int32.ofNat ls.length))])) rfl (hb hby d27_13) _ ?_
    refine XS.icmpYes X0.here hx rfl (pc0 := 15) (pc' := 55) rfl (hb hby d27_15) rfl (tlt (own_lt (b := 1073741823) (by omega) (by omega) : (Int32.ofNat ls.length) < (1073741823 : Int32))).1 (by decide) (by decide) ?_
    refine XS.iloadN X0.here hx rfl (hb hby d27_55) rfl ?_
    refine XS.iconst X0.here hx rfl (hb hby d27_56) ?_
    refine XS.ishl X0.here hx rfl (hb hby d27_57) rfl ?_
    exact kont
  obtain ⟨fs, hr, hrun, hended, hW, hsame⟩ := X0.leave (v := some (.int ((Int32.ofNat ls.length) <<< ((1 : Int32) &&& 31)))) (fun h => by rw [Bd.returns] at h; cases h)
  refine ⟨_, _, g101 _ (retI X0 hx Bd.returns (hb hby d27_58) hr), hrun, hended, _, _, rfl, ?_, ⟨_, rfl⟩, hW, hsame.mono (by decide) (by decide)⟩
  show Q_nblG Z ls h0 n0 _ s₁.heap _
  rw [e0]
  exact ⟨congrArg (fun z => some (Value.int z)) (own_dbl (by omega)), N0, rfl⟩
theorem d26_0 : decode jdk_52_method_2_code 0 = .ok (.iload_n 0, 1) := by decide +kernel
theorem d26_1 : decode jdk_52_method_2_code 1 = .ok (.invokestatic 11, 3) := by decide +kernel
theorem pd_1 : parseMethodDescriptor "(I)I" = some ⟨[.int], some .int⟩ := by decide +kernel
theorem d26_4 : decode jdk_52_method_2_code 4 = .ok (.newarray .byte, 2) := by decide +kernel
theorem d26_6 : decode jdk_52_method_2_code 6 = .ok (.areturn, 1) := by decide +kernel
theorem ef_nbfG (m : MethodId) (x0 : Int32)  : entryFrame m #[(.int x0)] 1 = mkF m 0 #[.val (.int x0)] [] := by first | (simp [entryFrame, mkF, argsToLocals, Value.category]; done) | rfl
def Q_nbfG (Z : State) (ls : List Int32) (h0 : Heap) (n0 : Nat) (v : Option Value) (h : Heap) (L : List Loc) : Prop := ∃ (r : Addr), ∃ (kid : ClassId), v = some (.ref r) ∧ Fr n0 L ∧ Keep h0 h [] ∧ h0.size ≤ r ∧ (Exa Z h r "[B") ∧ (Arv Z h r kid .byte (Int32.ofNat (2 * ls.length)) (List.replicate (2 * ls.length) (.int (0 : Int32))) (.int (0 : Int32)))
set_option maxRecDepth 65536 in
set_option maxHeartbeats 40000000 in
theorem rm_nbfG (l : Launch) (Z : State) (a0 : Array Value) (hw : ∀ d ∈ tables_1, d.before a0 Z = true) (ws : List Jvm.Cond) (ls : List Int32) (h0 : Heap) (n0 : Nat) (O0 : Old Z n0 h0) (hB : ls.length ≤ 3) :
    MetFree l (⟨"java/lang/StringUTF16", "newBytesFor", "(I)[B"⟩ : MethodName) (head1 (Jvm.Cond.code (⟨"java/lang/StringUTF16", "newBytesFor", "(I)[B"⟩ : MethodName) jdk_52_method_2_code 1 (some (.array .byte)) :: ws) ({ frames := 1, cells := 1, slots := 6, locals := 12 } : Room)) (fun a U => a = #[(.int (Int32.ofNat ls.length))] ∧ Z.Warmed39 U.vm ∧ U.heap = h0) (fun _ _ _ _ _ => True) (fun _ U o U' => ∃ v L, o = .returned v ∧ Q_nbfG Z ls h0 n0 v U'.heap L ∧ FrameEnd U o U' L ({ frames := 1, cells := 1, slots := 6, locals := 12 } : Room).cells ({ frames := 1, cells := 1, slots := 6, locals := 12 } : Room).slots) := by
  refine MetFree.of_bodySF (plainFor_of_name pn_java_lang_StringUTF16) hisR ?_
  intro p e s m args below meth c s₁ Bd hml0 hP hK
  obtain ⟨rfl, hZ, hh⟩ := hP
  have hx := Bd.exec
  have hby := Bd.bytes
  have hml : c.maxLocals = 1 := hml0
  have hown : s.vm.findClass "java/lang/StringUTF16" = some m.cls := findClass_of_methodNamed Bd.named
  have hnm := (name_of_methodNamed Bd.named Bd.method).1
  have X0 : Stand p l e ({ frames := 1, cells := 1, slots := 6, locals := 12 } : Room) s m #[(.int (Int32.ofNat ls.length))] below meth c s₁ [] 0 0 := Stand.of_body Bd
  have e0 : s₁.heap = h0 := by rw [← hh, Bd.state]; rfl
  have N0 := Fr.nil n0
  have g0 : Go p e below s₁ (mkF m 0 #[iv (Int32.ofNat ls.length)] []) (s₁.setTop (entryFrame m #[(.int (Int32.ofNat ls.length))] 1)) := fun t kont => castTop (ef_nbfG m (Int32.ofNat ls.length) ) kont
  generalize s₁.setTop (entryFrame m #[(.int (Int32.ofNat ls.length))] 1) = A0 at g0 ⊢
  have g101 : Go p e below s₁ (mkF m 1 #[iv (Int32.ofNat ls.length)] [(.int (Int32.ofNat ls.length))]) A0 := by
    intro t kont
    refine g0 t ?_
    refine XS.iloadN X0.here hx rfl (hb hby d26_0) rfl ?_
    exact kont
  obtain ⟨_, _, ⟨T102, L102, k102, n102⟩, -, X102, ⟨Lc102, hQ102, l102, y102, z102⟩, st102⟩ := Jvm.LawKit.callS X0 hx (y := (⟨"java/lang/StringUTF16", "newBytesLength", "(I)I"⟩ : MethodName)) hown (mvT hZ (hw _ (List.mem_of_getElem? (i := 116) rfl))) (mvT hZ (hw _ (List.mem_of_getElem? (i := 117) rfl))) (mvT hZ (hw _ (List.mem_of_getElem? (i := 39) rfl))) (mvT hZ (hw _ (List.mem_of_getElem? (i := 118) rfl))) (by decide) (backOf (W := 0) (rm_nblG l Z a0 hw [] ls h0 n0 O0 hB) hZ (hw _ (List.mem_of_getElem? (i := 118) rfl)) (hw _ (List.mem_of_getElem? (i := 39) rfl)) (by decide) (by decide)) (g := (mkF m 1 #[iv (Int32.ofNat ls.length)] [(.int (Int32.ofNat ls.length))])) rfl (by rw [hml]; rfl) (argsL := [(.int (Int32.ofNat ls.length))]) (rest := []) (lenOf pd_1 rfl) rfl (by show 2 * 0 + _ ≤ _; exact Nat.le_of_eq rfl) (hb hby d26_1) (fun _ _ => ⟨rfl, e0, (by decide : 0 + 0 ≤ _), (by decide : 0 + 0 ≤ _)⟩)
  dsimp only [Pt.U, Pt.locs, Pt.cells, Pt.slots] at X102 l102 y102 z102 st102 hQ102
  subst l102 y102 z102
  obtain ⟨rfl, M102, e102⟩ := hQ102
  have N102 := Fr.app N0 M102
  have g103 : Go p e below T102 (mkF m 4 #[iv (Int32.ofNat ls.length)] [(.int (Int32.ofNat (2 * ls.length)))]) A0 := fun t kont => g101 t (st102 t kont)
  obtain ⟨T104, h104, k104, X104, e104, E104, A104, F104, st104⟩ := newPE X102 hx hZ (hw _ (List.mem_of_getElem? (i := 20) rfl)) e102 (g := (mkF m 4 #[iv (Int32.ofNat ls.length)] [(.int (Int32.ofNat (2 * ls.length)))])) rfl (hb hby d26_4) rfl (own_nonneg (by omega)) (cap := 6) (by rw [own_clamp (by omega)]; omega) (by decide) (by decide) (by decide) (ad := "[B") (by decide)
  obtain ⟨b104, gb104⟩ : ∃ z, z = h0.size := ⟨_, rfl⟩
  rw [← gb104] at A104 F104 st104
  have O105 := O0.ext E104
  have y106 : Arv Z h104 b104 k104 .byte (Int32.ofNat (2 * ls.length)) (List.replicate (2 * ls.length) (.int (0 : Int32))) (.int (0 : Int32)) := (Arv.new A104 (own_nonneg (by omega))).pad (pad_rep [] (.int (0 : Int32)) (2 * ls.length))
  have g107 : Go p e below T104 (mkF m 6 #[iv (Int32.ofNat ls.length)] [(.ref b104)]) A0 := fun t kont => g103 t (st104 t kont)
  have K108 : Keep h0 h104 [] := ((Keep.refl h0 []).ext E104)
  obtain ⟨fs, hr, hrun, hended, hW, hsame⟩ := X104.leave (v := some (.ref b104)) (fun h => by rw [Bd.returns] at h; cases h)
  refine ⟨_, _, g107 _ (retOut X104 hx Bd.returns rfl (Or.inr (Or.inr (Or.inr (Or.inr ⟨rfl, rfl, rfl⟩)))) (hb hby d26_6) hr), hrun, hended, _, _, rfl, ?_, ⟨_, rfl⟩, hW, hsame.mono (by decide) (by decide)⟩
  show Q_nbfG Z ls h0 n0 _ T104.heap _
  rw [e104]
  exact ⟨b104, k104, rfl, N102, K108, (Nat.le_of_eq gb104.symm), F104, y106⟩
theorem d28_0 : decode jdk_52_method_4_code 0 = .ok (.getstatic 44, 3) := by decide +kernel
theorem d28_3 : decode jdk_52_method_4_code 3 = .ok (.ifCond .ne 25, 3) := by decide +kernel
theorem d28_28 : decode jdk_52_method_4_code 28 = .ok (.iload_n 1, 1) := by decide +kernel
theorem d28_29 : decode jdk_52_method_4_code 29 = .ok (.iconst 1, 1) := by decide +kernel
theorem d28_30 : decode jdk_52_method_4_code 30 = .ok (.ishl, 1) := by decide +kernel
theorem d28_31 : decode jdk_52_method_4_code 31 = .ok (.istore_n 1, 1) := by decide +kernel
theorem d28_32 : decode jdk_52_method_4_code 32 = .ok (.aload_n 0, 1) := by decide +kernel
theorem d28_33 : decode jdk_52_method_4_code 33 = .ok (.iload_n 1, 1) := by decide +kernel
theorem d28_34 : decode jdk_52_method_4_code 34 = .ok (.iinc 1 1, 3) := by decide +kernel
theorem d28_37 : decode jdk_52_method_4_code 37 = .ok (.iload_n 2, 1) := by decide +kernel
theorem d28_38 : decode jdk_52_method_4_code 38 = .ok (.getstatic 59, 3) := by decide +kernel
theorem d28_41 : decode jdk_52_method_4_code 41 = .ok (.ishr, 1) := by decide +kernel
theorem d28_42 : decode jdk_52_method_4_code 42 = .ok (.i2b, 1) := by decide +kernel
theorem d28_43 : decode jdk_52_method_4_code 43 = .ok (.bastore, 1) := by decide +kernel
theorem d28_44 : decode jdk_52_method_4_code 44 = .ok (.aload_n 0, 1) := by decide +kernel
theorem d28_45 : decode jdk_52_method_4_code 45 = .ok (.iload_n 1, 1) := by decide +kernel
theorem d28_46 : decode jdk_52_method_4_code 46 = .ok (.iload_n 2, 1) := by decide +kernel
theorem d28_47 : decode jdk_52_method_4_code 47 = .ok (.getstatic 63, 3) := by decide +kernel
theorem d28_50 : decode jdk_52_method_4_code 50 = .ok (.ishr, 1) := by decide +kernel
theorem d28_51 : decode jdk_52_method_4_code 51 = .ok (.i2b, 1) := by decide +kernel
theorem d28_52 : decode jdk_52_method_4_code 52 = .ok (.bastore, 1) := by decide +kernel
theorem d28_53 : decode jdk_52_method_4_code 53 = .ok (.return_, 1) := by decide +kernel
theorem ef_putG (m : MethodId) (x0 : Addr) (x1 : Int32) (x2 : Int32)  : entryFrame m #[(.ref x0), (.int x1), (.int x2)] 3 = mkF m 0 #[.val (.ref x0), .val (.int x1), .val (.int x2)] [] := by first | (simp [entryFrame, mkF, argsToLocals, Value.category]; done) | rfl
def Q_putG (Z : State) (v1 : Addr) (i1 : Nat) (ch : Int32) (kv : ClassId) (z1 : Int32) (vs : List Value) (h0 : Heap) (n0 : Nat) (v : Option Value) (h : Heap) (L : List Loc) : Prop := v = none ∧ Fr n0 L ∧ Keep h0 h [v1] ∧ (Arv Z h v1 kv .byte z1 ((vs.set (2 * i1) (.int ((ch >>> ((0 : Int32) &&& 31)).toInt8.toInt32))).set (2 * i1 + 1) (.int ((ch >>> ((8 : Int32) &&& 31)).toInt8.toInt32))) (.int (0 : Int32)))
set_option maxRecDepth 65536 in
set_option maxHeartbeats 40000000 in
theorem rm_putG (l : Launch) (Z : State) (a0 : Array Value) (hw : ∀ d ∈ tables_1, d.before a0 Z = true) (ws : List Jvm.Cond) (v1 : Addr) (i1 : Nat) (ch : Int32) (kv : ClassId) (z1 : Int32) (vs : List Value) (h0 : Heap) (n0 : Nat) (O0 : Old Z n0 h0) (A0_ : Arv Z h0 v1 kv .byte z1 vs (.int (0 : Int32))) (G1_ : n0 ≤ v1) (hin : 2 * i1 + 1 < vs.length) (hz : z1 = Int32.ofNat vs.length) (hvl : vs.length ≤ 6) (S5_ : Sta Z Z.heap "java/lang/StringUTF16" "$assertionsDisabled" "Z" (.int (1 : Int32))) (S6_ : Sta Z Z.heap "java/lang/StringUTF16" "HI_BYTE_SHIFT" "I" (.int (0 : Int32))) (S7_ : Sta Z Z.heap "java/lang/StringUTF16" "LO_BYTE_SHIFT" "I" (.int (8 : Int32))) :
    MetFree l (⟨"java/lang/StringUTF16", "putChar", "([BII)V"⟩ : MethodName) (head1 (Jvm.Cond.code (⟨"java/lang/StringUTF16", "putChar", "([BII)V"⟩ : MethodName) jdk_52_method_4_code 3 none :: ws) ({ frames := 0, cells := 0, slots := 0, locals := 0 } : Room)) (fun a U => a = #[(.ref v1), (.int (Int32.ofNat i1)), (.int ch)] ∧ Z.Warmed39 U.vm ∧ U.heap = h0) (fun _ _ _ _ _ => True) (fun _ U o U' => ∃ v L, o = .returned v ∧ Q_putG Z v1 i1 ch kv z1 vs h0 n0 v U'.heap L ∧ FrameEnd U o U' L ({ frames := 0, cells := 0, slots := 0, locals := 0 } : Room).cells ({ frames := 0, cells := 0, slots := 0, locals := 0 } : Room).slots) := by
  refine MetFree.of_bodySF (plainFor_of_name pn_java_lang_StringUTF16) hisR ?_
  intro p e s m args below meth c s₁ Bd hml0 hP hK
  obtain ⟨rfl, hZ, hh⟩ := hP
  have hx := Bd.exec
  have hby := Bd.bytes
  have hml : c.maxLocals = 3 := hml0
  have hown : s.vm.findClass "java/lang/StringUTF16" = some m.cls := findClass_of_methodNamed Bd.named
  have hnm := (name_of_methodNamed Bd.named Bd.method).1
  have X0 : Stand p l e ({ frames := 0, cells := 0, slots := 0, locals := 0 } : Room) s m #[(.ref v1), (.int (Int32.ofNat i1)), (.int ch)] below meth c s₁ [] 0 0 := Stand.of_body Bd
  have e0 : s₁.heap = h0 := by rw [← hh, Bd.state]; rfl
  have N0 := Fr.nil n0
  have g0 : Go p e below s₁ (mkF m 0 #[rv v1, iv (Int32.ofNat i1), iv ch] []) (s₁.setTop (entryFrame m #[(.ref v1), (.int (Int32.ofNat i1)), (.int ch)] 3)) := fun t kont => castTop (ef_putG m v1 (Int32.ofNat i1) ch ) kont
  generalize s₁.setTop (entryFrame m #[(.ref v1), (.int (Int32.ofNat i1)), (.int ch)] 3) = A0 at g0 ⊢
  have y101 : Sta Z h0 "java/lang/StringUTF16" "$assertionsDisabled" "Z" (.int (1 : Int32)) := S5_.ext O0.2
  obtain ⟨T102, X102, e102, st102⟩ := getS2 X0 hx hZ hown (host := "") (Or.inl (hw _ (List.mem_of_getElem? (i := 123) rfl))) Via.refl e0 y101 (g := (mkF m 0 #[rv v1, iv (Int32.ofNat i1), iv ch] [])) rfl (hb hby d28_0)
  have g103 : Go p e below T102 (mkF m 3 #[rv v1, iv (Int32.ofNat i1), iv ch] [(.int (1 : Int32))]) A0 := fun t kont => g0 t (st102 t kont)
  have g104 : Go p e below T102 (mkF m 31 #[rv v1, iv (Int32.ofNat i1), iv ch] [(.int ((Int32.ofNat i1) <<< ((1 : Int32) &&& 31)))]) A0 := by
    intro t kont
    refine g103 t ?_
    refine XS.ifYes X102.here hx rfl (pc0 := 3) (pc' := 28) rfl (hb hby d28_3) rfl ((if0 _ _).trans (feq (by decide : ¬ ((1 : Int32) = (0 : Int32)))).2) (by decide) (by decide) ?_
    refine XS.iloadN X102.here hx rfl (hb hby d28_28) rfl ?_
    refine XS.iconst X102.here hx rfl (hb hby d28_29) ?_
    refine XS.ishl X102.here hx rfl (hb hby d28_30) rfl ?_
    exact kont
  have g105 : Go p e below T102 (mkF m 31 #[rv v1, iv (Int32.ofNat i1), iv ch] [(.int (Int32.ofNat (2 * i1)))]) A0 := by rw [← own_dbl (n := i1) (by omega)]; exact g104
  have g106 : Go p e below T102 (mkF m 38 #[rv v1, iv ((Int32.ofNat (2 * i1)) + (1 : Int32)), iv ch] [(.int ch), (.int (Int32.ofNat (2 * i1))), (.ref v1)]) A0 := by
    intro t kont
    refine g105 t ?_
    refine XS.istoreN X102.here hx rfl (hb hby d28_31) rfl (l' := #[rv v1, iv (Int32.ofNat (2 * i1)), iv ch]) rfl ?_
    refine XS.aloadN X102.here hx rfl (hb hby d28_32) rfl rfl ?_
    refine XS.iloadN X102.here hx rfl (hb hby d28_33) rfl ?_
    refine XS.iinc X102.here hx rfl (hb hby d28_34) rfl (l' := #[rv v1, iv ((Int32.ofNat (2 * i1)) + (1 : Int32)), iv ch]) rfl ?_
    refine XS.iloadN X102.here hx rfl (hb hby d28_37) rfl ?_
    exact kont
  have y107 : Sta Z h0 "java/lang/StringUTF16" "HI_BYTE_SHIFT" "I" (.int (0 : Int32)) := S6_.ext O0.2
  obtain ⟨T108, X108, e108, st108⟩ := getS2 X102 hx hZ hown (host := "") (Or.inl (hw _ (List.mem_of_getElem? (i := 124) rfl))) Via.refl e102 y107 (g := (mkF m 38 #[rv v1, iv ((Int32.ofNat (2 * i1)) + (1 : Int32)), iv ch] [(.int ch), (.int (Int32.ofNat (2 * i1))), (.ref v1)])) rfl (hb hby d28_38)
  have g109 : Go p e below T108 (mkF m 41 #[rv v1, iv ((Int32.ofNat (2 * i1)) + (1 : Int32)), iv ch] [(.int (0 : Int32)), (.int ch), (.int (Int32.ofNat (2 * i1))), (.ref v1)]) A0 := fun t kont => g106 t (st108 t kont)
  have g110 : Go p e below T108 (mkF m 43 #[rv v1, iv ((Int32.ofNat (2 * i1)) + (1 : Int32)), iv ch] [(.int ((ch >>> ((0 : Int32) &&& 31)).toInt8.toInt32)), (.int (Int32.ofNat (2 * i1))), (.ref v1)]) A0 := by
    intro t kont
    refine g109 t ?_
    refine XS.ishr X108.here hx rfl (hb hby d28_41) rfl ?_
    refine XS.i2b X108.here hx rfl (hb hby d28_42) rfl ?_
    exact kont
  have zz111 := A0_
  obtain ⟨cl111, Ar111, q111, S111, M111, H111, G111⟩ := zz111
  have in111 : ¬ ((Int32.ofNat (2 * i1)) < 0 ∨ cl111.slots.size ≤ ((Int32.ofNat (2 * i1))).toNatClampNeg) := inb_of S111 ⟨own_nonneg (by omega), by rw [hz]; exact own_lt (by omega) (by omega)⟩
  obtain ⟨T111, h111, X111, e111, W111, st111⟩ := stB X108 hx hZ e108 Ar111 (j := (Int32.ofNat (2 * i1))) in111 (g := (mkF m 43 #[rv v1, iv ((Int32.ofNat (2 * i1)) + (1 : Int32)), iv ch] [(.int ((ch >>> ((0 : Int32) &&& 31)).toInt8.toInt32)), (.int (Int32.ofNat (2 * i1))), (.ref v1)])) rfl rfl (hb hby d28_43)
  rw [show nar .byte ((ch >>> ((0 : Int32) &&& 31)).toInt8.toInt32) = ((ch >>> ((0 : Int32) &&& 31)).toInt8.toInt32) from (own_narb _)] at W111
  have O112 := O0.wr W111 G1_
  have y113 : Arv Z h111 v1 kv .byte z1 (vs.set (2 * i1) (.int ((ch >>> ((0 : Int32) &&& 31)).toInt8.toInt32))) (.int (0 : Int32)) := Arv.set Ar111 q111 S111 M111 H111 G111 (own_ft_byte (z := ((ch >>> ((0 : Int32) &&& 31)).toInt8.toInt32)) (own_narb _)) W111 (2 * i1) (own_clamp (by omega)) (by omega)
  have N111 := Fr.snoc X111 N0 G1_
  have g114 : Go p e below T111 (mkF m 44 #[rv v1, iv ((Int32.ofNat (2 * i1)) + (1 : Int32)), iv ch] []) A0 := fun t kont => g110 t (st111 t kont)
  have g115 : Go p e below T111 (mkF m 44 #[rv v1, iv (Int32.ofNat (2 * i1 + 1)), iv ch] []) A0 := by rw [← own_succ (2 * i1)]; exact g114
  have g116 : Go p e below T111 (mkF m 47 #[rv v1, iv (Int32.ofNat (2 * i1 + 1)), iv ch] [(.int ch), (.int (Int32.ofNat (2 * i1 + 1))), (.ref v1)]) A0 := by
    intro t kont
    refine g115 t ?_
    refine XS.aloadN X111.here hx rfl (hb hby d28_44) rfl rfl ?_
    refine XS.iloadN X111.here hx rfl (hb hby d28_45) rfl ?_
    refine XS.iloadN X111.here hx rfl (hb hby d28_46) rfl ?_
    exact kont
  have y117 : Sta Z h111 "java/lang/StringUTF16" "LO_BYTE_SHIFT" "I" (.int (8 : Int32)) := S7_.ext O112.2
  obtain ⟨T118, X118, e118, st118⟩ := getS2 X111 hx hZ hown (host := "") (Or.inl (hw _ (List.mem_of_getElem? (i := 125) rfl))) Via.refl e111 y117 (g := (mkF m 47 #[rv v1, iv (Int32.ofNat (2 * i1 + 1)), iv ch] [(.int ch), (.int (Int32.ofNat (2 * i1 + 1))), (.ref v1)])) rfl (hb hby d28_47)
  have g119 : Go p e below T118 (mkF m 50 #[rv v1, iv (Int32.ofNat (2 * i1 + 1)), iv ch] [(.int (8 : Int32)), (.int ch), (.int (Int32.ofNat (2 * i1 + 1))), (.ref v1)]) A0 := fun t kont => g116 t (st118 t kont)
  have g120 : Go p e below T118 (mkF m 52 #[rv v1, iv (Int32.ofNat (2 * i1 + 1)), iv ch] [(.int ((ch >>> ((8 : Int32) &&& 31)).toInt8.toInt32)), (.int (Int32.ofNat (2 * i1 + 1))), (.ref v1)]) A0 := by
    intro t kont
    refine g119 t ?_
    refine XS.ishr X118.here hx rfl (hb hby d28_50) rfl ?_
    refine XS.i2b X118.here hx rfl (hb hby d28_51) rfl ?_
    exact kont
  have zz121 := y113
  obtain ⟨cl121, Ar121, q121, S121, M121, H121, G121⟩ := zz121
  have in121 : ¬ ((Int32.ofNat (2 * i1 + 1)) < 0 ∨ cl121.slots.size ≤ ((Int32.ofNat (2 * i1 + 1))).toNatClampNeg) := inb_of S121 ⟨own_nonneg (by omega), by rw [hz]; exact own_lt (by omega) (by omega)⟩
  obtain ⟨T121, h121, X121, e121, W121, st121⟩ := stB X118 hx hZ e118 Ar121 (j := (Int32.ofNat (2 * i1 + 1))) in121 (g := (mkF m 52 #[rv v1, iv (Int32.ofNat (2 * i1 + 1)), iv ch] [(.int ((ch >>> ((8 : Int32) &&& 31)).toInt8.toInt32)), (.int (Int32.ofNat (2 * i1 + 1))), (.ref v1)])) rfl rfl (hb hby d28_52)
  rw [show nar .byte ((ch >>> ((8 : Int32) &&& 31)).toInt8.toInt32) = ((ch >>> ((8 : Int32) &&& 31)).toInt8.toInt32) from (own_narb _)] at W121
  have O122 := O112.wr W121 G1_
  have y123 : Arv Z h121 v1 kv .byte z1 ((vs.set (2 * i1) (.int ((ch >>> ((0 : Int32) &&& 31)).toInt8.toInt32))).set (2 * i1 + 1) (.int ((ch >>> ((8 : Int32) &&& 31)).toInt8.toInt32))) (.int (0 : Int32)) := Arv.set Ar121 q121 S121 M121 H121 G121 (own_ft_byte (z := ((ch >>> ((8 : Int32) &&& 31)).toInt8.toInt32)) (own_narb _)) W121 (2 * i1 + 1) (own_clamp (by omega)) (by rw [List.length_set]; omega)
  have N121 := Fr.snoc X121 N111 G1_
  have g124 : Go p e below T121 (mkF m 53 #[rv v1, iv (Int32.ofNat (2 * i1 + 1)), iv ch] []) A0 := fun t kont => g120 t (st121 t kont)
  have K125 : Keep h0 h121 [v1] := (((Keep.refl h0 [v1]).wr W111 (Or.inl (List.mem_of_getElem? (i := 0) rfl))).wr W121 (Or.inl (List.mem_of_getElem? (i := 0) rfl)))
  obtain ⟨fs, hr, hrun, hended, hW, hsame⟩ := X121.leave (v := none) (fun _ => rfl)
  refine ⟨_, _, g124 _ (X121.returnOut hx Bd.returns (hb hby d28_53) hr), hrun, hended, _, _, rfl, ?_, ⟨_, rfl⟩, hW, hsame.mono (by decide) (by decide)⟩
  show Q_putG Z v1 i1 ch kv z1 vs h0 n0 _ T121.heap _
  rw [e121]
  exact ⟨rfl, N121, K125, y123⟩
theorem d25_0 : decode jdk_52_method_14_code 0 = .ok (.iload_n 2, 1) := by decide +kernel
theorem d25_1 : decode jdk_52_method_14_code 1 = .ok (.invokestatic 107, 3) := by decide +kernel
theorem pd_2 : parseMethodDescriptor "(I)[B" = some ⟨[.int], some (.array .byte)⟩ := by decide +kernel
theorem d25_4 : decode jdk_52_method_14_code 4 = .ok (.astore_n 3, 1) := by decide +kernel
theorem d25_5 : decode jdk_52_method_14_code 5 = .ok (.iconst 0, 1) := by decide +kernel
theorem d25_6 : decode jdk_52_method_14_code 6 = .ok (.istore 4, 2) := by decide +kernel
theorem d25_8 : decode jdk_52_method_14_code 8 = .ok (.iload 4, 2) := by decide +kernel
theorem d25_10 : decode jdk_52_method_14_code 10 = .ok (.iload_n 2, 1) := by decide +kernel
theorem d25_11 : decode jdk_52_method_14_code 11 = .ok (.if_icmp .ge 21, 3) := by decide +kernel
theorem d25_14 : decode jdk_52_method_14_code 14 = .ok (.aload_n 3, 1) := by decide +kernel
theorem d25_15 : decode jdk_52_method_14_code 15 = .ok (.iload 4, 2) := by decide +kernel
theorem d25_17 : decode jdk_52_method_14_code 17 = .ok (.aload_n 0, 1) := by decide +kernel
theorem d25_18 : decode jdk_52_method_14_code 18 = .ok (.iload_n 1, 1) := by decide +kernel
theorem d25_19 : decode jdk_52_method_14_code 19 = .ok (.caload, 1) := by decide +kernel
theorem d25_20 : decode jdk_52_method_14_code 20 = .ok (.invokestatic 111, 3) := by decide +kernel
theorem pd_3 : parseMethodDescriptor "([BII)V" = some ⟨[(.array .byte), .int, .int], none⟩ := by decide +kernel
theorem d25_23 : decode jdk_52_method_14_code 23 = .ok (.iinc 1 1, 3) := by decide +kernel
theorem d25_26 : decode jdk_52_method_14_code 26 = .ok (.iinc 4 1, 3) := by decide +kernel
theorem d25_29 : decode jdk_52_method_14_code 29 = .ok (.goto (-21), 3) := by decide +kernel
theorem d25_32 : decode jdk_52_method_14_code 32 = .ok (.aload_n 3, 1) := by decide +kernel
theorem d25_33 : decode jdk_52_method_14_code 33 = .ok (.areturn, 1) := by decide +kernel
theorem ef_u2bG (m : MethodId) (x0 : Addr) (x1 : Int32) (x2 : Int32)  : entryFrame m #[(.ref x0), (.int x1), (.int x2)] 5 = mkF m 0 #[.val (.ref x0), .val (.int x1), .val (.int x2), .unset, .unset] [] := by first | (simp [entryFrame, mkF, argsToLocals, Value.category]; done) | rfl
def Q_u2bG (Z : State) (s1 : Addr) (ks : ClassId) (ls : List Int32) (h0 : Heap) (n0 : Nat) (v : Option Value) (h : Heap) (L : List Loc) : Prop := ∃ (r : Addr), ∃ (kid : ClassId), v = some (.ref r) ∧ Fr n0 L ∧ Keep h0 h [] ∧ h0.size ≤ r ∧ (Exa Z h r "[B") ∧ (Arv Z h r kid .byte (Int32.ofNat (2 * ls.length)) (own_wb ls) (.int (0 : Int32)))
set_option maxRecDepth 65536 in
set_option maxHeartbeats 40000000 in
theorem rm_u2bG (l : Launch) (Z : State) (a0 : Array Value) (hw : ∀ d ∈ tables_1, d.before a0 Z = true) (ws : List Jvm.Cond) (s1 : Addr) (ks : ClassId) (ls : List Int32) (h0 : Heap) (n0 : Nat) (O0 : Old Z n0 h0) (A0_ : Arv Z h0 s1 ks .char (Int32.ofNat ls.length) (ls.map Value.int) (.int (0 : Int32))) (hB : ls.length ≤ 3) (S2_ : Sta Z Z.heap "java/lang/StringUTF16" "$assertionsDisabled" "Z" (.int (1 : Int32))) (S3_ : Sta Z Z.heap "java/lang/StringUTF16" "HI_BYTE_SHIFT" "I" (.int (0 : Int32))) (S4_ : Sta Z Z.heap "java/lang/StringUTF16" "LO_BYTE_SHIFT" "I" (.int (8 : Int32))) :
    MetFree l (⟨"java/lang/StringUTF16", "toBytes", "([CII)[B"⟩ : MethodName) (head1 (Jvm.Cond.code (⟨"java/lang/StringUTF16", "toBytes", "([CII)[B"⟩ : MethodName) jdk_52_method_14_code 5 (some (.array .byte)) :: ws) ({ frames := 2, cells := 1, slots := 6, locals := 24 } : Room)) (fun a U => a = #[(.ref s1), (.int (0 : Int32)), (.int (Int32.ofNat ls.length))] ∧ Z.Warmed39 U.vm ∧ U.heap = h0) (fun _ _ _ _ _ => True) (fun _ U o U' => ∃ v L, o = .returned v ∧ Q_u2bG Z s1 ks ls h0 n0 v U'.heap L ∧ FrameEnd U o U' L ({ frames := 2, cells := 1, slots := 6, locals := 24 } : Room).cells ({ frames := 2, cells := 1, slots := 6, locals := 24 } : Room).slots) := by
  refine MetFree.of_bodySF (plainFor_of_name pn_java_lang_StringUTF16) hisR ?_
  intro p e s m args below meth c s₁ Bd hml0 hP hK
  obtain ⟨rfl, hZ, hh⟩ := hP
  have hx := Bd.exec
  have hby := Bd.bytes
  have hml : c.maxLocals = 5 := hml0
  have hown : s.vm.findClass "java/lang/StringUTF16" = some m.cls := findClass_of_methodNamed Bd.named
  have hnm := (name_of_methodNamed Bd.named Bd.method).1
  have X0 : Stand p l e ({ frames := 2, cells := 1, slots := 6, locals := 24 } : Room) s m #[(.ref s1), (.int (0 : Int32)), (.int (Int32.ofNat ls.length))] below meth c s₁ [] 0 0 := Stand.of_body Bd
  have e0 : s₁.heap = h0 := by rw [← hh, Bd.state]; rfl
  have N0 := Fr.nil n0
  have g0 : Go p e below s₁ (mkF m 0 #[rv s1, iv (0 : Int32), iv (Int32.ofNat ls.length), .unset, .unset] []) (s₁.setTop (entryFrame m #[(.ref s1), (.int (0 : Int32)), (.int (Int32.ofNat ls.length))] 5)) := fun t kont => castTop (ef_u2bG m s1 (0 : Int32) (Int32.ofNat ls.length) ) kont
  generalize s₁.setTop (entryFrame m #[(.ref s1), (.int (0 : Int32)), (.int (Int32.ofNat ls.length))] 5) = A0 at g0 ⊢
  have g101 : Go p e below s₁ (mkF m 1 #[rv s1, iv (0 : Int32), iv (Int32.ofNat ls.length), .unset, .unset] [(.int (Int32.ofNat ls.length))]) A0 := by
    intro t kont
    refine g0 t ?_
    refine XS.iloadN X0.here hx rfl (hb hby d25_0) rfl ?_
    exact kont
  obtain ⟨_, _, ⟨T102, L102, k102, n102⟩, -, X102, ⟨Lc102, hQ102, l102, y102, z102⟩, st102⟩ := Jvm.LawKit.callS X0 hx (y := (⟨"java/lang/StringUTF16", "newBytesFor", "(I)[B"⟩ : MethodName)) hown (mvT hZ (hw _ (List.mem_of_getElem? (i := 113) rfl))) (mvT hZ (hw _ (List.mem_of_getElem? (i := 114) rfl))) (mvT hZ (hw _ (List.mem_of_getElem? (i := 39) rfl))) (mvT hZ (hw _ (List.mem_of_getElem? (i := 115) rfl))) (by decide) (backOf (W := 0) (rm_nbfG l Z a0 hw [] ls h0 n0 O0 hB) hZ (hw _ (List.mem_of_getElem? (i := 115) rfl)) (hw _ (List.mem_of_getElem? (i := 39) rfl)) (by decide) (by decide)) (g := (mkF m 1 #[rv s1, iv (0 : Int32), iv (Int32.ofNat ls.length), .unset, .unset] [(.int (Int32.ofNat ls.length))])) rfl (by rw [hml]; rfl) (argsL := [(.int (Int32.ofNat ls.length))]) (rest := []) (lenOf pd_2 rfl) rfl (by show 2 * 0 + _ ≤ _; exact Nat.le_of_eq rfl) (hb hby d25_1) (fun _ _ => ⟨rfl, e0, (by decide : 0 + 1 ≤ _), (by decide : 0 + 6 ≤ _)⟩)
  dsimp only [Pt.U, Pt.locs, Pt.cells, Pt.slots] at X102 l102 y102 z102 st102 hQ102
  subst l102 y102 z102
  obtain ⟨r103, r104, rfl, M102, K102, y105, y106, y107⟩ := hQ102
  have N102 := Fr.app N0 M102
  have O108 := O0.keep K102 all0
  have g109 : Go p e below T102 (mkF m 4 #[rv s1, iv (0 : Int32), iv (Int32.ofNat ls.length), .unset, .unset] [(.ref r103)]) A0 := fun t kont => g101 t (st102 t kont)
  have g110 : Go p e below T102 (mkF m 8 #[rv s1, iv (0 : Int32), iv (Int32.ofNat ls.length), rv r103, iv (0 : Int32)] []) A0 := by
    intro t kont
    refine g109 t ?_
    refine XS.astoreN X102.here hx rfl (hb hby d25_4) rfl rfl (l' := #[rv s1, iv (0 : Int32), iv (Int32.ofNat ls.length), rv r103, .unset]) rfl ?_
    refine XS.iconst X102.here hx rfl (hb hby d25_5) ?_
    refine XS.istore X102.here hx rfl (hb hby d25_6) rfl (l' := #[rv s1, iv (0 : Int32), iv (Int32.ofNat ls.length), rv r103, iv (0 : Int32)]) rfl ?_
    exact kont
  have loop111 : ∀ k : Nat, k ≤ ls.length → ∃ (T111 : State) (lc111 : List Loc) (h111 : Heap), Stand p l e ({ frames := 2, cells := 1, slots := 6, locals := 24 } : Room) s m #[(.ref s1), (.int (0 : Int32)), (.int (Int32.ofNat ls.length))] below meth c T111 lc111 1 6 ∧ T111.heap = h111 ∧ Keep T102.heap h111 [r103] ∧ Fr n0 lc111 ∧ (Arv Z h111 r103 r104 .byte (Int32.ofNat (2 * ls.length)) (own_G ls k) (.int (0 : Int32))) ∧ Go p e below T111 (mkF m 8 #[rv s1, iv (Int32.ofNat k), iv (Int32.ofNat ls.length), rv r103, iv (Int32.ofNat k)] []) A0 := by
    intro k
    induction k with
    | zero =>
      intro _
      exact ⟨_, _, _, X102, rfl, (Keep.refl _ _), N102, (by rw [own_G0]; exact y107), g110⟩
    | succ k ih =>
      intro hk_k
      obtain ⟨T112, lc112, h112, X112, e112, K112, N112, y113, g112⟩ := ih (Nat.le_of_succ_le hk_k)
      have ge114 : n0 ≤ r103 := Nat.le_trans (own_old_le O0) y105
      have O115 := O108.keep K112 (allS ge114 all0)
      have g116 : Go p e below T112 (mkF m 19 #[rv s1, iv (Int32.ofNat k), iv (Int32.ofNat ls.length), rv r103, iv (Int32.ofNat k)] [(.int (Int32.ofNat k)), (.ref s1), (.int (Int32.ofNat k)), (.ref r103)]) A0 := by
        intro t kont
        refine g112 t ?_
        refine XS.iload X112.here hx rfl (hb hby d25_8) rfl ?_
        refine XS.iloadN X112.here hx rfl (hb hby d25_10) rfl ?_
        refine XS.icmpNo X112.here hx rfl (hb hby d25_11) rfl (tlt (own_lt (by omega) (by omega) : (Int32.ofNat k) < (Int32.ofNat ls.length))).2.1 ?_
        refine XS.aloadN X112.here hx rfl (hb hby d25_14) rfl rfl ?_
        refine XS.iload X112.here hx rfl (hb hby d25_15) rfl ?_
        refine XS.aloadN X112.here hx rfl (hb hby d25_17) rfl rfl ?_
        refine XS.iloadN X112.here hx rfl (hb hby d25_18) rfl ?_
        exact kont
      have y117 : Arv Z h112 s1 ks .char (Int32.ofNat ls.length) (ls.map Value.int) (.int (0 : Int32)) := ((A0_.keep K102 nin0).keep K112 (ninS (Nat.ne_of_lt (Nat.lt_of_lt_of_le A0_.lt y105)) nin0))
      have zz118 := y117
      obtain ⟨cl118, Ar118, q118, S118, M118, H118, G118⟩ := zz118
      have in118 : ¬ ((Int32.ofNat k) < 0 ∨ cl118.slots.size ≤ ((Int32.ofNat k)).toNatClampNeg) := inb_of S118 ⟨own_nonneg (by omega), own_lt (by omega) (by omega)⟩
      have at118 : cl118.slots[((Int32.ofNat k)).toNatClampNeg]? = some (.int (ls.getD k 0)) := Has.at H118 in118 (by rw [own_clamp (by omega)]; exact own_getc ls k)
      have g119 : Go p e below T112 (mkF m 20 #[rv s1, iv (Int32.ofNat k), iv (Int32.ofNat ls.length), rv r103, iv (Int32.ofNat k)] [(.int (ls.getD k 0)), (.int (Int32.ofNat k)), (.ref r103)]) A0 := fun t kont => g116 t (X112.caload hx (j := (Int32.ofNat k)) (v := (.int (ls.getD k 0))) (by rw [e112]; exact Ar118.1) (State.isArrayOf_alike hZ.alike Ar118.2.1) Ar118.2.2 in118 at118 (g := (mkF m 19 #[rv s1, iv (Int32.ofNat k), iv (Int32.ofNat ls.length), rv r103, iv (Int32.ofNat k)] [(.int (Int32.ofNat k)), (.ref s1), (.int (Int32.ofNat k)), (.ref r103)])) rfl rfl (hb hby d25_19) t kont)
      obtain ⟨_, _, ⟨T120, L120, k120, n120⟩, -, X120, ⟨Lc120, hQ120, l120, y120, z120⟩, st120⟩ := Jvm.LawKit.callS X112 hx (y := (⟨"java/lang/StringUTF16", "putChar", "([BII)V"⟩ : MethodName)) hown (mvT hZ (hw _ (List.mem_of_getElem? (i := 120) rfl))) (mvT hZ (hw _ (List.mem_of_getElem? (i := 121) rfl))) (mvT hZ (hw _ (List.mem_of_getElem? (i := 39) rfl))) (mvT hZ (hw _ (List.mem_of_getElem? (i := 122) rfl))) (by decide) (backOf (W := 0) (rm_putG l Z a0 hw [] r103 k (ls.getD k 0) r104 (Int32.ofNat (2 * ls.length)) (own_G ls k) h112 n0 O115 y113 ge114 (by rw [own_Glen (by omega)]; omega) (by rw [own_Glen (by omega)]) (by rw [own_Glen (by omega)]; omega) S2_ S3_ S4_) hZ (hw _ (List.mem_of_getElem? (i := 122) rfl)) (hw _ (List.mem_of_getElem? (i := 39) rfl)) (by decide) (by decide)) (g := (mkF m 20 #[rv s1, iv (Int32.ofNat k), iv (Int32.ofNat ls.length), rv r103, iv (Int32.ofNat k)] [(.int (ls.getD k 0)), (.int (Int32.ofNat k)), (.ref r103)])) rfl (by rw [hml]; rfl) (argsL := [(.ref r103), (.int (Int32.ofNat k)), (.int (ls.getD k 0))]) (rest := []) (lenOf pd_3 rfl) rfl (by show 2 * 0 + _ ≤ _; exact Nat.le_of_eq rfl) (hb hby d25_20) (fun _ _ => ⟨rfl, e112, (by decide : 1 + 0 ≤ _), (by decide : 6 + 0 ≤ _)⟩)
      dsimp only [Pt.U, Pt.locs, Pt.cells, Pt.slots] at X120 l120 y120 z120 st120 hQ120
      subst l120 y120 z120
      obtain ⟨rfl, M120, K120, y121⟩ := hQ120
      have N120 := Fr.app N112 M120
      have O122 := O115.keep K120 (allS ge114 all0)
      have g123 : Go p e below T120 (mkF m 23 #[rv s1, iv (Int32.ofNat k), iv (Int32.ofNat ls.length), rv r103, iv (Int32.ofNat k)] []) A0 := fun t kont => g119 t (st120 t kont)
      have g124 : Go p e below T120 (mkF m 8 #[rv s1, iv ((Int32.ofNat k) + (1 : Int32)), iv (Int32.ofNat ls.length), rv r103, iv ((Int32.ofNat k) + (1 : Int32))] []) A0 := by
        intro t kont
        refine g123 t ?_
        refine XS.iinc X120.here hx rfl (hb hby d25_23) rfl (l' := #[rv s1, iv ((Int32.ofNat k) + (1 : Int32)), iv (Int32.ofNat ls.length), rv r103, iv (Int32.ofNat k)]) rfl ?_
        refine XS.iinc X120.here hx rfl (hb hby d25_26) rfl (l' := #[rv s1, iv ((Int32.ofNat k) + (1 : Int32)), iv (Int32.ofNat ls.length), rv r103, iv ((Int32.ofNat k) + (1 : Int32))]) rfl ?_
        refine XS.goto X120.here hx rfl (pc0 := 29) (pc' := 8) rfl (hb hby d25_29) (by decide) (by decide) ?_
        exact kont
      have g125 : Go p e below T120 (mkF m 8 #[rv s1, iv (Int32.ofNat (k + 1)), iv (Int32.ofNat ls.length), rv r103, iv (Int32.ofNat (k + 1))] []) A0 := by rw [← own_succ k]; exact g124
      exact ⟨_, _, _, X120, rfl, (((Keep.refl T102.heap [r103]).trans K112 (allS (P := fun x => x ∈ [r103] ∨ T102.heap.size ≤ x) (Or.inl (List.mem_of_getElem? (i := 0) rfl)) all0)).trans K120 (allS (P := fun x => x ∈ [r103] ∨ T102.heap.size ≤ x) (Or.inl (List.mem_of_getElem? (i := 0) rfl)) all0)), N120, (by rw [← own_GS (show k < ls.length by omega)]; exact y121), g125⟩
  obtain ⟨T126, lc126, h126, X126, e126, K126, N126, y127, g126⟩ := loop111 ls.length (Nat.le_refl _)
  have ge128 : n0 ≤ r103 := Nat.le_trans (own_old_le O0) y105
  have O129 := O108.keep K126 (allS ge128 all0)
  have g130 : Go p e below T126 (mkF m 33 #[rv s1, iv (Int32.ofNat ls.length), iv (Int32.ofNat ls.length), rv r103, iv (Int32.ofNat ls.length)] [(.ref r103)]) A0 := by
    intro t kont
    refine g126 t ?_
    refine XS.iload X126.here hx rfl (hb hby d25_8) rfl ?_
    refine XS.iloadN X126.here hx rfl (hb hby d25_10) rfl ?_
    refine XS.icmpYes X126.here hx rfl (pc0 := 11) (pc' := 32) rfl (hb hby d25_11) rfl (flt (own_nlt (by omega) (by omega) : ¬ ((Int32.ofNat ls.length) < (Int32.ofNat ls.length)))).2.1 (by decide) (by decide) ?_
    refine XS.aloadN X126.here hx rfl (hb hby d25_32) rfl rfl ?_
    exact kont
  have K131 : Keep h0 h126 [] := (((Keep.refl h0 []).trans K102 (fun x hx => nomatch hx)).trans K126 (allS (P := fun x => x ∈ [] ∨ h0.size ≤ x) (Or.inr y105) all0))
  have y132 : Exa Z h126 r103 "[B" := (y106.keep K126)
  obtain ⟨fs, hr, hrun, hended, hW, hsame⟩ := X126.leave (v := some (.ref r103)) (fun h => by rw [Bd.returns] at h; cases h)
  refine ⟨_, _, g130 _ (retOut X126 hx Bd.returns rfl (Or.inr (Or.inr (Or.inr (Or.inr ⟨rfl, rfl, rfl⟩)))) (hb hby d25_33) hr), hrun, hended, _, _, rfl, ?_, ⟨_, rfl⟩, hW, hsame.mono (by decide) (by decide)⟩
  show Q_u2bG Z s1 ks ls h0 n0 _ T126.heap _
  rw [e126]
  exact ⟨r103, r104, rfl, N126, K131, y105, y132, (own_Gn ls) ▸ y127⟩
theorem d29_0 : decode jdk_52_method_5_code 0 = .ok (.getstatic 44, 3) := by decide +kernel
theorem d29_3 : decode jdk_52_method_5_code 3 = .ok (.ifCond .ne 25, 3) := by decide +kernel
theorem d29_28 : decode jdk_52_method_5_code 28 = .ok (.iload_n 1, 1) := by decide +kernel
theorem d29_29 : decode jdk_52_method_5_code 29 = .ok (.iconst 1, 1) := by decide +kernel
theorem d29_30 : decode jdk_52_method_5_code 30 = .ok (.ishl, 1) := by decide +kernel
theorem d29_31 : decode jdk_52_method_5_code 31 = .ok (.istore_n 1, 1) := by decide +kernel
theorem d29_32 : decode jdk_52_method_5_code 32 = .ok (.aload_n 0, 1) := by decide +kernel
theorem d29_33 : decode jdk_52_method_5_code 33 = .ok (.iload_n 1, 1) := by decide +kernel
theorem d29_34 : decode jdk_52_method_5_code 34 = .ok (.iinc 1 1, 3) := by decide +kernel
theorem d29_37 : decode jdk_52_method_5_code 37 = .ok (.baload, 1) := by decide +kernel
theorem d29_38 : decode jdk_52_method_5_code 38 = .ok (.sipush 255, 3) := by decide +kernel
theorem d29_41 : decode jdk_52_method_5_code 41 = .ok (.iand, 1) := by decide +kernel
theorem d29_42 : decode jdk_52_method_5_code 42 = .ok (.getstatic 59, 3) := by decide +kernel
theorem d29_45 : decode jdk_52_method_5_code 45 = .ok (.ishl, 1) := by decide +kernel
theorem d29_46 : decode jdk_52_method_5_code 46 = .ok (.aload_n 0, 1) := by decide +kernel
theorem d29_47 : decode jdk_52_method_5_code 47 = .ok (.iload_n 1, 1) := by decide +kernel
theorem d29_48 : decode jdk_52_method_5_code 48 = .ok (.baload, 1) := by decide +kernel
theorem d29_49 : decode jdk_52_method_5_code 49 = .ok (.sipush 255, 3) := by decide +kernel
theorem d29_52 : decode jdk_52_method_5_code 52 = .ok (.iand, 1) := by decide +kernel
theorem d29_53 : decode jdk_52_method_5_code 53 = .ok (.getstatic 63, 3) := by decide +kernel
theorem d29_56 : decode jdk_52_method_5_code 56 = .ok (.ishl, 1) := by decide +kernel
theorem d29_57 : decode jdk_52_method_5_code 57 = .ok (.ior, 1) := by decide +kernel
theorem d29_58 : decode jdk_52_method_5_code 58 = .ok (.i2c, 1) := by decide +kernel
theorem d29_59 : decode jdk_52_method_5_code 59 = .ok (.ireturn, 1) := by decide +kernel
theorem ef_getG (m : MethodId) (x0 : Addr) (x1 : Int32)  : entryFrame m #[(.ref x0), (.int x1)] 2 = mkF m 0 #[.val (.ref x0), .val (.int x1)] [] := by first | (simp [entryFrame, mkF, argsToLocals, Value.category]; done) | rfl
def Q_getG (Z : State) (v1 : Addr) (i1 : Nat) (kv : ClassId) (ls : List Int32) (h0 : Heap) (n0 : Nat) (v : Option Value) (h : Heap) (L : List Loc) : Prop := v = some (.int (ls.getD i1 0)) ∧ Fr n0 L ∧ h = h0
set_option maxRecDepth 65536 in
set_option maxHeartbeats 40000000 in
theorem rm_getG (l : Launch) (Z : State) (a0 : Array Value) (hw : ∀ d ∈ tables_1, d.before a0 Z = true) (ws : List Jvm.Cond) (v1 : Addr) (i1 : Nat) (kv : ClassId) (ls : List Int32) (h0 : Heap) (n0 : Nat) (O0 : Old Z n0 h0) (A0_ : Arv Z h0 v1 kv .byte (Int32.ofNat (2 * ls.length)) (own_wb ls) (.int (0 : Int32))) (hB : ls.length ≤ 3) (hi : i1 < ls.length) (hch : own_chars ls) (S4_ : Sta Z Z.heap "java/lang/StringUTF16" "$assertionsDisabled" "Z" (.int (1 : Int32))) (S5_ : Sta Z Z.heap "java/lang/StringUTF16" "HI_BYTE_SHIFT" "I" (.int (0 : Int32))) (S6_ : Sta Z Z.heap "java/lang/StringUTF16" "LO_BYTE_SHIFT" "I" (.int (8 : Int32))) :
    MetFree l (⟨"java/lang/StringUTF16", "getChar", "([BI)C"⟩ : MethodName) (head1 (Jvm.Cond.code (⟨"java/lang/StringUTF16", "getChar", "([BI)C"⟩ : MethodName) jdk_52_method_5_code 2 (some .char) :: ws) ({ frames := 0, cells := 0, slots := 0, locals := 0 } : Room)) (fun a U => a = #[(.ref v1), (.int (Int32.ofNat i1))] ∧ Z.Warmed39 U.vm ∧ U.heap = h0) (fun _ _ _ _ _ => True) (fun _ U o U' => ∃ v L, o = .returned v ∧ Q_getG Z v1 i1 kv ls h0 n0 v U'.heap L ∧ FrameEnd U o U' L ({ frames := 0, cells := 0, slots := 0, locals := 0 } : Room).cells ({ frames := 0, cells := 0, slots := 0, locals := 0 } : Room).slots) := by
  refine MetFree.of_bodySF (plainFor_of_name pn_java_lang_StringUTF16) hisR ?_
  intro p e s m args below meth c s₁ Bd hml0 hP hK
  obtain ⟨rfl, hZ, hh⟩ := hP
  have hx := Bd.exec
  have hby := Bd.bytes
  have hml : c.maxLocals = 2 := hml0
  have hown : s.vm.findClass "java/lang/StringUTF16" = some m.cls := findClass_of_methodNamed Bd.named
  have hnm := (name_of_methodNamed Bd.named Bd.method).1
  have X0 : Stand p l e ({ frames := 0, cells := 0, slots := 0, locals := 0 } : Room) s m #[(.ref v1), (.int (Int32.ofNat i1))] below meth c s₁ [] 0 0 := Stand.of_body Bd
  have e0 : s₁.heap = h0 := by rw [← hh, Bd.state]; rfl
  have N0 := Fr.nil n0
  have g0 : Go p e below s₁ (mkF m 0 #[rv v1, iv (Int32.ofNat i1)] []) (s₁.setTop (entryFrame m #[(.ref v1), (.int (Int32.ofNat i1))] 2)) := fun t kont => castTop (ef_getG m v1 (Int32.ofNat i1) ) kont
  generalize s₁.setTop (entryFrame m #[(.ref v1), (.int (Int32.ofNat i1))] 2) = A0 at g0 ⊢
  have y101 : Sta Z h0 "java/lang/StringUTF16" "$assertionsDisabled" "Z" (.int (1 : Int32)) := S4_.ext O0.2
  obtain ⟨T102, X102, e102, st102⟩ := getS2 X0 hx hZ hown (host := "") (Or.inl (hw _ (List.mem_of_getElem? (i := 123) rfl))) Via.refl e0 y101 (g := (mkF m 0 #[rv v1, iv (Int32.ofNat i1)] [])) rfl (hb hby d29_0)
  have g103 : Go p e below T102 (mkF m 3 #[rv v1, iv (Int32.ofNat i1)] [(.int (1 : Int32))]) A0 := fun t kont => g0 t (st102 t kont)
  have g104 : Go p e below T102 (mkF m 31 #[rv v1, iv (Int32.ofNat i1)] [(.int ((Int32.ofNat i1) <<< ((1 : Int32) &&& 31)))]) A0 := by
    intro t kont
    refine g103 t ?_
    refine XS.ifYes X102.here hx rfl (pc0 := 3) (pc' := 28) rfl (hb hby d29_3) rfl ((if0 _ _).trans (feq (by decide : ¬ ((1 : Int32) = (0 : Int32)))).2) (by decide) (by decide) ?_
    refine XS.iloadN X102.here hx rfl (hb hby d29_28) rfl ?_
    refine XS.iconst X102.here hx rfl (hb hby d29_29) ?_
    refine XS.ishl X102.here hx rfl (hb hby d29_30) rfl ?_
    exact kont
  have g105 : Go p e below T102 (mkF m 31 #[rv v1, iv (Int32.ofNat i1)] [(.int (Int32.ofNat (2 * i1)))]) A0 := by rw [← own_dbl (n := i1) (by omega)]; exact g104
  have g106 : Go p e below T102 (mkF m 37 #[rv v1, iv ((Int32.ofNat (2 * i1)) + (1 : Int32))] [(.int (Int32.ofNat (2 * i1))), (.ref v1)]) A0 := by
    intro t kont
    refine g105 t ?_
    refine XS.istoreN X102.here hx rfl (hb hby d29_31) rfl (l' := #[rv v1, iv (Int32.ofNat (2 * i1))]) rfl ?_
    refine XS.aloadN X102.here hx rfl (hb hby d29_32) rfl rfl ?_
    refine XS.iloadN X102.here hx rfl (hb hby d29_33) rfl ?_
    refine XS.iinc X102.here hx rfl (hb hby d29_34) rfl (l' := #[rv v1, iv ((Int32.ofNat (2 * i1)) + (1 : Int32))]) rfl ?_
    exact kont
  have zz107 := A0_
  obtain ⟨cl107, Ar107, q107, S107, M107, H107, G107⟩ := zz107
  have in107 : ¬ ((Int32.ofNat (2 * i1)) < 0 ∨ cl107.slots.size ≤ ((Int32.ofNat (2 * i1))).toNatClampNeg) := inb_of S107 ⟨own_nonneg (by omega), own_lt (by omega) (by omega)⟩
  have at107 : cl107.slots[((Int32.ofNat (2 * i1))).toNatClampNeg]? = some (.int (((ls.getD i1 0) >>> ((0 : Int32) &&& 31)).toInt8.toInt32)) := Has.at H107 in107 (by rw [own_clamp (by omega)]; exact own_wb_get0 hi)
  have g108 : Go p e below T102 (mkF m 38 #[rv v1, iv ((Int32.ofNat (2 * i1)) + (1 : Int32))] [(.int (((ls.getD i1 0) >>> ((0 : Int32) &&& 31)).toInt8.toInt32))]) A0 := fun t kont => g106 t (X102.baloadBytes hx (j := (Int32.ofNat (2 * i1))) (v := (.int (((ls.getD i1 0) >>> ((0 : Int32) &&& 31)).toInt8.toInt32))) (by rw [e102]; exact Ar107.1) (State.isArrayOf_alike hZ.alike Ar107.2.1) Ar107.2.2 in107 at107 (g := (mkF m 37 #[rv v1, iv ((Int32.ofNat (2 * i1)) + (1 : Int32))] [(.int (Int32.ofNat (2 * i1))), (.ref v1)])) rfl rfl (hb hby d29_37) t kont)
  have g109 : Go p e below T102 (mkF m 42 #[rv v1, iv ((Int32.ofNat (2 * i1)) + (1 : Int32))] [(.int ((((ls.getD i1 0) >>> ((0 : Int32) &&& 31)).toInt8.toInt32) &&& (255 : Int32)))]) A0 := by
    intro t kont
    refine g108 t ?_
    refine XS.sipush X102.here hx rfl (hb hby d29_38) ?_
    refine XS.iand X102.here hx rfl (hb hby d29_41) rfl ?_
    exact kont
  have y110 : Sta Z h0 "java/lang/StringUTF16" "HI_BYTE_SHIFT" "I" (.int (0 : Int32)) := S5_.ext O0.2
  obtain ⟨T111, X111, e111, st111⟩ := getS2 X102 hx hZ hown (host := "") (Or.inl (hw _ (List.mem_of_getElem? (i := 124) rfl))) Via.refl e102 y110 (g := (mkF m 42 #[rv v1, iv ((Int32.ofNat (2 * i1)) + (1 : Int32))] [(.int ((((ls.getD i1 0) >>> ((0 : Int32) &&& 31)).toInt8.toInt32) &&& (255 : Int32)))])) rfl (hb hby d29_42)
  have g112 : Go p e below T111 (mkF m 45 #[rv v1, iv ((Int32.ofNat (2 * i1)) + (1 : Int32))] [(.int (0 : Int32)), (.int ((((ls.getD i1 0) >>> ((0 : Int32) &&& 31)).toInt8.toInt32) &&& (255 : Int32)))]) A0 := fun t kont => g109 t (st111 t kont)
  have g113 : Go p e below T111 (mkF m 46 #[rv v1, iv ((Int32.ofNat (2 * i1)) + (1 : Int32))] [(.int (((((ls.getD i1 0) >>> ((0 : Int32) &&& 31)).toInt8.toInt32) &&& (255 : Int32)) <<< ((0 : Int32) &&& 31)))]) A0 := by
    intro t kont
    refine g112 t ?_
    refine XS.ishl X111.here hx rfl (hb hby d29_45) rfl ?_
    exact kont
  have g114 : Go p e below T111 (mkF m 46 #[rv v1, iv (Int32.ofNat (2 * i1 + 1))] [(.int (((((ls.getD i1 0) >>> ((0 : Int32) &&& 31)).toInt8.toInt32) &&& (255 : Int32)) <<< ((0 : Int32) &&& 31)))]) A0 := by rw [← own_succ (2 * i1)]; exact g113
  have g115 : Go p e below T111 (mkF m 48 #[rv v1, iv (Int32.ofNat (2 * i1 + 1))] [(.int (Int32.ofNat (2 * i1 + 1))), (.ref v1), (.int (((((ls.getD i1 0) >>> ((0 : Int32) &&& 31)).toInt8.toInt32) &&& (255 : Int32)) <<< ((0 : Int32) &&& 31)))]) A0 := by
    intro t kont
    refine g114 t ?_
    refine XS.aloadN X111.here hx rfl (hb hby d29_46) rfl rfl ?_
    refine XS.iloadN X111.here hx rfl (hb hby d29_47) rfl ?_
    exact kont
  have zz116 := A0_
  obtain ⟨cl116, Ar116, q116, S116, M116, H116, G116⟩ := zz116
  have in116 : ¬ ((Int32.ofNat (2 * i1 + 1)) < 0 ∨ cl116.slots.size ≤ ((Int32.ofNat (2 * i1 + 1))).toNatClampNeg) := inb_of S116 ⟨own_nonneg (by omega), own_lt (by omega) (by omega)⟩
  have at116 : cl116.slots[((Int32.ofNat (2 * i1 + 1))).toNatClampNeg]? = some (.int (((ls.getD i1 0) >>> ((8 : Int32) &&& 31)).toInt8.toInt32)) := Has.at H116 in116 (by rw [own_clamp (by omega)]; exact own_wb_get1 hi)
  have g117 : Go p e below T111 (mkF m 49 #[rv v1, iv (Int32.ofNat (2 * i1 + 1))] [(.int (((ls.getD i1 0) >>> ((8 : Int32) &&& 31)).toInt8.toInt32)), (.int (((((ls.getD i1 0) >>> ((0 : Int32) &&& 31)).toInt8.toInt32) &&& (255 : Int32)) <<< ((0 : Int32) &&& 31)))]) A0 := fun t kont => g115 t (X111.baloadBytes hx (j := (Int32.ofNat (2 * i1 + 1))) (v := (.int (((ls.getD i1 0) >>> ((8 : Int32) &&& 31)).toInt8.toInt32))) (by rw [e111]; exact Ar116.1) (State.isArrayOf_alike hZ.alike Ar116.2.1) Ar116.2.2 in116 at116 (g := (mkF m 48 #[rv v1, iv (Int32.ofNat (2 * i1 + 1))] [(.int (Int32.ofNat (2 * i1 + 1))), (.ref v1), (.int (((((ls.getD i1 0) >>> ((0 : Int32) &&& 31)).toInt8.toInt32) &&& (255 : Int32)) <<< ((0 : Int32) &&& 31)))])) rfl rfl (hb hby d29_48) t kont)
  have g118 : Go p e below T111 (mkF m 53 #[rv v1, iv (Int32.ofNat (2 * i1 + 1))] [(.int ((((ls.getD i1 0) >>> ((8 : Int32) &&& 31)).toInt8.toInt32) &&& (255 : Int32))), (.int (((((ls.getD i1 0) >>> ((0 : Int32) &&& 31)).toInt8.toInt32) &&& (255 : Int32)) <<< ((0 : Int32) &&& 31)))]) A0 := by
    intro t kont
    refine g117 t ?_
    refine XS.sipush X111.here hx rfl (hb hby d29_49) ?_
    refine XS.iand X111.here hx rfl (hb hby d29_52) rfl ?_
    exact kont
  have y119 : Sta Z h0 "java/lang/StringUTF16" "LO_BYTE_SHIFT" "I" (.int (8 : Int32)) := S6_.ext O0.2
  obtain ⟨T120, X120, e120, st120⟩ := getS2 X111 hx hZ hown (host := "") (Or.inl (hw _ (List.mem_of_getElem? (i := 125) rfl))) Via.refl e111 y119 (g := (mkF m 53 #[rv v1, iv (Int32.ofNat (2 * i1 + 1))] [(.int ((((ls.getD i1 0) >>> ((8 : Int32) &&& 31)).toInt8.toInt32) &&& (255 : Int32))), (.int (((((ls.getD i1 0) >>> ((0 : Int32) &&& 31)).toInt8.toInt32) &&& (255 : Int32)) <<< ((0 : Int32) &&& 31)))])) rfl (hb hby d29_53)
  have g121 : Go p e below T120 (mkF m 56 #[rv v1, iv (Int32.ofNat (2 * i1 + 1))] [(.int (8 : Int32)), (.int ((((ls.getD i1 0) >>> ((8 : Int32) &&& 31)).toInt8.toInt32) &&& (255 : Int32))), (.int (((((ls.getD i1 0) >>> ((0 : Int32) &&& 31)).toInt8.toInt32) &&& (255 : Int32)) <<< ((0 : Int32) &&& 31)))]) A0 := fun t kont => g118 t (st120 t kont)
  have g122 : Go p e below T120 (mkF m 59 #[rv v1, iv (Int32.ofNat (2 * i1 + 1))] [(.int (((((((ls.getD i1 0) >>> ((0 : Int32) &&& 31)).toInt8.toInt32) &&& (255 : Int32)) <<< ((0 : Int32) &&& 31)) ||| (((((ls.getD i1 0) >>> ((8 : Int32) &&& 31)).toInt8.toInt32) &&& (255 : Int32)) <<< ((8 : Int32) &&& 31))).toUInt32.toUInt16.toUInt32.toInt32))]) A0 := by
    intro t kont
    refine g121 t ?_
    refine XS.ishl X120.here hx rfl (hb hby d29_56) rfl ?_
    refine XS.ior X120.here hx rfl (hb hby d29_57) rfl ?_
    refine XS.i2c X120.here hx rfl (hb hby d29_58) rfl ?_
    exact kont
  obtain ⟨fs, hr, hrun, hended, hW, hsame⟩ := X120.leave (v := some (.int (((((((ls.getD i1 0) >>> ((0 : Int32) &&& 31)).toInt8.toInt32) &&& (255 : Int32)) <<< ((0 : Int32) &&& 31)) ||| (((((ls.getD i1 0) >>> ((8 : Int32) &&& 31)).toInt8.toInt32) &&& (255 : Int32)) <<< ((8 : Int32) &&& 31))).toUInt32.toUInt16.toUInt32.toInt32))) (fun h => by rw [Bd.returns] at h; cases h)
  refine ⟨_, _, g122 _ (retN X120 hx (t := .char) Bd.returns (by simp) (hb hby d29_59) (by rw [(own_narc _)]; exact hr)), hrun, hended, _, _, rfl, ?_, ⟨_, rfl⟩, hW, hsame.mono (by decide) (by decide)⟩
  show Q_getG Z v1 i1 kv ls h0 n0 _ T120.heap _
  rw [e120]
  exact ⟨congrArg (fun z => some (Value.int z)) (own_rec16 (hch i1 hi).1 (hch i1 hi).2), N0, rfl⟩
theorem d7_0 : decode jdk_52_method_16_code 0 = .ok (.iload_n 2, 1) := by decide +kernel
theorem d7_1 : decode jdk_52_method_16_code 1 = .ok (.newarray .byte, 2) := by decide +kernel
theorem d7_3 : decode jdk_52_method_16_code 3 = .ok (.astore_n 3, 1) := by decide +kernel
theorem d7_4 : decode jdk_52_method_16_code 4 = .ok (.aload_n 0, 1) := by decide +kernel
theorem d7_5 : decode jdk_52_method_16_code 5 = .ok (.iload_n 1, 1) := by decide +kernel
theorem d7_6 : decode jdk_52_method_16_code 6 = .ok (.aload_n 3, 1) := by decide +kernel
theorem d7_7 : decode jdk_52_method_16_code 7 = .ok (.iconst 0, 1) := by decide +kernel
theorem d7_8 : decode jdk_52_method_16_code 8 = .ok (.iload_n 2, 1) := by decide +kernel
theorem d7_9 : decode jdk_52_method_16_code 9 = .ok (.invokestatic 115, 3) := by decide +kernel
theorem pd_4 : parseMethodDescriptor "([CI[BII)I" = some ⟨[(.array .char), .int, (.array .byte), .int, .int], some .int⟩ := by decide +kernel
theorem d7_12 : decode jdk_52_method_16_code 12 = .ok (.istore 4, 2) := by decide +kernel
theorem d7_14 : decode jdk_52_method_16_code 14 = .ok (.iload 4, 2) := by decide +kernel
theorem d7_16 : decode jdk_52_method_16_code 16 = .ok (.iload_n 2, 1) := by decide +kernel
theorem d7_17 : decode jdk_52_method_16_code 17 = .ok (.if_icmp .eq 40, 3) := by decide +kernel
theorem d7_57 : decode jdk_52_method_16_code 57 = .ok (.aload_n 3, 1) := by decide +kernel
theorem d7_58 : decode jdk_52_method_16_code 58 = .ok (.areturn, 1) := by decide +kernel
theorem d7_20 : decode jdk_52_method_16_code 20 = .ok (.aload_n 0, 1) := by decide +kernel
theorem d7_21 : decode jdk_52_method_16_code 21 = .ok (.iload_n 1, 1) := by decide +kernel
theorem d7_22 : decode jdk_52_method_16_code 22 = .ok (.iload_n 2, 1) := by decide +kernel
theorem d7_23 : decode jdk_52_method_16_code 23 = .ok (.invokestatic 119, 3) := by decide +kernel
theorem pd_5 : parseMethodDescriptor "([CII)[B" = some ⟨[(.array .char), .int, .int], some (.array .byte)⟩ := by decide +kernel
theorem d7_26 : decode jdk_52_method_16_code 26 = .ok (.astore 5, 2) := by decide +kernel
theorem d7_28 : decode jdk_52_method_16_code 28 = .ok (.aload 5, 2) := by decide +kernel
theorem d7_30 : decode jdk_52_method_16_code 30 = .ok (.iload 4, 2) := by decide +kernel
theorem d7_32 : decode jdk_52_method_16_code 32 = .ok (.invokestatic 71, 3) := by decide +kernel
theorem pd_6 : parseMethodDescriptor "([BI)C" = some ⟨[(.array .byte), .int], some .char⟩ := by decide +kernel
theorem d7_35 : decode jdk_52_method_16_code 35 = .ok (.sipush 255, 3) := by decide +kernel
theorem d7_38 : decode jdk_52_method_16_code 38 = .ok (.if_icmp .gt 16, 3) := by decide +kernel
theorem d7_54 : decode jdk_52_method_16_code 54 = .ok (.aload 5, 2) := by decide +kernel
theorem d7_56 : decode jdk_52_method_16_code 56 = .ok (.areturn, 1) := by decide +kernel
theorem ef_comG (m : MethodId) (x0 : Addr) (x1 : Int32) (x2 : Int32)  : entryFrame m #[(.ref x0), (.int x1), (.int x2)] 6 = mkF m 0 #[.val (.ref x0), .val (.int x1), .val (.int x2), .unset, .unset, .unset] [] := by first | (simp [entryFrame, mkF, argsToLocals, Value.category]; done) | rfl
def Q_comG (Z : State) (s1 : Addr) (ks : ClassId) (ls : List Int32) (h0 : Heap) (n0 : Nat) (v : Option Value) (h : Heap) (L : List Loc) : Prop := ∃ (r : Addr), ∃ (kid : ClassId), ∃ (cd : Int32), ∃ (z : Int32), ∃ (vs : List Value), v = some (.ref r) ∧ Fr n0 L ∧ Keep h0 h [] ∧ h0.size ≤ r ∧ (Exa Z h r "[B") ∧ (Arv Z h r kid .byte z vs (.int (0 : Int32))) ∧ (own_cod ls cd z vs)
set_option maxRecDepth 65536 in
set_option maxHeartbeats 40000000 in
theorem rm_comG (l : Launch) (Z : State) (a0 : Array Value) (hw : ∀ d ∈ tables_1, d.before a0 Z = true) (ws : List Jvm.Cond) (s1 : Addr) (ks : ClassId) (ls : List Int32) (h0 : Heap) (n0 : Nat) (O0 : Old Z n0 h0) (A0_ : Arv Z h0 s1 ks .char (Int32.ofNat ls.length) (ls.map Value.int) (.int (0 : Int32))) (hB : ls.length ≤ 3) (hch : own_chars ls) (S3_ : Sta Z Z.heap "java/lang/StringUTF16" "$assertionsDisabled" "Z" (.int (1 : Int32))) (S4_ : Sta Z Z.heap "java/lang/StringUTF16" "HI_BYTE_SHIFT" "I" (.int (0 : Int32))) (S5_ : Sta Z Z.heap "java/lang/StringUTF16" "LO_BYTE_SHIFT" "I" (.int (8 : Int32))) :
    MetFree l (⟨"java/lang/StringUTF16", "compress", "([CII)[B"⟩ : MethodName) (head1 (Jvm.Cond.code (⟨"java/lang/StringUTF16", "compress", "([CII)[B"⟩ : MethodName) jdk_52_method_16_code 6 (some (.array .byte)) :: ws) ({ frames := 3, cells := 2, slots := 9, locals := 40 } : Room)) (fun a U => a = #[(.ref s1), (.int (0 : Int32)), (.int (Int32.ofNat ls.length))] ∧ Z.Warmed39 U.vm ∧ U.heap = h0) (fun _ _ _ _ _ => True) (fun _ U o U' => ∃ v L, o = .returned v ∧ Q_comG Z s1 ks ls h0 n0 v U'.heap L ∧ FrameEnd U o U' L ({ frames := 3, cells := 2, slots := 9, locals := 40 } : Room).cells ({ frames := 3, cells := 2, slots := 9, locals := 40 } : Room).slots) := by
  refine MetFree.of_bodySF (plainFor_of_name pn_java_lang_StringUTF16) hisR ?_
  intro p e s m args below meth c s₁ Bd hml0 hP hK
  obtain ⟨rfl, hZ, hh⟩ := hP
  have hx := Bd.exec
  have hby := Bd.bytes
  have hml : c.maxLocals = 6 := hml0
  have hown : s.vm.findClass "java/lang/StringUTF16" = some m.cls := findClass_of_methodNamed Bd.named
  have hnm := (name_of_methodNamed Bd.named Bd.method).1
  have X0 : Stand p l e ({ frames := 3, cells := 2, slots := 9, locals := 40 } : Room) s m #[(.ref s1), (.int (0 : Int32)), (.int (Int32.ofNat ls.length))] below meth c s₁ [] 0 0 := Stand.of_body Bd
  have e0 : s₁.heap = h0 := by rw [← hh, Bd.state]; rfl
  have N0 := Fr.nil n0
  have g0 : Go p e below s₁ (mkF m 0 #[rv s1, iv (0 : Int32), iv (Int32.ofNat ls.length), .unset, .unset, .unset] []) (s₁.setTop (entryFrame m #[(.ref s1), (.int (0 : Int32)), (.int (Int32.ofNat ls.length))] 6)) := fun t kont => castTop (ef_comG m s1 (0 : Int32) (Int32.ofNat ls.length) ) kont
  generalize s₁.setTop (entryFrame m #[(.ref s1), (.int (0 : Int32)), (.int (Int32.ofNat ls.length))] 6) = A0 at g0 ⊢
  have g101 : Go p e below s₁ (mkF m 1 #[rv s1, iv (0 : Int32), iv (Int32.ofNat ls.length), .unset, .unset, .unset] [(.int (Int32.ofNat ls.length))]) A0 := by
    intro t kont
    refine g0 t ?_
    refine XS.iloadN X0.here hx rfl (hb hby d7_0) rfl ?_
    exact kont
  obtain ⟨T102, h102, k102, X102, e102, E102, A102, F102, st102⟩ := newPE X0 hx hZ (hw _ (List.mem_of_getElem? (i := 20) rfl)) e0 (g := (mkF m 1 #[rv s1, iv (0 : Int32), iv (Int32.ofNat ls.length), .unset, .unset, .unset] [(.int (Int32.ofNat ls.length))])) rfl (hb hby d7_1) rfl (own_nonneg (by omega)) (cap := 3) (by rw [own_clamp (by omega)]; omega) (by decide) (by decide) (by decide) (ad := "[B") (by decide)
  obtain ⟨b102, gb102⟩ : ∃ z, z = h0.size := ⟨_, rfl⟩
  rw [← gb102] at A102 F102 st102
  have O103 := O0.ext E102
  have y104 : Arv Z h102 b102 k102 .byte (Int32.ofNat ls.length) (List.replicate ls.length (.int (0 : Int32))) (.int (0 : Int32)) := (Arv.new A102 (own_nonneg (by omega))).pad (pad_rep [] (.int (0 : Int32)) ls.length)
  have g105 : Go p e below T102 (mkF m 3 #[rv s1, iv (0 : Int32), iv (Int32.ofNat ls.length), .unset, .unset, .unset] [(.ref b102)]) A0 := fun t kont => g101 t (st102 t kont)
  have g107 : Go p e below T102 (mkF m 9 #[rv s1, iv (0 : Int32), iv (Int32.ofNat ls.length), rv b102, .unset, .unset] [(.int (Int32.ofNat ls.length)), (.int (0 : Int32)), (.ref b102), (.int (0 : Int32)), (.ref s1)]) A0 := by
    intro t kont
    refine g105 t ?_
    refine XS.astoreN X102.here hx rfl (hb hby d7_3) rfl rfl (l' := #[rv s1, iv (0 : Int32), iv (Int32.ofNat ls.length), rv b102, .unset, .unset]) rfl ?_
    refine XS.aloadN X102.here hx rfl (hb hby d7_4) rfl rfl ?_
    refine XS.iloadN X102.here hx rfl (hb hby d7_5) rfl ?_
    refine XS.aloadN X102.here hx rfl (hb hby d7_6) rfl rfl ?_
    refine XS.iconst X102.here hx rfl (hb hby d7_7) ?_
    refine XS.iloadN X102.here hx rfl (hb hby d7_8) rfl ?_
    exact kont
  by_cases c106 : own_lat ls
  ·
    have y109 : Arv Z h102 s1 ks .char (Int32.ofNat ls.length) (ls.map Value.int) (.int (0 : Int32)) := (A0_.ext E102)
    have ge110 : n0 ≤ b102 := Nat.le_trans (own_old_le O0) (Nat.le_of_eq gb102.symm)
    obtain ⟨_, _, ⟨T108, L108, k108, n108⟩, -, X108, ⟨Lc108, hQ108, l108, y108, z108⟩, st108⟩ := Jvm.LawKit.callS X102 hx (y := (⟨"java/lang/StringUTF16", "compress", "([CI[BII)I"⟩ : MethodName)) hown (mvT hZ (hw _ (List.mem_of_getElem? (i := 41) rfl))) (mvT hZ (hw _ (List.mem_of_getElem? (i := 42) rfl))) (mvT hZ (hw _ (List.mem_of_getElem? (i := 39) rfl))) (mvT hZ (hw _ (List.mem_of_getElem? (i := 43) rfl))) (by decide) (backOf (W := 0) (rm_cmpG l Z a0 hw [] s1 b102 ks k102 ls ls.length h102 n0 O103 y109 y104 ge110 (Nat.ne_of_lt (Nat.lt_of_lt_of_le A0_.lt (Nat.le_of_eq gb102.symm))) hB (Nat.le_refl _) (c106) (fun q => absurd q (Nat.lt_irrefl _))) hZ (hw _ (List.mem_of_getElem? (i := 43) rfl)) (hw _ (List.mem_of_getElem? (i := 39) rfl)) (by decide) (by decide)) (g := (mkF m 9 #[rv s1, iv (0 : Int32), iv (Int32.ofNat ls.length), rv b102, .unset, .unset] [(.int (Int32.ofNat ls.length)), (.int (0 : Int32)), (.ref b102), (.int (0 : Int32)), (.ref s1)])) rfl (by rw [hml]; rfl) (argsL := [(.ref s1), (.int (0 : Int32)), (.ref b102), (.int (0 : Int32)), (.int (Int32.ofNat ls.length))]) (rest := []) (lenOf pd_4 rfl) rfl (by show 2 * 0 + _ ≤ _; exact Nat.le_of_eq rfl) (hb hby d7_9) (fun _ _ => ⟨rfl, e102, (by decide : 1 + 0 ≤ _), (by decide : 3 + 0 ≤ _)⟩)
    dsimp only [Pt.U, Pt.locs, Pt.cells, Pt.slots] at X108 l108 y108 z108 st108 hQ108
    subst l108 y108 z108
    obtain ⟨rfl, M108, K108, y111⟩ := hQ108
    have N108 := Fr.app N0 M108
    have O112 := O103.keep K108 (allS ge110 all0)
    have g113 : Go p e below T108 (mkF m 12 #[rv s1, iv (0 : Int32), iv (Int32.ofNat ls.length), rv b102, .unset, .unset] [(.int (Int32.ofNat ls.length))]) A0 := fun t kont => g107 t (st108 t kont)
    have y114 : Arv Z T108.heap b102 k102 .byte (Int32.ofNat ls.length) (own_lb ls) (.int (0 : Int32)) := (own_Fn ls) ▸ y111
    have g115 : Go p e below T108 (mkF m 58 #[rv s1, iv (0 : Int32), iv (Int32.ofNat ls.length), rv b102, iv (Int32.ofNat ls.length), .unset] [(.ref b102)]) A0 := by
      intro t kont
      refine g113 t ?_
      refine XS.istore X108.here hx rfl (hb hby d7_12) rfl (l' := #[rv s1, iv (0 : Int32), iv (Int32.ofNat ls.length), rv b102, iv (Int32.ofNat ls.length), .unset]) rfl ?_
      refine XS.iload X108.here hx rfl (hb hby d7_14) rfl ?_
      refine XS.iloadN X108.here hx rfl (hb hby d7_16) rfl ?_
      refine XS.icmpYes X108.here hx rfl (pc0 := 17) (pc' := 57) rfl (hb hby d7_17) rfl (teq (rfl : (Int32.ofNat ls.length) = (Int32.ofNat ls.length))).1 (by decide) (by decide) ?_
      refine XS.aloadN X108.here hx rfl (hb hby d7_57) rfl rfl ?_
      exact kont
    have K116 : Keep h0 T108.heap [] := (((Keep.refl h0 []).ext E102).trans K108 (allS (P := fun x => x ∈ [] ∨ h0.size ≤ x) (Or.inr (Nat.le_of_eq gb102.symm)) all0))
    have y117 : Exa Z T108.heap b102 "[B" := (F102.keep K108)
    obtain ⟨fs, hr, hrun, hended, hW, hsame⟩ := X108.leave (v := some (.ref b102)) (fun h => by rw [Bd.returns] at h; cases h)
    refine ⟨_, _, g115 _ (retOut X108 hx Bd.returns rfl (Or.inr (Or.inr (Or.inr (Or.inr ⟨rfl, rfl, rfl⟩)))) (hb hby d7_58) hr), hrun, hended, _, _, rfl, ?_, ⟨_, rfl⟩, hW, hsame.mono (by decide) (by decide)⟩
    show Q_comG Z s1 ks ls h0 n0 _ T108.heap _
    exact ⟨b102, k102, (0 : Int32), (Int32.ofNat ls.length), (own_lb ls), rfl, N108, K116, (Nat.le_of_eq gb102.symm), y117, y114, Or.inl ⟨rfl, rfl, rfl, c106⟩⟩
  obtain ⟨rn, hr1, hr2, hr3⟩ := own_first (fun i => (255 : Int32) < ls.getD i 0) ls.length c106
  have y119 : Arv Z h102 s1 ks .char (Int32.ofNat ls.length) (ls.map Value.int) (.int (0 : Int32)) := (A0_.ext E102)
  have ge120 : n0 ≤ b102 := Nat.le_trans (own_old_le O0) (Nat.le_of_eq gb102.symm)
  obtain ⟨_, _, ⟨T118, L118, k118, n118⟩, -, X118, ⟨Lc118, hQ118, l118, y118, z118⟩, st118⟩ := Jvm.LawKit.callS X102 hx (y := (⟨"java/lang/StringUTF16", "compress", "([CI[BII)I"⟩ : MethodName)) hown (mvT hZ (hw _ (List.mem_of_getElem? (i := 41) rfl))) (mvT hZ (hw _ (List.mem_of_getElem? (i := 42) rfl))) (mvT hZ (hw _ (List.mem_of_getElem? (i := 39) rfl))) (mvT hZ (hw _ (List.mem_of_getElem? (i := 43) rfl))) (by decide) (backOf (W := 0) (rm_cmpG l Z a0 hw [] s1 b102 ks k102 ls rn h102 n0 O103 y119 y104 ge120 (Nat.ne_of_lt (Nat.lt_of_lt_of_le A0_.lt (Nat.le_of_eq gb102.symm))) hB (Nat.le_of_lt hr1) (hr3) (fun _ => hr2)) hZ (hw _ (List.mem_of_getElem? (i := 43) rfl)) (hw _ (List.mem_of_getElem? (i := 39) rfl)) (by decide) (by decide)) (g := (mkF m 9 #[rv s1, iv (0 : Int32), iv (Int32.ofNat ls.length), rv b102, .unset, .unset] [(.int (Int32.ofNat ls.length)), (.int (0 : Int32)), (.ref b102), (.int (0 : Int32)), (.ref s1)])) rfl (by rw [hml]; rfl) (argsL := [(.ref s1), (.int (0 : Int32)), (.ref b102), (.int (0 : Int32)), (.int (Int32.ofNat ls.length))]) (rest := []) (lenOf pd_4 rfl) rfl (by show 2 * 0 + _ ≤ _; exact Nat.le_of_eq rfl) (hb hby d7_9) (fun _ _ => ⟨rfl, e102, (by decide : 1 + 0 ≤ _), (by decide : 3 + 0 ≤ _)⟩)
  dsimp only [Pt.U, Pt.locs, Pt.cells, Pt.slots] at X118 l118 y118 z118 st118 hQ118
  subst l118 y118 z118
  obtain ⟨rfl, M118, K118, y121⟩ := hQ118
  have N118 := Fr.app N0 M118
  have O122 := O103.keep K118 (allS ge120 all0)
  have g123 : Go p e below T118 (mkF m 12 #[rv s1, iv (0 : Int32), iv (Int32.ofNat ls.length), rv b102, .unset, .unset] [(.int (Int32.ofNat rn))]) A0 := fun t kont => g107 t (st118 t kont)
  have g124 : Go p e below T118 (mkF m 23 #[rv s1, iv (0 : Int32), iv (Int32.ofNat ls.length), rv b102, iv (Int32.ofNat rn), .unset] [(.int (Int32.ofNat ls.length)), (.int (0 : Int32)), (.ref s1)]) A0 := by
    intro t kont
    refine g123 t ?_
    refine XS.istore X118.here hx rfl (hb hby d7_12) rfl (l' := #[rv s1, iv (0 : Int32), iv (Int32.ofNat ls.length), rv b102, iv (Int32.ofNat rn), .unset]) rfl ?_
    refine XS.iload X118.here hx rfl (hb hby d7_14) rfl ?_
    refine XS.iloadN X118.here hx rfl (hb hby d7_16) rfl ?_
    refine XS.icmpNo X118.here hx rfl (hb hby d7_17) rfl (feq (own_inj (by omega) (by omega) (by omega) : ¬ ((Int32.ofNat rn) = (Int32.ofNat ls.length)))).1 ?_
    refine XS.aloadN X118.here hx rfl (hb hby d7_20) rfl rfl ?_
    refine XS.iloadN X118.here hx rfl (hb hby d7_21) rfl ?_
    refine XS.iloadN X118.here hx rfl (hb hby d7_22) rfl ?_
    exact kont
  have y126 : Arv Z T118.heap s1 ks .char (Int32.ofNat ls.length) (ls.map Value.int) (.int (0 : Int32)) := (y119.keep K118 (ninS (Nat.ne_of_lt (Nat.lt_of_lt_of_le A0_.lt (Nat.le_of_eq gb102.symm))) nin0))
  obtain ⟨_, _, ⟨T125, L125, k125, n125⟩, -, X125, ⟨Lc125, hQ125, l125, y125, z125⟩, st125⟩ := Jvm.LawKit.callS X118 hx (y := (⟨"java/lang/StringUTF16", "toBytes", "([CII)[B"⟩ : MethodName)) hown (mvT hZ (hw _ (List.mem_of_getElem? (i := 110) rfl))) (mvT hZ (hw _ (List.mem_of_getElem? (i := 111) rfl))) (mvT hZ (hw _ (List.mem_of_getElem? (i := 39) rfl))) (mvT hZ (hw _ (List.mem_of_getElem? (i := 112) rfl))) (by decide) (backOf (W := 0) (rm_u2bG l Z a0 hw [] s1 ks ls T118.heap n0 O122 y126 hB S3_ S4_ S5_) hZ (hw _ (List.mem_of_getElem? (i := 112) rfl)) (hw _ (List.mem_of_getElem? (i := 39) rfl)) (by decide) (by decide)) (g := (mkF m 23 #[rv s1, iv (0 : Int32), iv (Int32.ofNat ls.length), rv b102, iv (Int32.ofNat rn), .unset] [(.int (Int32.ofNat ls.length)), (.int (0 : Int32)), (.ref s1)])) rfl (by rw [hml]; rfl) (argsL := [(.ref s1), (.int (0 : Int32)), (.int (Int32.ofNat ls.length))]) (rest := []) (lenOf pd_5 rfl) rfl (by show 2 * 0 + _ ≤ _; exact Nat.le_of_eq rfl) (hb hby d7_23) (fun _ _ => ⟨rfl, rfl, (by decide : 1 + 1 ≤ _), (by decide : 3 + 6 ≤ _)⟩)
  dsimp only [Pt.U, Pt.locs, Pt.cells, Pt.slots] at X125 l125 y125 z125 st125 hQ125
  subst l125 y125 z125
  obtain ⟨r127, r128, rfl, M125, K125, y129, y130, y131⟩ := hQ125
  have N125 := Fr.app N118 M125
  have O132 := O122.keep K125 all0
  have g133 : Go p e below T125 (mkF m 26 #[rv s1, iv (0 : Int32), iv (Int32.ofNat ls.length), rv b102, iv (Int32.ofNat rn), .unset] [(.ref r127)]) A0 := fun t kont => g124 t (st125 t kont)
  have g134 : Go p e below T125 (mkF m 32 #[rv s1, iv (0 : Int32), iv (Int32.ofNat ls.length), rv b102, iv (Int32.ofNat rn), rv r127] [(.int (Int32.ofNat rn)), (.ref r127)]) A0 := by
    intro t kont
    refine g133 t ?_
    refine XS.astore X125.here hx rfl (hb hby d7_26) rfl rfl (l' := #[rv s1, iv (0 : Int32), iv (Int32.ofNat ls.length), rv b102, iv (Int32.ofNat rn), rv r127]) rfl ?_
    refine XS.aload X125.here hx rfl (hb hby d7_28) rfl rfl ?_
    refine XS.iload X125.here hx rfl (hb hby d7_30) rfl ?_
    exact kont
  obtain ⟨_, _, ⟨T135, L135, k135, n135⟩, -, X135, ⟨Lc135, hQ135, l135, y135, z135⟩, st135⟩ := Jvm.LawKit.callS X125 hx (y := (⟨"java/lang/StringUTF16", "getChar", "([BI)C"⟩ : MethodName)) hown (mvT hZ (hw _ (List.mem_of_getElem? (i := 126) rfl))) (mvT hZ (hw _ (List.mem_of_getElem? (i := 127) rfl))) (mvT hZ (hw _ (List.mem_of_getElem? (i := 39) rfl))) (mvT hZ (hw _ (List.mem_of_getElem? (i := 128) rfl))) (by decide) (backOf (W := 0) (rm_getG l Z a0 hw [] r127 rn r128 ls T125.heap n0 O132 y131 hB (hr1) hch S3_ S4_ S5_) hZ (hw _ (List.mem_of_getElem? (i := 128) rfl)) (hw _ (List.mem_of_getElem? (i := 39) rfl)) (by decide) (by decide)) (g := (mkF m 32 #[rv s1, iv (0 : Int32), iv (Int32.ofNat ls.length), rv b102, iv (Int32.ofNat rn), rv r127] [(.int (Int32.ofNat rn)), (.ref r127)])) rfl (by rw [hml]; rfl) (argsL := [(.ref r127), (.int (Int32.ofNat rn))]) (rest := []) (lenOf pd_6 rfl) rfl (by show 2 * 0 + _ ≤ _; exact Nat.le_of_eq rfl) (hb hby d7_32) (fun _ _ => ⟨rfl, rfl, (by decide : 2 + 0 ≤ _), (by decide : 9 + 0 ≤ _)⟩)
  dsimp only [Pt.U, Pt.locs, Pt.cells, Pt.slots] at X135 l135 y135 z135 st135 hQ135
  subst l135 y135 z135
  obtain ⟨rfl, M135, e135⟩ := hQ135
  have N135 := Fr.app N125 M135
  have g136 : Go p e below T135 (mkF m 35 #[rv s1, iv (0 : Int32), iv (Int32.ofNat ls.length), rv b102, iv (Int32.ofNat rn), rv r127] [(.int (ls.getD rn 0))]) A0 := fun t kont => g134 t (st135 t kont)
  have g137 : Go p e below T135 (mkF m 56 #[rv s1, iv (0 : Int32), iv (Int32.ofNat ls.length), rv b102, iv (Int32.ofNat rn), rv r127] [(.ref r127)]) A0 := by
    intro t kont
    refine g136 t ?_
    refine XS.sipush X135.here hx rfl (hb hby d7_35) ?_
    refine XS.icmpYes X135.here hx rfl (pc0 := 38) (pc' := 54) rfl (hb hby d7_38) rfl (tlt hr2).2.2.1 (by decide) (by decide) ?_
    refine XS.aload X135.here hx rfl (hb hby d7_54) rfl rfl ?_
    exact kont
  have K138 : Keep h0 T125.heap [] := ((((Keep.refl h0 []).ext E102).trans K118 (allS (P := fun x => x ∈ [] ∨ h0.size ≤ x) (Or.inr (Nat.le_of_eq gb102.symm)) all0)).trans K125 (fun x hx => nomatch hx))
  obtain ⟨fs, hr, hrun, hended, hW, hsame⟩ := X135.leave (v := some (.ref r127)) (fun h => by rw [Bd.returns] at h; cases h)
  refine ⟨_, _, g137 _ (retOut X135 hx Bd.returns rfl (Or.inr (Or.inr (Or.inr (Or.inr ⟨rfl, rfl, rfl⟩)))) (hb hby d7_56) hr), hrun, hended, _, _, rfl, ?_, ⟨_, rfl⟩, hW, hsame.mono (by decide) (by decide)⟩
  show Q_comG Z s1 ks ls h0 n0 _ T135.heap _
  rw [e135]
  exact ⟨r127, r128, (1 : Int32), (Int32.ofNat (2 * ls.length)), (own_wb ls), rfl, N135, K138, (Nat.le_trans (Nat.le_trans E102.1 K118.1) y129), y130, y131, Or.inr ⟨rfl, rfl, rfl⟩⟩
theorem d9_0 : decode jdk_52_method_15_code 0 = .ok (.iload_n 1, 1) := by decide +kernel
theorem d9_1 : decode jdk_52_method_15_code 1 = .ok (.aload_n 0, 1) := by decide +kernel
theorem d9_2 : decode jdk_52_method_15_code 2 = .ok (.arraylength, 1) := by decide +kernel
theorem d9_3 : decode jdk_52_method_15_code 3 = .ok (.isub, 1) := by decide +kernel
theorem d9_4 : decode jdk_52_method_15_code 4 = .ok (.bipush 31, 2) := by decide +kernel
theorem d9_6 : decode jdk_52_method_15_code 6 = .ok (.iushr, 1) := by decide +kernel
theorem d9_7 : decode jdk_52_method_15_code 7 = .ok (.i2b, 1) := by decide +kernel
theorem d9_8 : decode jdk_52_method_15_code 8 = .ok (.ireturn, 1) := by decide +kernel
theorem ef_cfaL (m : MethodId) (x0 : Addr) (x1 : Int32)  : entryFrame m #[(.ref x0), (.int x1)] 2 = mkF m 0 #[.val (.ref x0), .val (.int x1)] [] := by first | (simp [entryFrame, mkF, argsToLocals, Value.category]; done) | rfl
def Q_cfaL (Z : State) (b1 : Addr) (kid : ClassId) (vs : List Value) (ls : List Int32) (h0 : Heap) (n0 : Nat) (v : Option Value) (h : Heap) (L : List Loc) : Prop := v = some (.int (0 : Int32)) ∧ Fr n0 L ∧ h = h0
set_option maxRecDepth 65536 in
set_option maxHeartbeats 40000000 in
theorem rm_cfaL (l : Launch) (Z : State) (a0 : Array Value) (hw : ∀ d ∈ tables_1, d.before a0 Z = true) (ws : List Jvm.Cond) (b1 : Addr) (kid : ClassId) (vs : List Value) (ls : List Int32) (h0 : Heap) (n0 : Nat) (O0 : Old Z n0 h0) (A0_ : Arv Z h0 b1 kid .byte (Int32.ofNat ls.length) vs (.int (0 : Int32))) :
    MetFree l (⟨"java/lang/StringUTF16", "coderFromArrayLen", "([BI)B"⟩ : MethodName) (head1 (Jvm.Cond.code (⟨"java/lang/StringUTF16", "coderFromArrayLen", "([BI)B"⟩ : MethodName) jdk_52_method_15_code 2 (some .byte) :: ws) ({ frames := 0, cells := 0, slots := 0, locals := 0 } : Room)) (fun a U => a = #[(.ref b1), (.int (Int32.ofNat ls.length))] ∧ Z.Warmed39 U.vm ∧ U.heap = h0) (fun _ _ _ _ _ => True) (fun _ U o U' => ∃ v L, o = .returned v ∧ Q_cfaL Z b1 kid vs ls h0 n0 v U'.heap L ∧ FrameEnd U o U' L ({ frames := 0, cells := 0, slots := 0, locals := 0 } : Room).cells ({ frames := 0, cells := 0, slots := 0, locals := 0 } : Room).slots) := by
  refine MetFree.of_bodySF (plainFor_of_name pn_java_lang_StringUTF16) hisR ?_
  intro p e s m args below meth c s₁ Bd hml0 hP hK
  obtain ⟨rfl, hZ, hh⟩ := hP
  have hx := Bd.exec
  have hby := Bd.bytes
  have hml : c.maxLocals = 2 := hml0
  have hown : s.vm.findClass "java/lang/StringUTF16" = some m.cls := findClass_of_methodNamed Bd.named
  have hnm := (name_of_methodNamed Bd.named Bd.method).1
  have X0 : Stand p l e ({ frames := 0, cells := 0, slots := 0, locals := 0 } : Room) s m #[(.ref b1), (.int (Int32.ofNat ls.length))] below meth c s₁ [] 0 0 := Stand.of_body Bd
  have e0 : s₁.heap = h0 := by rw [← hh, Bd.state]; rfl
  have N0 := Fr.nil n0
  have g0 : Go p e below s₁ (mkF m 0 #[rv b1, iv (Int32.ofNat ls.length)] []) (s₁.setTop (entryFrame m #[(.ref b1), (.int (Int32.ofNat ls.length))] 2)) := fun t kont => castTop (ef_cfaL m b1 (Int32.ofNat ls.length) ) kont
  generalize s₁.setTop (entryFrame m #[(.ref b1), (.int (Int32.ofNat ls.length))] 2) = A0 at g0 ⊢
  have g101 : Go p e below s₁ (mkF m 2 #[rv b1, iv (Int32.ofNat ls.length)] [(.ref b1), (.int (Int32.ofNat ls.length))]) A0 := by
    intro t kont
    refine g0 t ?_
    refine XS.iloadN X0.here hx rfl (hb hby d9_0) rfl ?_
    refine XS.aloadN X0.here hx rfl (hb hby d9_1) rfl rfl ?_
    exact kont
  have zz102 := A0_
  obtain ⟨cl102, Ar102, -, S102, M102, -, -⟩ := zz102
  have g103 : Go p e below s₁ (mkF m 3 #[rv b1, iv (Int32.ofNat ls.length)] [(.int (Int32.ofNat ls.length)), (.int (Int32.ofNat ls.length))]) A0 := by
    intro t kont
    refine g101 t ?_
    refine X0.arraylength hx (by rw [e0]; exact Ar102.1) (State.isArrayOf_alike hZ.alike Ar102.2.1) (g := (mkF m 2 #[rv b1, iv (Int32.ofNat ls.length)] [(.ref b1), (.int (Int32.ofNat ls.length))])) rfl rfl (hb hby d9_2) _ ?_
    rw [len_of S102 M102]
    exact kont
  have g104 : Go p e below s₁ (mkF m 8 #[rv b1, iv (Int32.ofNat ls.length)] [(.int (((((Int32.ofNat ls.length) - (Int32.ofNat ls.length)).toUInt32 >>> ((31 : Int32) &&& 31).toUInt32).toInt32).toInt8.toInt32))]) A0 := by
    intro t kont
    refine g103 t ?_
    refine XS.isub X0.here hx rfl (hb hby d9_3) rfl ?_
    refine XS.bipush X0.here hx rfl (hb hby d9_4) ?_
    refine XS.iushr X0.here hx rfl (hb hby d9_6) rfl ?_
    refine XS.i2b X0.here hx rfl (hb hby d9_7) rfl ?_
    exact kont
  obtain ⟨fs, hr, hrun, hended, hW, hsame⟩ := X0.leave (v := some (.int (((((Int32.ofNat ls.length) - (Int32.ofNat ls.length)).toUInt32 >>> ((31 : Int32) &&& 31).toUInt32).toInt32).toInt8.toInt32))) (fun h => by rw [Bd.returns] at h; cases h)
  refine ⟨_, _, g104 _ (retN X0 hx (t := .byte) Bd.returns (by simp) (hb hby d9_8) (by rw [(own_narb _)]; exact hr)), hrun, hended, _, _, rfl, ?_, ⟨_, rfl⟩, hW, hsame.mono (by decide) (by decide)⟩
  show Q_cfaL Z b1 kid vs ls h0 n0 _ s₁.heap _
  rw [e0]
  exact ⟨congrArg (fun z => some (Value.int z)) (own_cfa0 _), N0, rfl⟩
theorem ef_cfaU (m : MethodId) (x0 : Addr) (x1 : Int32)  : entryFrame m #[(.ref x0), (.int x1)] 2 = mkF m 0 #[.val (.ref x0), .val (.int x1)] [] := by first | (simp [entryFrame, mkF, argsToLocals, Value.category]; done) | rfl
def Q_cfaU (Z : State) (b1 : Addr) (kid : ClassId) (vs : List Value) (ls : List Int32) (h0 : Heap) (n0 : Nat) (v : Option Value) (h : Heap) (L : List Loc) : Prop := v = some (.int (1 : Int32)) ∧ Fr n0 L ∧ h = h0
set_option maxRecDepth 65536 in
set_option maxHeartbeats 40000000 in
theorem rm_cfaU (l : Launch) (Z : State) (a0 : Array Value) (hw : ∀ d ∈ tables_1, d.before a0 Z = true) (ws : List Jvm.Cond) (b1 : Addr) (kid : ClassId) (vs : List Value) (ls : List Int32) (h0 : Heap) (n0 : Nat) (O0 : Old Z n0 h0) (A0_ : Arv Z h0 b1 kid .byte (Int32.ofNat (2 * ls.length)) vs (.int (0 : Int32))) (hn0 : 0 < ls.length) (hB : ls.length ≤ 3) :
    MetFree l (⟨"java/lang/StringUTF16", "coderFromArrayLen", "([BI)B"⟩ : MethodName) (head1 (Jvm.Cond.code (⟨"java/lang/StringUTF16", "coderFromArrayLen", "([BI)B"⟩ : MethodName) jdk_52_method_15_code 2 (some .byte) :: ws) ({ frames := 0, cells := 0, slots := 0, locals := 0 } : Room)) (fun a U => a = #[(.ref b1), (.int (Int32.ofNat ls.length))] ∧ Z.Warmed39 U.vm ∧ U.heap = h0) (fun _ _ _ _ _ => True) (fun _ U o U' => ∃ v L, o = .returned v ∧ Q_cfaU Z b1 kid vs ls h0 n0 v U'.heap L ∧ FrameEnd U o U' L ({ frames := 0, cells := 0, slots := 0, locals := 0 } : Room).cells ({ frames := 0, cells := 0, slots := 0, locals := 0 } : Room).slots) := by
  refine MetFree.of_bodySF (plainFor_of_name pn_java_lang_StringUTF16) hisR ?_
  intro p e s m args below meth c s₁ Bd hml0 hP hK
  obtain ⟨rfl, hZ, hh⟩ := hP
  have hx := Bd.exec
  have hby := Bd.bytes
  have hml : c.maxLocals = 2 := hml0
  have hown : s.vm.findClass "java/lang/StringUTF16" = some m.cls := findClass_of_methodNamed Bd.named
  have hnm := (name_of_methodNamed Bd.named Bd.method).1
  have X0 : Stand p l e ({ frames := 0, cells := 0, slots := 0, locals := 0 } : Room) s m #[(.ref b1), (.int (Int32.ofNat ls.length))] below meth c s₁ [] 0 0 := Stand.of_body Bd
  have e0 : s₁.heap = h0 := by rw [← hh, Bd.state]; rfl
  have N0 := Fr.nil n0
  have g0 : Go p e below s₁ (mkF m 0 #[rv b1, iv (Int32.ofNat ls.length)] []) (s₁.setTop (entryFrame m #[(.ref b1), (.int (Int32.ofNat ls.length))] 2)) := fun t kont => castTop (ef_cfaU m b1 (Int32.ofNat ls.length) ) kont
  generalize s₁.setTop (entryFrame m #[(.ref b1), (.int (Int32.ofNat ls.length))] 2) = A0 at g0 ⊢
  have g101 : Go p e below s₁ (mkF m 2 #[rv b1, iv (Int32.ofNat ls.length)] [(.ref b1), (.int (Int32.ofNat ls.length))]) A0 := by
    intro t kont
    refine g0 t ?_
    refine XS.iloadN X0.here hx rfl (hb hby d9_0) rfl ?_
    refine XS.aloadN X0.here hx rfl (hb hby d9_1) rfl rfl ?_
    exact kont
  have zz102 := A0_
  obtain ⟨cl102, Ar102, -, S102, M102, -, -⟩ := zz102
  have g103 : Go p e below s₁ (mkF m 3 #[rv b1, iv (Int32.ofNat ls.length)] [(.int (Int32.ofNat (2 * ls.length))), (.int (Int32.ofNat ls.length))]) A0 := by
    intro t kont
    refine g101 t ?_
    refine X0.arraylength hx (by rw [e0]; exact Ar102.1) (State.isArrayOf_alike hZ.alike Ar102.2.1) (g := (mkF m 2 #[rv b1, iv (Int32.ofNat ls.length)] [(.ref b1), (.int (Int32.ofNat ls.length))])) rfl rfl (hb hby d9_2) _ ?_
    rw [len_of S102 M102]
    exact kont
  have g104 : Go p e below s₁ (mkF m 8 #[rv b1, iv (Int32.ofNat ls.length)] [(.int (((((Int32.ofNat ls.length) - (Int32.ofNat (2 * ls.length))).toUInt32 >>> ((31 : Int32) &&& 31).toUInt32).toInt32).toInt8.toInt32))]) A0 := by
    intro t kont
    refine g103 t ?_
    refine XS.isub X0.here hx rfl (hb hby d9_3) rfl ?_
    refine XS.bipush X0.here hx rfl (hb hby d9_4) ?_
    refine XS.iushr X0.here hx rfl (hb hby d9_6) rfl ?_
    refine XS.i2b X0.here hx rfl (hb hby d9_7) rfl ?_
    exact kont
  obtain ⟨fs, hr, hrun, hended, hW, hsame⟩ := X0.leave (v := some (.int (((((Int32.ofNat ls.length) - (Int32.ofNat (2 * ls.length))).toUInt32 >>> ((31 : Int32) &&& 31).toUInt32).toInt32).toInt8.toInt32))) (fun h => by rw [Bd.returns] at h; cases h)
  refine ⟨_, _, g104 _ (retN X0 hx (t := .byte) Bd.returns (by simp) (hb hby d9_8) (by rw [(own_narb _)]; exact hr)), hrun, hended, _, _, rfl, ?_, ⟨_, rfl⟩, hW, hsame.mono (by decide) (by decide)⟩
  show Q_cfaU Z b1 kid vs ls h0 n0 _ s₁.heap _
  rw [e0]
  exact ⟨congrArg (fun z => some (Value.int z)) (own_cfa1 hn0 (by omega)), N0, rfl⟩
theorem d3_27 : decode jdk_42_method_149_code 27 = .ok (.getstatic 38, 3) := by decide +kernel
theorem d3_30 : decode jdk_42_method_149_code 30 = .ok (.ifCond .eq 28, 3) := by decide +kernel
theorem d3_33 : decode jdk_42_method_149_code 33 = .ok (.aload_n 1, 1) := by decide +kernel
theorem d3_34 : decode jdk_42_method_149_code 34 = .ok (.iload_n 2, 1) := by decide +kernel
theorem d3_35 : decode jdk_42_method_149_code 35 = .ok (.iload_n 3, 1) := by decide +kernel
theorem d3_36 : decode jdk_42_method_149_code 36 = .ok (.invokestatic 177, 3) := by decide +kernel
theorem d3_39 : decode jdk_42_method_149_code 39 = .ok (.astore 5, 2) := by decide +kernel
theorem d3_41 : decode jdk_42_method_149_code 41 = .ok (.aload_n 0, 1) := by decide +kernel
theorem d3_42 : decode jdk_42_method_149_code 42 = .ok (.aload 5, 2) := by decide +kernel
theorem d3_44 : decode jdk_42_method_149_code 44 = .ok (.iload_n 3, 1) := by decide +kernel
theorem d3_45 : decode jdk_42_method_149_code 45 = .ok (.invokestatic 47, 3) := by decide +kernel
theorem pd_7 : parseMethodDescriptor "([BI)B" = some ⟨[(.array .byte), .int], some .byte⟩ := by decide +kernel
theorem d3_48 : decode jdk_42_method_149_code 48 = .ok (.putfield 15, 3) := by decide +kernel
theorem d3_51 : decode jdk_42_method_149_code 51 = .ok (.aload_n 0, 1) := by decide +kernel
theorem d3_52 : decode jdk_42_method_149_code 52 = .ok (.aload 5, 2) := by decide +kernel
theorem d3_54 : decode jdk_42_method_149_code 54 = .ok (.putfield 9, 3) := by decide +kernel
theorem d3_57 : decode jdk_42_method_149_code 57 = .ok (.return_, 1) := by decide +kernel
theorem ef_sinG (m : MethodId) (x0 : Addr) (x1 : Addr) (x2 : Int32) (x3 : Int32)  : entryFrame m #[(.ref x0), (.ref x1), (.int x2), (.int x3), .null] 6 = mkF m 0 #[.val (.ref x0), .val (.ref x1), .val (.int x2), .val (.int x3), .val .null, .unset] [] := by first | (simp [entryFrame, mkF, argsToLocals, Value.category]; done) | rfl
def Q_sinG (Z : State) (a1 : Addr) (s1 : Addr) (ks : ClassId) (ls : List Int32) (cs : Int32) (h0 : Heap) (n0 : Nat) (v : Option Value) (h : Heap) (L : List Loc) : Prop := ∃ (r : Addr), ∃ (kid : ClassId), ∃ (cd : Int32), ∃ (z : Int32), ∃ (vs : List Value), v = none ∧ Fr n0 L ∧ Keep h0 h [a1] ∧ (Exa Z h a1 "java/lang/String") ∧ (Fld Z h a1 "java/lang/String" "coder" "B" (.int cd)) ∧ (Fld Z h a1 "java/lang/String" "value" "[B" (.ref r)) ∧ h0.size ≤ r ∧ (Arv Z h r kid .byte z vs (.int (0 : Int32))) ∧ (own_cod ls cd z vs)
set_option maxRecDepth 65536 in
set_option maxHeartbeats 40000000 in
theorem rm_sinG (l : Launch) (Z : State) (a0 : Array Value) (hw : ∀ d ∈ tables_1, d.before a0 Z = true) (ws : List Jvm.Cond) (a1 : Addr) (s1 : Addr) (ks : ClassId) (ls : List Int32) (cs : Int32) (h0 : Heap) (n0 : Nat) (O0 : Old Z n0 h0) (F0_ : Fld Z h0 a1 "java/lang/String" "value" "[B" .null) (F1_ : Fld Z h0 a1 "java/lang/String" "coder" "B" (.int (0 : Int32))) (E2_ : Exa Z h0 a1 "java/lang/String") (G3_ : n0 ≤ a1) (A4_ : Arv Z h0 s1 ks .char (Int32.ofNat ls.length) (ls.map Value.int) (.int (0 : Int32))) (hB : ls.length ≤ 3) (hn0 : 0 < ls.length) (hch : own_chars ls) (S8_ : Sta Z Z.heap "java/lang/String" "COMPACT_STRINGS" "Z" (.int cs)) (hcs : ¬ (cs = (0 : Int32))) (S10_ : Sta Z Z.heap "java/lang/StringUTF16" "$assertionsDisabled" "Z" (.int (1 : Int32))) (S11_ : Sta Z Z.heap "java/lang/StringUTF16" "HI_BYTE_SHIFT" "I" (.int (0 : Int32))) (S12_ : Sta Z Z.heap "java/lang/StringUTF16" "LO_BYTE_SHIFT" "I" (.int (8 : Int32))) :
    MetFree l (⟨"java/lang/String", "<init>", "([CIILjava/lang/Void;)V"⟩ : MethodName) (head1 (Jvm.Cond.code (⟨"java/lang/String", "<init>", "([CIILjava/lang/Void;)V"⟩ : MethodName) jdk_42_method_149_code 6 none :: ws) ({ frames := 4, cells := 2, slots := 9, locals := 57 } : Room)) (fun a U => a = #[(.ref a1), (.ref s1), (.int (0 : Int32)), (.int (Int32.ofNat ls.length)), .null] ∧ Z.Warmed39 U.vm ∧ U.heap = h0) (fun _ _ _ _ _ => True) (fun _ U o U' => ∃ v L, o = .returned v ∧ Q_sinG Z a1 s1 ks ls cs h0 n0 v U'.heap L ∧ FrameEnd U o U' L ({ frames := 4, cells := 2, slots := 9, locals := 57 } : Room).cells ({ frames := 4, cells := 2, slots := 9, locals := 57 } : Room).slots) := by
  refine MetFree.of_bodySF (plainFor_of_name pn_java_lang_String) hisR ?_
  intro p e s m args below meth c s₁ Bd hml0 hP hK
  obtain ⟨rfl, hZ, hh⟩ := hP
  have hx := Bd.exec
  have hby := Bd.bytes
  have hml : c.maxLocals = 6 := hml0
  have hown : s.vm.findClass "java/lang/String" = some m.cls := findClass_of_methodNamed Bd.named
  have hnm := (name_of_methodNamed Bd.named Bd.method).1
  have X0 : Stand p l e ({ frames := 4, cells := 2, slots := 9, locals := 57 } : Room) s m #[(.ref a1), (.ref s1), (.int (0 : Int32)), (.int (Int32.ofNat ls.length)), .null] below meth c s₁ [] 0 0 := Stand.of_body Bd
  have e0 : s₁.heap = h0 := by rw [← hh, Bd.state]; rfl
  have N0 := Fr.nil n0
  have g0 : Go p e below s₁ (mkF m 0 #[rv a1, rv s1, iv (0 : Int32), iv (Int32.ofNat ls.length), .val .null, .unset] []) (s₁.setTop (entryFrame m #[(.ref a1), (.ref s1), (.int (0 : Int32)), (.int (Int32.ofNat ls.length)), .null] 6)) := fun t kont => castTop (ef_sinG m a1 s1 (0 : Int32) (Int32.ofNat ls.length) ) kont
  generalize s₁.setTop (entryFrame m #[(.ref a1), (.ref s1), (.int (0 : Int32)), (.int (Int32.ofNat ls.length)), .null] 6) = A0 at g0 ⊢
  have g101 : Go p e below s₁ (mkF m 1 #[rv a1, rv s1, iv (0 : Int32), iv (Int32.ofNat ls.length), .val .null, .unset] [(.ref a1)]) A0 := by
    intro t kont
    refine g0 t ?_
    refine XS.aloadN X0.here hx rfl (hb hby d3_0) rfl rfl ?_
    exact kont
  obtain ⟨T102, X102, e102, st102⟩ := initO X0 hx hZ hown (hw _ (List.mem_of_getElem? (i := 16) rfl)) (hw _ (List.mem_of_getElem? (i := 17) rfl)) (hw _ (List.mem_of_getElem? (i := 18) rfl)) e0 (g := (mkF m 1 #[rv a1, rv s1, iv (0 : Int32), iv (Int32.ofNat ls.length), .val .null, .unset] [(.ref a1)])) rfl (by rw [hml]; rfl) rfl (hb hby d3_1) (by decide) (W := 0) (by show 2 * 0 + _ ≤ _; exact Nat.le_of_eq rfl) (by decide)
  have g103 : Go p e below T102 (mkF m 4 #[rv a1, rv s1, iv (0 : Int32), iv (Int32.ofNat ls.length), .val .null, .unset] []) A0 := fun t kont => g101 t (st102 t kont)
  have g104 : Go p e below T102 (mkF m 27 #[rv a1, rv s1, iv (0 : Int32), iv (Int32.ofNat ls.length), .val .null, .unset] []) A0 := by
    intro t kont
    refine g103 t ?_
    refine XS.iloadN X102.here hx rfl (hb hby d3_4) rfl ?_
    refine XS.ifYes X102.here hx rfl (pc0 := 5) (pc' := 27) rfl (hb hby d3_5) rfl ((if0 _ _).trans (feq (own_inj (b := 0) (by omega) (by omega) (by omega) : ¬ ((Int32.ofNat ls.length) = (0 : Int32)))).2) (by decide) (by decide) ?_
    exact kont
  have y105 : Sta Z h0 "java/lang/String" "COMPACT_STRINGS" "Z" (.int cs) := S8_.ext O0.2
  obtain ⟨T106, X106, e106, st106⟩ := getS2 X102 hx hZ hown (host := "") (Or.inl (hw _ (List.mem_of_getElem? (i := 36) rfl))) Via.refl e102 y105 (g := (mkF m 27 #[rv a1, rv s1, iv (0 : Int32), iv (Int32.ofNat ls.length), .val .null, .unset] [])) rfl (hb hby d3_27)
  have g107 : Go p e below T106 (mkF m 30 #[rv a1, rv s1, iv (0 : Int32), iv (Int32.ofNat ls.length), .val .null, .unset] [(.int cs)]) A0 := fun t kont => g104 t (st106 t kont)
  have g108 : Go p e below T106 (mkF m 36 #[rv a1, rv s1, iv (0 : Int32), iv (Int32.ofNat ls.length), .val .null, .unset] [(.int (Int32.ofNat ls.length)), (.int (0 : Int32)), (.ref s1)]) A0 := by
    intro t kont
    refine g107 t ?_
    refine XS.ifNo X106.here hx rfl (hb hby d3_30) rfl ((if0 _ _).trans (feq hcs).1) ?_
    refine XS.aloadN X106.here hx rfl (hb hby d3_33) rfl rfl ?_
    refine XS.iloadN X106.here hx rfl (hb hby d3_34) rfl ?_
    refine XS.iloadN X106.here hx rfl (hb hby d3_35) rfl ?_
    exact kont
  obtain ⟨_, _, ⟨T109, L109, k109, n109⟩, -, X109, ⟨Lc109, hQ109, l109, y109, z109⟩, st109⟩ := Jvm.LawKit.callS X106 hx (y := (⟨"java/lang/StringUTF16", "compress", "([CII)[B"⟩ : MethodName)) hown (mvT hZ (hw _ (List.mem_of_getElem? (i := 37) rfl))) (mvT hZ (hw _ (List.mem_of_getElem? (i := 38) rfl))) (mvT hZ (hw _ (List.mem_of_getElem? (i := 39) rfl))) (mvT hZ (hw _ (List.mem_of_getElem? (i := 40) rfl))) (by decide) (backOf (W := 0) (rm_comG l Z a0 hw [] s1 ks ls h0 n0 O0 A4_ hB hch S10_ S11_ S12_) hZ (hw _ (List.mem_of_getElem? (i := 40) rfl)) (hw _ (List.mem_of_getElem? (i := 39) rfl)) (by decide) (by decide)) (g := (mkF m 36 #[rv a1, rv s1, iv (0 : Int32), iv (Int32.ofNat ls.length), .val .null, .unset] [(.int (Int32.ofNat ls.length)), (.int (0 : Int32)), (.ref s1)])) rfl (by rw [hml]; rfl) (argsL := [(.ref s1), (.int (0 : Int32)), (.int (Int32.ofNat ls.length))]) (rest := []) (lenOf pd_5 rfl) rfl (by show 2 * 0 + _ ≤ _; exact Nat.le_of_eq rfl) (hb hby d3_36) (fun _ _ => ⟨rfl, e106, (by decide : 0 + 2 ≤ _), (by decide : 0 + 9 ≤ _)⟩)
  dsimp only [Pt.U, Pt.locs, Pt.cells, Pt.slots] at X109 l109 y109 z109 st109 hQ109
  subst l109 y109 z109
  obtain ⟨r110, r111, r112, r113, r114, rfl, M109, K109, y115, y116, y117, y118⟩ := hQ109
  have N109 := Fr.app N0 M109
  have O119 := O0.keep K109 all0
  have g120 : Go p e below T109 (mkF m 39 #[rv a1, rv s1, iv (0 : Int32), iv (Int32.ofNat ls.length), .val .null, .unset] [(.ref r110)]) A0 := fun t kont => g108 t (st109 t kont)
  have g121 : Go p e below T109 (mkF m 45 #[rv a1, rv s1, iv (0 : Int32), iv (Int32.ofNat ls.length), .val .null, rv r110] [(.int (Int32.ofNat ls.length)), (.ref r110), (.ref a1)]) A0 := by
    intro t kont
    refine g120 t ?_
    refine XS.astore X109.here hx rfl (hb hby d3_39) rfl rfl (l' := #[rv a1, rv s1, iv (0 : Int32), iv (Int32.ofNat ls.length), .val .null, rv r110]) rfl ?_
    refine XS.aloadN X109.here hx rfl (hb hby d3_41) rfl rfl ?_
    refine XS.aload X109.here hx rfl (hb hby d3_42) rfl rfl ?_
    refine XS.iloadN X109.here hx rfl (hb hby d3_44) rfl ?_
    exact kont
  rcases y118 with ⟨rfl, rfl, rfl, hlat⟩ | ⟨rfl, rfl, rfl⟩
  ·
    obtain ⟨_, _, ⟨T122, L122, k122, n122⟩, -, X122, ⟨Lc122, hQ122, l122, y122, z122⟩, st122⟩ := Jvm.LawKit.callS X109 hx (y := (⟨"java/lang/StringUTF16", "coderFromArrayLen", "([BI)B"⟩ : MethodName)) hown (mvT hZ (hw _ (List.mem_of_getElem? (i := 44) rfl))) (mvT hZ (hw _ (List.mem_of_getElem? (i := 45) rfl))) (mvT hZ (hw _ (List.mem_of_getElem? (i := 39) rfl))) (mvT hZ (hw _ (List.mem_of_getElem? (i := 46) rfl))) (by decide) (backOf (W := 1) (rm_cfaL l Z a0 hw [] r110 r111 (own_lb ls) ls T109.heap n0 O119 y117) hZ (hw _ (List.mem_of_getElem? (i := 46) rfl)) (hw _ (List.mem_of_getElem? (i := 39) rfl)) (by decide) (by decide)) (g := (mkF m 45 #[rv a1, rv s1, iv (0 : Int32), iv (Int32.ofNat ls.length), .val .null, rv r110] [(.int (Int32.ofNat ls.length)), (.ref r110), (.ref a1)])) rfl (by rw [hml]; rfl) (argsL := [(.ref r110), (.int (Int32.ofNat ls.length))]) (rest := [(.ref a1)]) (lenOf pd_7 rfl) rfl (by show 2 * 0 + _ ≤ _; exact Nat.le_of_eq rfl) (hb hby d3_45) (fun _ _ => ⟨rfl, rfl, (by decide : 2 + 0 ≤ _), (by decide : 9 + 0 ≤ _)⟩)
    dsimp only [Pt.U, Pt.locs, Pt.cells, Pt.slots] at X122 l122 y122 z122 st122 hQ122
    subst l122 y122 z122
    obtain ⟨rfl, M122, e122⟩ := hQ122
    have N122 := Fr.app N109 M122
    have g123 : Go p e below T122 (mkF m 48 #[rv a1, rv s1, iv (0 : Int32), iv (Int32.ofNat ls.length), .val .null, rv r110] [(.int (0 : Int32)), (.ref a1)]) A0 := fun t kont => g121 t (st122 t kont)
    have y124 : Exa Z T109.heap a1 "java/lang/String" := (E2_.keep K109)
    have y125 : Fld Z T109.heap a1 "java/lang/String" "coder" "B" (.int (0 : Int32)) := (F1_.keep K109 nin0)
    obtain ⟨T126, h126, X126, e126, W126, st126⟩ := putFN X122 hx hZ hown (hw _ (List.mem_of_getElem? (i := 26) rfl)) Via.refl e122 y125 y124 (Or.inr ⟨(hw _ (List.mem_of_getElem? (i := 22) rfl)), rfl, hnm⟩) (hw _ (List.mem_of_getElem? (i := 7) rfl)) (ty := .byte) (v := (.int (0 : Int32))) (v' := (.int (0 : Int32))) (by decide) (own_nw_byte (by decide : nar .byte (0 : Int32) = (0 : Int32))) (own_ft_byte (by decide : nar .byte (0 : Int32) = (0 : Int32))) (g := (mkF m 48 #[rv a1, rv s1, iv (0 : Int32), iv (Int32.ofNat ls.length), .val .null, rv r110] [(.int (0 : Int32)), (.ref a1)])) rfl rfl (hb hby d3_48)
    have O127 := O119.wr W126 G3_
    have y128 : Fld Z h126 a1 "java/lang/String" "coder" "B" (.int (0 : Int32)) := y125.same W126
    have N126 := Fr.snoc X126 N122 G3_
    have g129 : Go p e below T126 (mkF m 51 #[rv a1, rv s1, iv (0 : Int32), iv (Int32.ofNat ls.length), .val .null, rv r110] []) A0 := fun t kont => g123 t (st126 t kont)
    have g130 : Go p e below T126 (mkF m 54 #[rv a1, rv s1, iv (0 : Int32), iv (Int32.ofNat ls.length), .val .null, rv r110] [(.ref r110), (.ref a1)]) A0 := by
      intro t kont
      refine g129 t ?_
      refine XS.aloadN X126.here hx rfl (hb hby d3_51) rfl rfl ?_
      refine XS.aload X126.here hx rfl (hb hby d3_52) rfl rfl ?_
      exact kont
    have y131 : Exa Z h126 a1 "java/lang/String" := (y124.wr W126)
    have y132 : Fld Z h126 a1 "java/lang/String" "value" "[B" .null := ((F0_.keep K109 nin0).other W126 (Or.inr (slot_ne (Or.inr (hw _ (List.mem_of_getElem? (i := 21) rfl))) (Or.inr (hw _ (List.mem_of_getElem? (i := 22) rfl))) (by decide) (t := (.array .byte)) (t' := .byte) (by decide) (by decide))))
    obtain ⟨T133, h133, X133, e133, W133, st133⟩ := putF X126 hx hZ hown (host := "") (Or.inl (hw _ (List.mem_of_getElem? (i := 25) rfl))) Via.refl e126 y132 y131 (Or.inr ⟨(hw _ (List.mem_of_getElem? (i := 21) rfl)), rfl, hnm⟩) (hw _ (List.mem_of_getElem? (i := 7) rfl)) (ty := (.array .byte)) (by decide) rfl rfl (g := (mkF m 54 #[rv a1, rv s1, iv (0 : Int32), iv (Int32.ofNat ls.length), .val .null, rv r110] [(.ref r110), (.ref a1)])) rfl rfl (hb hby d3_54)
    have O134 := O127.wr W133 G3_
    have y135 : Fld Z h133 a1 "java/lang/String" "value" "[B" (.ref r110) := y132.same W133
    have N133 := Fr.snoc X133 N126 G3_
    have g136 : Go p e below T133 (mkF m 57 #[rv a1, rv s1, iv (0 : Int32), iv (Int32.ofNat ls.length), .val .null, rv r110] []) A0 := fun t kont => g130 t (st133 t kont)
    have K137 : Keep h0 h133 [a1] := ((((Keep.refl h0 [a1]).trans K109 (fun x hx => nomatch hx)).wr W126 (Or.inl (List.mem_of_getElem? (i := 0) rfl))).wr W133 (Or.inl (List.mem_of_getElem? (i := 0) rfl)))
    have y138 : Exa Z h133 a1 "java/lang/String" := (y131.wr W133)
    have y139 : Fld Z h133 a1 "java/lang/String" "coder" "B" (.int (0 : Int32)) := (y128.other W133 (Or.inr (slot_ne (Or.inr (hw _ (List.mem_of_getElem? (i := 22) rfl))) (Or.inr (hw _ (List.mem_of_getElem? (i := 21) rfl))) (by decide) (t := .byte) (t' := (.array .byte)) (by decide) (by decide))))
    have y140 : Arv Z h133 r110 r111 .byte (Int32.ofNat ls.length) (own_lb ls) (.int (0 : Int32)) := ((y117.other W126 (Ne.symm (Nat.ne_of_lt (Nat.lt_of_lt_of_le F0_.lt y115)))).other W133 (Ne.symm (Nat.ne_of_lt (Nat.lt_of_lt_of_le F0_.lt y115))))
    obtain ⟨fs, hr, hrun, hended, hW, hsame⟩ := X133.leave (v := none) (fun _ => rfl)
    refine ⟨_, _, g136 _ (X133.returnOut hx Bd.returns (hb hby d3_57) hr), hrun, hended, _, _, rfl, ?_, ⟨_, rfl⟩, hW, hsame.mono (by decide) (by decide)⟩
    show Q_sinG Z a1 s1 ks ls cs h0 n0 _ T133.heap _
    rw [e133]
    exact ⟨r110, r111, (0 : Int32), (Int32.ofNat ls.length), (own_lb ls), rfl, N133, K137, y138, y139, y135, y115, y140, Or.inl ⟨rfl, rfl, rfl, hlat⟩⟩
  obtain ⟨_, _, ⟨T141, L141, k141, n141⟩, -, X141, ⟨Lc141, hQ141, l141, y141, z141⟩, st141⟩ := Jvm.LawKit.callS X109 hx (y := (⟨"java/lang/StringUTF16", "coderFromArrayLen", "([BI)B"⟩ : MethodName)) hown (mvT hZ (hw _ (List.mem_of_getElem? (i := 44) rfl))) (mvT hZ (hw _ (List.mem_of_getElem? (i := 45) rfl))) (mvT hZ (hw _ (List.mem_of_getElem? (i := 39) rfl))) (mvT hZ (hw _ (List.mem_of_getElem? (i := 46) rfl))) (by decide) (backOf (W := 1) (rm_cfaU l Z a0 hw [] r110 r111 (own_wb ls) ls T109.heap n0 O119 y117 hn0 hB) hZ (hw _ (List.mem_of_getElem? (i := 46) rfl)) (hw _ (List.mem_of_getElem? (i := 39) rfl)) (by decide) (by decide)) (g := (mkF m 45 #[rv a1, rv s1, iv (0 : Int32), iv (Int32.ofNat ls.length), .val .null, rv r110] [(.int (Int32.ofNat ls.length)), (.ref r110), (.ref a1)])) rfl (by rw [hml]; rfl) (argsL := [(.ref r110), (.int (Int32.ofNat ls.length))]) (rest := [(.ref a1)]) (lenOf pd_7 rfl) rfl (by show 2 * 0 + _ ≤ _; exact Nat.le_of_eq rfl) (hb hby d3_45) (fun _ _ => ⟨rfl, rfl, (by decide : 2 + 0 ≤ _), (by decide : 9 + 0 ≤ _)⟩)
  dsimp only [Pt.U, Pt.locs, Pt.cells, Pt.slots] at X141 l141 y141 z141 st141 hQ141
  subst l141 y141 z141
  obtain ⟨rfl, M141, e141⟩ := hQ141
  have N141 := Fr.app N109 M141
  have g142 : Go p e below T141 (mkF m 48 #[rv a1, rv s1, iv (0 : Int32), iv (Int32.ofNat ls.length), .val .null, rv r110] [(.int (1 : Int32)), (.ref a1)]) A0 := fun t kont => g121 t (st141 t kont)
  have y143 : Exa Z T109.heap a1 "java/lang/String" := (E2_.keep K109)
  have y144 : Fld Z T109.heap a1 "java/lang/String" "coder" "B" (.int (0 : Int32)) := (F1_.keep K109 nin0)
  obtain ⟨T145, h145, X145, e145, W145, st145⟩ := putFN X141 hx hZ hown (hw _ (List.mem_of_getElem? (i := 26) rfl)) Via.refl e141 y144 y143 (Or.inr ⟨(hw _ (List.mem_of_getElem? (i := 22) rfl)), rfl, hnm⟩) (hw _ (List.mem_of_getElem? (i := 7) rfl)) (ty := .byte) (v := (.int (1 : Int32))) (v' := (.int (1 : Int32))) (by decide) (own_nw_byte (by decide : nar .byte (1 : Int32) = (1 : Int32))) (own_ft_byte (by decide : nar .byte (1 : Int32) = (1 : Int32))) (g := (mkF m 48 #[rv a1, rv s1, iv (0 : Int32), iv (Int32.ofNat ls.length), .val .null, rv r110] [(.int (1 : Int32)), (.ref a1)])) rfl rfl (hb hby d3_48)
  have O146 := O119.wr W145 G3_
  have y147 : Fld Z h145 a1 "java/lang/String" "coder" "B" (.int (1 : Int32)) := y144.same W145
  have N145 := Fr.snoc X145 N141 G3_
  have g148 : Go p e below T145 (mkF m 51 #[rv a1, rv s1, iv (0 : Int32), iv (Int32.ofNat ls.length), .val .null, rv r110] []) A0 := fun t kont => g142 t (st145 t kont)
  have g149 : Go p e below T145 (mkF m 54 #[rv a1, rv s1, iv (0 : Int32), iv (Int32.ofNat ls.length), .val .null, rv r110] [(.ref r110), (.ref a1)]) A0 := by
    intro t kont
    refine g148 t ?_
    refine XS.aloadN X145.here hx rfl (hb hby d3_51) rfl rfl ?_
    refine XS.aload X145.here hx rfl (hb hby d3_52) rfl rfl ?_
    exact kont
  have y150 : Exa Z h145 a1 "java/lang/String" := (y143.wr W145)
  have y151 : Fld Z h145 a1 "java/lang/String" "value" "[B" .null := ((F0_.keep K109 nin0).other W145 (Or.inr (slot_ne (Or.inr (hw _ (List.mem_of_getElem? (i := 21) rfl))) (Or.inr (hw _ (List.mem_of_getElem? (i := 22) rfl))) (by decide) (t := (.array .byte)) (t' := .byte) (by decide) (by decide))))
  obtain ⟨T152, h152, X152, e152, W152, st152⟩ := putF X145 hx hZ hown (host := "") (Or.inl (hw _ (List.mem_of_getElem? (i := 25) rfl))) Via.refl e145 y151 y150 (Or.inr ⟨(hw _ (List.mem_of_getElem? (i := 21) rfl)), rfl, hnm⟩) (hw _ (List.mem_of_getElem? (i := 7) rfl)) (ty := (.array .byte)) (by decide) rfl rfl (g := (mkF m 54 #[rv a1, rv s1, iv (0 : Int32), iv (Int32.ofNat ls.length), .val .null, rv r110] [(.ref r110), (.ref a1)])) rfl rfl (hb hby d3_54)
  have O153 := O146.wr W152 G3_
  have y154 : Fld Z h152 a1 "java/lang/String" "value" "[B" (.ref r110) := y151.same W152
  have N152 := Fr.snoc X152 N145 G3_
  have g155 : Go p e below T152 (mkF m 57 #[rv a1, rv s1, iv (0 : Int32), iv (Int32.ofNat ls.length), .val .null, rv r110] []) A0 := fun t kont => g149 t (st152 t kont)
  have K156 : Keep h0 h152 [a1] := ((((Keep.refl h0 [a1]).trans K109 (fun x hx => nomatch hx)).wr W145 (Or.inl (List.mem_of_getElem? (i := 0) rfl))).wr W152 (Or.inl (List.mem_of_getElem? (i := 0) rfl)))
  have y157 : Exa Z h152 a1 "java/lang/String" := (y150.wr W152)
  have y158 : Fld Z h152 a1 "java/lang/String" "coder" "B" (.int (1 : Int32)) := (y147.other W152 (Or.inr (slot_ne (Or.inr (hw _ (List.mem_of_getElem? (i := 22) rfl))) (Or.inr (hw _ (List.mem_of_getElem? (i := 21) rfl))) (by decide) (t := .byte) (t' := (.array .byte)) (by decide) (by decide))))
  have y159 : Arv Z h152 r110 r111 .byte (Int32.ofNat (2 * ls.length)) (own_wb ls) (.int (0 : Int32)) := ((y117.other W145 (Ne.symm (Nat.ne_of_lt (Nat.lt_of_lt_of_le F0_.lt y115)))).other W152 (Ne.symm (Nat.ne_of_lt (Nat.lt_of_lt_of_le F0_.lt y115))))
  obtain ⟨fs, hr, hrun, hended, hW, hsame⟩ := X152.leave (v := none) (fun _ => rfl)
  refine ⟨_, _, g155 _ (X152.returnOut hx Bd.returns (hb hby d3_57) hr), hrun, hended, _, _, rfl, ?_, ⟨_, rfl⟩, hW, hsame.mono (by decide) (by decide)⟩
  show Q_sinG Z a1 s1 ks ls cs h0 n0 _ T152.heap _
  rw [e152]
  exact ⟨r110, r111, (1 : Int32), (Int32.ofNat (2 * ls.length)), (own_wb ls), rfl, N152, K156, y157, y158, y154, y115, y159, Or.inr ⟨rfl, rfl, rfl⟩⟩
theorem ef_sIniG (m : MethodId) (x0 : Addr) (x1 : Addr)  : entryFrame m #[(.ref x0), (.ref x1)] 2 = mkF m 0 #[.val (.ref x0), .val (.ref x1)] [] := by first | (simp [entryFrame, mkF, argsToLocals, Value.category]; done) | rfl
def Q_sIniG (Z : State) (a1 : Addr) (s1 : Addr) (ks : ClassId) (ls : List Int32) (cs : Int32) (h0 : Heap) (n0 : Nat) (v : Option Value) (h : Heap) (L : List Loc) : Prop := ∃ (r : Addr), ∃ (kid : ClassId), ∃ (cd : Int32), ∃ (z : Int32), ∃ (vs : List Value), v = none ∧ Fr n0 L ∧ Keep h0 h [a1] ∧ (Exa Z h a1 "java/lang/String") ∧ (Fld Z h a1 "java/lang/String" "coder" "B" (.int cd)) ∧ (Fld Z h a1 "java/lang/String" "value" "[B" (.ref r)) ∧ h0.size ≤ r ∧ (Arv Z h r kid .byte z vs (.int (0 : Int32))) ∧ (own_cod ls cd z vs)
set_option maxRecDepth 65536 in
set_option maxHeartbeats 40000000 in
theorem rm_sIniG (l : Launch) (Z : State) (a0 : Array Value) (hw : ∀ d ∈ tables_1, d.before a0 Z = true) (ws : List Jvm.Cond) (a1 : Addr) (s1 : Addr) (ks : ClassId) (ls : List Int32) (cs : Int32) (h0 : Heap) (n0 : Nat) (O0 : Old Z n0 h0) (F0_ : Fld Z h0 a1 "java/lang/String" "value" "[B" .null) (F1_ : Fld Z h0 a1 "java/lang/String" "coder" "B" (.int (0 : Int32))) (E2_ : Exa Z h0 a1 "java/lang/String") (G3_ : n0 ≤ a1) (A4_ : Arv Z h0 s1 ks .char (Int32.ofNat ls.length) (ls.map Value.int) (.int (0 : Int32))) (hB : ls.length ≤ 3) (hn0 : 0 < ls.length) (hch : own_chars ls) (S8_ : Sta Z Z.heap "java/lang/String" "COMPACT_STRINGS" "Z" (.int cs)) (hcs : ¬ (cs = (0 : Int32))) (S10_ : Sta Z Z.heap "java/lang/StringUTF16" "$assertionsDisabled" "Z" (.int (1 : Int32))) (S11_ : Sta Z Z.heap "java/lang/StringUTF16" "HI_BYTE_SHIFT" "I" (.int (0 : Int32))) (S12_ : Sta Z Z.heap "java/lang/StringUTF16" "LO_BYTE_SHIFT" "I" (.int (8 : Int32))) :
    MetFree l (⟨"java/lang/String", "<init>", "([C)V"⟩ : MethodName) (head1 (Jvm.Cond.code (⟨"java/lang/String", "<init>", "([C)V"⟩ : MethodName) jdk_42_method_3_code 2 none :: ws) ({ frames := 5, cells := 2, slots := 9, locals := 74 } : Room)) (fun a U => a = #[(.ref a1), (.ref s1)] ∧ Z.Warmed39 U.vm ∧ U.heap = h0) (fun _ _ _ _ _ => True) (fun _ U o U' => ∃ v L, o = .returned v ∧ Q_sIniG Z a1 s1 ks ls cs h0 n0 v U'.heap L ∧ FrameEnd U o U' L ({ frames := 5, cells := 2, slots := 9, locals := 74 } : Room).cells ({ frames := 5, cells := 2, slots := 9, locals := 74 } : Room).slots) := by
  refine MetFree.of_bodySF (plainFor_of_name pn_java_lang_String) hisR ?_
  intro p e s m args below meth c s₁ Bd hml0 hP hK
  obtain ⟨rfl, hZ, hh⟩ := hP
  have hx := Bd.exec
  have hby := Bd.bytes
  have hml : c.maxLocals = 2 := hml0
  have hown : s.vm.findClass "java/lang/String" = some m.cls := findClass_of_methodNamed Bd.named
  have hnm := (name_of_methodNamed Bd.named Bd.method).1
  have X0 : Stand p l e ({ frames := 5, cells := 2, slots := 9, locals := 74 } : Room) s m #[(.ref a1), (.ref s1)] below meth c s₁ [] 0 0 := Stand.of_body Bd
  have e0 : s₁.heap = h0 := by rw [← hh, Bd.state]; rfl
  have N0 := Fr.nil n0
  have g0 : Go p e below s₁ (mkF m 0 #[rv a1, rv s1] []) (s₁.setTop (entryFrame m #[(.ref a1), (.ref s1)] 2)) := fun t kont => castTop (ef_sIniG m a1 s1 ) kont
  generalize s₁.setTop (entryFrame m #[(.ref a1), (.ref s1)] 2) = A0 at g0 ⊢
  have g101 : Go p e below s₁ (mkF m 4 #[rv a1, rv s1] [(.ref s1), (.int (0 : Int32)), (.ref s1), (.ref a1)]) A0 := by
    intro t kont
    refine g0 t ?_
    refine XS.aloadN X0.here hx rfl (hb hby d2_0) rfl rfl ?_
    refine XS.aloadN X0.here hx rfl (hb hby d2_1) rfl rfl ?_
    refine XS.iconst X0.here hx rfl (hb hby d2_2) ?_
    refine XS.aloadN X0.here hx rfl (hb hby d2_3) rfl rfl ?_
    exact kont
  have zz102 := A4_
  obtain ⟨cl102, Ar102, -, S102, M102, -, -⟩ := zz102
  have g103 : Go p e below s₁ (mkF m 5 #[rv a1, rv s1] [(.int (Int32.ofNat ls.length)), (.int (0 : Int32)), (.ref s1), (.ref a1)]) A0 := by
    intro t kont
    refine g101 t ?_
    refine X0.arraylength hx (by rw [e0]; exact Ar102.1) (State.isArrayOf_alike hZ.alike Ar102.2.1) (g := (mkF m 4 #[rv a1, rv s1] [(.ref s1), (.int (0 : Int32)), (.ref s1), (.ref a1)])) rfl rfl (hb hby d2_4) _ ?_
    rw [len_of S102 M102]
    exact kont
  have g104 : Go p e below s₁ (mkF m 6 #[rv a1, rv s1] [.null, (.int (Int32.ofNat ls.length)), (.int (0 : Int32)), (.ref s1), (.ref a1)]) A0 := by
    intro t kont
    refine g103 t ?_
    refine XS.aconstNull X0.here hx rfl (hb hby d2_5) ?_
    exact kont
  obtain ⟨_, _, ⟨T105, L105, k105, n105⟩, -, X105, ⟨Lc105, hQ105, l105, y105, z105⟩, st105⟩ := X0.specialBack hx (y := (⟨"java/lang/String", "<init>", "([CIILjava/lang/Void;)V"⟩ : MethodName)) rfl hown (mvT hZ (hw _ (List.mem_of_getElem? (i := 12) rfl))) (mvT hZ (hw _ (List.mem_of_getElem? (i := 13) rfl))) (mvT hZ (hw _ (List.mem_of_getElem? (i := 15) rfl))) (by decide) (backOf (W := 0) (rm_sinG l Z a0 hw [] a1 s1 ks ls cs h0 n0 O0 F0_ F1_ E2_ G3_ A4_ hB hn0 hch S8_ hcs S10_ S11_ S12_) hZ (hw _ (List.mem_of_getElem? (i := 15) rfl)) (hw _ (List.mem_of_getElem? (i := 8) rfl)) (by decide) (by decide)) (g := (mkF m 6 #[rv a1, rv s1] [.null, (.int (Int32.ofNat ls.length)), (.int (0 : Int32)), (.ref s1), (.ref a1)])) rfl (by rw [hml]; rfl) (Steps.refl _) (a := a1) (argsL := [(.ref s1), (.int (0 : Int32)), (.int (Int32.ofNat ls.length)), .null]) (rest := []) (lenOf pd_0 rfl) rfl (by show 2 * 0 + _ ≤ _; exact Nat.le_of_eq rfl) (hb hby d2_6) (fun _ _ => ⟨rfl, e0, (by decide : 0 + 2 ≤ _), (by decide : 0 + 9 ≤ _)⟩)
  dsimp only [Pt.U, Pt.locs, Pt.cells, Pt.slots] at X105 l105 y105 z105 st105 hQ105
  subst l105 y105 z105
  obtain ⟨r106, r107, r108, r109, r110, rfl, M105, K105, y111, y112, y113, y114, y115, y116⟩ := hQ105
  have N105 := Fr.app N0 M105
  have O117 := O0.keep K105 (allS G3_ all0)
  have g118 : Go p e below T105 (mkF m 9 #[rv a1, rv s1] []) A0 := fun t kont => g104 t (st105.trans kont)
  have K119 : Keep h0 T105.heap [a1] := ((Keep.refl h0 [a1]).trans K105 (allS (P := fun x => x ∈ [a1] ∨ h0.size ≤ x) (Or.inl (List.mem_of_getElem? (i := 0) rfl)) all0))
  obtain ⟨fs, hr, hrun, hended, hW, hsame⟩ := X105.leave (v := none) (fun _ => rfl)
  refine ⟨_, _, g118 _ (X105.returnOut hx Bd.returns (hb hby d2_9) hr), hrun, hended, _, _, rfl, ?_, ⟨_, rfl⟩, hW, hsame.mono (by decide) (by decide)⟩
  show Q_sIniG Z a1 s1 ks ls cs h0 n0 _ T105.heap _
  exact ⟨r106, r107, r108, r109, r110, rfl, N105, K119, y111, y112, y113, y114, y115, y116⟩
theorem d6_0 : decode jdk_42_method_55_code 0 = .ok (.aload_n 0, 1) := by decide +kernel
theorem d6_1 : decode jdk_42_method_55_code 1 = .ok (.getfield 9, 3) := by decide +kernel
theorem d6_4 : decode jdk_42_method_55_code 4 = .ok (.arraylength, 1) := by decide +kernel
theorem d6_5 : decode jdk_42_method_55_code 5 = .ok (.ifCond .ne 7, 3) := by decide +kernel
theorem d6_12 : decode jdk_42_method_55_code 12 = .ok (.iconst 0, 1) := by decide +kernel
theorem d6_13 : decode jdk_42_method_55_code 13 = .ok (.ireturn, 1) := by decide +kernel
theorem ef_isE (m : MethodId) (x0 : Addr)  : entryFrame m #[(.ref x0)] 1 = mkF m 0 #[.val (.ref x0)] [] := by first | (simp [entryFrame, mkF, argsToLocals, Value.category]; done) | rfl
def Q_isE (Z : State) (a1 : Addr) (b1 : Addr) (kb : ClassId) (z1 : Int32) (vs1 : List Value) (h0 : Heap) (n0 : Nat) (v : Option Value) (h : Heap) (L : List Loc) : Prop := v = some (.int (0 : Int32)) ∧ Fr n0 L ∧ h = h0
set_option maxRecDepth 65536 in
set_option maxHeartbeats 40000000 in
theorem rm_isE (l : Launch) (Z : State) (a0 : Array Value) (hw : ∀ d ∈ tables_1, d.before a0 Z = true) (ws : List Jvm.Cond) (a1 : Addr) (b1 : Addr) (kb : ClassId) (z1 : Int32) (vs1 : List Value) (h0 : Heap) (n0 : Nat) (O0 : Old Z n0 h0) (F0_ : Fld Z h0 a1 "java/lang/String" "value" "[B" (.ref b1)) (A1_ : Arv Z h0 b1 kb .byte z1 vs1 (.int (0 : Int32))) (hz1 : ¬ (z1 = (0 : Int32))) :
    MetFree l (⟨"java/lang/String", "isEmpty", "()Z"⟩ : MethodName) (head1 (Jvm.Cond.code (⟨"java/lang/String", "isEmpty", "()Z"⟩ : MethodName) jdk_42_method_55_code 1 (some .boolean) :: ws) ({ frames := 0, cells := 0, slots := 0, locals := 0 } : Room)) (fun a U => a = #[(.ref a1)] ∧ Z.Warmed39 U.vm ∧ U.heap = h0) (fun _ _ _ _ _ => True) (fun _ U o U' => ∃ v L, o = .returned v ∧ Q_isE Z a1 b1 kb z1 vs1 h0 n0 v U'.heap L ∧ FrameEnd U o U' L ({ frames := 0, cells := 0, slots := 0, locals := 0 } : Room).cells ({ frames := 0, cells := 0, slots := 0, locals := 0 } : Room).slots) := by
  refine MetFree.of_bodySF (plainFor_of_name pn_java_lang_String) hisR ?_
  intro p e s m args below meth c s₁ Bd hml0 hP hK
  obtain ⟨rfl, hZ, hh⟩ := hP
  have hx := Bd.exec
  have hby := Bd.bytes
  have hml : c.maxLocals = 1 := hml0
  have hown : s.vm.findClass "java/lang/String" = some m.cls := findClass_of_methodNamed Bd.named
  have hnm := (name_of_methodNamed Bd.named Bd.method).1
  have X0 : Stand p l e ({ frames := 0, cells := 0, slots := 0, locals := 0 } : Room) s m #[(.ref a1)] below meth c s₁ [] 0 0 := Stand.of_body Bd
  have e0 : s₁.heap = h0 := by rw [← hh, Bd.state]; rfl
  have N0 := Fr.nil n0
  have g0 : Go p e below s₁ (mkF m 0 #[rv a1] []) (s₁.setTop (entryFrame m #[(.ref a1)] 1)) := fun t kont => castTop (ef_isE m a1 ) kont
  generalize s₁.setTop (entryFrame m #[(.ref a1)] 1) = A0 at g0 ⊢
  have g101 : Go p e below s₁ (mkF m 1 #[rv a1] [(.ref a1)]) A0 := by
    intro t kont
    refine g0 t ?_
    refine XS.aloadN X0.here hx rfl (hb hby d6_0) rfl rfl ?_
    exact kont
  obtain ⟨T102, X102, e102, st102⟩ := getF X0 hx hZ hown (host := "") (Or.inl (hw _ (List.mem_of_getElem? (i := 25) rfl))) Via.refl e0 F0_ (g := (mkF m 1 #[rv a1] [(.ref a1)])) rfl rfl (hb hby d6_1)
  have g103 : Go p e below T102 (mkF m 4 #[rv a1] [(.ref b1)]) A0 := fun t kont => g101 t (st102 t kont)
  have zz104 := A1_
  obtain ⟨cl104, Ar104, -, S104, M104, -, -⟩ := zz104
  have g105 : Go p e below T102 (mkF m 5 #[rv a1] [(.int z1)]) A0 := by
    intro t kont
    refine g103 t ?_
    refine X102.arraylength hx (by rw [e102]; exact Ar104.1) (State.isArrayOf_alike hZ.alike Ar104.2.1) (g := (mkF m 4 #[rv a1] [(.ref b1)])) rfl rfl (hb hby d6_4) _ ?_
    rw [len_of S104 M104]
    exact kont
  have g106 : Go p e below T102 (mkF m 13 #[rv a1] [(.int (0 : Int32))]) A0 := by
    intro t kont
    refine g105 t ?_
    refine XS.ifYes X102.here hx rfl (pc0 := 5) (pc' := 12) rfl (hb hby d6_5) rfl ((if0 _ _).trans (feq hz1).2) (by decide) (by decide) ?_
    refine XS.iconst X102.here hx rfl (hb hby d6_12) ?_
    exact kont
  obtain ⟨fs, hr, hrun, hended, hW, hsame⟩ := X102.leave (v := some (.int (0 : Int32))) (fun h => by rw [Bd.returns] at h; cases h)
  refine ⟨_, _, g106 _ (retN X102 hx (t := .boolean) Bd.returns (by simp) (hb hby d6_13) hr), hrun, hended, _, _, rfl, ?_, ⟨_, rfl⟩, hW, hsame.mono (by decide) (by decide)⟩
  show Q_isE Z a1 b1 kb z1 vs1 h0 n0 _ T102.heap _
  rw [e102]
  exact ⟨rfl, N0, rfl⟩
theorem d12_0 : decode jdk_42_method_152_code 0 = .ok (.getstatic 38, 3) := by decide +kernel
theorem d12_3 : decode jdk_42_method_152_code 3 = .ok (.ifCond .eq 10, 3) := by decide +kernel
theorem d12_6 : decode jdk_42_method_152_code 6 = .ok (.aload_n 0, 1) := by decide +kernel
theorem d12_7 : decode jdk_42_method_152_code 7 = .ok (.getfield 15, 3) := by decide +kernel
theorem d12_10 : decode jdk_42_method_152_code 10 = .ok (.goto 4, 3) := by decide +kernel
theorem d12_14 : decode jdk_42_method_152_code 14 = .ok (.ireturn, 1) := by decide +kernel
theorem ef_cdrG (m : MethodId) (x0 : Addr)  : entryFrame m #[(.ref x0)] 1 = mkF m 0 #[.val (.ref x0)] [] := by first | (simp [entryFrame, mkF, argsToLocals, Value.category]; done) | rfl
def Q_cdrG (Z : State) (a1 : Addr) (cs : Int32) (cd : Int32) (h0 : Heap) (n0 : Nat) (v : Option Value) (h : Heap) (L : List Loc) : Prop := v = some (.int cd) ∧ Fr n0 L ∧ h = h0
set_option maxRecDepth 65536 in
set_option maxHeartbeats 40000000 in
theorem rm_cdrG (l : Launch) (Z : State) (a0 : Array Value) (hw : ∀ d ∈ tables_1, d.before a0 Z = true) (ws : List Jvm.Cond) (a1 : Addr) (cs : Int32) (cd : Int32) (h0 : Heap) (n0 : Nat) (O0 : Old Z n0 h0) (S0_ : Sta Z Z.heap "java/lang/String" "COMPACT_STRINGS" "Z" (.int cs)) (hcs : ¬ (cs = (0 : Int32))) (F2_ : Fld Z h0 a1 "java/lang/String" "coder" "B" (.int cd)) (h01 : cd = (0 : Int32) ∨ cd = (1 : Int32)) :
    MetFree l (⟨"java/lang/String", "coder", "()B"⟩ : MethodName) (head1 (Jvm.Cond.code (⟨"java/lang/String", "coder", "()B"⟩ : MethodName) jdk_42_method_152_code 1 (some .byte) :: ws) ({ frames := 0, cells := 0, slots := 0, locals := 0 } : Room)) (fun a U => a = #[(.ref a1)] ∧ Z.Warmed39 U.vm ∧ U.heap = h0) (fun _ _ _ _ _ => True) (fun _ U o U' => ∃ v L, o = .returned v ∧ Q_cdrG Z a1 cs cd h0 n0 v U'.heap L ∧ FrameEnd U o U' L ({ frames := 0, cells := 0, slots := 0, locals := 0 } : Room).cells ({ frames := 0, cells := 0, slots := 0, locals := 0 } : Room).slots) := by
  refine MetFree.of_bodySF (plainFor_of_name pn_java_lang_String) hisR ?_
  intro p e s m args below meth c s₁ Bd hml0 hP hK
  obtain ⟨rfl, hZ, hh⟩ := hP
  have hx := Bd.exec
  have hby := Bd.bytes
  have hml : c.maxLocals = 1 := hml0
  have hown : s.vm.findClass "java/lang/String" = some m.cls := findClass_of_methodNamed Bd.named
  have hnm := (name_of_methodNamed Bd.named Bd.method).1
  have X0 : Stand p l e ({ frames := 0, cells := 0, slots := 0, locals := 0 } : Room) s m #[(.ref a1)] below meth c s₁ [] 0 0 := Stand.of_body Bd
  have e0 : s₁.heap = h0 := by rw [← hh, Bd.state]; rfl
  have N0 := Fr.nil n0
  have g0 : Go p e below s₁ (mkF m 0 #[rv a1] []) (s₁.setTop (entryFrame m #[(.ref a1)] 1)) := fun t kont => castTop (ef_cdrG m a1 ) kont
  generalize s₁.setTop (entryFrame m #[(.ref a1)] 1) = A0 at g0 ⊢
  have r_cd : nar .byte cd = cd := own_nar01 h01
  have y101 : Sta Z h0 "java/lang/String" "COMPACT_STRINGS" "Z" (.int cs) := S0_.ext O0.2
  obtain ⟨T102, X102, e102, st102⟩ := getS2 X0 hx hZ hown (host := "") (Or.inl (hw _ (List.mem_of_getElem? (i := 36) rfl))) Via.refl e0 y101 (g := (mkF m 0 #[rv a1] [])) rfl (hb hby d12_0)
  have g103 : Go p e below T102 (mkF m 3 #[rv a1] [(.int cs)]) A0 := fun t kont => g0 t (st102 t kont)
  have g104 : Go p e below T102 (mkF m 7 #[rv a1] [(.ref a1)]) A0 := by
    intro t kont
    refine g103 t ?_
    refine XS.ifNo X102.here hx rfl (hb hby d12_3) rfl ((if0 _ _).trans (feq hcs).1) ?_
    refine XS.aloadN X102.here hx rfl (hb hby d12_6) rfl rfl ?_
    exact kont
  obtain ⟨T105, X105, e105, st105⟩ := getF X102 hx hZ hown (host := "") (Or.inl (hw _ (List.mem_of_getElem? (i := 26) rfl))) Via.refl e102 F2_ (g := (mkF m 7 #[rv a1] [(.ref a1)])) rfl rfl (hb hby d12_7)
  have g106 : Go p e below T105 (mkF m 10 #[rv a1] [(.int cd)]) A0 := fun t kont => g104 t (st105 t kont)
  have g107 : Go p e below T105 (mkF m 14 #[rv a1] [(.int cd)]) A0 := by
    intro t kont
    refine g106 t ?_
    refine XS.goto X105.here hx rfl (pc0 := 10) (pc' := 14) rfl (hb hby d12_10) (by decide) (by decide) ?_
    exact kont
  obtain ⟨fs, hr, hrun, hended, hW, hsame⟩ := X105.leave (v := some (.int cd)) (fun h => by rw [Bd.returns] at h; cases h)
  refine ⟨_, _, g107 _ (retN X105 hx (t := .byte) Bd.returns (by simp) (hb hby d12_14) (by rw [r_cd]; exact hr)), hrun, hended, _, _, rfl, ?_, ⟨_, rfl⟩, hW, hsame.mono (by decide) (by decide)⟩
  show Q_cdrG Z a1 cs cd h0 n0 _ T105.heap _
  rw [e105]
  exact ⟨rfl, N0, rfl⟩
theorem d11_0 : decode jdk_42_method_54_code 0 = .ok (.aload_n 0, 1) := by decide +kernel
theorem d11_1 : decode jdk_42_method_54_code 1 = .ok (.getfield 9, 3) := by decide +kernel
theorem d11_4 : decode jdk_42_method_54_code 4 = .ok (.arraylength, 1) := by decide +kernel
theorem d11_5 : decode jdk_42_method_54_code 5 = .ok (.aload_n 0, 1) := by decide +kernel
theorem d11_6 : decode jdk_42_method_54_code 6 = .ok (.invokevirtual 335, 3) := by decide +kernel
theorem pd_8 : parseMethodDescriptor "()B" = some ⟨[], some .byte⟩ := by decide +kernel
theorem d11_9 : decode jdk_42_method_54_code 9 = .ok (.ishr, 1) := by decide +kernel
theorem d11_10 : decode jdk_42_method_54_code 10 = .ok (.ireturn, 1) := by decide +kernel
theorem ef_lenG (m : MethodId) (x0 : Addr)  : entryFrame m #[(.ref x0)] 1 = mkF m 0 #[.val (.ref x0)] [] := by first | (simp [entryFrame, mkF, argsToLocals, Value.category]; done) | rfl
def Q_lenG (Z : State) (a1 : Addr) (v1 : Addr) (kv : ClassId) (cd : Int32) (z1 : Int32) (vs : List Value) (ls : List Int32) (cs : Int32) (h0 : Heap) (n0 : Nat) (v : Option Value) (h : Heap) (L : List Loc) : Prop := v = some (.int (Int32.ofNat ls.length)) ∧ Fr n0 L ∧ h = h0
set_option maxRecDepth 65536 in
set_option maxHeartbeats 40000000 in
theorem rm_lenG (l : Launch) (Z : State) (a0 : Array Value) (hw : ∀ d ∈ tables_1, d.before a0 Z = true) (ws : List Jvm.Cond) (a1 : Addr) (v1 : Addr) (kv : ClassId) (cd : Int32) (z1 : Int32) (vs : List Value) (ls : List Int32) (cs : Int32) (h0 : Heap) (n0 : Nat) (O0 : Old Z n0 h0) (S0_ : Sta Z Z.heap "java/lang/String" "COMPACT_STRINGS" "Z" (.int cs)) (hcs : ¬ (cs = (0 : Int32))) (F2_ : Fld Z h0 a1 "java/lang/String" "value" "[B" (.ref v1)) (F3_ : Fld Z h0 a1 "java/lang/String" "coder" "B" (.int cd)) (E4_ : Exa Z h0 a1 "java/lang/String") (A5_ : Arv Z h0 v1 kv .byte z1 vs (.int (0 : Int32))) (hcod : own_cod ls cd z1 vs) (hB : ls.length ≤ 3) :
    MetFree l (⟨"java/lang/String", "length", "()I"⟩ : MethodName) (head1 (Jvm.Cond.code (⟨"java/lang/String", "length", "()I"⟩ : MethodName) jdk_42_method_54_code 1 (some .int) :: ws) ({ frames := 1, cells := 0, slots := 0, locals := 13 } : Room)) (fun a U => a = #[(.ref a1)] ∧ Z.Warmed39 U.vm ∧ U.heap = h0) (fun _ _ _ _ _ => True) (fun _ U o U' => ∃ v L, o = .returned v ∧ Q_lenG Z a1 v1 kv cd z1 vs ls cs h0 n0 v U'.heap L ∧ FrameEnd U o U' L ({ frames := 1, cells := 0, slots := 0, locals := 13 } : Room).cells ({ frames := 1, cells := 0, slots := 0, locals := 13 } : Room).slots) := by
  refine MetFree.of_bodySF (plainFor_of_name pn_java_lang_String) hisR ?_
  intro p e s m args below meth c s₁ Bd hml0 hP hK
  obtain ⟨rfl, hZ, hh⟩ := hP
  have hx := Bd.exec
  have hby := Bd.bytes
  have hml : c.maxLocals = 1 := hml0
  have hown : s.vm.findClass "java/lang/String" = some m.cls := findClass_of_methodNamed Bd.named
  have hnm := (name_of_methodNamed Bd.named Bd.method).1
  have X0 : Stand p l e ({ frames := 1, cells := 0, slots := 0, locals := 13 } : Room) s m #[(.ref a1)] below meth c s₁ [] 0 0 := Stand.of_body Bd
  have e0 : s₁.heap = h0 := by rw [← hh, Bd.state]; rfl
  have N0 := Fr.nil n0
  have g0 : Go p e below s₁ (mkF m 0 #[rv a1] []) (s₁.setTop (entryFrame m #[(.ref a1)] 1)) := fun t kont => castTop (ef_lenG m a1 ) kont
  generalize s₁.setTop (entryFrame m #[(.ref a1)] 1) = A0 at g0 ⊢
  have g101 : Go p e below s₁ (mkF m 1 #[rv a1] [(.ref a1)]) A0 := by
    intro t kont
    refine g0 t ?_
    refine XS.aloadN X0.here hx rfl (hb hby d11_0) rfl rfl ?_
    exact kont
  obtain ⟨T102, X102, e102, st102⟩ := getF X0 hx hZ hown (host := "") (Or.inl (hw _ (List.mem_of_getElem? (i := 25) rfl))) Via.refl e0 F2_ (g := (mkF m 1 #[rv a1] [(.ref a1)])) rfl rfl (hb hby d11_1)
  have g103 : Go p e below T102 (mkF m 4 #[rv a1] [(.ref v1)]) A0 := fun t kont => g101 t (st102 t kont)
  have zz104 := A5_
  obtain ⟨cl104, Ar104, -, S104, M104, -, -⟩ := zz104
  have g105 : Go p e below T102 (mkF m 5 #[rv a1] [(.int z1)]) A0 := by
    intro t kont
    refine g103 t ?_
    refine X102.arraylength hx (by rw [e102]; exact Ar104.1) (State.isArrayOf_alike hZ.alike Ar104.2.1) (g := (mkF m 4 #[rv a1] [(.ref v1)])) rfl rfl (hb hby d11_4) _ ?_
    rw [len_of S104 M104]
    exact kont
  have g106 : Go p e below T102 (mkF m 6 #[rv a1] [(.ref a1), (.int z1)]) A0 := by
    intro t kont
    refine g105 t ?_
    refine XS.aloadN X102.here hx rfl (hb hby d11_5) rfl rfl ?_
    exact kont
  obtain ⟨cq107, kq107, q107a, q107b, q107c⟩ := isOf hZ e102 E4_
  obtain ⟨_, _, ⟨T107, L107, k107, n107⟩, -, X107, ⟨Lc107, hQ107, l107, y107, z107⟩, st107⟩ := X102.virtualBack hx (y := (⟨"java/lang/String", "coder", "()B"⟩ : MethodName)) (z := (⟨"java/lang/String", "coder", "()B"⟩ : MethodName)) hown (mvT hZ (hw _ (List.mem_of_getElem? (i := 55) rfl))) (mvT hZ (hw _ (List.mem_of_getElem? (i := 56) rfl))) (notFace_of_selects (args := #[]) (mvT hZ (hw _ (List.mem_of_getElem? (i := 58) rfl)))) (mvT hZ (hw _ (List.mem_of_getElem? (i := 58) rfl))) (mvT hZ (hw _ (List.mem_of_getElem? (i := 57) rfl))) (by decide) (backOf (W := 1) (rm_cdrG l Z a0 hw [] a1 cs cd h0 n0 O0 S0_ hcs F3_ (own_cod01 hcod)) hZ (hw _ (List.mem_of_getElem? (i := 59) rfl)) (hw _ (List.mem_of_getElem? (i := 8) rfl)) (by decide) (by decide)) q107a q107c (g := (mkF m 6 #[rv a1] [(.ref a1), (.int z1)])) rfl (by rw [hml]; rfl) (Steps.refl _) (argsL := []) (rest := [(.int z1)]) (lenOf pd_8 rfl) rfl (by show 2 * 0 + _ ≤ _; exact Nat.le_of_eq rfl) (hb hby d11_6) (fun _ _ => ⟨rfl, e102, (by decide : 0 + 0 ≤ _), (by decide : 0 + 0 ≤ _)⟩)
  dsimp only [Pt.U, Pt.locs, Pt.cells, Pt.slots] at X107 l107 y107 z107 st107 hQ107
  subst l107 y107 z107
  obtain ⟨rfl, M107, e107⟩ := hQ107
  have N107 := Fr.app N0 M107
  have g108 : Go p e below T107 (mkF m 9 #[rv a1] [(.int cd), (.int z1)]) A0 := fun t kont => g106 t (st107.trans kont)
  have g109 : Go p e below T107 (mkF m 10 #[rv a1] [(.int (z1 >>> (cd &&& 31)))]) A0 := by
    intro t kont
    refine g108 t ?_
    refine XS.ishr X107.here hx rfl (hb hby d11_9) rfl ?_
    exact kont
  obtain ⟨fs, hr, hrun, hended, hW, hsame⟩ := X107.leave (v := some (.int (z1 >>> (cd &&& 31)))) (fun h => by rw [Bd.returns] at h; cases h)
  refine ⟨_, _, g109 _ (retI X107 hx Bd.returns (hb hby d11_10) hr), hrun, hended, _, _, rfl, ?_, ⟨_, rfl⟩, hW, hsame.mono (by decide) (by decide)⟩
  show Q_lenG Z a1 v1 kv cd z1 vs ls cs h0 n0 _ T107.heap _
  rw [e107]
  exact ⟨congrArg (fun z => some (Value.int z)) (own_cdlen hcod (by omega)), N107, rfl⟩
theorem d14_0 : decode jdk_42_method_154_code 0 = .ok (.getstatic 38, 3) := by decide +kernel
theorem d14_3 : decode jdk_42_method_154_code 3 = .ok (.ifCond .eq 14, 3) := by decide +kernel
theorem d14_6 : decode jdk_42_method_154_code 6 = .ok (.aload_n 0, 1) := by decide +kernel
theorem d14_7 : decode jdk_42_method_154_code 7 = .ok (.getfield 15, 3) := by decide +kernel
theorem d14_10 : decode jdk_42_method_154_code 10 = .ok (.ifCond .ne 7, 3) := by decide +kernel
theorem d14_13 : decode jdk_42_method_154_code 13 = .ok (.iconst 1, 1) := by decide +kernel
theorem d14_14 : decode jdk_42_method_154_code 14 = .ok (.goto 4, 3) := by decide +kernel
theorem d14_18 : decode jdk_42_method_154_code 18 = .ok (.ireturn, 1) := by decide +kernel
theorem ef_isl0 (m : MethodId) (x0 : Addr)  : entryFrame m #[(.ref x0)] 1 = mkF m 0 #[.val (.ref x0)] [] := by first | (simp [entryFrame, mkF, argsToLocals, Value.category]; done) | rfl
def Q_isl0 (Z : State) (a1 : Addr) (cs : Int32) (h0 : Heap) (n0 : Nat) (v : Option Value) (h : Heap) (L : List Loc) : Prop := v = some (.int (1 : Int32)) ∧ Fr n0 L ∧ h = h0
set_option maxRecDepth 65536 in
set_option maxHeartbeats 40000000 in
theorem rm_isl0 (l : Launch) (Z : State) (a0 : Array Value) (hw : ∀ d ∈ tables_1, d.before a0 Z = true) (ws : List Jvm.Cond) (a1 : Addr) (cs : Int32) (h0 : Heap) (n0 : Nat) (O0 : Old Z n0 h0) (S0_ : Sta Z Z.heap "java/lang/String" "COMPACT_STRINGS" "Z" (.int cs)) (hcs : ¬ (cs = (0 : Int32))) (F2_ : Fld Z h0 a1 "java/lang/String" "coder" "B" (.int (0 : Int32))) :
    MetFree l (⟨"java/lang/String", "isLatin1", "()Z"⟩ : MethodName) (head1 (Jvm.Cond.code (⟨"java/lang/String", "isLatin1", "()Z"⟩ : MethodName) jdk_42_method_154_code 1 (some .boolean) :: ws) ({ frames := 0, cells := 0, slots := 0, locals := 0 } : Room)) (fun a U => a = #[(.ref a1)] ∧ Z.Warmed39 U.vm ∧ U.heap = h0) (fun _ _ _ _ _ => True) (fun _ U o U' => ∃ v L, o = .returned v ∧ Q_isl0 Z a1 cs h0 n0 v U'.heap L ∧ FrameEnd U o U' L ({ frames := 0, cells := 0, slots := 0, locals := 0 } : Room).cells ({ frames := 0, cells := 0, slots := 0, locals := 0 } : Room).slots) := by
  refine MetFree.of_bodySF (plainFor_of_name pn_java_lang_String) hisR ?_
  intro p e s m args below meth c s₁ Bd hml0 hP hK
  obtain ⟨rfl, hZ, hh⟩ := hP
  have hx := Bd.exec
  have hby := Bd.bytes
  have hml : c.maxLocals = 1 := hml0
  have hown : s.vm.findClass "java/lang/String" = some m.cls := findClass_of_methodNamed Bd.named
  have hnm := (name_of_methodNamed Bd.named Bd.method).1
  have X0 : Stand p l e ({ frames := 0, cells := 0, slots := 0, locals := 0 } : Room) s m #[(.ref a1)] below meth c s₁ [] 0 0 := Stand.of_body Bd
  have e0 : s₁.heap = h0 := by rw [← hh, Bd.state]; rfl
  have N0 := Fr.nil n0
  have g0 : Go p e below s₁ (mkF m 0 #[rv a1] []) (s₁.setTop (entryFrame m #[(.ref a1)] 1)) := fun t kont => castTop (ef_isl0 m a1 ) kont
  generalize s₁.setTop (entryFrame m #[(.ref a1)] 1) = A0 at g0 ⊢
  have y101 : Sta Z h0 "java/lang/String" "COMPACT_STRINGS" "Z" (.int cs) := S0_.ext O0.2
  obtain ⟨T102, X102, e102, st102⟩ := getS2 X0 hx hZ hown (host := "") (Or.inl (hw _ (List.mem_of_getElem? (i := 36) rfl))) Via.refl e0 y101 (g := (mkF m 0 #[rv a1] [])) rfl (hb hby d14_0)
  have g103 : Go p e below T102 (mkF m 3 #[rv a1] [(.int cs)]) A0 := fun t kont => g0 t (st102 t kont)
  have g104 : Go p e below T102 (mkF m 7 #[rv a1] [(.ref a1)]) A0 := by
    intro t kont
    refine g103 t ?_
    refine XS.ifNo X102.here hx rfl (hb hby d14_3) rfl ((if0 _ _).trans (feq hcs).1) ?_
    refine XS.aloadN X102.here hx rfl (hb hby d14_6) rfl rfl ?_
    exact kont
  obtain ⟨T105, X105, e105, st105⟩ := getF X102 hx hZ hown (host := "") (Or.inl (hw _ (List.mem_of_getElem? (i := 26) rfl))) Via.refl e102 F2_ (g := (mkF m 7 #[rv a1] [(.ref a1)])) rfl rfl (hb hby d14_7)
  have g106 : Go p e below T105 (mkF m 10 #[rv a1] [(.int (0 : Int32))]) A0 := fun t kont => g104 t (st105 t kont)
  have g107 : Go p e below T105 (mkF m 18 #[rv a1] [(.int (1 : Int32))]) A0 := by
    intro t kont
    refine g106 t ?_
    refine XS.ifNo X105.here hx rfl (hb hby d14_10) rfl ((if0 _ _).trans (teq (by decide : (0 : Int32) = (0 : Int32))).2) ?_
    refine XS.iconst X105.here hx rfl (hb hby d14_13) ?_
    refine XS.goto X105.here hx rfl (pc0 := 14) (pc' := 18) rfl (hb hby d14_14) (by decide) (by decide) ?_
    exact kont
  obtain ⟨fs, hr, hrun, hended, hW, hsame⟩ := X105.leave (v := some (.int (1 : Int32))) (fun h => by rw [Bd.returns] at h; cases h)
  refine ⟨_, _, g107 _ (retN X105 hx (t := .boolean) Bd.returns (by simp) (hb hby d14_18) hr), hrun, hended, _, _, rfl, ?_, ⟨_, rfl⟩, hW, hsame.mono (by decide) (by decide)⟩
  show Q_isl0 Z a1 cs h0 n0 _ T105.heap _
  rw [e105]
  exact ⟨rfl, N0, rfl⟩
theorem d14_17 : decode jdk_42_method_154_code 17 = .ok (.iconst 0, 1) := by decide +kernel
theorem ef_isl1 (m : MethodId) (x0 : Addr)  : entryFrame m #[(.ref x0)] 1 = mkF m 0 #[.val (.ref x0)] [] := by first | (simp [entryFrame, mkF, argsToLocals, Value.category]; done) | rfl
def Q_isl1 (Z : State) (a1 : Addr) (cs : Int32) (h0 : Heap) (n0 : Nat) (v : Option Value) (h : Heap) (L : List Loc) : Prop := v = some (.int (0 : Int32)) ∧ Fr n0 L ∧ h = h0
set_option maxRecDepth 65536 in
set_option maxHeartbeats 40000000 in
theorem rm_isl1 (l : Launch) (Z : State) (a0 : Array Value) (hw : ∀ d ∈ tables_1, d.before a0 Z = true) (ws : List Jvm.Cond) (a1 : Addr) (cs : Int32) (h0 : Heap) (n0 : Nat) (O0 : Old Z n0 h0) (S0_ : Sta Z Z.heap "java/lang/String" "COMPACT_STRINGS" "Z" (.int cs)) (hcs : ¬ (cs = (0 : Int32))) (F2_ : Fld Z h0 a1 "java/lang/String" "coder" "B" (.int (1 : Int32))) :
    MetFree l (⟨"java/lang/String", "isLatin1", "()Z"⟩ : MethodName) (head1 (Jvm.Cond.code (⟨"java/lang/String", "isLatin1", "()Z"⟩ : MethodName) jdk_42_method_154_code 1 (some .boolean) :: ws) ({ frames := 0, cells := 0, slots := 0, locals := 0 } : Room)) (fun a U => a = #[(.ref a1)] ∧ Z.Warmed39 U.vm ∧ U.heap = h0) (fun _ _ _ _ _ => True) (fun _ U o U' => ∃ v L, o = .returned v ∧ Q_isl1 Z a1 cs h0 n0 v U'.heap L ∧ FrameEnd U o U' L ({ frames := 0, cells := 0, slots := 0, locals := 0 } : Room).cells ({ frames := 0, cells := 0, slots := 0, locals := 0 } : Room).slots) := by
  refine MetFree.of_bodySF (plainFor_of_name pn_java_lang_String) hisR ?_
  intro p e s m args below meth c s₁ Bd hml0 hP hK
  obtain ⟨rfl, hZ, hh⟩ := hP
  have hx := Bd.exec
  have hby := Bd.bytes
  have hml : c.maxLocals = 1 := hml0
  have hown : s.vm.findClass "java/lang/String" = some m.cls := findClass_of_methodNamed Bd.named
  have hnm := (name_of_methodNamed Bd.named Bd.method).1
  have X0 : Stand p l e ({ frames := 0, cells := 0, slots := 0, locals := 0 } : Room) s m #[(.ref a1)] below meth c s₁ [] 0 0 := Stand.of_body Bd
  have e0 : s₁.heap = h0 := by rw [← hh, Bd.state]; rfl
  have N0 := Fr.nil n0
  have g0 : Go p e below s₁ (mkF m 0 #[rv a1] []) (s₁.setTop (entryFrame m #[(.ref a1)] 1)) := fun t kont => castTop (ef_isl1 m a1 ) kont
  generalize s₁.setTop (entryFrame m #[(.ref a1)] 1) = A0 at g0 ⊢
  have y101 : Sta Z h0 "java/lang/String" "COMPACT_STRINGS" "Z" (.int cs) := S0_.ext O0.2
  obtain ⟨T102, X102, e102, st102⟩ := getS2 X0 hx hZ hown (host := "") (Or.inl (hw _ (List.mem_of_getElem? (i := 36) rfl))) Via.refl e0 y101 (g := (mkF m 0 #[rv a1] [])) rfl (hb hby d14_0)
  have g103 : Go p e below T102 (mkF m 3 #[rv a1] [(.int cs)]) A0 := fun t kont => g0 t (st102 t kont)
  have g104 : Go p e below T102 (mkF m 7 #[rv a1] [(.ref a1)]) A0 := by
    intro t kont
    refine g103 t ?_
    refine XS.ifNo X102.here hx rfl (hb hby d14_3) rfl ((if0 _ _).trans (feq hcs).1) ?_
    refine XS.aloadN X102.here hx rfl (hb hby d14_6) rfl rfl ?_
    exact kont
  obtain ⟨T105, X105, e105, st105⟩ := getF X102 hx hZ hown (host := "") (Or.inl (hw _ (List.mem_of_getElem? (i := 26) rfl))) Via.refl e102 F2_ (g := (mkF m 7 #[rv a1] [(.ref a1)])) rfl rfl (hb hby d14_7)
  have g106 : Go p e below T105 (mkF m 10 #[rv a1] [(.int (1 : Int32))]) A0 := fun t kont => g104 t (st105 t kont)
  have g107 : Go p e below T105 (mkF m 18 #[rv a1] [(.int (0 : Int32))]) A0 := by
    intro t kont
    refine g106 t ?_
    refine XS.ifYes X105.here hx rfl (pc0 := 10) (pc' := 17) rfl (hb hby d14_10) rfl ((if0 _ _).trans (feq (by decide : ¬ ((1 : Int32) = (0 : Int32)))).2) (by decide) (by decide) ?_
    refine XS.iconst X105.here hx rfl (hb hby d14_17) ?_
    exact kont
  obtain ⟨fs, hr, hrun, hended, hW, hsame⟩ := X105.leave (v := some (.int (0 : Int32))) (fun h => by rw [Bd.returns] at h; cases h)
  refine ⟨_, _, g107 _ (retN X105 hx (t := .boolean) Bd.returns (by simp) (hb hby d14_18) hr), hrun, hended, _, _, rfl, ?_, ⟨_, rfl⟩, hW, hsame.mono (by decide) (by decide)⟩
  show Q_isl1 Z a1 cs h0 n0 _ T105.heap _
  rw [e105]
  exact ⟨rfl, N0, rfl⟩
theorem d17_0 : decode jdk_41_method_11_code 0 = .ok (.iload_n 0, 1) := by decide +kernel
theorem d17_1 : decode jdk_41_method_11_code 1 = .ok (.ifCond .lt 8, 3) := by decide +kernel
theorem d17_4 : decode jdk_41_method_11_code 4 = .ok (.iload_n 0, 1) := by decide +kernel
theorem d17_5 : decode jdk_41_method_11_code 5 = .ok (.iload_n 1, 1) := by decide +kernel
theorem d17_6 : decode jdk_41_method_11_code 6 = .ok (.if_icmp .lt 10, 3) := by decide +kernel
theorem d17_16 : decode jdk_41_method_11_code 16 = .ok (.iload_n 0, 1) := by decide +kernel
theorem d17_17 : decode jdk_41_method_11_code 17 = .ok (.ireturn, 1) := by decide +kernel
theorem pn_jdk_internal_util_Preconditions : plainName "jdk/internal/util/Preconditions" = true := by first | (simp [plainName, overriddenIn]; done) | decide +kernel
theorem ef_pci (m : MethodId) (x0 : Int32) (x1 : Int32) (x2 : Value) (h2 : x2.isRef = true) : entryFrame m #[(.int x0), (.int x1), x2] 3 = mkF m 0 #[.val (.int x0), .val (.int x1), .val x2] [] := by (rcases ref_cases h2 with rfl | ⟨_, rfl⟩) <;> first | (simp [entryFrame, mkF, argsToLocals, Value.category]; done) | rfl
def Q_pci (Z : State) (i1 : Int32) (i2 : Int32) (fm : Value) (h0 : Heap) (n0 : Nat) (v : Option Value) (h : Heap) (L : List Loc) : Prop := v = some (.int i1) ∧ Fr n0 L ∧ h = h0
set_option maxRecDepth 65536 in
set_option maxHeartbeats 40000000 in
theorem rm_pci (l : Launch) (Z : State) (a0 : Array Value) (hw : ∀ d ∈ tables_1, d.before a0 Z = true) (ws : List Jvm.Cond) (i1 : Int32) (i2 : Int32) (fm : Value) (h0 : Heap) (n0 : Nat) (O0 : Old Z n0 h0) (hfm : fm.isRef = true) (hi0 : ¬ (i1 < (0 : Int32))) (hi1 : i1 < i2) :
    MetFree l (⟨"jdk/internal/util/Preconditions", "checkIndex", "(IILjava/util/function/BiFunction;)I"⟩ : MethodName) (head1 (Jvm.Cond.code (⟨"jdk/internal/util/Preconditions", "checkIndex", "(IILjava/util/function/BiFunction;)I"⟩ : MethodName) jdk_41_method_11_code 3 (some .int) :: ws) ({ frames := 0, cells := 0, slots := 0, locals := 0 } : Room)) (fun a U => a = #[(.int i1), (.int i2), fm] ∧ Z.Warmed39 U.vm ∧ U.heap = h0) (fun _ _ _ _ _ => True) (fun _ U o U' => ∃ v L, o = .returned v ∧ Q_pci Z i1 i2 fm h0 n0 v U'.heap L ∧ FrameEnd U o U' L ({ frames := 0, cells := 0, slots := 0, locals := 0 } : Room).cells ({ frames := 0, cells := 0, slots := 0, locals := 0 } : Room).slots) := by
  refine MetFree.of_bodySF (plainFor_of_name pn_jdk_internal_util_Preconditions) hisR ?_
  intro p e s m args below meth c s₁ Bd hml0 hP hK
  obtain ⟨rfl, hZ, hh⟩ := hP
  have hx := Bd.exec
  have hby := Bd.bytes
  have hml : c.maxLocals = 3 := hml0
  have hown : s.vm.findClass "jdk/internal/util/Preconditions" = some m.cls := findClass_of_methodNamed Bd.named
  have hnm := (name_of_methodNamed Bd.named Bd.method).1
  have X0 : Stand p l e ({ frames := 0, cells := 0, slots := 0, locals := 0 } : Room) s m #[(.int i1), (.int i2), fm] below meth c s₁ [] 0 0 := Stand.of_body Bd
  have e0 : s₁.heap = h0 := by rw [← hh, Bd.state]; rfl
  have N0 := Fr.nil n0
  have g0 : Go p e below s₁ (mkF m 0 #[iv i1, iv i2, .val fm] []) (s₁.setTop (entryFrame m #[(.int i1), (.int i2), fm] 3)) := fun t kont => castTop (ef_pci m i1 i2 fm (hfm)) kont
  generalize s₁.setTop (entryFrame m #[(.int i1), (.int i2), fm] 3) = A0 at g0 ⊢
  have g101 : Go p e below s₁ (mkF m 17 #[iv i1, iv i2, .val fm] [(.int i1)]) A0 := by
    intro t kont
    refine g0 t ?_
    refine XS.iloadN X0.here hx rfl (hb hby d17_0) rfl ?_
    refine XS.ifNo X0.here hx rfl (hb hby d17_1) rfl ((if0 _ _).trans (flt hi0).1) ?_
    refine XS.iloadN X0.here hx rfl (hb hby d17_4) rfl ?_
    refine XS.iloadN X0.here hx rfl (hb hby d17_5) rfl ?_
    refine XS.icmpYes X0.here hx rfl (pc0 := 6) (pc' := 16) rfl (hb hby d17_6) rfl (tlt hi1).1 (by decide) (by decide) ?_
    refine XS.iloadN X0.here hx rfl (hb hby d17_16) rfl ?_
    exact kont
  obtain ⟨fs, hr, hrun, hended, hW, hsame⟩ := X0.leave (v := some (.int i1)) (fun h => by rw [Bd.returns] at h; cases h)
  refine ⟨_, _, g101 _ (retI X0 hx Bd.returns (hb hby d17_17) hr), hrun, hended, _, _, rfl, ?_, ⟨_, rfl⟩, hW, hsame.mono (by decide) (by decide)⟩
  show Q_pci Z i1 i2 fm h0 n0 _ s₁.heap _
  rw [e0]
  exact ⟨rfl, N0, rfl⟩
theorem d16_0 : decode jdk_42_method_155_code 0 = .ok (.iload_n 0, 1) := by decide +kernel
theorem d16_1 : decode jdk_42_method_155_code 1 = .ok (.iload_n 1, 1) := by decide +kernel
theorem d16_2 : decode jdk_42_method_155_code 2 = .ok (.getstatic 1053, 3) := by decide +kernel
theorem d16_5 : decode jdk_42_method_155_code 5 = .ok (.invokestatic 1059, 3) := by decide +kernel
theorem pd_9 : parseMethodDescriptor "(IILjava/util/function/BiFunction;)I" = some ⟨[.int, .int, (.object "java/util/function/BiFunction")], some .int⟩ := by decide +kernel
theorem d16_8 : decode jdk_42_method_155_code 8 = .ok (.pop, 1) := by decide +kernel
theorem d16_9 : decode jdk_42_method_155_code 9 = .ok (.return_, 1) := by decide +kernel
theorem ef_sci (m : MethodId) (x0 : Int32) (x1 : Int32)  : entryFrame m #[(.int x0), (.int x1)] 2 = mkF m 0 #[.val (.int x0), .val (.int x1)] [] := by first | (simp [entryFrame, mkF, argsToLocals, Value.category]; done) | rfl
def Q_sci (Z : State) (i1 : Int32) (i2 : Int32) (fm : Value) (h0 : Heap) (n0 : Nat) (v : Option Value) (h : Heap) (L : List Loc) : Prop := v = none ∧ Fr n0 L ∧ h = h0
set_option maxRecDepth 65536 in
set_option maxHeartbeats 40000000 in
theorem rm_sci (l : Launch) (Z : State) (a0 : Array Value) (hw : ∀ d ∈ tables_1, d.before a0 Z = true) (ws : List Jvm.Cond) (i1 : Int32) (i2 : Int32) (fm : Value) (h0 : Heap) (n0 : Nat) (O0 : Old Z n0 h0) (S0_ : Sta Z Z.heap "jdk/internal/util/Preconditions" "SIOOBE_FORMATTER" "Ljava/util/function/BiFunction;" fm) (hfm : fm.isRef = true) (hi0 : ¬ (i1 < (0 : Int32))) (hi1 : i1 < i2) :
    MetFree l (⟨"java/lang/String", "checkIndex", "(II)V"⟩ : MethodName) (head1 (Jvm.Cond.code (⟨"java/lang/String", "checkIndex", "(II)V"⟩ : MethodName) jdk_42_method_155_code 2 none :: ws) ({ frames := 1, cells := 0, slots := 0, locals := 14 } : Room)) (fun a U => a = #[(.int i1), (.int i2)] ∧ Z.Warmed39 U.vm ∧ U.heap = h0) (fun _ _ _ _ _ => True) (fun _ U o U' => ∃ v L, o = .returned v ∧ Q_sci Z i1 i2 fm h0 n0 v U'.heap L ∧ FrameEnd U o U' L ({ frames := 1, cells := 0, slots := 0, locals := 14 } : Room).cells ({ frames := 1, cells := 0, slots := 0, locals := 14 } : Room).slots) := by
  refine MetFree.of_bodySF (plainFor_of_name pn_java_lang_String) hisR ?_
  intro p e s m args below meth c s₁ Bd hml0 hP hK
  obtain ⟨rfl, hZ, hh⟩ := hP
  have hx := Bd.exec
  have hby := Bd.bytes
  have hml : c.maxLocals = 2 := hml0
  have hown : s.vm.findClass "java/lang/String" = some m.cls := findClass_of_methodNamed Bd.named
  have hnm := (name_of_methodNamed Bd.named Bd.method).1
  have X0 : Stand p l e ({ frames := 1, cells := 0, slots := 0, locals := 14 } : Room) s m #[(.int i1), (.int i2)] below meth c s₁ [] 0 0 := Stand.of_body Bd
  have e0 : s₁.heap = h0 := by rw [← hh, Bd.state]; rfl
  have N0 := Fr.nil n0
  have g0 : Go p e below s₁ (mkF m 0 #[iv i1, iv i2] []) (s₁.setTop (entryFrame m #[(.int i1), (.int i2)] 2)) := fun t kont => castTop (ef_sci m i1 i2 ) kont
  generalize s₁.setTop (entryFrame m #[(.int i1), (.int i2)] 2) = A0 at g0 ⊢
  have g101 : Go p e below s₁ (mkF m 2 #[iv i1, iv i2] [(.int i2), (.int i1)]) A0 := by
    intro t kont
    refine g0 t ?_
    refine XS.iloadN X0.here hx rfl (hb hby d16_0) rfl ?_
    refine XS.iloadN X0.here hx rfl (hb hby d16_1) rfl ?_
    exact kont
  have y102 : Sta Z h0 "jdk/internal/util/Preconditions" "SIOOBE_FORMATTER" "Ljava/util/function/BiFunction;" fm := S0_.ext O0.2
  obtain ⟨T103, X103, e103, st103⟩ := getS2 X0 hx hZ hown (host := "") (Or.inl (hw _ (List.mem_of_getElem? (i := 77) rfl))) Via.refl e0 y102 (g := (mkF m 2 #[iv i1, iv i2] [(.int i2), (.int i1)])) rfl (hb hby d16_2)
  have g104 : Go p e below T103 (mkF m 5 #[iv i1, iv i2] [fm, (.int i2), (.int i1)]) A0 := fun t kont => g101 t (st103 t kont)
  obtain ⟨_, _, ⟨T105, L105, k105, n105⟩, -, X105, ⟨Lc105, hQ105, l105, y105, z105⟩, st105⟩ := Jvm.LawKit.callS X103 hx (y := (⟨"jdk/internal/util/Preconditions", "checkIndex", "(IILjava/util/function/BiFunction;)I"⟩ : MethodName)) hown (mvT hZ (hw _ (List.mem_of_getElem? (i := 79) rfl))) (mvT hZ (hw _ (List.mem_of_getElem? (i := 80) rfl))) (mvT hZ (hw _ (List.mem_of_getElem? (i := 78) rfl))) (mvT hZ (hw _ (List.mem_of_getElem? (i := 81) rfl))) (by decide) (backOf (W := 0) (rm_pci l Z a0 hw [] i1 i2 fm h0 n0 O0 hfm hi0 hi1) hZ (hw _ (List.mem_of_getElem? (i := 81) rfl)) (hw _ (List.mem_of_getElem? (i := 78) rfl)) (by decide) (by decide)) (g := (mkF m 5 #[iv i1, iv i2] [fm, (.int i2), (.int i1)])) rfl (by rw [hml]; rfl) (argsL := [(.int i1), (.int i2), fm]) (rest := []) (lenOf pd_9 rfl) rfl (by show 2 * 0 + _ ≤ _; exact Nat.le_of_eq rfl) (hb hby d16_5) (fun _ _ => ⟨rfl, e103, (by decide : 0 + 0 ≤ _), (by decide : 0 + 0 ≤ _)⟩)
  dsimp only [Pt.U, Pt.locs, Pt.cells, Pt.slots] at X105 l105 y105 z105 st105 hQ105
  subst l105 y105 z105
  obtain ⟨rfl, M105, e105⟩ := hQ105
  have N105 := Fr.app N0 M105
  have g106 : Go p e below T105 (mkF m 8 #[iv i1, iv i2] [(.int i1)]) A0 := fun t kont => g104 t (st105 t kont)
  have g107 : Go p e below T105 (mkF m 9 #[iv i1, iv i2] []) A0 := by
    intro t kont
    refine g106 t ?_
    refine XS.pop X105.here hx rfl (hb hby d16_8) rfl rfl ?_
    exact kont
  obtain ⟨fs, hr, hrun, hended, hW, hsame⟩ := X105.leave (v := none) (fun _ => rfl)
  refine ⟨_, _, g107 _ (X105.returnOut hx Bd.returns (hb hby d16_9) hr), hrun, hended, _, _, rfl, ?_, ⟨_, rfl⟩, hW, hsame.mono (by decide) (by decide)⟩
  show Q_sci Z i1 i2 fm h0 n0 _ T105.heap _
  rw [e105]
  exact ⟨rfl, N105, rfl⟩
theorem d15_0 : decode jdk_43_method_2_code 0 = .ok (.iload_n 1, 1) := by decide +kernel
theorem d15_1 : decode jdk_43_method_2_code 1 = .ok (.aload_n 0, 1) := by decide +kernel
theorem d15_2 : decode jdk_43_method_2_code 2 = .ok (.arraylength, 1) := by decide +kernel
theorem d15_3 : decode jdk_43_method_2_code 3 = .ok (.invokestatic 9, 3) := by decide +kernel
theorem pd_10 : parseMethodDescriptor "(II)V" = some ⟨[.int, .int], none⟩ := by decide +kernel
theorem d15_6 : decode jdk_43_method_2_code 6 = .ok (.aload_n 0, 1) := by decide +kernel
theorem d15_7 : decode jdk_43_method_2_code 7 = .ok (.iload_n 1, 1) := by decide +kernel
theorem d15_8 : decode jdk_43_method_2_code 8 = .ok (.baload, 1) := by decide +kernel
theorem d15_9 : decode jdk_43_method_2_code 9 = .ok (.sipush 255, 3) := by decide +kernel
theorem d15_12 : decode jdk_43_method_2_code 12 = .ok (.iand, 1) := by decide +kernel
theorem d15_13 : decode jdk_43_method_2_code 13 = .ok (.i2c, 1) := by decide +kernel
theorem d15_14 : decode jdk_43_method_2_code 14 = .ok (.ireturn, 1) := by decide +kernel
theorem pn_java_lang_StringLatin1 : plainName "java/lang/StringLatin1" = true := by first | (simp [plainName, overriddenIn]; done) | decide +kernel
theorem ef_lchG (m : MethodId) (x0 : Addr) (x1 : Int32)  : entryFrame m #[(.ref x0), (.int x1)] 2 = mkF m 0 #[.val (.ref x0), .val (.int x1)] [] := by first | (simp [entryFrame, mkF, argsToLocals, Value.category]; done) | rfl
def Q_lchG (Z : State) (v1 : Addr) (i1 : Nat) (kv : ClassId) (fm : Value) (ls : List Int32) (h0 : Heap) (n0 : Nat) (v : Option Value) (h : Heap) (L : List Loc) : Prop := v = some (.int (ls.getD i1 0)) ∧ Fr n0 L ∧ h = h0
set_option maxRecDepth 65536 in
set_option maxHeartbeats 40000000 in
theorem rm_lchG (l : Launch) (Z : State) (a0 : Array Value) (hw : ∀ d ∈ tables_1, d.before a0 Z = true) (ws : List Jvm.Cond) (v1 : Addr) (i1 : Nat) (kv : ClassId) (fm : Value) (ls : List Int32) (h0 : Heap) (n0 : Nat) (O0 : Old Z n0 h0) (A0_ : Arv Z h0 v1 kv .byte (Int32.ofNat ls.length) (own_lb ls) (.int (0 : Int32))) (hB : ls.length ≤ 3) (hi : i1 < ls.length) (hch : own_chars ls) (hlat : own_lat ls) (S5_ : Sta Z Z.heap "jdk/internal/util/Preconditions" "SIOOBE_FORMATTER" "Ljava/util/function/BiFunction;" fm) (hfm : fm.isRef = true) :
    MetFree l (⟨"java/lang/StringLatin1", "charAt", "([BI)C"⟩ : MethodName) (head1 (Jvm.Cond.code (⟨"java/lang/StringLatin1", "charAt", "([BI)C"⟩ : MethodName) jdk_43_method_2_code 2 (some .char) :: ws) ({ frames := 2, cells := 0, slots := 0, locals := 27 } : Room)) (fun a U => a = #[(.ref v1), (.int (Int32.ofNat i1))] ∧ Z.Warmed39 U.vm ∧ U.heap = h0) (fun _ _ _ _ _ => True) (fun _ U o U' => ∃ v L, o = .returned v ∧ Q_lchG Z v1 i1 kv fm ls h0 n0 v U'.heap L ∧ FrameEnd U o U' L ({ frames := 2, cells := 0, slots := 0, locals := 27 } : Room).cells ({ frames := 2, cells := 0, slots := 0, locals := 27 } : Room).slots) := by
  refine MetFree.of_bodySF (plainFor_of_name pn_java_lang_StringLatin1) hisR ?_
  intro p e s m args below meth c s₁ Bd hml0 hP hK
  obtain ⟨rfl, hZ, hh⟩ := hP
  have hx := Bd.exec
  have hby := Bd.bytes
  have hml : c.maxLocals = 2 := hml0
  have hown : s.vm.findClass "java/lang/StringLatin1" = some m.cls := findClass_of_methodNamed Bd.named
  have hnm := (name_of_methodNamed Bd.named Bd.method).1
  have X0 : Stand p l e ({ frames := 2, cells := 0, slots := 0, locals := 27 } : Room) s m #[(.ref v1), (.int (Int32.ofNat i1))] below meth c s₁ [] 0 0 := Stand.of_body Bd
  have e0 : s₁.heap = h0 := by rw [← hh, Bd.state]; rfl
  have N0 := Fr.nil n0
  have g0 : Go p e below s₁ (mkF m 0 #[rv v1, iv (Int32.ofNat i1)] []) (s₁.setTop (entryFrame m #[(.ref v1), (.int (Int32.ofNat i1))] 2)) := fun t kont => castTop (ef_lchG m v1 (Int32.ofNat i1) ) kont
  generalize s₁.setTop (entryFrame m #[(.ref v1), (.int (Int32.ofNat i1))] 2) = A0 at g0 ⊢
  have g101 : Go p e below s₁ (mkF m 2 #[rv v1, iv (Int32.ofNat i1)] [(.ref v1), (.int (Int32.ofNat i1))]) A0 := by
    intro t kont
    refine g0 t ?_
    refine XS.iloadN X0.here hx rfl (hb hby d15_0) rfl ?_
    refine XS.aloadN X0.here hx rfl (hb hby d15_1) rfl rfl ?_
    exact kont
  have zz102 := A0_
  obtain ⟨cl102, Ar102, -, S102, M102, -, -⟩ := zz102
  have g103 : Go p e below s₁ (mkF m 3 #[rv v1, iv (Int32.ofNat i1)] [(.int (Int32.ofNat ls.length)), (.int (Int32.ofNat i1))]) A0 := by
    intro t kont
    refine g101 t ?_
    refine X0.arraylength hx (by rw [e0]; exact Ar102.1) (State.isArrayOf_alike hZ.alike Ar102.2.1) (g := (mkF m 2 #[rv v1, iv (Int32.ofNat i1)] [(.ref v1), (.int (Int32.ofNat i1))])) rfl rfl (hb hby d15_2) _ ?_
    rw [len_of S102 M102]
    exact kont
  obtain ⟨_, _, ⟨T104, L104, k104, n104⟩, -, X104, ⟨Lc104, hQ104, l104, y104, z104⟩, st104⟩ := Jvm.LawKit.callS X0 hx (y := (⟨"java/lang/String", "checkIndex", "(II)V"⟩ : MethodName)) hown (mvT hZ (hw _ (List.mem_of_getElem? (i := 74) rfl))) (mvT hZ (hw _ (List.mem_of_getElem? (i := 75) rfl))) (mvT hZ (hw _ (List.mem_of_getElem? (i := 8) rfl))) (mvT hZ (hw _ (List.mem_of_getElem? (i := 76) rfl))) (by decide) (backOf (W := 0) (rm_sci l Z a0 hw [] (Int32.ofNat i1) (Int32.ofNat ls.length) fm h0 n0 O0 S5_ hfm (own_nonneg (by omega)) (own_lt (by omega) (by omega))) hZ (hw _ (List.mem_of_getElem? (i := 76) rfl)) (hw _ (List.mem_of_getElem? (i := 8) rfl)) (by decide) (by decide)) (g := (mkF m 3 #[rv v1, iv (Int32.ofNat i1)] [(.int (Int32.ofNat ls.length)), (.int (Int32.ofNat i1))])) rfl (by rw [hml]; rfl) (argsL := [(.int (Int32.ofNat i1)), (.int (Int32.ofNat ls.length))]) (rest := []) (lenOf pd_10 rfl) rfl (by show 2 * 0 + _ ≤ _; exact Nat.le_of_eq rfl) (hb hby d15_3) (fun _ _ => ⟨rfl, e0, (by decide : 0 + 0 ≤ _), (by decide : 0 + 0 ≤ _)⟩)
  dsimp only [Pt.U, Pt.locs, Pt.cells, Pt.slots] at X104 l104 y104 z104 st104 hQ104
  subst l104 y104 z104
  obtain ⟨rfl, M104, e104⟩ := hQ104
  have N104 := Fr.app N0 M104
  have g105 : Go p e below T104 (mkF m 6 #[rv v1, iv (Int32.ofNat i1)] []) A0 := fun t kont => g103 t (st104 t kont)
  have g106 : Go p e below T104 (mkF m 8 #[rv v1, iv (Int32.ofNat i1)] [(.int (Int32.ofNat i1)), (.ref v1)]) A0 := by
    intro t kont
    refine g105 t ?_
    refine XS.aloadN X104.here hx rfl (hb hby d15_6) rfl rfl ?_
    refine XS.iloadN X104.here hx rfl (hb hby d15_7) rfl ?_
    exact kont
  have zz107 := A0_
  obtain ⟨cl107, Ar107, q107, S107, M107, H107, G107⟩ := zz107
  have in107 : ¬ ((Int32.ofNat i1) < 0 ∨ cl107.slots.size ≤ ((Int32.ofNat i1)).toNatClampNeg) := inb_of S107 ⟨own_nonneg (by omega), own_lt (by omega) (by omega)⟩
  have at107 : cl107.slots[((Int32.ofNat i1)).toNatClampNeg]? = some (.int ((ls.getD i1 0).toInt8.toInt32)) := Has.at H107 in107 (by rw [own_clamp (by omega)]; exact own_lb_get hi)
  have g108 : Go p e below T104 (mkF m 9 #[rv v1, iv (Int32.ofNat i1)] [(.int ((ls.getD i1 0).toInt8.toInt32))]) A0 := fun t kont => g106 t (X104.baloadBytes hx (j := (Int32.ofNat i1)) (v := (.int ((ls.getD i1 0).toInt8.toInt32))) (by rw [e104]; exact Ar107.1) (State.isArrayOf_alike hZ.alike Ar107.2.1) Ar107.2.2 in107 at107 (g := (mkF m 8 #[rv v1, iv (Int32.ofNat i1)] [(.int (Int32.ofNat i1)), (.ref v1)])) rfl rfl (hb hby d15_8) t kont)
  have g109 : Go p e below T104 (mkF m 14 #[rv v1, iv (Int32.ofNat i1)] [(.int ((((ls.getD i1 0).toInt8.toInt32) &&& (255 : Int32)).toUInt32.toUInt16.toUInt32.toInt32))]) A0 := by
    intro t kont
    refine g108 t ?_
    refine XS.sipush X104.here hx rfl (hb hby d15_9) ?_
    refine XS.iand X104.here hx rfl (hb hby d15_12) rfl ?_
    refine XS.i2c X104.here hx rfl (hb hby d15_13) rfl ?_
    exact kont
  obtain ⟨fs, hr, hrun, hended, hW, hsame⟩ := X104.leave (v := some (.int ((((ls.getD i1 0).toInt8.toInt32) &&& (255 : Int32)).toUInt32.toUInt16.toUInt32.toInt32))) (fun h => by rw [Bd.returns] at h; cases h)
  refine ⟨_, _, g109 _ (retN X104 hx (t := .char) Bd.returns (by simp) (hb hby d15_14) (by rw [(own_narc _)]; exact hr)), hrun, hended, _, _, rfl, ?_, ⟨_, rfl⟩, hW, hsame.mono (by decide) (by decide)⟩
  show Q_lchG Z v1 i1 kv fm ls h0 n0 _ T104.heap _
  rw [e104]
  exact ⟨congrArg (fun z => some (Value.int z)) (own_rec8 (hch i1 hi).1 (hlat i1 hi)), N104, rfl⟩
theorem d32_0 : decode jdk_52_method_6_code 0 = .ok (.aload_n 0, 1) := by decide +kernel
theorem d32_1 : decode jdk_52_method_6_code 1 = .ok (.arraylength, 1) := by decide +kernel
theorem d32_2 : decode jdk_52_method_6_code 2 = .ok (.iconst 1, 1) := by decide +kernel
theorem d32_3 : decode jdk_52_method_6_code 3 = .ok (.ishr, 1) := by decide +kernel
theorem d32_4 : decode jdk_52_method_6_code 4 = .ok (.ireturn, 1) := by decide +kernel
theorem ef_uleG (m : MethodId) (x0 : Addr)  : entryFrame m #[(.ref x0)] 1 = mkF m 0 #[.val (.ref x0)] [] := by first | (simp [entryFrame, mkF, argsToLocals, Value.category]; done) | rfl
def Q_uleG (Z : State) (v1 : Addr) (kv : ClassId) (vs : List Value) (ls : List Int32) (h0 : Heap) (n0 : Nat) (v : Option Value) (h : Heap) (L : List Loc) : Prop := v = some (.int (Int32.ofNat ls.length)) ∧ Fr n0 L ∧ h = h0
set_option maxRecDepth 65536 in
set_option maxHeartbeats 40000000 in
theorem rm_uleG (l : Launch) (Z : State) (a0 : Array Value) (hw : ∀ d ∈ tables_1, d.before a0 Z = true) (ws : List Jvm.Cond) (v1 : Addr) (kv : ClassId) (vs : List Value) (ls : List Int32) (h0 : Heap) (n0 : Nat) (O0 : Old Z n0 h0) (A0_ : Arv Z h0 v1 kv .byte (Int32.ofNat (2 * ls.length)) vs (.int (0 : Int32))) (hB : ls.length ≤ 3) :
    MetFree l (⟨"java/lang/StringUTF16", "length", "([B)I"⟩ : MethodName) (head1 (Jvm.Cond.code (⟨"java/lang/StringUTF16", "length", "([B)I"⟩ : MethodName) jdk_52_method_6_code 1 (some .int) :: ws) ({ frames := 0, cells := 0, slots := 0, locals := 0 } : Room)) (fun a U => a = #[(.ref v1)] ∧ Z.Warmed39 U.vm ∧ U.heap = h0) (fun _ _ _ _ _ => True) (fun _ U o U' => ∃ v L, o = .returned v ∧ Q_uleG Z v1 kv vs ls h0 n0 v U'.heap L ∧ FrameEnd U o U' L ({ frames := 0, cells := 0, slots := 0, locals := 0 } : Room).cells ({ frames := 0, cells := 0, slots := 0, locals := 0 } : Room).slots) := by
  refine MetFree.of_bodySF (plainFor_of_name pn_java_lang_StringUTF16) hisR ?_
  intro p e s m args below meth c s₁ Bd hml0 hP hK
  obtain ⟨rfl, hZ, hh⟩ := hP
  have hx := Bd.exec
  have hby := Bd.bytes
  have hml : c.maxLocals = 1 := hml0
  have hown : s.vm.findClass "java/lang/StringUTF16" = some m.cls := findClass_of_methodNamed Bd.named
  have hnm := (name_of_methodNamed Bd.named Bd.method).1
  have X0 : Stand p l e ({ frames := 0, cells := 0, slots := 0, locals := 0 } : Room) s m #[(.ref v1)] below meth c s₁ [] 0 0 := Stand.of_body Bd
  have e0 : s₁.heap = h0 := by rw [← hh, Bd.state]; rfl
  have N0 := Fr.nil n0
  have g0 : Go p e below s₁ (mkF m 0 #[rv v1] []) (s₁.setTop (entryFrame m #[(.ref v1)] 1)) := fun t kont => castTop (ef_uleG m v1 ) kont
  generalize s₁.setTop (entryFrame m #[(.ref v1)] 1) = A0 at g0 ⊢
  have g101 : Go p e below s₁ (mkF m 1 #[rv v1] [(.ref v1)]) A0 := by
    intro t kont
    refine g0 t ?_
    refine XS.aloadN X0.here hx rfl (hb hby d32_0) rfl rfl ?_
    exact kont
  have zz102 := A0_
  obtain ⟨cl102, Ar102, -, S102, M102, -, -⟩ := zz102
  have g103 : Go p e below s₁ (mkF m 2 #[rv v1] [(.int (Int32.ofNat (2 * ls.length)))]) A0 := by
    intro t kont
    refine g101 t ?_
    refine X0.arraylength hx (by rw [e0]; exact Ar102.1) (State.isArrayOf_alike hZ.alike Ar102.2.1) (g := (mkF m 1 #[rv v1] [(.ref v1)])) rfl rfl (hb hby d32_1) _ ?_
    rw [len_of S102 M102]
    exact kont
  have g104 : Go p e below s₁ (mkF m 4 #[rv v1] [(.int ((Int32.ofNat (2 * ls.length)) >>> ((1 : Int32) &&& 31)))]) A0 := by
    intro t kont
    refine g103 t ?_
    refine XS.iconst X0.here hx rfl (hb hby d32_2) ?_
    refine XS.ishr X0.here hx rfl (hb hby d32_3) rfl ?_
    exact kont
  obtain ⟨fs, hr, hrun, hended, hW, hsame⟩ := X0.leave (v := some (.int ((Int32.ofNat (2 * ls.length)) >>> ((1 : Int32) &&& 31)))) (fun h => by rw [Bd.returns] at h; cases h)
  refine ⟨_, _, g104 _ (retI X0 hx Bd.returns (hb hby d32_4) hr), hrun, hended, _, _, rfl, ?_, ⟨_, rfl⟩, hW, hsame.mono (by decide) (by decide)⟩
  show Q_uleG Z v1 kv vs ls h0 n0 _ s₁.heap _
  rw [e0]
  exact ⟨congrArg (fun z => some (Value.int z)) (own_half (by omega)), N0, rfl⟩
theorem d31_0 : decode jdk_52_method_91_code 0 = .ok (.iload_n 0, 1) := by decide +kernel
theorem d31_1 : decode jdk_52_method_91_code 1 = .ok (.aload_n 1, 1) := by decide +kernel
theorem d31_2 : decode jdk_52_method_91_code 2 = .ok (.invokestatic 48, 3) := by decide +kernel
theorem pd_11 : parseMethodDescriptor "([B)I" = some ⟨[(.array .byte)], some .int⟩ := by decide +kernel
theorem d31_5 : decode jdk_52_method_91_code 5 = .ok (.invokestatic 414, 3) := by decide +kernel
theorem d31_8 : decode jdk_52_method_91_code 8 = .ok (.return_, 1) := by decide +kernel
theorem ef_uckG (m : MethodId) (x0 : Int32) (x1 : Addr)  : entryFrame m #[(.int x0), (.ref x1)] 2 = mkF m 0 #[.val (.int x0), .val (.ref x1)] [] := by first | (simp [entryFrame, mkF, argsToLocals, Value.category]; done) | rfl
def Q_uckG (Z : State) (v1 : Addr) (i1 : Nat) (kv : ClassId) (vs : List Value) (fm : Value) (ls : List Int32) (h0 : Heap) (n0 : Nat) (v : Option Value) (h : Heap) (L : List Loc) : Prop := v = none ∧ Fr n0 L ∧ h = h0
set_option maxRecDepth 65536 in
set_option maxHeartbeats 40000000 in
theorem rm_uckG (l : Launch) (Z : State) (a0 : Array Value) (hw : ∀ d ∈ tables_1, d.before a0 Z = true) (ws : List Jvm.Cond) (v1 : Addr) (i1 : Nat) (kv : ClassId) (vs : List Value) (fm : Value) (ls : List Int32) (h0 : Heap) (n0 : Nat) (O0 : Old Z n0 h0) (A0_ : Arv Z h0 v1 kv .byte (Int32.ofNat (2 * ls.length)) vs (.int (0 : Int32))) (hB : ls.length ≤ 3) (hi : i1 < ls.length) (S3_ : Sta Z Z.heap "jdk/internal/util/Preconditions" "SIOOBE_FORMATTER" "Ljava/util/function/BiFunction;" fm) (hfm : fm.isRef = true) :
    MetFree l (⟨"java/lang/StringUTF16", "checkIndex", "(I[B)V"⟩ : MethodName) (head1 (Jvm.Cond.code (⟨"java/lang/StringUTF16", "checkIndex", "(I[B)V"⟩ : MethodName) jdk_52_method_91_code 2 none :: ws) ({ frames := 2, cells := 0, slots := 0, locals := 27 } : Room)) (fun a U => a = #[(.int (Int32.ofNat i1)), (.ref v1)] ∧ Z.Warmed39 U.vm ∧ U.heap = h0) (fun _ _ _ _ _ => True) (fun _ U o U' => ∃ v L, o = .returned v ∧ Q_uckG Z v1 i1 kv vs fm ls h0 n0 v U'.heap L ∧ FrameEnd U o U' L ({ frames := 2, cells := 0, slots := 0, locals := 27 } : Room).cells ({ frames := 2, cells := 0, slots := 0, locals := 27 } : Room).slots) := by
  refine MetFree.of_bodySF (plainFor_of_name pn_java_lang_StringUTF16) hisR ?_
  intro p e s m args below meth c s₁ Bd hml0 hP hK
  obtain ⟨rfl, hZ, hh⟩ := hP
  have hx := Bd.exec
  have hby := Bd.bytes
  have hml : c.maxLocals = 2 := hml0
  have hown : s.vm.findClass "java/lang/StringUTF16" = some m.cls := findClass_of_methodNamed Bd.named
  have hnm := (name_of_methodNamed Bd.named Bd.method).1
  have X0 : Stand p l e ({ frames := 2, cells := 0, slots := 0, locals := 27 } : Room) s m #[(.int (Int32.ofNat i1)), (.ref v1)] below meth c s₁ [] 0 0 := Stand.of_body Bd
  have e0 : s₁.heap = h0 := by rw [← hh, Bd.state]; rfl
  have N0 := Fr.nil n0
  have g0 : Go p e below s₁ (mkF m 0 #[iv (Int32.ofNat i1), rv v1] []) (s₁.setTop (entryFrame m #[(.int (Int32.ofNat i1)), (.ref v1)] 2)) := fun t kont => castTop (ef_uckG m (Int32.ofNat i1) v1 ) kont
  generalize s₁.setTop (entryFrame m #[(.int (Int32.ofNat i1)), (.ref v1)] 2) = A0 at g0 ⊢
  have g101 : Go p e below s₁ (mkF m 2 #[iv (Int32.ofNat i1), rv v1] [(.ref v1), (.int (Int32.ofNat i1))]) A0 := by
    intro t kont
    refine g0 t ?_
    refine XS.iloadN X0.here hx rfl (hb hby d31_0) rfl ?_
    refine XS.aloadN X0.here hx rfl (hb hby d31_1) rfl rfl ?_
    exact kont
  obtain ⟨_, _, ⟨T102, L102, k102, n102⟩, -, X102, ⟨Lc102, hQ102, l102, y102, z102⟩, st102⟩ := Jvm.LawKit.callS X0 hx (y := (⟨"java/lang/StringUTF16", "length", "([B)I"⟩ : MethodName)) hown (mvT hZ (hw _ (List.mem_of_getElem? (i := 135) rfl))) (mvT hZ (hw _ (List.mem_of_getElem? (i := 136) rfl))) (mvT hZ (hw _ (List.mem_of_getElem? (i := 39) rfl))) (mvT hZ (hw _ (List.mem_of_getElem? (i := 137) rfl))) (by decide) (backOf (W := 1) (rm_uleG l Z a0 hw [] v1 kv vs ls h0 n0 O0 A0_ hB) hZ (hw _ (List.mem_of_getElem? (i := 137) rfl)) (hw _ (List.mem_of_getElem? (i := 39) rfl)) (by decide) (by decide)) (g := (mkF m 2 #[iv (Int32.ofNat i1), rv v1] [(.ref v1), (.int (Int32.ofNat i1))])) rfl (by rw [hml]; rfl) (argsL := [(.ref v1)]) (rest := [(.int (Int32.ofNat i1))]) (lenOf pd_11 rfl) rfl (by show 2 * 0 + _ ≤ _; exact Nat.le_of_eq rfl) (hb hby d31_2) (fun _ _ => ⟨rfl, e0, (by decide : 0 + 0 ≤ _), (by decide : 0 + 0 ≤ _)⟩)
  dsimp only [Pt.U, Pt.locs, Pt.cells, Pt.slots] at X102 l102 y102 z102 st102 hQ102
  subst l102 y102 z102
  obtain ⟨rfl, M102, e102⟩ := hQ102
  have N102 := Fr.app N0 M102
  have g103 : Go p e below T102 (mkF m 5 #[iv (Int32.ofNat i1), rv v1] [(.int (Int32.ofNat ls.length)), (.int (Int32.ofNat i1))]) A0 := fun t kont => g101 t (st102 t kont)
  obtain ⟨_, _, ⟨T104, L104, k104, n104⟩, -, X104, ⟨Lc104, hQ104, l104, y104, z104⟩, st104⟩ := Jvm.LawKit.callS X102 hx (y := (⟨"java/lang/String", "checkIndex", "(II)V"⟩ : MethodName)) hown (mvT hZ (hw _ (List.mem_of_getElem? (i := 138) rfl))) (mvT hZ (hw _ (List.mem_of_getElem? (i := 75) rfl))) (mvT hZ (hw _ (List.mem_of_getElem? (i := 8) rfl))) (mvT hZ (hw _ (List.mem_of_getElem? (i := 76) rfl))) (by decide) (backOf (W := 0) (rm_sci l Z a0 hw [] (Int32.ofNat i1) (Int32.ofNat ls.length) fm h0 n0 O0 S3_ hfm (own_nonneg (by omega)) (own_lt (by omega) (by omega))) hZ (hw _ (List.mem_of_getElem? (i := 76) rfl)) (hw _ (List.mem_of_getElem? (i := 8) rfl)) (by decide) (by decide)) (g := (mkF m 5 #[iv (Int32.ofNat i1), rv v1] [(.int (Int32.ofNat ls.length)), (.int (Int32.ofNat i1))])) rfl (by rw [hml]; rfl) (argsL := [(.int (Int32.ofNat i1)), (.int (Int32.ofNat ls.length))]) (rest := []) (lenOf pd_10 rfl) rfl (by show 2 * 0 + _ ≤ _; exact Nat.le_of_eq rfl) (hb hby d31_5) (fun _ _ => ⟨rfl, e102, (by decide : 0 + 0 ≤ _), (by decide : 0 + 0 ≤ _)⟩)
  dsimp only [Pt.U, Pt.locs, Pt.cells, Pt.slots] at X104 l104 y104 z104 st104 hQ104
  subst l104 y104 z104
  obtain ⟨rfl, M104, e104⟩ := hQ104
  have N104 := Fr.app N102 M104
  have g105 : Go p e below T104 (mkF m 8 #[iv (Int32.ofNat i1), rv v1] []) A0 := fun t kont => g103 t (st104 t kont)
  obtain ⟨fs, hr, hrun, hended, hW, hsame⟩ := X104.leave (v := none) (fun _ => rfl)
  refine ⟨_, _, g105 _ (X104.returnOut hx Bd.returns (hb hby d31_8) hr), hrun, hended, _, _, rfl, ?_, ⟨_, rfl⟩, hW, hsame.mono (by decide) (by decide)⟩
  show Q_uckG Z v1 i1 kv vs fm ls h0 n0 _ T104.heap _
  rw [e104]
  exact ⟨rfl, N104, rfl⟩
theorem d30_0 : decode jdk_52_method_83_code 0 = .ok (.iload_n 1, 1) := by decide +kernel
theorem d30_1 : decode jdk_52_method_83_code 1 = .ok (.aload_n 0, 1) := by decide +kernel
theorem d30_2 : decode jdk_52_method_83_code 2 = .ok (.invokestatic 67, 3) := by decide +kernel
theorem pd_12 : parseMethodDescriptor "(I[B)V" = some ⟨[.int, (.array .byte)], none⟩ := by decide +kernel
theorem d30_5 : decode jdk_52_method_83_code 5 = .ok (.aload_n 0, 1) := by decide +kernel
theorem d30_6 : decode jdk_52_method_83_code 6 = .ok (.iload_n 1, 1) := by decide +kernel
theorem d30_7 : decode jdk_52_method_83_code 7 = .ok (.invokestatic 71, 3) := by decide +kernel
theorem d30_10 : decode jdk_52_method_83_code 10 = .ok (.ireturn, 1) := by decide +kernel
theorem ef_uchG (m : MethodId) (x0 : Addr) (x1 : Int32)  : entryFrame m #[(.ref x0), (.int x1)] 2 = mkF m 0 #[.val (.ref x0), .val (.int x1)] [] := by first | (simp [entryFrame, mkF, argsToLocals, Value.category]; done) | rfl
def Q_uchG (Z : State) (v1 : Addr) (i1 : Nat) (kv : ClassId) (fm : Value) (ls : List Int32) (h0 : Heap) (n0 : Nat) (v : Option Value) (h : Heap) (L : List Loc) : Prop := v = some (.int (ls.getD i1 0)) ∧ Fr n0 L ∧ h = h0
set_option maxRecDepth 65536 in
set_option maxHeartbeats 40000000 in
theorem rm_uchG (l : Launch) (Z : State) (a0 : Array Value) (hw : ∀ d ∈ tables_1, d.before a0 Z = true) (ws : List Jvm.Cond) (v1 : Addr) (i1 : Nat) (kv : ClassId) (fm : Value) (ls : List Int32) (h0 : Heap) (n0 : Nat) (O0 : Old Z n0 h0) (A0_ : Arv Z h0 v1 kv .byte (Int32.ofNat (2 * ls.length)) (own_wb ls) (.int (0 : Int32))) (hB : ls.length ≤ 3) (hi : i1 < ls.length) (hch : own_chars ls) (S4_ : Sta Z Z.heap "jdk/internal/util/Preconditions" "SIOOBE_FORMATTER" "Ljava/util/function/BiFunction;" fm) (hfm : fm.isRef = true) (S6_ : Sta Z Z.heap "java/lang/StringUTF16" "$assertionsDisabled" "Z" (.int (1 : Int32))) (S7_ : Sta Z Z.heap "java/lang/StringUTF16" "HI_BYTE_SHIFT" "I" (.int (0 : Int32))) (S8_ : Sta Z Z.heap "java/lang/StringUTF16" "LO_BYTE_SHIFT" "I" (.int (8 : Int32))) :
    MetFree l (⟨"java/lang/StringUTF16", "charAt", "([BI)C"⟩ : MethodName) (head1 (Jvm.Cond.code (⟨"java/lang/StringUTF16", "charAt", "([BI)C"⟩ : MethodName) jdk_52_method_83_code 2 (some .char) :: ws) ({ frames := 3, cells := 0, slots := 0, locals := 40 } : Room)) (fun a U => a = #[(.ref v1), (.int (Int32.ofNat i1))] ∧ Z.Warmed39 U.vm ∧ U.heap = h0) (fun _ _ _ _ _ => True) (fun _ U o U' => ∃ v L, o = .returned v ∧ Q_uchG Z v1 i1 kv fm ls h0 n0 v U'.heap L ∧ FrameEnd U o U' L ({ frames := 3, cells := 0, slots := 0, locals := 40 } : Room).cells ({ frames := 3, cells := 0, slots := 0, locals := 40 } : Room).slots) := by
  refine MetFree.of_bodySF (plainFor_of_name pn_java_lang_StringUTF16) hisR ?_
  intro p e s m args below meth c s₁ Bd hml0 hP hK
  obtain ⟨rfl, hZ, hh⟩ := hP
  have hx := Bd.exec
  have hby := Bd.bytes
  have hml : c.maxLocals = 2 := hml0
  have hown : s.vm.findClass "java/lang/StringUTF16" = some m.cls := findClass_of_methodNamed Bd.named
  have hnm := (name_of_methodNamed Bd.named Bd.method).1
  have X0 : Stand p l e ({ frames := 3, cells := 0, slots := 0, locals := 40 } : Room) s m #[(.ref v1), (.int (Int32.ofNat i1))] below meth c s₁ [] 0 0 := Stand.of_body Bd
  have e0 : s₁.heap = h0 := by rw [← hh, Bd.state]; rfl
  have N0 := Fr.nil n0
  have g0 : Go p e below s₁ (mkF m 0 #[rv v1, iv (Int32.ofNat i1)] []) (s₁.setTop (entryFrame m #[(.ref v1), (.int (Int32.ofNat i1))] 2)) := fun t kont => castTop (ef_uchG m v1 (Int32.ofNat i1) ) kont
  generalize s₁.setTop (entryFrame m #[(.ref v1), (.int (Int32.ofNat i1))] 2) = A0 at g0 ⊢
  have r_ch : nar .char (ls.getD i1 0) = (ls.getD i1 0) := own_narid (hch i1 hi).1 (hch i1 hi).2
  have g101 : Go p e below s₁ (mkF m 2 #[rv v1, iv (Int32.ofNat i1)] [(.ref v1), (.int (Int32.ofNat i1))]) A0 := by
    intro t kont
    refine g0 t ?_
    refine XS.iloadN X0.here hx rfl (hb hby d30_0) rfl ?_
    refine XS.aloadN X0.here hx rfl (hb hby d30_1) rfl rfl ?_
    exact kont
  obtain ⟨_, _, ⟨T102, L102, k102, n102⟩, -, X102, ⟨Lc102, hQ102, l102, y102, z102⟩, st102⟩ := Jvm.LawKit.callS X0 hx (y := (⟨"java/lang/StringUTF16", "checkIndex", "(I[B)V"⟩ : MethodName)) hown (mvT hZ (hw _ (List.mem_of_getElem? (i := 132) rfl))) (mvT hZ (hw _ (List.mem_of_getElem? (i := 133) rfl))) (mvT hZ (hw _ (List.mem_of_getElem? (i := 39) rfl))) (mvT hZ (hw _ (List.mem_of_getElem? (i := 134) rfl))) (by decide) (backOf (W := 0) (rm_uckG l Z a0 hw [] v1 i1 kv (own_wb ls) fm ls h0 n0 O0 A0_ hB hi S4_ hfm) hZ (hw _ (List.mem_of_getElem? (i := 134) rfl)) (hw _ (List.mem_of_getElem? (i := 39) rfl)) (by decide) (by decide)) (g := (mkF m 2 #[rv v1, iv (Int32.ofNat i1)] [(.ref v1), (.int (Int32.ofNat i1))])) rfl (by rw [hml]; rfl) (argsL := [(.int (Int32.ofNat i1)), (.ref v1)]) (rest := []) (lenOf pd_12 rfl) rfl (by show 2 * 0 + _ ≤ _; exact Nat.le_of_eq rfl) (hb hby d30_2) (fun _ _ => ⟨rfl, e0, (by decide : 0 + 0 ≤ _), (by decide : 0 + 0 ≤ _)⟩)
  dsimp only [Pt.U, Pt.locs, Pt.cells, Pt.slots] at X102 l102 y102 z102 st102 hQ102
  subst l102 y102 z102
  obtain ⟨rfl, M102, e102⟩ := hQ102
  have N102 := Fr.app N0 M102
  have g103 : Go p e below T102 (mkF m 5 #[rv v1, iv (Int32.ofNat i1)] []) A0 := fun t kont => g101 t (st102 t kont)
  have g104 : Go p e below T102 (mkF m 7 #[rv v1, iv (Int32.ofNat i1)] [(.int (Int32.ofNat i1)), (.ref v1)]) A0 := by
    intro t kont
    refine g103 t ?_
    refine XS.aloadN X102.here hx rfl (hb hby d30_5) rfl rfl ?_
    refine XS.iloadN X102.here hx rfl (hb hby d30_6) rfl ?_
    exact kont
  obtain ⟨_, _, ⟨T105, L105, k105, n105⟩, -, X105, ⟨Lc105, hQ105, l105, y105, z105⟩, st105⟩ := Jvm.LawKit.callS X102 hx (y := (⟨"java/lang/StringUTF16", "getChar", "([BI)C"⟩ : MethodName)) hown (mvT hZ (hw _ (List.mem_of_getElem? (i := 126) rfl))) (mvT hZ (hw _ (List.mem_of_getElem? (i := 127) rfl))) (mvT hZ (hw _ (List.mem_of_getElem? (i := 39) rfl))) (mvT hZ (hw _ (List.mem_of_getElem? (i := 128) rfl))) (by decide) (backOf (W := 0) (rm_getG l Z a0 hw [] v1 i1 kv ls h0 n0 O0 A0_ hB hi hch S6_ S7_ S8_) hZ (hw _ (List.mem_of_getElem? (i := 128) rfl)) (hw _ (List.mem_of_getElem? (i := 39) rfl)) (by decide) (by decide)) (g := (mkF m 7 #[rv v1, iv (Int32.ofNat i1)] [(.int (Int32.ofNat i1)), (.ref v1)])) rfl (by rw [hml]; rfl) (argsL := [(.ref v1), (.int (Int32.ofNat i1))]) (rest := []) (lenOf pd_6 rfl) rfl (by show 2 * 0 + _ ≤ _; exact Nat.le_of_eq rfl) (hb hby d30_7) (fun _ _ => ⟨rfl, e102, (by decide : 0 + 0 ≤ _), (by decide : 0 + 0 ≤ _)⟩)
  dsimp only [Pt.U, Pt.locs, Pt.cells, Pt.slots] at X105 l105 y105 z105 st105 hQ105
  subst l105 y105 z105
  obtain ⟨rfl, M105, e105⟩ := hQ105
  have N105 := Fr.app N102 M105
  have g106 : Go p e below T105 (mkF m 10 #[rv v1, iv (Int32.ofNat i1)] [(.int (ls.getD i1 0))]) A0 := fun t kont => g104 t (st105 t kont)
  obtain ⟨fs, hr, hrun, hended, hW, hsame⟩ := X105.leave (v := some (.int (ls.getD i1 0))) (fun h => by rw [Bd.returns] at h; cases h)
  refine ⟨_, _, g106 _ (retN X105 hx (t := .char) Bd.returns (by simp) (hb hby d30_10) (by rw [r_ch]; exact hr)), hrun, hended, _, _, rfl, ?_, ⟨_, rfl⟩, hW, hsame.mono (by decide) (by decide)⟩
  show Q_uchG Z v1 i1 kv fm ls h0 n0 _ T105.heap _
  rw [e105]
  exact ⟨rfl, N105, rfl⟩
theorem d13_0 : decode jdk_42_method_56_code 0 = .ok (.aload_n 0, 1) := by decide +kernel
theorem d13_1 : decode jdk_42_method_56_code 1 = .ok (.invokevirtual 492, 3) := by decide +kernel
theorem pd_13 : parseMethodDescriptor "()Z" = some ⟨[], some .boolean⟩ := by decide +kernel
theorem d13_4 : decode jdk_42_method_56_code 4 = .ok (.ifCond .eq 12, 3) := by decide +kernel
theorem d13_7 : decode jdk_42_method_56_code 7 = .ok (.aload_n 0, 1) := by decide +kernel
theorem d13_8 : decode jdk_42_method_56_code 8 = .ok (.getfield 9, 3) := by decide +kernel
theorem d13_11 : decode jdk_42_method_56_code 11 = .ok (.iload_n 1, 1) := by decide +kernel
theorem d13_12 : decode jdk_42_method_56_code 12 = .ok (.invokestatic 495, 3) := by decide +kernel
theorem d13_15 : decode jdk_42_method_56_code 15 = .ok (.ireturn, 1) := by decide +kernel
theorem d13_16 : decode jdk_42_method_56_code 16 = .ok (.aload_n 0, 1) := by decide +kernel
theorem d13_17 : decode jdk_42_method_56_code 17 = .ok (.getfield 9, 3) := by decide +kernel
theorem d13_20 : decode jdk_42_method_56_code 20 = .ok (.iload_n 1, 1) := by decide +kernel
theorem d13_21 : decode jdk_42_method_56_code 21 = .ok (.invokestatic 498, 3) := by decide +kernel
theorem d13_24 : decode jdk_42_method_56_code 24 = .ok (.ireturn, 1) := by decide +kernel
theorem ef_chaG (m : MethodId) (x0 : Addr) (x1 : Int32)  : entryFrame m #[(.ref x0), (.int x1)] 2 = mkF m 0 #[.val (.ref x0), .val (.int x1)] [] := by first | (simp [entryFrame, mkF, argsToLocals, Value.category]; done) | rfl
def Q_chaG (Z : State) (a1 : Addr) (v1 : Addr) (kv : ClassId) (cd : Int32) (z1 : Int32) (vs : List Value) (ls : List Int32) (cs : Int32) (i1 : Nat) (fm : Value) (h0 : Heap) (n0 : Nat) (v : Option Value) (h : Heap) (L : List Loc) : Prop := v = some (.int (ls.getD i1 0)) ∧ Fr n0 L ∧ h = h0
set_option maxRecDepth 65536 in
set_option maxHeartbeats 40000000 in
theorem rm_chaG (l : Launch) (Z : State) (a0 : Array Value) (hw : ∀ d ∈ tables_1, d.before a0 Z = true) (ws : List Jvm.Cond) (a1 : Addr) (v1 : Addr) (kv : ClassId) (cd : Int32) (z1 : Int32) (vs : List Value) (ls : List Int32) (cs : Int32) (i1 : Nat) (fm : Value) (h0 : Heap) (n0 : Nat) (O0 : Old Z n0 h0) (S0_ : Sta Z Z.heap "java/lang/String" "COMPACT_STRINGS" "Z" (.int cs)) (hcs : ¬ (cs = (0 : Int32))) (F2_ : Fld Z h0 a1 "java/lang/String" "value" "[B" (.ref v1)) (F3_ : Fld Z h0 a1 "java/lang/String" "coder" "B" (.int cd)) (E4_ : Exa Z h0 a1 "java/lang/String") (A5_ : Arv Z h0 v1 kv .byte z1 vs (.int (0 : Int32))) (hcod : own_cod ls cd z1 vs) (hB : ls.length ≤ 3) (hi : i1 < ls.length) (hch : own_chars ls) (S10_ : Sta Z Z.heap "jdk/internal/util/Preconditions" "SIOOBE_FORMATTER" "Ljava/util/function/BiFunction;" fm) (hfm : fm.isRef = true) (S12_ : Sta Z Z.heap "java/lang/StringUTF16" "$assertionsDisabled" "Z" (.int (1 : Int32))) (S13_ : Sta Z Z.heap "java/lang/StringUTF16" "HI_BYTE_SHIFT" "I" (.int (0 : Int32))) (S14_ : Sta Z Z.heap "java/lang/StringUTF16" "LO_BYTE_SHIFT" "I" (.int (8 : Int32))) :
    MetFree l (⟨"java/lang/String", "charAt", "(I)C"⟩ : MethodName) (head1 (Jvm.Cond.code (⟨"java/lang/String", "charAt", "(I)C"⟩ : MethodName) jdk_42_method_56_code 2 (some .char) :: ws) ({ frames := 4, cells := 0, slots := 0, locals := 53 } : Room)) (fun a U => a = #[(.ref a1), (.int (Int32.ofNat i1))] ∧ Z.Warmed39 U.vm ∧ U.heap = h0) (fun _ _ _ _ _ => True) (fun _ U o U' => ∃ v L, o = .returned v ∧ Q_chaG Z a1 v1 kv cd z1 vs ls cs i1 fm h0 n0 v U'.heap L ∧ FrameEnd U o U' L ({ frames := 4, cells := 0, slots := 0, locals := 53 } : Room).cells ({ frames := 4, cells := 0, slots := 0, locals := 53 } : Room).slots) := by
  refine MetFree.of_bodySF (plainFor_of_name pn_java_lang_String) hisR ?_
  intro p e s m args below meth c s₁ Bd hml0 hP hK
  obtain ⟨rfl, hZ, hh⟩ := hP
  have hx := Bd.exec
  have hby := Bd.bytes
  have hml : c.maxLocals = 2 := hml0
  have hown : s.vm.findClass "java/lang/String" = some m.cls := findClass_of_methodNamed Bd.named
  have hnm := (name_of_methodNamed Bd.named Bd.method).1
  have X0 : Stand p l e ({ frames := 4, cells := 0, slots := 0, locals := 53 } : Room) s m #[(.ref a1), (.int (Int32.ofNat i1))] below meth c s₁ [] 0 0 := Stand.of_body Bd
  have e0 : s₁.heap = h0 := by rw [← hh, Bd.state]; rfl
  have N0 := Fr.nil n0
  have g0 : Go p e below s₁ (mkF m 0 #[rv a1, iv (Int32.ofNat i1)] []) (s₁.setTop (entryFrame m #[(.ref a1), (.int (Int32.ofNat i1))] 2)) := fun t kont => castTop (ef_chaG m a1 (Int32.ofNat i1) ) kont
  generalize s₁.setTop (entryFrame m #[(.ref a1), (.int (Int32.ofNat i1))] 2) = A0 at g0 ⊢
  have r_ch : nar .char (ls.getD i1 0) = (ls.getD i1 0) := own_narid (hch i1 hi).1 (hch i1 hi).2
  rcases hcod with ⟨e1, e2, e3, hlat⟩ | ⟨e1, e2, e3⟩
  ·
    have y101 := F3_
    rw [e1] at y101
    have y102 := A5_
    rw [e2, e3] at y102
    have g103 : Go p e below s₁ (mkF m 1 #[rv a1, iv (Int32.ofNat i1)] [(.ref a1)]) A0 := by
      intro t kont
      refine g0 t ?_
      refine XS.aloadN X0.here hx rfl (hb hby d13_0) rfl rfl ?_
      exact kont
    obtain ⟨cq104, kq104, q104a, q104b, q104c⟩ := isOf hZ e0 E4_
    obtain ⟨_, _, ⟨T104, L104, k104, n104⟩, -, X104, ⟨Lc104, hQ104, l104, y104, z104⟩, st104⟩ := X0.virtualBack hx (y := (⟨"java/lang/String", "isLatin1", "()Z"⟩ : MethodName)) (z := (⟨"java/lang/String", "isLatin1", "()Z"⟩ : MethodName)) hown (mvT hZ (hw _ (List.mem_of_getElem? (i := 65) rfl))) (mvT hZ (hw _ (List.mem_of_getElem? (i := 66) rfl))) (notFace_of_selects (args := #[]) (mvT hZ (hw _ (List.mem_of_getElem? (i := 68) rfl)))) (mvT hZ (hw _ (List.mem_of_getElem? (i := 68) rfl))) (mvT hZ (hw _ (List.mem_of_getElem? (i := 67) rfl))) (by decide) (backOf (W := 0) (rm_isl0 l Z a0 hw [] a1 cs h0 n0 O0 S0_ hcs y101) hZ (hw _ (List.mem_of_getElem? (i := 69) rfl)) (hw _ (List.mem_of_getElem? (i := 8) rfl)) (by decide) (by decide)) q104a q104c (g := (mkF m 1 #[rv a1, iv (Int32.ofNat i1)] [(.ref a1)])) rfl (by rw [hml]; rfl) (Steps.refl _) (argsL := []) (rest := []) (lenOf pd_13 rfl) rfl (by show 2 * 0 + _ ≤ _; exact Nat.le_of_eq rfl) (hb hby d13_1) (fun _ _ => ⟨rfl, e0, (by decide : 0 + 0 ≤ _), (by decide : 0 + 0 ≤ _)⟩)
    dsimp only [Pt.U, Pt.locs, Pt.cells, Pt.slots] at X104 l104 y104 z104 st104 hQ104
    subst l104 y104 z104
    obtain ⟨rfl, M104, e104⟩ := hQ104
    have N104 := Fr.app N0 M104
    have g105 : Go p e below T104 (mkF m 4 #[rv a1, iv (Int32.ofNat i1)] [(.int (1 : Int32))]) A0 := fun t kont => g103 t (st104.trans kont)
    have g106 : Go p e below T104 (mkF m 8 #[rv a1, iv (Int32.ofNat i1)] [(.ref a1)]) A0 := by
      intro t kont
      refine g105 t ?_
      refine XS.ifNo X104.here hx rfl (hb hby d13_4) rfl ((if0 _ _).trans (feq (by decide : ¬ ((1 : Int32) = (0 : Int32)))).1) ?_
      refine XS.aloadN X104.here hx rfl (hb hby d13_7) rfl rfl ?_
      exact kont
    obtain ⟨T107, X107, e107, st107⟩ := getF X104 hx hZ hown (host := "") (Or.inl (hw _ (List.mem_of_getElem? (i := 25) rfl))) Via.refl e104 F2_ (g := (mkF m 8 #[rv a1, iv (Int32.ofNat i1)] [(.ref a1)])) rfl rfl (hb hby d13_8)
    have g108 : Go p e below T107 (mkF m 11 #[rv a1, iv (Int32.ofNat i1)] [(.ref v1)]) A0 := fun t kont => g106 t (st107 t kont)
    have g109 : Go p e below T107 (mkF m 12 #[rv a1, iv (Int32.ofNat i1)] [(.int (Int32.ofNat i1)), (.ref v1)]) A0 := by
      intro t kont
      refine g108 t ?_
      refine XS.iloadN X107.here hx rfl (hb hby d13_11) rfl ?_
      exact kont
    obtain ⟨_, _, ⟨T110, L110, k110, n110⟩, -, X110, ⟨Lc110, hQ110, l110, y110, z110⟩, st110⟩ := Jvm.LawKit.callS X107 hx (y := (⟨"java/lang/StringLatin1", "charAt", "([BI)C"⟩ : MethodName)) hown (mvT hZ (hw _ (List.mem_of_getElem? (i := 70) rfl))) (mvT hZ (hw _ (List.mem_of_getElem? (i := 71) rfl))) (mvT hZ (hw _ (List.mem_of_getElem? (i := 72) rfl))) (mvT hZ (hw _ (List.mem_of_getElem? (i := 73) rfl))) (by decide) (backOf (W := 0) (rm_lchG l Z a0 hw [] v1 i1 kv fm ls h0 n0 O0 y102 hB hi hch hlat S10_ hfm) hZ (hw _ (List.mem_of_getElem? (i := 73) rfl)) (hw _ (List.mem_of_getElem? (i := 72) rfl)) (by decide) (by decide)) (g := (mkF m 12 #[rv a1, iv (Int32.ofNat i1)] [(.int (Int32.ofNat i1)), (.ref v1)])) rfl (by rw [hml]; rfl) (argsL := [(.ref v1), (.int (Int32.ofNat i1))]) (rest := []) (lenOf pd_6 rfl) rfl (by show 2 * 0 + _ ≤ _; exact Nat.le_of_eq rfl) (hb hby d13_12) (fun _ _ => ⟨rfl, e107, (by decide : 0 + 0 ≤ _), (by decide : 0 + 0 ≤ _)⟩)
    dsimp only [Pt.U, Pt.locs, Pt.cells, Pt.slots] at X110 l110 y110 z110 st110 hQ110
    subst l110 y110 z110
    obtain ⟨rfl, M110, e110⟩ := hQ110
    have N110 := Fr.app N104 M110
    have g111 : Go p e below T110 (mkF m 15 #[rv a1, iv (Int32.ofNat i1)] [(.int (ls.getD i1 0))]) A0 := fun t kont => g109 t (st110 t kont)
    obtain ⟨fs, hr, hrun, hended, hW, hsame⟩ := X110.leave (v := some (.int (ls.getD i1 0))) (fun h => by rw [Bd.returns] at h; cases h)
    refine ⟨_, _, g111 _ (retN X110 hx (t := .char) Bd.returns (by simp) (hb hby d13_15) (by rw [r_ch]; exact hr)), hrun, hended, _, _, rfl, ?_, ⟨_, rfl⟩, hW, hsame.mono (by decide) (by decide)⟩
    show Q_chaG Z a1 v1 kv cd z1 vs ls cs i1 fm h0 n0 _ T110.heap _
    rw [e110]
    exact ⟨rfl, N110, rfl⟩
  have y112 := F3_
  rw [e1] at y112
  have y113 := A5_
  rw [e2, e3] at y113
  have g114 : Go p e below s₁ (mkF m 1 #[rv a1, iv (Int32.ofNat i1)] [(.ref a1)]) A0 := by
    intro t kont
    refine g0 t ?_
    refine XS.aloadN X0.here hx rfl (hb hby d13_0) rfl rfl ?_
    exact kont
  obtain ⟨cq115, kq115, q115a, q115b, q115c⟩ := isOf hZ e0 E4_
  obtain ⟨_, _, ⟨T115, L115, k115, n115⟩, -, X115, ⟨Lc115, hQ115, l115, y115, z115⟩, st115⟩ := X0.virtualBack hx (y := (⟨"java/lang/String", "isLatin1", "()Z"⟩ : MethodName)) (z := (⟨"java/lang/String", "isLatin1", "()Z"⟩ : MethodName)) hown (mvT hZ (hw _ (List.mem_of_getElem? (i := 65) rfl))) (mvT hZ (hw _ (List.mem_of_getElem? (i := 66) rfl))) (notFace_of_selects (args := #[]) (mvT hZ (hw _ (List.mem_of_getElem? (i := 68) rfl)))) (mvT hZ (hw _ (List.mem_of_getElem? (i := 68) rfl))) (mvT hZ (hw _ (List.mem_of_getElem? (i := 67) rfl))) (by decide) (backOf (W := 0) (rm_isl1 l Z a0 hw [] a1 cs h0 n0 O0 S0_ hcs y112) hZ (hw _ (List.mem_of_getElem? (i := 69) rfl)) (hw _ (List.mem_of_getElem? (i := 8) rfl)) (by decide) (by decide)) q115a q115c (g := (mkF m 1 #[rv a1, iv (Int32.ofNat i1)] [(.ref a1)])) rfl (by rw [hml]; rfl) (Steps.refl _) (argsL := []) (rest := []) (lenOf pd_13 rfl) rfl (by show 2 * 0 + _ ≤ _; exact Nat.le_of_eq rfl) (hb hby d13_1) (fun _ _ => ⟨rfl, e0, (by decide : 0 + 0 ≤ _), (by decide : 0 + 0 ≤ _)⟩)
  dsimp only [Pt.U, Pt.locs, Pt.cells, Pt.slots] at X115 l115 y115 z115 st115 hQ115
  subst l115 y115 z115
  obtain ⟨rfl, M115, e115⟩ := hQ115
  have N115 := Fr.app N0 M115
  have g116 : Go p e below T115 (mkF m 4 #[rv a1, iv (Int32.ofNat i1)] [(.int (0 : Int32))]) A0 := fun t kont => g114 t (st115.trans kont)
  have g117 : Go p e below T115 (mkF m 17 #[rv a1, iv (Int32.ofNat i1)] [(.ref a1)]) A0 := by
    intro t kont
    refine g116 t ?_
    refine XS.ifYes X115.here hx rfl (pc0 := 4) (pc' := 16) rfl (hb hby d13_4) rfl ((if0 _ _).trans (teq (by decide : (0 : Int32) = (0 : Int32))).1) (by decide) (by decide) ?_
    refine XS.aloadN X115.here hx rfl (hb hby d13_16) rfl rfl ?_
    exact kont
  obtain ⟨T118, X118, e118, st118⟩ := getF X115 hx hZ hown (host := "") (Or.inl (hw _ (List.mem_of_getElem? (i := 25) rfl))) Via.refl e115 F2_ (g := (mkF m 17 #[rv a1, iv (Int32.ofNat i1)] [(.ref a1)])) rfl rfl (hb hby d13_17)
  have g119 : Go p e below T118 (mkF m 20 #[rv a1, iv (Int32.ofNat i1)] [(.ref v1)]) A0 := fun t kont => g117 t (st118 t kont)
  have g120 : Go p e below T118 (mkF m 21 #[rv a1, iv (Int32.ofNat i1)] [(.int (Int32.ofNat i1)), (.ref v1)]) A0 := by
    intro t kont
    refine g119 t ?_
    refine XS.iloadN X118.here hx rfl (hb hby d13_20) rfl ?_
    exact kont
  obtain ⟨_, _, ⟨T121, L121, k121, n121⟩, -, X121, ⟨Lc121, hQ121, l121, y121, z121⟩, st121⟩ := Jvm.LawKit.callS X118 hx (y := (⟨"java/lang/StringUTF16", "charAt", "([BI)C"⟩ : MethodName)) hown (mvT hZ (hw _ (List.mem_of_getElem? (i := 129) rfl))) (mvT hZ (hw _ (List.mem_of_getElem? (i := 130) rfl))) (mvT hZ (hw _ (List.mem_of_getElem? (i := 39) rfl))) (mvT hZ (hw _ (List.mem_of_getElem? (i := 131) rfl))) (by decide) (backOf (W := 0) (rm_uchG l Z a0 hw [] v1 i1 kv fm ls h0 n0 O0 y113 hB hi hch S10_ hfm S12_ S13_ S14_) hZ (hw _ (List.mem_of_getElem? (i := 131) rfl)) (hw _ (List.mem_of_getElem? (i := 39) rfl)) (by decide) (by decide)) (g := (mkF m 21 #[rv a1, iv (Int32.ofNat i1)] [(.int (Int32.ofNat i1)), (.ref v1)])) rfl (by rw [hml]; rfl) (argsL := [(.ref v1), (.int (Int32.ofNat i1))]) (rest := []) (lenOf pd_6 rfl) rfl (by show 2 * 0 + _ ≤ _; exact Nat.le_of_eq rfl) (hb hby d13_21) (fun _ _ => ⟨rfl, e118, (by decide : 0 + 0 ≤ _), (by decide : 0 + 0 ≤ _)⟩)
  dsimp only [Pt.U, Pt.locs, Pt.cells, Pt.slots] at X121 l121 y121 z121 st121 hQ121
  subst l121 y121 z121
  obtain ⟨rfl, M121, e121⟩ := hQ121
  have N121 := Fr.app N115 M121
  have g122 : Go p e below T121 (mkF m 24 #[rv a1, iv (Int32.ofNat i1)] [(.int (ls.getD i1 0))]) A0 := fun t kont => g120 t (st121 t kont)
  obtain ⟨fs, hr, hrun, hended, hW, hsame⟩ := X121.leave (v := some (.int (ls.getD i1 0))) (fun h => by rw [Bd.returns] at h; cases h)
  refine ⟨_, _, g122 _ (retN X121 hx (t := .char) Bd.returns (by simp) (hb hby d13_24) (by rw [r_ch]; exact hr)), hrun, hended, _, _, rfl, ?_, ⟨_, rfl⟩, hW, hsame.mono (by decide) (by decide)⟩
  show Q_chaG Z a1 v1 kv cd z1 vs ls cs i1 fm h0 n0 _ T121.heap _
  rw [e121]
  exact ⟨rfl, N121, rfl⟩
theorem d6_8 : decode jdk_42_method_55_code 8 = .ok (.iconst 1, 1) := by decide +kernel
theorem d6_9 : decode jdk_42_method_55_code 9 = .ok (.goto 4, 3) := by decide +kernel
theorem ef_isE0 (m : MethodId) (x0 : Addr)  : entryFrame m #[(.ref x0)] 1 = mkF m 0 #[.val (.ref x0)] [] := by first | (simp [entryFrame, mkF, argsToLocals, Value.category]; done) | rfl
def Q_isE0 (Z : State) (a1 : Addr) (b1 : Addr) (kb : ClassId) (vs1 : List Value) (h0 : Heap) (n0 : Nat) (v : Option Value) (h : Heap) (L : List Loc) : Prop := v = some (.int (1 : Int32)) ∧ Fr n0 L ∧ h = h0
set_option maxRecDepth 65536 in
set_option maxHeartbeats 40000000 in
theorem rm_isE0 (l : Launch) (Z : State) (a0 : Array Value) (hw : ∀ d ∈ tables_1, d.before a0 Z = true) (ws : List Jvm.Cond) (a1 : Addr) (b1 : Addr) (kb : ClassId) (vs1 : List Value) (h0 : Heap) (n0 : Nat) (O0 : Old Z n0 h0) (F0_ : Fld Z h0 a1 "java/lang/String" "value" "[B" (.ref b1)) (A1_ : Arv Z h0 b1 kb .byte (0 : Int32) vs1 (.int (0 : Int32))) :
    MetFree l (⟨"java/lang/String", "isEmpty", "()Z"⟩ : MethodName) (head1 (Jvm.Cond.code (⟨"java/lang/String", "isEmpty", "()Z"⟩ : MethodName) jdk_42_method_55_code 1 (some .boolean) :: ws) ({ frames := 0, cells := 0, slots := 0, locals := 0 } : Room)) (fun a U => a = #[(.ref a1)] ∧ Z.Warmed39 U.vm ∧ U.heap = h0) (fun _ _ _ _ _ => True) (fun _ U o U' => ∃ v L, o = .returned v ∧ Q_isE0 Z a1 b1 kb vs1 h0 n0 v U'.heap L ∧ FrameEnd U o U' L ({ frames := 0, cells := 0, slots := 0, locals := 0 } : Room).cells ({ frames := 0, cells := 0, slots := 0, locals := 0 } : Room).slots) := by
  refine MetFree.of_bodySF (plainFor_of_name pn_java_lang_String) hisR ?_
  intro p e s m args below meth c s₁ Bd hml0 hP hK
  obtain ⟨rfl, hZ, hh⟩ := hP
  have hx := Bd.exec
  have hby := Bd.bytes
  have hml : c.maxLocals = 1 := hml0
  have hown : s.vm.findClass "java/lang/String" = some m.cls := findClass_of_methodNamed Bd.named
  have hnm := (name_of_methodNamed Bd.named Bd.method).1
  have X0 : Stand p l e ({ frames := 0, cells := 0, slots := 0, locals := 0 } : Room) s m #[(.ref a1)] below meth c s₁ [] 0 0 := Stand.of_body Bd
  have e0 : s₁.heap = h0 := by rw [← hh, Bd.state]; rfl
  have N0 := Fr.nil n0
  have g0 : Go p e below s₁ (mkF m 0 #[rv a1] []) (s₁.setTop (entryFrame m #[(.ref a1)] 1)) := fun t kont => castTop (ef_isE0 m a1 ) kont
  generalize s₁.setTop (entryFrame m #[(.ref a1)] 1) = A0 at g0 ⊢
  have g101 : Go p e below s₁ (mkF m 1 #[rv a1] [(.ref a1)]) A0 := by
    intro t kont
    refine g0 t ?_
    refine XS.aloadN X0.here hx rfl (hb hby d6_0) rfl rfl ?_
    exact kont
  obtain ⟨T102, X102, e102, st102⟩ := getF X0 hx hZ hown (host := "") (Or.inl (hw _ (List.mem_of_getElem? (i := 25) rfl))) Via.refl e0 F0_ (g := (mkF m 1 #[rv a1] [(.ref a1)])) rfl rfl (hb hby d6_1)
  have g103 : Go p e below T102 (mkF m 4 #[rv a1] [(.ref b1)]) A0 := fun t kont => g101 t (st102 t kont)
  have zz104 := A1_
  obtain ⟨cl104, Ar104, -, S104, M104, -, -⟩ := zz104
  have g105 : Go p e below T102 (mkF m 5 #[rv a1] [(.int (0 : Int32))]) A0 := by
    intro t kont
    refine g103 t ?_
    refine X102.arraylength hx (by rw [e102]; exact Ar104.1) (State.isArrayOf_alike hZ.alike Ar104.2.1) (g := (mkF m 4 #[rv a1] [(.ref b1)])) rfl rfl (hb hby d6_4) _ ?_
    rw [len_of S104 M104]
    exact kont
  have g106 : Go p e below T102 (mkF m 13 #[rv a1] [(.int (1 : Int32))]) A0 := by
    intro t kont
    refine g105 t ?_
    refine XS.ifNo X102.here hx rfl (hb hby d6_5) rfl ((if0 _ _).trans (teq (by decide : (0 : Int32) = (0 : Int32))).2) ?_
    refine XS.iconst X102.here hx rfl (hb hby d6_8) ?_
    refine XS.goto X102.here hx rfl (pc0 := 9) (pc' := 13) rfl (hb hby d6_9) (by decide) (by decide) ?_
    exact kont
  obtain ⟨fs, hr, hrun, hended, hW, hsame⟩ := X102.leave (v := some (.int (1 : Int32))) (fun h => by rw [Bd.returns] at h; cases h)
  refine ⟨_, _, g106 _ (retN X102 hx (t := .boolean) Bd.returns (by simp) (hb hby d6_13) hr), hrun, hended, _, _, rfl, ?_, ⟨_, rfl⟩, hW, hsame.mono (by decide) (by decide)⟩
  show Q_isE0 Z a1 b1 kb vs1 h0 n0 _ T102.heap _
  rw [e102]
  exact ⟨rfl, N0, rfl⟩
theorem d22_0 : decode jdk_29_method_65_code 0 = .ok (.iload_n 0, 1) := by decide +kernel
theorem d22_1 : decode jdk_29_method_65_code 1 = .ok (.iload_n 1, 1) := by decide +kernel
theorem d22_2 : decode jdk_29_method_65_code 2 = .ok (.if_icmp .lt 7, 3) := by decide +kernel
theorem d22_5 : decode jdk_29_method_65_code 5 = .ok (.iload_n 0, 1) := by decide +kernel
theorem d22_6 : decode jdk_29_method_65_code 6 = .ok (.goto 4, 3) := by decide +kernel
theorem d22_10 : decode jdk_29_method_65_code 10 = .ok (.ireturn, 1) := by decide +kernel
theorem pf_22 : plainFor (⟨"java/lang/Math", "max", "(II)I"⟩ : MethodName) = true := by decide +kernel
theorem ef_max (m : MethodId) (x0 : Int32) (x1 : Int32)  : entryFrame m #[(.int x0), (.int x1)] 2 = mkF m 0 #[.val (.int x0), .val (.int x1)] [] := by first | (simp [entryFrame, mkF, argsToLocals, Value.category]; done) | rfl
def Q_max (Z : State)  (h0 : Heap) (n0 : Nat) (v : Option Value) (h : Heap) (L : List Loc) : Prop := v = some (.int (0 : Int32)) ∧ Fr n0 L ∧ h = h0
set_option maxRecDepth 65536 in
set_option maxHeartbeats 40000000 in
theorem rm_max (l : Launch) (Z : State) (a0 : Array Value) (hw : ∀ d ∈ tables_1, d.before a0 Z = true) (ws : List Jvm.Cond)  (h0 : Heap) (n0 : Nat) (O0 : Old Z n0 h0)  :
    MetFree l (⟨"java/lang/Math", "max", "(II)I"⟩ : MethodName) (head1 (Jvm.Cond.code (⟨"java/lang/Math", "max", "(II)I"⟩ : MethodName) jdk_29_method_65_code 2 (some .int) :: ws) ({ frames := 0, cells := 0, slots := 0, locals := 0 } : Room)) (fun a U => a = #[(.int (0 : Int32)), (.int (0 : Int32))] ∧ Z.Warmed39 U.vm ∧ U.heap = h0) (fun _ _ _ _ _ => True) (fun _ U o U' => ∃ v L, o = .returned v ∧ Q_max Z h0 n0 v U'.heap L ∧ FrameEnd U o U' L ({ frames := 0, cells := 0, slots := 0, locals := 0 } : Room).cells ({ frames := 0, cells := 0, slots := 0, locals := 0 } : Room).slots) := by
  refine MetFree.of_bodySF pf_22 hisR ?_
  intro p e s m args below meth c s₁ Bd hml0 hP hK
  obtain ⟨rfl, hZ, hh⟩ := hP
  have hx := Bd.exec
  have hby := Bd.bytes
  have hml : c.maxLocals = 2 := hml0
  have hown : s.vm.findClass "java/lang/Math" = some m.cls := findClass_of_methodNamed Bd.named
  have hnm := (name_of_methodNamed Bd.named Bd.method).1
  have X0 : Stand p l e ({ frames := 0, cells := 0, slots := 0, locals := 0 } : Room) s m #[(.int (0 : Int32)), (.int (0 : Int32))] below meth c s₁ [] 0 0 := Stand.of_body Bd
  have e0 : s₁.heap = h0 := by rw [← hh, Bd.state]; rfl
  have N0 := Fr.nil n0
  have g0 : Go p e below s₁ (mkF m 0 #[iv (0 : Int32), iv (0 : Int32)] []) (s₁.setTop (entryFrame m #[(.int (0 : Int32)), (.int (0 : Int32))] 2)) := fun t kont => castTop (ef_max m (0 : Int32) (0 : Int32) ) kont
  generalize s₁.setTop (entryFrame m #[(.int (0 : Int32)), (.int (0 : Int32))] 2) = A0 at g0 ⊢
  have g101 : Go p e below s₁ (mkF m 10 #[iv (0 : Int32), iv (0 : Int32)] [(.int (0 : Int32))]) A0 := by
    intro t kont
    refine g0 t ?_
    refine XS.iloadN X0.here hx rfl (hb hby d22_0) rfl ?_
    refine XS.iloadN X0.here hx rfl (hb hby d22_1) rfl ?_
    refine XS.icmpNo X0.here hx rfl (hb hby d22_2) rfl (flt (by decide : ¬ ((0 : Int32) < (0 : Int32)))).1 ?_
    refine XS.iloadN X0.here hx rfl (hb hby d22_5) rfl ?_
    refine XS.goto X0.here hx rfl (pc0 := 6) (pc' := 10) rfl (hb hby d22_6) (by decide) (by decide) ?_
    exact kont
  obtain ⟨fs, hr, hrun, hended, hW, hsame⟩ := X0.leave (v := some (.int (0 : Int32))) (fun h => by rw [Bd.returns] at h; cases h)
  refine ⟨_, _, g101 _ (retI X0 hx Bd.returns (hb hby d22_10) hr), hrun, hended, _, _, rfl, ?_, ⟨_, rfl⟩, hW, hsame.mono (by decide) (by decide)⟩
  show Q_max Z h0 n0 _ s₁.heap _
  rw [e0]
  exact ⟨rfl, N0, rfl⟩
theorem d23_0 : decode jdk_29_method_69_code 0 = .ok (.iload_n 0, 1) := by decide +kernel
theorem d23_1 : decode jdk_29_method_69_code 1 = .ok (.iload_n 1, 1) := by decide +kernel
theorem d23_2 : decode jdk_29_method_69_code 2 = .ok (.if_icmp .gt 7, 3) := by decide +kernel
theorem d23_5 : decode jdk_29_method_69_code 5 = .ok (.iload_n 0, 1) := by decide +kernel
theorem d23_6 : decode jdk_29_method_69_code 6 = .ok (.goto 4, 3) := by decide +kernel
theorem d23_10 : decode jdk_29_method_69_code 10 = .ok (.ireturn, 1) := by decide +kernel
theorem pf_23 : plainFor (⟨"java/lang/Math", "min", "(II)I"⟩ : MethodName) = true := by decide +kernel
theorem ef_min (m : MethodId) (x0 : Int32) (x1 : Int32)  : entryFrame m #[(.int x0), (.int x1)] 2 = mkF m 0 #[.val (.int x0), .val (.int x1)] [] := by first | (simp [entryFrame, mkF, argsToLocals, Value.category]; done) | rfl
def Q_min (Z : State)  (h0 : Heap) (n0 : Nat) (v : Option Value) (h : Heap) (L : List Loc) : Prop := v = some (.int (15 : Int32)) ∧ Fr n0 L ∧ h = h0
set_option maxRecDepth 65536 in
set_option maxHeartbeats 40000000 in
theorem rm_min (l : Launch) (Z : State) (a0 : Array Value) (hw : ∀ d ∈ tables_1, d.before a0 Z = true) (ws : List Jvm.Cond)  (h0 : Heap) (n0 : Nat) (O0 : Old Z n0 h0)  :
    MetFree l (⟨"java/lang/Math", "min", "(II)I"⟩ : MethodName) (head1 (Jvm.Cond.code (⟨"java/lang/Math", "min", "(II)I"⟩ : MethodName) jdk_29_method_69_code 2 (some .int) :: ws) ({ frames := 0, cells := 0, slots := 0, locals := 0 } : Room)) (fun a U => a = #[(.int (15 : Int32)), (.int (15 : Int32))] ∧ Z.Warmed39 U.vm ∧ U.heap = h0) (fun _ _ _ _ _ => True) (fun _ U o U' => ∃ v L, o = .returned v ∧ Q_min Z h0 n0 v U'.heap L ∧ FrameEnd U o U' L ({ frames := 0, cells := 0, slots := 0, locals := 0 } : Room).cells ({ frames := 0, cells := 0, slots := 0, locals := 0 } : Room).slots) := by
  refine MetFree.of_bodySF pf_23 hisR ?_
  intro p e s m args below meth c s₁ Bd hml0 hP hK
  obtain ⟨rfl, hZ, hh⟩ := hP
  have hx := Bd.exec
  have hby := Bd.bytes
  have hml : c.maxLocals = 2 := hml0
  have hown : s.vm.findClass "java/lang/Math" = some m.cls := findClass_of_methodNamed Bd.named
  have hnm := (name_of_methodNamed Bd.named Bd.method).1
  have X0 : Stand p l e ({ frames := 0, cells := 0, slots := 0, locals := 0 } : Room) s m #[(.int (15 : Int32)), (.int (15 : Int32))] below meth c s₁ [] 0 0 := Stand.of_body Bd
  have e0 : s₁.heap = h0 := by rw [← hh, Bd.state]; rfl
  have N0 := Fr.nil n0
  have g0 : Go p e below s₁ (mkF m 0 #[iv (15 : Int32), iv (15 : Int32)] []) (s₁.setTop (entryFrame m #[(.int (15 : Int32)), (.int (15 : Int32))] 2)) := fun t kont => castTop (ef_min m (15 : Int32) (15 : Int32) ) kont
  generalize s₁.setTop (entryFrame m #[(.int (15 : Int32)), (.int (15 : Int32))] 2) = A0 at g0 ⊢
  have g101 : Go p e below s₁ (mkF m 10 #[iv (15 : Int32), iv (15 : Int32)] [(.int (15 : Int32))]) A0 := by
    intro t kont
    refine g0 t ?_
    refine XS.iloadN X0.here hx rfl (hb hby d23_0) rfl ?_
    refine XS.iloadN X0.here hx rfl (hb hby d23_1) rfl ?_
    refine XS.icmpNo X0.here hx rfl (hb hby d23_2) rfl (flt (by decide : ¬ ((15 : Int32) < (15 : Int32)))).2.2.1 ?_
    refine XS.iloadN X0.here hx rfl (hb hby d23_5) rfl ?_
    refine XS.goto X0.here hx rfl (pc0 := 6) (pc' := 10) rfl (hb hby d23_6) (by decide) (by decide) ?_
    exact kont
  obtain ⟨fs, hr, hrun, hended, hW, hsame⟩ := X0.leave (v := some (.int (15 : Int32))) (fun h => by rw [Bd.returns] at h; cases h)
  refine ⟨_, _, g101 _ (retI X0 hx Bd.returns (hb hby d23_10) hr), hrun, hended, _, _, rfl, ?_, ⟨_, rfl⟩, hW, hsame.mono (by decide) (by decide)⟩
  show Q_min Z h0 n0 _ s₁.heap _
  rw [e0]
  exact ⟨rfl, N0, rfl⟩
theorem d21_0 : decode jdk_43_method_4_code 0 = .ok (.iload_n 0, 1) := by decide +kernel
theorem d21_1 : decode jdk_43_method_4_code 1 = .ok (.ifCond .lt 14, 3) := by decide +kernel
theorem d21_4 : decode jdk_43_method_4_code 4 = .ok (.iload_n 0, 1) := by decide +kernel
theorem d21_5 : decode jdk_43_method_4_code 5 = .ok (.sipush 255, 3) := by decide +kernel
theorem d21_8 : decode jdk_43_method_4_code 8 = .ok (.if_icmp .gt 7, 3) := by decide +kernel
theorem d21_11 : decode jdk_43_method_4_code 11 = .ok (.iconst 1, 1) := by decide +kernel
theorem d21_12 : decode jdk_43_method_4_code 12 = .ok (.goto 4, 3) := by decide +kernel
theorem d21_16 : decode jdk_43_method_4_code 16 = .ok (.ireturn, 1) := by decide +kernel
theorem ef_ceL (m : MethodId) (x0 : Int32)  : entryFrame m #[(.int x0)] 1 = mkF m 0 #[.val (.int x0)] [] := by first | (simp [entryFrame, mkF, argsToLocals, Value.category]; done) | rfl
def Q_ceL (Z : State) (ch : Int32) (h0 : Heap) (n0 : Nat) (v : Option Value) (h : Heap) (L : List Loc) : Prop := v = some (.int (1 : Int32)) ∧ Fr n0 L ∧ h = h0
set_option maxRecDepth 65536 in
set_option maxHeartbeats 40000000 in
theorem rm_ceL (l : Launch) (Z : State) (a0 : Array Value) (hw : ∀ d ∈ tables_1, d.before a0 Z = true) (ws : List Jvm.Cond) (ch : Int32) (h0 : Heap) (n0 : Nat) (O0 : Old Z n0 h0) (h0_ch : ¬ (ch < (0 : Int32))) (h1_ch : ¬ ((255 : Int32) < ch)) :
    MetFree l (⟨"java/lang/StringLatin1", "canEncode", "(I)Z"⟩ : MethodName) (head1 (Jvm.Cond.code (⟨"java/lang/StringLatin1", "canEncode", "(I)Z"⟩ : MethodName) jdk_43_method_4_code 1 (some .boolean) :: ws) ({ frames := 0, cells := 0, slots := 0, locals := 0 } : Room)) (fun a U => a = #[(.int ch)] ∧ Z.Warmed39 U.vm ∧ U.heap = h0) (fun _ _ _ _ _ => True) (fun _ U o U' => ∃ v L, o = .returned v ∧ Q_ceL Z ch h0 n0 v U'.heap L ∧ FrameEnd U o U' L ({ frames := 0, cells := 0, slots := 0, locals := 0 } : Room).cells ({ frames := 0, cells := 0, slots := 0, locals := 0 } : Room).slots) := by
  refine MetFree.of_bodySF (plainFor_of_name pn_java_lang_StringLatin1) hisR ?_
  intro p e s m args below meth c s₁ Bd hml0 hP hK
  obtain ⟨rfl, hZ, hh⟩ := hP
  have hx := Bd.exec
  have hby := Bd.bytes
  have hml : c.maxLocals = 1 := hml0
  have hown : s.vm.findClass "java/lang/StringLatin1" = some m.cls := findClass_of_methodNamed Bd.named
  have hnm := (name_of_methodNamed Bd.named Bd.method).1
  have X0 : Stand p l e ({ frames := 0, cells := 0, slots := 0, locals := 0 } : Room) s m #[(.int ch)] below meth c s₁ [] 0 0 := Stand.of_body Bd
  have e0 : s₁.heap = h0 := by rw [← hh, Bd.state]; rfl
  have N0 := Fr.nil n0
  have g0 : Go p e below s₁ (mkF m 0 #[iv ch] []) (s₁.setTop (entryFrame m #[(.int ch)] 1)) := fun t kont => castTop (ef_ceL m ch ) kont
  generalize s₁.setTop (entryFrame m #[(.int ch)] 1) = A0 at g0 ⊢
  have g101 : Go p e below s₁ (mkF m 16 #[iv ch] [(.int (1 : Int32))]) A0 := by
    intro t kont
    refine g0 t ?_
    refine XS.iloadN X0.here hx rfl (hb hby d21_0) rfl ?_
    refine XS.ifNo X0.here hx rfl (hb hby d21_1) rfl ((if0 _ _).trans (flt h0_ch).1) ?_
    refine XS.iloadN X0.here hx rfl (hb hby d21_4) rfl ?_
    refine XS.sipush X0.here hx rfl (hb hby d21_5) ?_
    refine XS.icmpNo X0.here hx rfl (hb hby d21_8) rfl (flt h1_ch).2.2.1 ?_
    refine XS.iconst X0.here hx rfl (hb hby d21_11) ?_
    refine XS.goto X0.here hx rfl (pc0 := 12) (pc' := 16) rfl (hb hby d21_12) (by decide) (by decide) ?_
    exact kont
  obtain ⟨fs, hr, hrun, hended, hW, hsame⟩ := X0.leave (v := some (.int (1 : Int32))) (fun h => by rw [Bd.returns] at h; cases h)
  refine ⟨_, _, g101 _ (retN X0 hx (t := .boolean) Bd.returns (by simp) (hb hby d21_16) hr), hrun, hended, _, _, rfl, ?_, ⟨_, rfl⟩, hW, hsame.mono (by decide) (by decide)⟩
  show Q_ceL Z ch h0 n0 _ s₁.heap _
  rw [e0]
  exact ⟨rfl, N0, rfl⟩
theorem d21_15 : decode jdk_43_method_4_code 15 = .ok (.iconst 0, 1) := by decide +kernel
theorem ef_ceU (m : MethodId) (x0 : Int32)  : entryFrame m #[(.int x0)] 1 = mkF m 0 #[.val (.int x0)] [] := by first | (simp [entryFrame, mkF, argsToLocals, Value.category]; done) | rfl
def Q_ceU (Z : State) (ch : Int32) (h0 : Heap) (n0 : Nat) (v : Option Value) (h : Heap) (L : List Loc) : Prop := v = some (.int (0 : Int32)) ∧ Fr n0 L ∧ h = h0
set_option maxRecDepth 65536 in
set_option maxHeartbeats 40000000 in
theorem rm_ceU (l : Launch) (Z : State) (a0 : Array Value) (hw : ∀ d ∈ tables_1, d.before a0 Z = true) (ws : List Jvm.Cond) (ch : Int32) (h0 : Heap) (n0 : Nat) (O0 : Old Z n0 h0) (h0_ch : ¬ (ch < (0 : Int32))) (h1_ch : (255 : Int32) < ch) :
    MetFree l (⟨"java/lang/StringLatin1", "canEncode", "(I)Z"⟩ : MethodName) (head1 (Jvm.Cond.code (⟨"java/lang/StringLatin1", "canEncode", "(I)Z"⟩ : MethodName) jdk_43_method_4_code 1 (some .boolean) :: ws) ({ frames := 0, cells := 0, slots := 0, locals := 0 } : Room)) (fun a U => a = #[(.int ch)] ∧ Z.Warmed39 U.vm ∧ U.heap = h0) (fun _ _ _ _ _ => True) (fun _ U o U' => ∃ v L, o = .returned v ∧ Q_ceU Z ch h0 n0 v U'.heap L ∧ FrameEnd U o U' L ({ frames := 0, cells := 0, slots := 0, locals := 0 } : Room).cells ({ frames := 0, cells := 0, slots := 0, locals := 0 } : Room).slots) := by
  refine MetFree.of_bodySF (plainFor_of_name pn_java_lang_StringLatin1) hisR ?_
  intro p e s m args below meth c s₁ Bd hml0 hP hK
  obtain ⟨rfl, hZ, hh⟩ := hP
  have hx := Bd.exec
  have hby := Bd.bytes
  have hml : c.maxLocals = 1 := hml0
  have hown : s.vm.findClass "java/lang/StringLatin1" = some m.cls := findClass_of_methodNamed Bd.named
  have hnm := (name_of_methodNamed Bd.named Bd.method).1
  have X0 : Stand p l e ({ frames := 0, cells := 0, slots := 0, locals := 0 } : Room) s m #[(.int ch)] below meth c s₁ [] 0 0 := Stand.of_body Bd
  have e0 : s₁.heap = h0 := by rw [← hh, Bd.state]; rfl
  have N0 := Fr.nil n0
  have g0 : Go p e below s₁ (mkF m 0 #[iv ch] []) (s₁.setTop (entryFrame m #[(.int ch)] 1)) := fun t kont => castTop (ef_ceU m ch ) kont
  generalize s₁.setTop (entryFrame m #[(.int ch)] 1) = A0 at g0 ⊢
  have g101 : Go p e below s₁ (mkF m 16 #[iv ch] [(.int (0 : Int32))]) A0 := by
    intro t kont
    refine g0 t ?_
    refine XS.iloadN X0.here hx rfl (hb hby d21_0) rfl ?_
    refine XS.ifNo X0.here hx rfl (hb hby d21_1) rfl ((if0 _ _).trans (flt h0_ch).1) ?_
    refine XS.iloadN X0.here hx rfl (hb hby d21_4) rfl ?_
    refine XS.sipush X0.here hx rfl (hb hby d21_5) ?_
    refine XS.icmpYes X0.here hx rfl (pc0 := 8) (pc' := 15) rfl (hb hby d21_8) rfl (tlt h1_ch).2.2.1 (by decide) (by decide) ?_
    refine XS.iconst X0.here hx rfl (hb hby d21_15) ?_
    exact kont
  obtain ⟨fs, hr, hrun, hended, hW, hsame⟩ := X0.leave (v := some (.int (0 : Int32))) (fun h => by rw [Bd.returns] at h; cases h)
  refine ⟨_, _, g101 _ (retN X0 hx (t := .boolean) Bd.returns (by simp) (hb hby d21_16) hr), hrun, hended, _, _, rfl, ?_, ⟨_, rfl⟩, hW, hsame.mono (by decide) (by decide)⟩
  show Q_ceU Z ch h0 n0 _ s₁.heap _
  rw [e0]
  exact ⟨rfl, N0, rfl⟩
theorem d24_0 : decode jdk_43_method_23_code 0 = .ok (.iload_n 1, 1) := by decide +kernel
theorem d24_1 : decode jdk_43_method_23_code 1 = .ok (.i2b, 1) := by decide +kernel
theorem d24_2 : decode jdk_43_method_23_code 2 = .ok (.istore 4, 2) := by decide +kernel
theorem d24_4 : decode jdk_43_method_23_code 4 = .ok (.iload_n 2, 1) := by decide +kernel
theorem d24_5 : decode jdk_43_method_23_code 5 = .ok (.istore 5, 2) := by decide +kernel
theorem d24_7 : decode jdk_43_method_23_code 7 = .ok (.iload 5, 2) := by decide +kernel
theorem d24_9 : decode jdk_43_method_23_code 9 = .ok (.iload_n 3, 1) := by decide +kernel
theorem d24_10 : decode jdk_43_method_23_code 10 = .ok (.if_icmp .ge 21, 3) := by decide +kernel
theorem d24_13 : decode jdk_43_method_23_code 13 = .ok (.aload_n 0, 1) := by decide +kernel
theorem d24_14 : decode jdk_43_method_23_code 14 = .ok (.iload 5, 2) := by decide +kernel
theorem d24_16 : decode jdk_43_method_23_code 16 = .ok (.baload, 1) := by decide +kernel
theorem d24_17 : decode jdk_43_method_23_code 17 = .ok (.iload 4, 2) := by decide +kernel
theorem d24_19 : decode jdk_43_method_23_code 19 = .ok (.if_icmp .ne 6, 3) := by decide +kernel
theorem d24_22 : decode jdk_43_method_23_code 22 = .ok (.iload 5, 2) := by decide +kernel
theorem d24_24 : decode jdk_43_method_23_code 24 = .ok (.ireturn, 1) := by decide +kernel
theorem d24_25 : decode jdk_43_method_23_code 25 = .ok (.iinc 5 1, 3) := by decide +kernel
theorem d24_28 : decode jdk_43_method_23_code 28 = .ok (.goto (-21), 3) := by decide +kernel
theorem d24_31 : decode jdk_43_method_23_code 31 = .ok (.iconst (-1), 1) := by decide +kernel
theorem d24_32 : decode jdk_43_method_23_code 32 = .ok (.ireturn, 1) := by decide +kernel
theorem ef_ixc (m : MethodId) (x0 : Addr) (x1 : Int32) (x2 : Int32) (x3 : Int32)  : entryFrame m #[(.ref x0), (.int x1), (.int x2), (.int x3)] 6 = mkF m 0 #[.val (.ref x0), .val (.int x1), .val (.int x2), .val (.int x3), .unset, .unset] [] := by first | (simp [entryFrame, mkF, argsToLocals, Value.category]; done) | rfl
def Q_ixc (Z : State) (v1 : Addr) (ch : Int32) (kv : ClassId) (h0 : Heap) (n0 : Nat) (v : Option Value) (h : Heap) (L : List Loc) : Prop := ∃ (ii : Int32), v = some (.int ii) ∧ Fr n0 L ∧ h = h0 ∧ (ii < (0 : Int32) ↔ ¬ own_sy ch)
set_option maxRecDepth 65536 in
set_option maxHeartbeats 40000000 in
theorem rm_ixc (l : Launch) (Z : State) (a0 : Array Value) (hw : ∀ d ∈ tables_1, d.before a0 Z = true) (ws : List Jvm.Cond) (v1 : Addr) (ch : Int32) (kv : ClassId) (h0 : Heap) (n0 : Nat) (O0 : Old Z n0 h0) (A0_ : Arv Z h0 v1 kv .byte (15 : Int32) [(.int (33 : Int32)), (.int (35 : Int32)), (.int (36 : Int32)), (.int (37 : Int32)), (.int (38 : Int32)), (.int (39 : Int32)), (.int (42 : Int32)), (.int (43 : Int32)), (.int (45 : Int32)), (.int (46 : Int32)), (.int (94 : Int32)), (.int (95 : Int32)), (.int (96 : Int32)), (.int (124 : Int32)), (.int (126 : Int32))] (.int (0 : Int32))) (h0_ch : ¬ (ch < (0 : Int32))) (h1_ch : ¬ ((255 : Int32) < ch)) :
    MetFree l (⟨"java/lang/StringLatin1", "indexOfChar", "([BIII)I"⟩ : MethodName) (head1 (Jvm.Cond.code (⟨"java/lang/StringLatin1", "indexOfChar", "([BIII)I"⟩ : MethodName) jdk_43_method_23_code 6 (some .int) :: ws) ({ frames := 0, cells := 0, slots := 0, locals := 0 } : Room)) (fun a U => a = #[(.ref v1), (.int ch), (.int (0 : Int32)), (.int (15 : Int32))] ∧ Z.Warmed39 U.vm ∧ U.heap = h0) (fun _ _ _ _ _ => True) (fun _ U o U' => ∃ v L, o = .returned v ∧ Q_ixc Z v1 ch kv h0 n0 v U'.heap L ∧ FrameEnd U o U' L ({ frames := 0, cells := 0, slots := 0, locals := 0 } : Room).cells ({ frames := 0, cells := 0, slots := 0, locals := 0 } : Room).slots) := by
  refine MetFree.of_bodySF (plainFor_of_name pn_java_lang_StringLatin1) hisR ?_
  intro p e s m args below meth c s₁ Bd hml0 hP hK
  obtain ⟨rfl, hZ, hh⟩ := hP
  have hx := Bd.exec
  have hby := Bd.bytes
  have hml : c.maxLocals = 6 := hml0
  have hown : s.vm.findClass "java/lang/StringLatin1" = some m.cls := findClass_of_methodNamed Bd.named
  have hnm := (name_of_methodNamed Bd.named Bd.method).1
  have X0 : Stand p l e ({ frames := 0, cells := 0, slots := 0, locals := 0 } : Room) s m #[(.ref v1), (.int ch), (.int (0 : Int32)), (.int (15 : Int32))] below meth c s₁ [] 0 0 := Stand.of_body Bd
  have e0 : s₁.heap = h0 := by rw [← hh, Bd.state]; rfl
  have N0 := Fr.nil n0
  have g0 : Go p e below s₁ (mkF m 0 #[rv v1, iv ch, iv (0 : Int32), iv (15 : Int32), .unset, .unset] []) (s₁.setTop (entryFrame m #[(.ref v1), (.int ch), (.int (0 : Int32)), (.int (15 : Int32))] 6)) := fun t kont => castTop (ef_ixc m v1 ch (0 : Int32) (15 : Int32) ) kont
  generalize s₁.setTop (entryFrame m #[(.ref v1), (.int ch), (.int (0 : Int32)), (.int (15 : Int32))] 6) = A0 at g0 ⊢
  have g101 : Go p e below s₁ (mkF m 2 #[rv v1, iv ch, iv (0 : Int32), iv (15 : Int32), .unset, .unset] [(.int (ch.toInt8.toInt32))]) A0 := by
    intro t kont
    refine g0 t ?_
    refine XS.iloadN X0.here hx rfl (hb hby d24_0) rfl ?_
    refine XS.i2b X0.here hx rfl (hb hby d24_1) rfl ?_
    exact kont
  obtain ⟨bt, e_bt⟩ : ∃ z, z = (ch.toInt8.toInt32) := ⟨_, rfl⟩
  have g102 : Go p e below s₁ (mkF m 2 #[rv v1, iv ch, iv (0 : Int32), iv (15 : Int32), .unset, .unset] [(.int bt)]) A0 := by rw [e_bt]; exact g101
  have g103 : Go p e below s₁ (mkF m 16 #[rv v1, iv ch, iv (0 : Int32), iv (15 : Int32), iv bt, iv (0 : Int32)] [(.int (0 : Int32)), (.ref v1)]) A0 := by
    intro t kont
    refine g102 t ?_
    refine XS.istore X0.here hx rfl (hb hby d24_2) rfl (l' := #[rv v1, iv ch, iv (0 : Int32), iv (15 : Int32), iv bt, .unset]) rfl ?_
    refine XS.iloadN X0.here hx rfl (hb hby d24_4) rfl ?_
    refine XS.istore X0.here hx rfl (hb hby d24_5) rfl (l' := #[rv v1, iv ch, iv (0 : Int32), iv (15 : Int32), iv bt, iv (0 : Int32)]) rfl ?_
    refine XS.iload X0.here hx rfl (hb hby d24_7) rfl ?_
    refine XS.iloadN X0.here hx rfl (hb hby d24_9) rfl ?_
    refine XS.icmpNo X0.here hx rfl (hb hby d24_10) rfl (tlt (by decide : (0 : Int32) < (15 : Int32))).2.1 ?_
    refine XS.aloadN X0.here hx rfl (hb hby d24_13) rfl rfl ?_
    refine XS.iload X0.here hx rfl (hb hby d24_14) rfl ?_
    exact kont
  have zz104 := A0_
  obtain ⟨cl104, Ar104, q104, S104, M104, H104, G104⟩ := zz104
  have in104 : ¬ ((0 : Int32) < 0 ∨ cl104.slots.size ≤ ((0 : Int32)).toNatClampNeg) := inb_of S104 ⟨by decide, by decide⟩
  have at104 : cl104.slots[((0 : Int32)).toNatClampNeg]? = some (.int (33 : Int32)) := Has.at H104 in104 rfl
  have g105 : Go p e below s₁ (mkF m 17 #[rv v1, iv ch, iv (0 : Int32), iv (15 : Int32), iv bt, iv (0 : Int32)] [(.int (33 : Int32))]) A0 := fun t kont => g103 t (X0.baloadBytes hx (j := (0 : Int32)) (v := (.int (33 : Int32))) (by rw [e0]; exact Ar104.1) (State.isArrayOf_alike hZ.alike Ar104.2.1) Ar104.2.2 in104 at104 (g := (mkF m 16 #[rv v1, iv ch, iv (0 : Int32), iv (15 : Int32), iv bt, iv (0 : Int32)] [(.int (0 : Int32)), (.ref v1)])) rfl rfl (hb hby d24_16) t kont)
  have g107 : Go p e below s₁ (mkF m 19 #[rv v1, iv ch, iv (0 : Int32), iv (15 : Int32), iv bt, iv (0 : Int32)] [(.int bt), (.int (33 : Int32))]) A0 := by
    intro t kont
    refine g105 t ?_
    refine XS.iload X0.here hx rfl (hb hby d24_17) rfl ?_
    exact kont
  by_cases c106 : (33 : Int32) = bt
  ·
    have q108 : bt.toInt = 33 := congrArg Int32.toInt (c106).symm
    have g109 : Go p e below s₁ (mkF m 24 #[rv v1, iv ch, iv (0 : Int32), iv (15 : Int32), iv bt, iv (0 : Int32)] [(.int (0 : Int32))]) A0 := by
      intro t kont
      refine g107 t ?_
      refine XS.icmpNo X0.here hx rfl (hb hby d24_19) rfl (teq c106).2 ?_
      refine XS.iload X0.here hx rfl (hb hby d24_22) rfl ?_
      exact kont
    have qb := c_i2b ch
    rw [← e_bt] at qb
    have q0 : ¬ (ch.toInt < 0) := fun z => h0_ch (Int32.lt_iff_toInt_lt.mpr z)
    have q1 : ¬ (255 < ch.toInt) := fun z => h1_ch (Int32.lt_iff_toInt_lt.mpr z)
    obtain ⟨fs, hr, hrun, hended, hW, hsame⟩ := X0.leave (v := some (.int (0 : Int32))) (fun h => by rw [Bd.returns] at h; cases h)
    refine ⟨_, _, g109 _ (retI X0 hx Bd.returns (hb hby d24_24) hr), hrun, hended, _, _, rfl, ?_, ⟨_, rfl⟩, hW, hsame.mono (by decide) (by decide)⟩
    show Q_ixc Z v1 ch kv h0 n0 _ s₁.heap _
    rw [e0]
    exact ⟨(0 : Int32), rfl, N0, rfl, by unfold own_sy; exact iff_of_false (by decide) (by omega)⟩
  have q110 : ¬ (bt.toInt = 33) := fun z => c106 (Int32.toInt_inj.mp z).symm
  have g111 : Go p e below s₁ (mkF m 16 #[rv v1, iv ch, iv (0 : Int32), iv (15 : Int32), iv bt, iv (1 : Int32)] [(.int (1 : Int32)), (.ref v1)]) A0 := by
    intro t kont
    refine g107 t ?_
    refine XS.icmpYes X0.here hx rfl (pc0 := 19) (pc' := 25) rfl (hb hby d24_19) rfl (feq c106).2 (by decide) (by decide) ?_
    refine XS.iinc X0.here hx rfl (hb hby d24_25) rfl (l' := #[rv v1, iv ch, iv (0 : Int32), iv (15 : Int32), iv bt, iv (1 : Int32)]) rfl ?_
    refine XS.goto X0.here hx rfl (pc0 := 28) (pc' := 7) rfl (hb hby d24_28) (by decide) (by decide) ?_
    refine XS.iload X0.here hx rfl (hb hby d24_7) rfl ?_
    refine XS.iloadN X0.here hx rfl (hb hby d24_9) rfl ?_
    refine XS.icmpNo X0.here hx rfl (hb hby d24_10) rfl (tlt (by decide : (1 : Int32) < (15 : Int32))).2.1 ?_
    refine XS.aloadN X0.here hx rfl (hb hby d24_13) rfl rfl ?_
    refine XS.iload X0.here hx rfl (hb hby d24_14) rfl ?_
    exact kont
  have zz112 := A0_
  obtain ⟨cl112, Ar112, q112, S112, M112, H112, G112⟩ := zz112
  have in112 : ¬ ((1 : Int32) < 0 ∨ cl112.slots.size ≤ ((1 : Int32)).toNatClampNeg) := inb_of S112 ⟨by decide, by decide⟩
  have at112 : cl112.slots[((1 : Int32)).toNatClampNeg]? = some (.int (35 : Int32)) := Has.at H112 in112 rfl
  have g113 : Go p e below s₁ (mkF m 17 #[rv v1, iv ch, iv (0 : Int32), iv (15 : Int32), iv bt, iv (1 : Int32)] [(.int (35 : Int32))]) A0 := fun t kont => g111 t (X0.baloadBytes hx (j := (1 : Int32)) (v := (.int (35 : Int32))) (by rw [e0]; exact Ar112.1) (State.isArrayOf_alike hZ.alike Ar112.2.1) Ar112.2.2 in112 at112 (g := (mkF m 16 #[rv v1, iv ch, iv (0 : Int32), iv (15 : Int32), iv bt, iv (1 : Int32)] [(.int (1 : Int32)), (.ref v1)])) rfl rfl (hb hby d24_16) t kont)
  have g115 : Go p e below s₁ (mkF m 19 #[rv v1, iv ch, iv (0 : Int32), iv (15 : Int32), iv bt, iv (1 : Int32)] [(.int bt), (.int (35 : Int32))]) A0 := by
    intro t kont
    refine g113 t ?_
    refine XS.iload X0.here hx rfl (hb hby d24_17) rfl ?_
    exact kont
  by_cases c114 : (35 : Int32) = bt
  ·
    have q116 : bt.toInt = 35 := congrArg Int32.toInt (c114).symm
    have g117 : Go p e below s₁ (mkF m 24 #[rv v1, iv ch, iv (0 : Int32), iv (15 : Int32), iv bt, iv (1 : Int32)] [(.int (1 : Int32))]) A0 := by
      intro t kont
      refine g115 t ?_
      refine XS.icmpNo X0.here hx rfl (hb hby d24_19) rfl (teq c114).2 ?_
      refine XS.iload X0.here hx rfl (hb hby d24_22) rfl ?_
      exact kont
    have qb := c_i2b ch
    rw [← e_bt] at qb
    have q0 : ¬ (ch.toInt < 0) := fun z => h0_ch (Int32.lt_iff_toInt_lt.mpr z)
    have q1 : ¬ (255 < ch.toInt) := fun z => h1_ch (Int32.lt_iff_toInt_lt.mpr z)
    obtain ⟨fs, hr, hrun, hended, hW, hsame⟩ := X0.leave (v := some (.int (1 : Int32))) (fun h => by rw [Bd.returns] at h; cases h)
    refine ⟨_, _, g117 _ (retI X0 hx Bd.returns (hb hby d24_24) hr), hrun, hended, _, _, rfl, ?_, ⟨_, rfl⟩, hW, hsame.mono (by decide) (by decide)⟩
    show Q_ixc Z v1 ch kv h0 n0 _ s₁.heap _
    rw [e0]
    exact ⟨(1 : Int32), rfl, N0, rfl, by unfold own_sy; exact iff_of_false (by decide) (by omega)⟩
  have q118 : ¬ (bt.toInt = 35) := fun z => c114 (Int32.toInt_inj.mp z).symm
  have g119 : Go p e below s₁ (mkF m 16 #[rv v1, iv ch, iv (0 : Int32), iv (15 : Int32), iv bt, iv (2 : Int32)] [(.int (2 : Int32)), (.ref v1)]) A0 := by
    intro t kont
    refine g115 t ?_
    refine XS.icmpYes X0.here hx rfl (pc0 := 19) (pc' := 25) rfl (hb hby d24_19) rfl (feq c114).2 (by decide) (by decide) ?_
    refine XS.iinc X0.here hx rfl (hb hby d24_25) rfl (l' := #[rv v1, iv ch, iv (0 : Int32), iv (15 : Int32), iv bt, iv (2 : Int32)]) rfl ?_
    refine XS.goto X0.here hx rfl (pc0 := 28) (pc' := 7) rfl (hb hby d24_28) (by decide) (by decide) ?_
    refine XS.iload X0.here hx rfl (hb hby d24_7) rfl ?_
    refine XS.iloadN X0.here hx rfl (hb hby d24_9) rfl ?_
    refine XS.icmpNo X0.here hx rfl (hb hby d24_10) rfl (tlt (by decide : (2 : Int32) < (15 : Int32))).2.1 ?_
    refine XS.aloadN X0.here hx rfl (hb hby d24_13) rfl rfl ?_
    refine XS.iload X0.here hx rfl (hb hby d24_14) rfl ?_
    exact kont
  have zz120 := A0_
  obtain ⟨cl120, Ar120, q120, S120, M120, H120, G120⟩ := zz120
  have in120 : ¬ ((2 : Int32) < 0 ∨ cl120.slots.size ≤ ((2 : Int32)).toNatClampNeg) := inb_of S120 ⟨by decide, by decide⟩
  have at120 : cl120.slots[((2 : Int32)).toNatClampNeg]? = some (.int (36 : Int32)) := Has.at H120 in120 rfl
  have g121 : Go p e below s₁ (mkF m 17 #[rv v1, iv ch, iv (0 : Int32), iv (15 : Int32), iv bt, iv (2 : Int32)] [(.int (36 : Int32))]) A0 := fun t kont => g119 t (X0.baloadBytes hx (j := (2 : Int32)) (v := (.int (36 : Int32))) (by rw [e0]; exact Ar120.1) (State.isArrayOf_alike hZ.alike Ar120.2.1) Ar120.2.2 in120 at120 (g := (mkF m 16 #[rv v1, iv ch, iv (0 : Int32), iv (15 : Int32), iv bt, iv (2 : Int32)] [(.int (2 : Int32)), (.ref v1)])) rfl rfl (hb hby d24_16) t kont)
  have g123 : Go p e below s₁ (mkF m 19 #[rv v1, iv ch, iv (0 : Int32), iv (15 : Int32), iv bt, iv (2 : Int32)] [(.int bt), (.int (36 : Int32))]) A0 := by
    intro t kont
    refine g121 t ?_
    refine XS.iload X0.here hx rfl (hb hby d24_17) rfl ?_
    exact kont
  by_cases c122 : (36 : Int32) = bt
  ·
    have q124 : bt.toInt = 36 := congrArg Int32.toInt (c122).symm
    have g125 : Go p e below s₁ (mkF m 24 #[rv v1, iv ch, iv (0 : Int32), iv (15 : Int32), iv bt, iv (2 : Int32)] [(.int (2 : Int32))]) A0 := by
      intro t kont
      refine g123 t ?_
      refine XS.icmpNo X0.here hx rfl (hb hby d24_19) rfl (teq c122).2 ?_
      refine XS.iload X0.here hx rfl (hb hby d24_22) rfl ?_
      exact kont
    have qb := c_i2b ch
    rw [← e_bt] at qb
    have q0 : ¬ (ch.toInt < 0) := fun z => h0_ch (Int32.lt_iff_toInt_lt.mpr z)
    have q1 : ¬ (255 < ch.toInt) := fun z => h1_ch (Int32.lt_iff_toInt_lt.mpr z)
    obtain ⟨fs, hr, hrun, hended, hW, hsame⟩ := X0.leave (v := some (.int (2 : Int32))) (fun h => by rw [Bd.returns] at h; cases h)
    refine ⟨_, _, g125 _ (retI X0 hx Bd.returns (hb hby d24_24) hr), hrun, hended, _, _, rfl, ?_, ⟨_, rfl⟩, hW, hsame.mono (by decide) (by decide)⟩
    show Q_ixc Z v1 ch kv h0 n0 _ s₁.heap _
    rw [e0]
    exact ⟨(2 : Int32), rfl, N0, rfl, by unfold own_sy; exact iff_of_false (by decide) (by omega)⟩
  have q126 : ¬ (bt.toInt = 36) := fun z => c122 (Int32.toInt_inj.mp z).symm
  have g127 : Go p e below s₁ (mkF m 16 #[rv v1, iv ch, iv (0 : Int32), iv (15 : Int32), iv bt, iv (3 : Int32)] [(.int (3 : Int32)), (.ref v1)]) A0 := by
    intro t kont
    refine g123 t ?_
    refine XS.icmpYes X0.here hx rfl (pc0 := 19) (pc' := 25) rfl (hb hby d24_19) rfl (feq c122).2 (by decide) (by decide) ?_
    refine XS.iinc X0.here hx rfl (hb hby d24_25) rfl (l' := #[rv v1, iv ch, iv (0 : Int32), iv (15 : Int32), iv bt, iv (3 : Int32)]) rfl ?_
    refine XS.goto X0.here hx rfl (pc0 := 28) (pc' := 7) rfl (hb hby d24_28) (by decide) (by decide) ?_
    refine XS.iload X0.here hx rfl (hb hby d24_7) rfl ?_
    refine XS.iloadN X0.here hx rfl (hb hby d24_9) rfl ?_
    refine XS.icmpNo X0.here hx rfl (hb hby d24_10) rfl (tlt (by decide : (3 : Int32) < (15 : Int32))).2.1 ?_
    refine XS.aloadN X0.here hx rfl (hb hby d24_13) rfl rfl ?_
    refine XS.iload X0.here hx rfl (hb hby d24_14) rfl ?_
    exact kont
  have zz128 := A0_
  obtain ⟨cl128, Ar128, q128, S128, M128, H128, G128⟩ := zz128
  have in128 : ¬ ((3 : Int32) < 0 ∨ cl128.slots.size ≤ ((3 : Int32)).toNatClampNeg) := inb_of S128 ⟨by decide, by decide⟩
  have at128 : cl128.slots[((3 : Int32)).toNatClampNeg]? = some (.int (37 : Int32)) := Has.at H128 in128 rfl
  have g129 : Go p e below s₁ (mkF m 17 #[rv v1, iv ch, iv (0 : Int32), iv (15 : Int32), iv bt, iv (3 : Int32)] [(.int (37 : Int32))]) A0 := fun t kont => g127 t (X0.baloadBytes hx (j := (3 : Int32)) (v := (.int (37 : Int32))) (by rw [e0]; exact Ar128.1) (State.isArrayOf_alike hZ.alike Ar128.2.1) Ar128.2.2 in128 at128 (g := (mkF m 16 #[rv v1, iv ch, iv (0 : Int32), iv (15 : Int32), iv bt, iv (3 : Int32)] [(.int (3 : Int32)), (.ref v1)])) rfl rfl (hb hby d24_16) t kont)
  have g131 : Go p e below s₁ (mkF m 19 #[rv v1, iv ch, iv (0 : Int32), iv (15 : Int32), iv bt, iv (3 : Int32)] [(.int bt), (.int (37 : Int32))]) A0 := by
    intro t kont
    refine g129 t ?_
    refine XS.iload X0.here hx rfl (hb hby d24_17) rfl ?_
    exact kont
  by_cases c130 : (37 : Int32) = bt
  ·
    have q132 : bt.toInt = 37 := congrArg Int32.toInt (c130).symm
    have g133 : Go p e below s₁ (mkF m 24 #[rv v1, iv ch, iv (0 : Int32), iv (15 : Int32), iv bt, iv (3 : Int32)] [(.int (3 : Int32))]) A0 := by
      intro t kont
      refine g131 t ?_
      refine XS.icmpNo X0.here hx rfl (hb hby d24_19) rfl (teq c130).2 ?_
      refine XS.iload X0.here hx rfl (hb hby d24_22) rfl ?_
      exact kont
    have qb := c_i2b ch
    rw [← e_bt] at qb
    have q0 : ¬ (ch.toInt < 0) := fun z => h0_ch (Int32.lt_iff_toInt_lt.mpr z)
    have q1 : ¬ (255 < ch.toInt) := fun z => h1_ch (Int32.lt_iff_toInt_lt.mpr z)
    obtain ⟨fs, hr, hrun, hended, hW, hsame⟩ := X0.leave (v := some (.int (3 : Int32))) (fun h => by rw [Bd.returns] at h; cases h)
    refine ⟨_, _, g133 _ (retI X0 hx Bd.returns (hb hby d24_24) hr), hrun, hended, _, _, rfl, ?_, ⟨_, rfl⟩, hW, hsame.mono (by decide) (by decide)⟩
    show Q_ixc Z v1 ch kv h0 n0 _ s₁.heap _
    rw [e0]
    exact ⟨(3 : Int32), rfl, N0, rfl, by unfold own_sy; exact iff_of_false (by decide) (by omega)⟩
  have q134 : ¬ (bt.toInt = 37) := fun z => c130 (Int32.toInt_inj.mp z).symm
  have g135 : Go p e below s₁ (mkF m 16 #[rv v1, iv ch, iv (0 : Int32), iv (15 : Int32), iv bt, iv (4 : Int32)] [(.int (4 : Int32)), (.ref v1)]) A0 := by
    intro t kont
    refine g131 t ?_
    refine XS.icmpYes X0.here hx rfl (pc0 := 19) (pc' := 25) rfl (hb hby d24_19) rfl (feq c130).2 (by decide) (by decide) ?_
    refine XS.iinc X0.here hx rfl (hb hby d24_25) rfl (l' := #[rv v1, iv ch, iv (0 : Int32), iv (15 : Int32), iv bt, iv (4 : Int32)]) rfl ?_
    refine XS.goto X0.here hx rfl (pc0 := 28) (pc' := 7) rfl (hb hby d24_28) (by decide) (by decide) ?_
    refine XS.iload X0.here hx rfl (hb hby d24_7) rfl ?_
    refine XS.iloadN X0.here hx rfl (hb hby d24_9) rfl ?_
    refine XS.icmpNo X0.here hx rfl (hb hby d24_10) rfl (tlt (by decide : (4 : Int32) < (15 : Int32))).2.1 ?_
    refine XS.aloadN X0.here hx rfl (hb hby d24_13) rfl rfl ?_
    refine XS.iload X0.here hx rfl (hb hby d24_14) rfl ?_
    exact kont
  have zz136 := A0_
  obtain ⟨cl136, Ar136, q136, S136, M136, H136, G136⟩ := zz136
  have in136 : ¬ ((4 : Int32) < 0 ∨ cl136.slots.size ≤ ((4 : Int32)).toNatClampNeg) := inb_of S136 ⟨by decide, by decide⟩
  have at136 : cl136.slots[((4 : Int32)).toNatClampNeg]? = some (.int (38 : Int32)) := Has.at H136 in136 rfl
  have g137 : Go p e below s₁ (mkF m 17 #[rv v1, iv ch, iv (0 : Int32), iv (15 : Int32), iv bt, iv (4 : Int32)] [(.int (38 : Int32))]) A0 := fun t kont => g135 t (X0.baloadBytes hx (j := (4 : Int32)) (v := (.int (38 : Int32))) (by rw [e0]; exact Ar136.1) (State.isArrayOf_alike hZ.alike Ar136.2.1) Ar136.2.2 in136 at136 (g := (mkF m 16 #[rv v1, iv ch, iv (0 : Int32), iv (15 : Int32), iv bt, iv (4 : Int32)] [(.int (4 : Int32)), (.ref v1)])) rfl rfl (hb hby d24_16) t kont)
  have g139 : Go p e below s₁ (mkF m 19 #[rv v1, iv ch, iv (0 : Int32), iv (15 : Int32), iv bt, iv (4 : Int32)] [(.int bt), (.int (38 : Int32))]) A0 := by
    intro t kont
    refine g137 t ?_
    refine XS.iload X0.here hx rfl (hb hby d24_17) rfl ?_
    exact kont
  by_cases c138 : (38 : Int32) = bt
  ·
    have q140 : bt.toInt = 38 := congrArg Int32.toInt (c138).symm
    have g141 : Go p e below s₁ (mkF m 24 #[rv v1, iv ch, iv (0 : Int32), iv (15 : Int32), iv bt, iv (4 : Int32)] [(.int (4 : Int32))]) A0 := by
      intro t kont
      refine g139 t ?_
      refine XS.icmpNo X0.here hx rfl (hb hby d24_19) rfl (teq c138).2 ?_
      refine XS.iload X0.here hx rfl (hb hby d24_22) rfl ?_
      exact kont
    have qb := c_i2b ch
    rw [← e_bt] at qb
    have q0 : ¬ (ch.toInt < 0) := fun z => h0_ch (Int32.lt_iff_toInt_lt.mpr z)
    have q1 : ¬ (255 < ch.toInt) := fun z => h1_ch (Int32.lt_iff_toInt_lt.mpr z)
    obtain ⟨fs, hr, hrun, hended, hW, hsame⟩ := X0.leave (v := some (.int (4 : Int32))) (fun h => by rw [Bd.returns] at h; cases h)
    refine ⟨_, _, g141 _ (retI X0 hx Bd.returns (hb hby d24_24) hr), hrun, hended, _, _, rfl, ?_, ⟨_, rfl⟩, hW, hsame.mono (by decide) (by decide)⟩
    show Q_ixc Z v1 ch kv h0 n0 _ s₁.heap _
    rw [e0]
    exact ⟨(4 : Int32), rfl, N0, rfl, by unfold own_sy; exact iff_of_false (by decide) (by omega)⟩
  have q142 : ¬ (bt.toInt = 38) := fun z => c138 (Int32.toInt_inj.mp z).symm
  have g143 : Go p e below s₁ (mkF m 16 #[rv v1, iv ch, iv (0 : Int32), iv (15 : Int32), iv bt, iv (5 : Int32)] [(.int (5 : Int32)), (.ref v1)]) A0 := by
    intro t kont
    refine g139 t ?_
    refine XS.icmpYes X0.here hx rfl (pc0 := 19) (pc' := 25) rfl (hb hby d24_19) rfl (feq c138).2 (by decide) (by decide) ?_
    refine XS.iinc X0.here hx rfl (hb hby d24_25) rfl (l' := #[rv v1, iv ch, iv (0 : Int32), iv (15 : Int32), iv bt, iv (5 : Int32)]) rfl ?_
    refine XS.goto X0.here hx rfl (pc0 := 28) (pc' := 7) rfl (hb hby d24_28) (by decide) (by decide) ?_
    refine XS.iload X0.here hx rfl (hb hby d24_7) rfl ?_
    refine XS.iloadN X0.here hx rfl (hb hby d24_9) rfl ?_
    refine XS.icmpNo X0.here hx rfl (hb hby d24_10) rfl (tlt (by decide : (5 : Int32) < (15 : Int32))).2.1 ?_
    refine XS.aloadN X0.here hx rfl (hb hby d24_13) rfl rfl ?_
    refine XS.iload X0.here hx rfl (hb hby d24_14) rfl ?_
    exact kont
  have zz144 := A0_
  obtain ⟨cl144, Ar144, q144, S144, M144, H144, G144⟩ := zz144
  have in144 : ¬ ((5 : Int32) < 0 ∨ cl144.slots.size ≤ ((5 : Int32)).toNatClampNeg) := inb_of S144 ⟨by decide, by decide⟩
  have at144 : cl144.slots[((5 : Int32)).toNatClampNeg]? = some (.int (39 : Int32)) := Has.at H144 in144 rfl
  have g145 : Go p e below s₁ (mkF m 17 #[rv v1, iv ch, iv (0 : Int32), iv (15 : Int32), iv bt, iv (5 : Int32)] [(.int (39 : Int32))]) A0 := fun t kont => g143 t (X0.baloadBytes hx (j := (5 : Int32)) (v := (.int (39 : Int32))) (by rw [e0]; exact Ar144.1) (State.isArrayOf_alike hZ.alike Ar144.2.1) Ar144.2.2 in144 at144 (g := (mkF m 16 #[rv v1, iv ch, iv (0 : Int32), iv (15 : Int32), iv bt, iv (5 : Int32)] [(.int (5 : Int32)), (.ref v1)])) rfl rfl (hb hby d24_16) t kont)
  have g147 : Go p e below s₁ (mkF m 19 #[rv v1, iv ch, iv (0 : Int32), iv (15 : Int32), iv bt, iv (5 : Int32)] [(.int bt), (.int (39 : Int32))]) A0 := by
    intro t kont
    refine g145 t ?_
    refine XS.iload X0.here hx rfl (hb hby d24_17) rfl ?_
    exact kont
  by_cases c146 : (39 : Int32) = bt
  ·
    have q148 : bt.toInt = 39 := congrArg Int32.toInt (c146).symm
    have g149 : Go p e below s₁ (mkF m 24 #[rv v1, iv ch, iv (0 : Int32), iv (15 : Int32), iv bt, iv (5 : Int32)] [(.int (5 : Int32))]) A0 := by
      intro t kont
      refine g147 t ?_
      refine XS.icmpNo X0.here hx rfl (hb hby d24_19) rfl (teq c146).2 ?_
      refine XS.iload X0.here hx rfl (hb hby d24_22) rfl ?_
      exact kont
    have qb := c_i2b ch
    rw [← e_bt] at qb
    have q0 : ¬ (ch.toInt < 0) := fun z => h0_ch (Int32.lt_iff_toInt_lt.mpr z)
    have q1 : ¬ (255 < ch.toInt) := fun z => h1_ch (Int32.lt_iff_toInt_lt.mpr z)
    obtain ⟨fs, hr, hrun, hended, hW, hsame⟩ := X0.leave (v := some (.int (5 : Int32))) (fun h => by rw [Bd.returns] at h; cases h)
    refine ⟨_, _, g149 _ (retI X0 hx Bd.returns (hb hby d24_24) hr), hrun, hended, _, _, rfl, ?_, ⟨_, rfl⟩, hW, hsame.mono (by decide) (by decide)⟩
    show Q_ixc Z v1 ch kv h0 n0 _ s₁.heap _
    rw [e0]
    exact ⟨(5 : Int32), rfl, N0, rfl, by unfold own_sy; exact iff_of_false (by decide) (by omega)⟩
  have q150 : ¬ (bt.toInt = 39) := fun z => c146 (Int32.toInt_inj.mp z).symm
  have g151 : Go p e below s₁ (mkF m 16 #[rv v1, iv ch, iv (0 : Int32), iv (15 : Int32), iv bt, iv (6 : Int32)] [(.int (6 : Int32)), (.ref v1)]) A0 := by
    intro t kont
    refine g147 t ?_
    refine XS.icmpYes X0.here hx rfl (pc0 := 19) (pc' := 25) rfl (hb hby d24_19) rfl (feq c146).2 (by decide) (by decide) ?_
    refine XS.iinc X0.here hx rfl (hb hby d24_25) rfl (l' := #[rv v1, iv ch, iv (0 : Int32), iv (15 : Int32), iv bt, iv (6 : Int32)]) rfl ?_
    refine XS.goto X0.here hx rfl (pc0 := 28) (pc' := 7) rfl (hb hby d24_28) (by decide) (by decide) ?_
    refine XS.iload X0.here hx rfl (hb hby d24_7) rfl ?_
    refine XS.iloadN X0.here hx rfl (hb hby d24_9) rfl ?_
    refine XS.icmpNo X0.here hx rfl (hb hby d24_10) rfl (tlt (by decide : (6 : Int32) < (15 : Int32))).2.1 ?_
    refine XS.aloadN X0.here hx rfl (hb hby d24_13) rfl rfl ?_
    refine XS.iload X0.here hx rfl (hb hby d24_14) rfl ?_
    exact kont
  have zz152 := A0_
  obtain ⟨cl152, Ar152, q152, S152, M152, H152, G152⟩ := zz152
  have in152 : ¬ ((6 : Int32) < 0 ∨ cl152.slots.size ≤ ((6 : Int32)).toNatClampNeg) := inb_of S152 ⟨by decide, by decide⟩
  have at152 : cl152.slots[((6 : Int32)).toNatClampNeg]? = some (.int (42 : Int32)) := Has.at H152 in152 rfl
  have g153 : Go p e below s₁ (mkF m 17 #[rv v1, iv ch, iv (0 : Int32), iv (15 : Int32), iv bt, iv (6 : Int32)] [(.int (42 : Int32))]) A0 := fun t kont => g151 t (X0.baloadBytes hx (j := (6 : Int32)) (v := (.int (42 : Int32))) (by rw [e0]; exact Ar152.1) (State.isArrayOf_alike hZ.alike Ar152.2.1) Ar152.2.2 in152 at152 (g := (mkF m 16 #[rv v1, iv ch, iv (0 : Int32), iv (15 : Int32), iv bt, iv (6 : Int32)] [(.int (6 : Int32)), (.ref v1)])) rfl rfl (hb hby d24_16) t kont)
  have g155 : Go p e below s₁ (mkF m 19 #[rv v1, iv ch, iv (0 : Int32), iv (15 : Int32), iv bt, iv (6 : Int32)] [(.int bt), (.int (42 : Int32))]) A0 := by
    intro t kont
    refine g153 t ?_
    refine XS.iload X0.here hx rfl (hb hby d24_17) rfl ?_
    exact kont
  by_cases c154 : (42 : Int32) = bt
  ·
    have q156 : bt.toInt = 42 := congrArg Int32.toInt (c154).symm
    have g157 : Go p e below s₁ (mkF m 24 #[rv v1, iv ch, iv (0 : Int32), iv (15 : Int32), iv bt, iv (6 : Int32)] [(.int (6 : Int32))]) A0 := by
      intro t kont
      refine g155 t ?_
      refine XS.icmpNo X0.here hx rfl (hb hby d24_19) rfl (teq c154).2 ?_
      refine XS.iload X0.here hx rfl (hb hby d24_22) rfl ?_
      exact kont
    have qb := c_i2b ch
    rw [← e_bt] at qb
    have q0 : ¬ (ch.toInt < 0) := fun z => h0_ch (Int32.lt_iff_toInt_lt.mpr z)
    have q1 : ¬ (255 < ch.toInt) := fun z => h1_ch (Int32.lt_iff_toInt_lt.mpr z)
    obtain ⟨fs, hr, hrun, hended, hW, hsame⟩ := X0.leave (v := some (.int (6 : Int32))) (fun h => by rw [Bd.returns] at h; cases h)
    refine ⟨_, _, g157 _ (retI X0 hx Bd.returns (hb hby d24_24) hr), hrun, hended, _, _, rfl, ?_, ⟨_, rfl⟩, hW, hsame.mono (by decide) (by decide)⟩
    show Q_ixc Z v1 ch kv h0 n0 _ s₁.heap _
    rw [e0]
    exact ⟨(6 : Int32), rfl, N0, rfl, by unfold own_sy; exact iff_of_false (by decide) (by omega)⟩
  have q158 : ¬ (bt.toInt = 42) := fun z => c154 (Int32.toInt_inj.mp z).symm
  have g159 : Go p e below s₁ (mkF m 16 #[rv v1, iv ch, iv (0 : Int32), iv (15 : Int32), iv bt, iv (7 : Int32)] [(.int (7 : Int32)), (.ref v1)]) A0 := by
    intro t kont
    refine g155 t ?_
    refine XS.icmpYes X0.here hx rfl (pc0 := 19) (pc' := 25) rfl (hb hby d24_19) rfl (feq c154).2 (by decide) (by decide) ?_
    refine XS.iinc X0.here hx rfl (hb hby d24_25) rfl (l' := #[rv v1, iv ch, iv (0 : Int32), iv (15 : Int32), iv bt, iv (7 : Int32)]) rfl ?_
    refine XS.goto X0.here hx rfl (pc0 := 28) (pc' := 7) rfl (hb hby d24_28) (by decide) (by decide) ?_
    refine XS.iload X0.here hx rfl (hb hby d24_7) rfl ?_
    refine XS.iloadN X0.here hx rfl (hb hby d24_9) rfl ?_
    refine XS.icmpNo X0.here hx rfl (hb hby d24_10) rfl (tlt (by decide : (7 : Int32) < (15 : Int32))).2.1 ?_
    refine XS.aloadN X0.here hx rfl (hb hby d24_13) rfl rfl ?_
    refine XS.iload X0.here hx rfl (hb hby d24_14) rfl ?_
    exact kont
  have zz160 := A0_
  obtain ⟨cl160, Ar160, q160, S160, M160, H160, G160⟩ := zz160
  have in160 : ¬ ((7 : Int32) < 0 ∨ cl160.slots.size ≤ ((7 : Int32)).toNatClampNeg) := inb_of S160 ⟨by decide, by decide⟩
  have at160 : cl160.slots[((7 : Int32)).toNatClampNeg]? = some (.int (43 : Int32)) := Has.at H160 in160 rfl
  have g161 : Go p e below s₁ (mkF m 17 #[rv v1, iv ch, iv (0 : Int32), iv (15 : Int32), iv bt, iv (7 : Int32)] [(.int (43 : Int32))]) A0 := fun t kont => g159 t (X0.baloadBytes hx (j := (7 : Int32)) (v := (.int (43 : Int32))) (by rw [e0]; exact Ar160.1) (State.isArrayOf_alike hZ.alike Ar160.2.1) Ar160.2.2 in160 at160 (g := (mkF m 16 #[rv v1, iv ch, iv (0 : Int32), iv (15 : Int32), iv bt, iv (7 : Int32)] [(.int (7 : Int32)), (.ref v1)])) rfl rfl (hb hby d24_16) t kont)
  have g163 : Go p e below s₁ (mkF m 19 #[rv v1, iv ch, iv (0 : Int32), iv (15 : Int32), iv bt, iv (7 : Int32)] [(.int bt), (.int (43 : Int32))]) A0 := by
    intro t kont
    refine g161 t ?_
    refine XS.iload X0.here hx rfl (hb hby d24_17) rfl ?_
    exact kont
  by_cases c162 : (43 : Int32) = bt
  ·
    have q164 : bt.toInt = 43 := congrArg Int32.toInt (c162).symm
    have g165 : Go p e below s₁ (mkF m 24 #[rv v1, iv ch, iv (0 : Int32), iv (15 : Int32), iv bt, iv (7 : Int32)] [(.int (7 : Int32))]) A0 := by
      intro t kont
      refine g163 t ?_
      refine XS.icmpNo X0.here hx rfl (hb hby d24_19) rfl (teq c162).2 ?_
      refine XS.iload X0.here hx rfl (hb hby d24_22) rfl ?_
      exact kont
    have qb := c_i2b ch
    rw [← e_bt] at qb
    have q0 : ¬ (ch.toInt < 0) := fun z => h0_ch (Int32.lt_iff_toInt_lt.mpr z)
    have q1 : ¬ (255 < ch.toInt) := fun z => h1_ch (Int32.lt_iff_toInt_lt.mpr z)
    obtain ⟨fs, hr, hrun, hended, hW, hsame⟩ := X0.leave (v := some (.int (7 : Int32))) (fun h => by rw [Bd.returns] at h; cases h)
    refine ⟨_, _, g165 _ (retI X0 hx Bd.returns (hb hby d24_24) hr), hrun, hended, _, _, rfl, ?_, ⟨_, rfl⟩, hW, hsame.mono (by decide) (by decide)⟩
    show Q_ixc Z v1 ch kv h0 n0 _ s₁.heap _
    rw [e0]
    exact ⟨(7 : Int32), rfl, N0, rfl, by unfold own_sy; exact iff_of_false (by decide) (by omega)⟩
  have q166 : ¬ (bt.toInt = 43) := fun z => c162 (Int32.toInt_inj.mp z).symm
  have g167 : Go p e below s₁ (mkF m 16 #[rv v1, iv ch, iv (0 : Int32), iv (15 : Int32), iv bt, iv (8 : Int32)] [(.int (8 : Int32)), (.ref v1)]) A0 := by
    intro t kont
    refine g163 t ?_
    refine XS.icmpYes X0.here hx rfl (pc0 := 19) (pc' := 25) rfl (hb hby d24_19) rfl (feq c162).2 (by decide) (by decide) ?_
    refine XS.iinc X0.here hx rfl (hb hby d24_25) rfl (l' := #[rv v1, iv ch, iv (0 : Int32), iv (15 : Int32), iv bt, iv (8 : Int32)]) rfl ?_
    refine XS.goto X0.here hx rfl (pc0 := 28) (pc' := 7) rfl (hb hby d24_28) (by decide) (by decide) ?_
    refine XS.iload X0.here hx rfl (hb hby d24_7) rfl ?_
    refine XS.iloadN X0.here hx rfl (hb hby d24_9) rfl ?_
    refine XS.icmpNo X0.here hx rfl (hb hby d24_10) rfl (tlt (by decide : (8 : Int32) < (15 : Int32))).2.1 ?_
    refine XS.aloadN X0.here hx rfl (hb hby d24_13) rfl rfl ?_
    refine XS.iload X0.here hx rfl (hb hby d24_14) rfl ?_
    exact kont
  have zz168 := A0_
  obtain ⟨cl168, Ar168, q168, S168, M168, H168, G168⟩ := zz168
  have in168 : ¬ ((8 : Int32) < 0 ∨ cl168.slots.size ≤ ((8 : Int32)).toNatClampNeg) := inb_of S168 ⟨by decide, by decide⟩
  have at168 : cl168.slots[((8 : Int32)).toNatClampNeg]? = some (.int (45 : Int32)) := Has.at H168 in168 rfl
  have g169 : Go p e below s₁ (mkF m 17 #[rv v1, iv ch, iv (0 : Int32), iv (15 : Int32), iv bt, iv (8 : Int32)] [(.int (45 : Int32))]) A0 := fun t kont => g167 t (X0.baloadBytes hx (j := (8 : Int32)) (v := (.int (45 : Int32))) (by rw [e0]; exact Ar168.1) (State.isArrayOf_alike hZ.alike Ar168.2.1) Ar168.2.2 in168 at168 (g := (mkF m 16 #[rv v1, iv ch, iv (0 : Int32), iv (15 : Int32), iv bt, iv (8 : Int32)] [(.int (8 : Int32)), (.ref v1)])) rfl rfl (hb hby d24_16) t kont)
  have g171 : Go p e below s₁ (mkF m 19 #[rv v1, iv ch, iv (0 : Int32), iv (15 : Int32), iv bt, iv (8 : Int32)] [(.int bt), (.int (45 : Int32))]) A0 := by
    intro t kont
    refine g169 t ?_
    refine XS.iload X0.here hx rfl (hb hby d24_17) rfl ?_
    exact kont
  by_cases c170 : (45 : Int32) = bt
  ·
    have q172 : bt.toInt = 45 := congrArg Int32.toInt (c170).symm
    have g173 : Go p e below s₁ (mkF m 24 #[rv v1, iv ch, iv (0 : Int32), iv (15 : Int32), iv bt, iv (8 : Int32)] [(.int (8 : Int32))]) A0 := by
      intro t kont
      refine g171 t ?_
      refine XS.icmpNo X0.here hx rfl (hb hby d24_19) rfl (teq c170).2 ?_
      refine XS.iload X0.here hx rfl (hb hby d24_22) rfl ?_
      exact kont
    have qb := c_i2b ch
    rw [← e_bt] at qb
    have q0 : ¬ (ch.toInt < 0) := fun z => h0_ch (Int32.lt_iff_toInt_lt.mpr z)
    have q1 : ¬ (255 < ch.toInt) := fun z => h1_ch (Int32.lt_iff_toInt_lt.mpr z)
    obtain ⟨fs, hr, hrun, hended, hW, hsame⟩ := X0.leave (v := some (.int (8 : Int32))) (fun h => by rw [Bd.returns] at h; cases h)
    refine ⟨_, _, g173 _ (retI X0 hx Bd.returns (hb hby d24_24) hr), hrun, hended, _, _, rfl, ?_, ⟨_, rfl⟩, hW, hsame.mono (by decide) (by decide)⟩
    show Q_ixc Z v1 ch kv h0 n0 _ s₁.heap _
    rw [e0]
    exact ⟨(8 : Int32), rfl, N0, rfl, by unfold own_sy; exact iff_of_false (by decide) (by omega)⟩
  have q174 : ¬ (bt.toInt = 45) := fun z => c170 (Int32.toInt_inj.mp z).symm
  have g175 : Go p e below s₁ (mkF m 16 #[rv v1, iv ch, iv (0 : Int32), iv (15 : Int32), iv bt, iv (9 : Int32)] [(.int (9 : Int32)), (.ref v1)]) A0 := by
    intro t kont
    refine g171 t ?_
    refine XS.icmpYes X0.here hx rfl (pc0 := 19) (pc' := 25) rfl (hb hby d24_19) rfl (feq c170).2 (by decide) (by decide) ?_
    refine XS.iinc X0.here hx rfl (hb hby d24_25) rfl (l' := #[rv v1, iv ch, iv (0 : Int32), iv (15 : Int32), iv bt, iv (9 : Int32)]) rfl ?_
    refine XS.goto X0.here hx rfl (pc0 := 28) (pc' := 7) rfl (hb hby d24_28) (by decide) (by decide) ?_
    refine XS.iload X0.here hx rfl (hb hby d24_7) rfl ?_
    refine XS.iloadN X0.here hx rfl (hb hby d24_9) rfl ?_
    refine XS.icmpNo X0.here hx rfl (hb hby d24_10) rfl (tlt (by decide : (9 : Int32) < (15 : Int32))).2.1 ?_
    refine XS.aloadN X0.here hx rfl (hb hby d24_13) rfl rfl ?_
    refine XS.iload X0.here hx rfl (hb hby d24_14) rfl ?_
    exact kont
  have zz176 := A0_
  obtain ⟨cl176, Ar176, q176, S176, M176, H176, G176⟩ := zz176
  have in176 : ¬ ((9 : Int32) < 0 ∨ cl176.slots.size ≤ ((9 : Int32)).toNatClampNeg) := inb_of S176 ⟨by decide, by decide⟩
  have at176 : cl176.slots[((9 : Int32)).toNatClampNeg]? = some (.int (46 : Int32)) := Has.at H176 in176 rfl
  have g177 : Go p e below s₁ (mkF m 17 #[rv v1, iv ch, iv (0 : Int32), iv (15 : Int32), iv bt, iv (9 : Int32)] [(.int (46 : Int32))]) A0 := fun t kont => g175 t (X0.baloadBytes hx (j := (9 : Int32)) (v := (.int (46 : Int32))) (by rw [e0]; exact Ar176.1) (State.isArrayOf_alike hZ.alike Ar176.2.1) Ar176.2.2 in176 at176 (g := (mkF m 16 #[rv v1, iv ch, iv (0 : Int32), iv (15 : Int32), iv bt, iv (9 : Int32)] [(.int (9 : Int32)), (.ref v1)])) rfl rfl (hb hby d24_16) t kont)
  have g179 : Go p e below s₁ (mkF m 19 #[rv v1, iv ch, iv (0 : Int32), iv (15 : Int32), iv bt, iv (9 : Int32)] [(.int bt), (.int (46 : Int32))]) A0 := by
    intro t kont
    refine g177 t ?_
    refine XS.iload X0.here hx rfl (hb hby d24_17) rfl ?_
    exact kont
  by_cases c178 : (46 : Int32) = bt
  ·
    have q180 : bt.toInt = 46 := congrArg Int32.toInt (c178).symm
    have g181 : Go p e below s₁ (mkF m 24 #[rv v1, iv ch, iv (0 : Int32), iv (15 : Int32), iv bt, iv (9 : Int32)] [(.int (9 : Int32))]) A0 := by
      intro t kont
      refine g179 t ?_
      refine XS.icmpNo X0.here hx rfl (hb hby d24_19) rfl (teq c178).2 ?_
      refine XS.iload X0.here hx rfl (hb hby d24_22) rfl ?_
      exact kont
    have qb := c_i2b ch
    rw [← e_bt] at qb
    have q0 : ¬ (ch.toInt < 0) := fun z => h0_ch (Int32.lt_iff_toInt_lt.mpr z)
    have q1 : ¬ (255 < ch.toInt) := fun z => h1_ch (Int32.lt_iff_toInt_lt.mpr z)
    obtain ⟨fs, hr, hrun, hended, hW, hsame⟩ := X0.leave (v := some (.int (9 : Int32))) (fun h => by rw [Bd.returns] at h; cases h)
    refine ⟨_, _, g181 _ (retI X0 hx Bd.returns (hb hby d24_24) hr), hrun, hended, _, _, rfl, ?_, ⟨_, rfl⟩, hW, hsame.mono (by decide) (by decide)⟩
    show Q_ixc Z v1 ch kv h0 n0 _ s₁.heap _
    rw [e0]
    exact ⟨(9 : Int32), rfl, N0, rfl, by unfold own_sy; exact iff_of_false (by decide) (by omega)⟩
  have q182 : ¬ (bt.toInt = 46) := fun z => c178 (Int32.toInt_inj.mp z).symm
  have g183 : Go p e below s₁ (mkF m 16 #[rv v1, iv ch, iv (0 : Int32), iv (15 : Int32), iv bt, iv (10 : Int32)] [(.int (10 : Int32)), (.ref v1)]) A0 := by
    intro t kont
    refine g179 t ?_
    refine XS.icmpYes X0.here hx rfl (pc0 := 19) (pc' := 25) rfl (hb hby d24_19) rfl (feq c178).2 (by decide) (by decide) ?_
    refine XS.iinc X0.here hx rfl (hb hby d24_25) rfl (l' := #[rv v1, iv ch, iv (0 : Int32), iv (15 : Int32), iv bt, iv (10 : Int32)]) rfl ?_
    refine XS.goto X0.here hx rfl (pc0 := 28) (pc' := 7) rfl (hb hby d24_28) (by decide) (by decide) ?_
    refine XS.iload X0.here hx rfl (hb hby d24_7) rfl ?_
    refine XS.iloadN X0.here hx rfl (hb hby d24_9) rfl ?_
    refine XS.icmpNo X0.here hx rfl (hb hby d24_10) rfl (tlt (by decide : (10 : Int32) < (15 : Int32))).2.1 ?_
    refine XS.aloadN X0.here hx rfl (hb hby d24_13) rfl rfl ?_
    refine XS.iload X0.here hx rfl (hb hby d24_14) rfl ?_
    exact kont
  have zz184 := A0_
  obtain ⟨cl184, Ar184, q184, S184, M184, H184, G184⟩ := zz184
  have in184 : ¬ ((10 : Int32) < 0 ∨ cl184.slots.size ≤ ((10 : Int32)).toNatClampNeg) := inb_of S184 ⟨by decide, by decide⟩
  have at184 : cl184.slots[((10 : Int32)).toNatClampNeg]? = some (.int (94 : Int32)) := Has.at H184 in184 rfl
  have g185 : Go p e below s₁ (mkF m 17 #[rv v1, iv ch, iv (0 : Int32), iv (15 : Int32), iv bt, iv (10 : Int32)] [(.int (94 : Int32))]) A0 := fun t kont => g183 t (X0.baloadBytes hx (j := (10 : Int32)) (v := (.int (94 : Int32))) (by rw [e0]; exact Ar184.1) (State.isArrayOf_alike hZ.alike Ar184.2.1) Ar184.2.2 in184 at184 (g := (mkF m 16 #[rv v1, iv ch, iv (0 : Int32), iv (15 : Int32), iv bt, iv (10 : Int32)] [(.int (10 : Int32)), (.ref v1)])) rfl rfl (hb hby d24_16) t kont)
  have g187 : Go p e below s₁ (mkF m 19 #[rv v1, iv ch, iv (0 : Int32), iv (15 : Int32), iv bt, iv (10 : Int32)] [(.int bt), (.int (94 : Int32))]) A0 := by
    intro t kont
    refine g185 t ?_
    refine XS.iload X0.here hx rfl (hb hby d24_17) rfl ?_
    exact kont
  by_cases c186 : (94 : Int32) = bt
  ·
    have q188 : bt.toInt = 94 := congrArg Int32.toInt (c186).symm
    have g189 : Go p e below s₁ (mkF m 24 #[rv v1, iv ch, iv (0 : Int32), iv (15 : Int32), iv bt, iv (10 : Int32)] [(.int (10 : Int32))]) A0 := by
      intro t kont
      refine g187 t ?_
      refine XS.icmpNo X0.here hx rfl (hb hby d24_19) rfl (teq c186).2 ?_
      refine XS.iload X0.here hx rfl (hb hby d24_22) rfl ?_
      exact kont
    have qb := c_i2b ch
    rw [← e_bt] at qb
    have q0 : ¬ (ch.toInt < 0) := fun z => h0_ch (Int32.lt_iff_toInt_lt.mpr z)
    have q1 : ¬ (255 < ch.toInt) := fun z => h1_ch (Int32.lt_iff_toInt_lt.mpr z)
    obtain ⟨fs, hr, hrun, hended, hW, hsame⟩ := X0.leave (v := some (.int (10 : Int32))) (fun h => by rw [Bd.returns] at h; cases h)
    refine ⟨_, _, g189 _ (retI X0 hx Bd.returns (hb hby d24_24) hr), hrun, hended, _, _, rfl, ?_, ⟨_, rfl⟩, hW, hsame.mono (by decide) (by decide)⟩
    show Q_ixc Z v1 ch kv h0 n0 _ s₁.heap _
    rw [e0]
    exact ⟨(10 : Int32), rfl, N0, rfl, by unfold own_sy; exact iff_of_false (by decide) (by omega)⟩
  have q190 : ¬ (bt.toInt = 94) := fun z => c186 (Int32.toInt_inj.mp z).symm
  have g191 : Go p e below s₁ (mkF m 16 #[rv v1, iv ch, iv (0 : Int32), iv (15 : Int32), iv bt, iv (11 : Int32)] [(.int (11 : Int32)), (.ref v1)]) A0 := by
    intro t kont
    refine g187 t ?_
    refine XS.icmpYes X0.here hx rfl (pc0 := 19) (pc' := 25) rfl (hb hby d24_19) rfl (feq c186).2 (by decide) (by decide) ?_
    refine XS.iinc X0.here hx rfl (hb hby d24_25) rfl (l' := #[rv v1, iv ch, iv (0 : Int32), iv (15 : Int32), iv bt, iv (11 : Int32)]) rfl ?_
    refine XS.goto X0.here hx rfl (pc0 := 28) (pc' := 7) rfl (hb hby d24_28) (by decide) (by decide) ?_
    refine XS.iload X0.here hx rfl (hb hby d24_7) rfl ?_
    refine XS.iloadN X0.here hx rfl (hb hby d24_9) rfl ?_
    refine XS.icmpNo X0.here hx rfl (hb hby d24_10) rfl (tlt (by decide : (11 : Int32) < (15 : Int32))).2.1 ?_
    refine XS.aloadN X0.here hx rfl (hb hby d24_13) rfl rfl ?_
    refine XS.iload X0.here hx rfl (hb hby d24_14) rfl ?_
    exact kont
  have zz192 := A0_
  obtain ⟨cl192, Ar192, q192, S192, M192, H192, G192⟩ := zz192
  have in192 : ¬ ((11 : Int32) < 0 ∨ cl192.slots.size ≤ ((11 : Int32)).toNatClampNeg) := inb_of S192 ⟨by decide, by decide⟩
  have at192 : cl192.slots[((11 : Int32)).toNatClampNeg]? = some (.int (95 : Int32)) := Has.at H192 in192 rfl
  have g193 : Go p e below s₁ (mkF m 17 #[rv v1, iv ch, iv (0 : Int32), iv (15 : Int32), iv bt, iv (11 : Int32)] [(.int (95 : Int32))]) A0 := fun t kont => g191 t (X0.baloadBytes hx (j := (11 : Int32)) (v := (.int (95 : Int32))) (by rw [e0]; exact Ar192.1) (State.isArrayOf_alike hZ.alike Ar192.2.1) Ar192.2.2 in192 at192 (g := (mkF m 16 #[rv v1, iv ch, iv (0 : Int32), iv (15 : Int32), iv bt, iv (11 : Int32)] [(.int (11 : Int32)), (.ref v1)])) rfl rfl (hb hby d24_16) t kont)
  have g195 : Go p e below s₁ (mkF m 19 #[rv v1, iv ch, iv (0 : Int32), iv (15 : Int32), iv bt, iv (11 : Int32)] [(.int bt), (.int (95 : Int32))]) A0 := by
    intro t kont
    refine g193 t ?_
    refine XS.iload X0.here hx rfl (hb hby d24_17) rfl ?_
    exact kont
  by_cases c194 : (95 : Int32) = bt
  ·
    have q196 : bt.toInt = 95 := congrArg Int32.toInt (c194).symm
    have g197 : Go p e below s₁ (mkF m 24 #[rv v1, iv ch, iv (0 : Int32), iv (15 : Int32), iv bt, iv (11 : Int32)] [(.int (11 : Int32))]) A0 := by
      intro t kont
      refine g195 t ?_
      refine XS.icmpNo X0.here hx rfl (hb hby d24_19) rfl (teq c194).2 ?_
      refine XS.iload X0.here hx rfl (hb hby d24_22) rfl ?_
      exact kont
    have qb := c_i2b ch
    rw [← e_bt] at qb
    have q0 : ¬ (ch.toInt < 0) := fun z => h0_ch (Int32.lt_iff_toInt_lt.mpr z)
    have q1 : ¬ (255 < ch.toInt) := fun z => h1_ch (Int32.lt_iff_toInt_lt.mpr z)
    obtain ⟨fs, hr, hrun, hended, hW, hsame⟩ := X0.leave (v := some (.int (11 : Int32))) (fun h => by rw [Bd.returns] at h; cases h)
    refine ⟨_, _, g197 _ (retI X0 hx Bd.returns (hb hby d24_24) hr), hrun, hended, _, _, rfl, ?_, ⟨_, rfl⟩, hW, hsame.mono (by decide) (by decide)⟩
    show Q_ixc Z v1 ch kv h0 n0 _ s₁.heap _
    rw [e0]
    exact ⟨(11 : Int32), rfl, N0, rfl, by unfold own_sy; exact iff_of_false (by decide) (by omega)⟩
  have q198 : ¬ (bt.toInt = 95) := fun z => c194 (Int32.toInt_inj.mp z).symm
  have g199 : Go p e below s₁ (mkF m 16 #[rv v1, iv ch, iv (0 : Int32), iv (15 : Int32), iv bt, iv (12 : Int32)] [(.int (12 : Int32)), (.ref v1)]) A0 := by
    intro t kont
    refine g195 t ?_
    refine XS.icmpYes X0.here hx rfl (pc0 := 19) (pc' := 25) rfl (hb hby d24_19) rfl (feq c194).2 (by decide) (by decide) ?_
    refine XS.iinc X0.here hx rfl (hb hby d24_25) rfl (l' := #[rv v1, iv ch, iv (0 : Int32), iv (15 : Int32), iv bt, iv (12 : Int32)]) rfl ?_
    refine XS.goto X0.here hx rfl (pc0 := 28) (pc' := 7) rfl (hb hby d24_28) (by decide) (by decide) ?_
    refine XS.iload X0.here hx rfl (hb hby d24_7) rfl ?_
    refine XS.iloadN X0.here hx rfl (hb hby d24_9) rfl ?_
    refine XS.icmpNo X0.here hx rfl (hb hby d24_10) rfl (tlt (by decide : (12 : Int32) < (15 : Int32))).2.1 ?_
    refine XS.aloadN X0.here hx rfl (hb hby d24_13) rfl rfl ?_
    refine XS.iload X0.here hx rfl (hb hby d24_14) rfl ?_
    exact kont
  have zz200 := A0_
  obtain ⟨cl200, Ar200, q200, S200, M200, H200, G200⟩ := zz200
  have in200 : ¬ ((12 : Int32) < 0 ∨ cl200.slots.size ≤ ((12 : Int32)).toNatClampNeg) := inb_of S200 ⟨by decide, by decide⟩
  have at200 : cl200.slots[((12 : Int32)).toNatClampNeg]? = some (.int (96 : Int32)) := Has.at H200 in200 rfl
  have g201 : Go p e below s₁ (mkF m 17 #[rv v1, iv ch, iv (0 : Int32), iv (15 : Int32), iv bt, iv (12 : Int32)] [(.int (96 : Int32))]) A0 := fun t kont => g199 t (X0.baloadBytes hx (j := (12 : Int32)) (v := (.int (96 : Int32))) (by rw [e0]; exact Ar200.1) (State.isArrayOf_alike hZ.alike Ar200.2.1) Ar200.2.2 in200 at200 (g := (mkF m 16 #[rv v1, iv ch, iv (0 : Int32), iv (15 : Int32), iv bt, iv (12 : Int32)] [(.int (12 : Int32)), (.ref v1)])) rfl rfl (hb hby d24_16) t kont)
  have g203 : Go p e below s₁ (mkF m 19 #[rv v1, iv ch, iv (0 : Int32), iv (15 : Int32), iv bt, iv (12 : Int32)] [(.int bt), (.int (96 : Int32))]) A0 := by
    intro t kont
    refine g201 t ?_
    refine XS.iload X0.here hx rfl (hb hby d24_17) rfl ?_
    exact kont
  by_cases c202 : (96 : Int32) = bt
  ·
    have q204 : bt.toInt = 96 := congrArg Int32.toInt (c202).symm
    have g205 : Go p e below s₁ (mkF m 24 #[rv v1, iv ch, iv (0 : Int32), iv (15 : Int32), iv bt, iv (12 : Int32)] [(.int (12 : Int32))]) A0 := by
      intro t kont
      refine g203 t ?_
      refine XS.icmpNo X0.here hx rfl (hb hby d24_19) rfl (teq c202).2 ?_
      refine XS.iload X0.here hx rfl (hb hby d24_22) rfl ?_
      exact kont
    have qb := c_i2b ch
    rw [← e_bt] at qb
    have q0 : ¬ (ch.toInt < 0) := fun z => h0_ch (Int32.lt_iff_toInt_lt.mpr z)
    have q1 : ¬ (255 < ch.toInt) := fun z => h1_ch (Int32.lt_iff_toInt_lt.mpr z)
    obtain ⟨fs, hr, hrun, hended, hW, hsame⟩ := X0.leave (v := some (.int (12 : Int32))) (fun h => by rw [Bd.returns] at h; cases h)
    refine ⟨_, _, g205 _ (retI X0 hx Bd.returns (hb hby d24_24) hr), hrun, hended, _, _, rfl, ?_, ⟨_, rfl⟩, hW, hsame.mono (by decide) (by decide)⟩
    show Q_ixc Z v1 ch kv h0 n0 _ s₁.heap _
    rw [e0]
    exact ⟨(12 : Int32), rfl, N0, rfl, by unfold own_sy; exact iff_of_false (by decide) (by omega)⟩
  have q206 : ¬ (bt.toInt = 96) := fun z => c202 (Int32.toInt_inj.mp z).symm
  have g207 : Go p e below s₁ (mkF m 16 #[rv v1, iv ch, iv (0 : Int32), iv (15 : Int32), iv bt, iv (13 : Int32)] [(.int (13 : Int32)), (.ref v1)]) A0 := by
    intro t kont
    refine g203 t ?_
    refine XS.icmpYes X0.here hx rfl (pc0 := 19) (pc' := 25) rfl (hb hby d24_19) rfl (feq c202).2 (by decide) (by decide) ?_
    refine XS.iinc X0.here hx rfl (hb hby d24_25) rfl (l' := #[rv v1, iv ch, iv (0 : Int32), iv (15 : Int32), iv bt, iv (13 : Int32)]) rfl ?_
    refine XS.goto X0.here hx rfl (pc0 := 28) (pc' := 7) rfl (hb hby d24_28) (by decide) (by decide) ?_
    refine XS.iload X0.here hx rfl (hb hby d24_7) rfl ?_
    refine XS.iloadN X0.here hx rfl (hb hby d24_9) rfl ?_
    refine XS.icmpNo X0.here hx rfl (hb hby d24_10) rfl (tlt (by decide : (13 : Int32) < (15 : Int32))).2.1 ?_
    refine XS.aloadN X0.here hx rfl (hb hby d24_13) rfl rfl ?_
    refine XS.iload X0.here hx rfl (hb hby d24_14) rfl ?_
    exact kont
  have zz208 := A0_
  obtain ⟨cl208, Ar208, q208, S208, M208, H208, G208⟩ := zz208
  have in208 : ¬ ((13 : Int32) < 0 ∨ cl208.slots.size ≤ ((13 : Int32)).toNatClampNeg) := inb_of S208 ⟨by decide, by decide⟩
  have at208 : cl208.slots[((13 : Int32)).toNatClampNeg]? = some (.int (124 : Int32)) := Has.at H208 in208 rfl
  have g209 : Go p e below s₁ (mkF m 17 #[rv v1, iv ch, iv (0 : Int32), iv (15 : Int32), iv bt, iv (13 : Int32)] [(.int (124 : Int32))]) A0 := fun t kont => g207 t (X0.baloadBytes hx (j := (13 : Int32)) (v := (.int (124 : Int32))) (by rw [e0]; exact Ar208.1) (State.isArrayOf_alike hZ.alike Ar208.2.1) Ar208.2.2 in208 at208 (g := (mkF m 16 #[rv v1, iv ch, iv (0 : Int32), iv (15 : Int32), iv bt, iv (13 : Int32)] [(.int (13 : Int32)), (.ref v1)])) rfl rfl (hb hby d24_16) t kont)
  have g211 : Go p e below s₁ (mkF m 19 #[rv v1, iv ch, iv (0 : Int32), iv (15 : Int32), iv bt, iv (13 : Int32)] [(.int bt), (.int (124 : Int32))]) A0 := by
    intro t kont
    refine g209 t ?_
    refine XS.iload X0.here hx rfl (hb hby d24_17) rfl ?_
    exact kont
  by_cases c210 : (124 : Int32) = bt
  ·
    have q212 : bt.toInt = 124 := congrArg Int32.toInt (c210).symm
    have g213 : Go p e below s₁ (mkF m 24 #[rv v1, iv ch, iv (0 : Int32), iv (15 : Int32), iv bt, iv (13 : Int32)] [(.int (13 : Int32))]) A0 := by
      intro t kont
      refine g211 t ?_
      refine XS.icmpNo X0.here hx rfl (hb hby d24_19) rfl (teq c210).2 ?_
      refine XS.iload X0.here hx rfl (hb hby d24_22) rfl ?_
      exact kont
    have qb := c_i2b ch
    rw [← e_bt] at qb
    have q0 : ¬ (ch.toInt < 0) := fun z => h0_ch (Int32.lt_iff_toInt_lt.mpr z)
    have q1 : ¬ (255 < ch.toInt) := fun z => h1_ch (Int32.lt_iff_toInt_lt.mpr z)
    obtain ⟨fs, hr, hrun, hended, hW, hsame⟩ := X0.leave (v := some (.int (13 : Int32))) (fun h => by rw [Bd.returns] at h; cases h)
    refine ⟨_, _, g213 _ (retI X0 hx Bd.returns (hb hby d24_24) hr), hrun, hended, _, _, rfl, ?_, ⟨_, rfl⟩, hW, hsame.mono (by decide) (by decide)⟩
    show Q_ixc Z v1 ch kv h0 n0 _ s₁.heap _
    rw [e0]
    exact ⟨(13 : Int32), rfl, N0, rfl, by unfold own_sy; exact iff_of_false (by decide) (by omega)⟩
  have q214 : ¬ (bt.toInt = 124) := fun z => c210 (Int32.toInt_inj.mp z).symm
  have g215 : Go p e below s₁ (mkF m 16 #[rv v1, iv ch, iv (0 : Int32), iv (15 : Int32), iv bt, iv (14 : Int32)] [(.int (14 : Int32)), (.ref v1)]) A0 := by
    intro t kont
    refine g211 t ?_
    refine XS.icmpYes X0.here hx rfl (pc0 := 19) (pc' := 25) rfl (hb hby d24_19) rfl (feq c210).2 (by decide) (by decide) ?_
    refine XS.iinc X0.here hx rfl (hb hby d24_25) rfl (l' := #[rv v1, iv ch, iv (0 : Int32), iv (15 : Int32), iv bt, iv (14 : Int32)]) rfl ?_
    refine XS.goto X0.here hx rfl (pc0 := 28) (pc' := 7) rfl (hb hby d24_28) (by decide) (by decide) ?_
    refine XS.iload X0.here hx rfl (hb hby d24_7) rfl ?_
    refine XS.iloadN X0.here hx rfl (hb hby d24_9) rfl ?_
    refine XS.icmpNo X0.here hx rfl (hb hby d24_10) rfl (tlt (by decide : (14 : Int32) < (15 : Int32))).2.1 ?_
    refine XS.aloadN X0.here hx rfl (hb hby d24_13) rfl rfl ?_
    refine XS.iload X0.here hx rfl (hb hby d24_14) rfl ?_
    exact kont
  have zz216 := A0_
  obtain ⟨cl216, Ar216, q216, S216, M216, H216, G216⟩ := zz216
  have in216 : ¬ ((14 : Int32) < 0 ∨ cl216.slots.size ≤ ((14 : Int32)).toNatClampNeg) := inb_of S216 ⟨by decide, by decide⟩
  have at216 : cl216.slots[((14 : Int32)).toNatClampNeg]? = some (.int (126 : Int32)) := Has.at H216 in216 rfl
  have g217 : Go p e below s₁ (mkF m 17 #[rv v1, iv ch, iv (0 : Int32), iv (15 : Int32), iv bt, iv (14 : Int32)] [(.int (126 : Int32))]) A0 := fun t kont => g215 t (X0.baloadBytes hx (j := (14 : Int32)) (v := (.int (126 : Int32))) (by rw [e0]; exact Ar216.1) (State.isArrayOf_alike hZ.alike Ar216.2.1) Ar216.2.2 in216 at216 (g := (mkF m 16 #[rv v1, iv ch, iv (0 : Int32), iv (15 : Int32), iv bt, iv (14 : Int32)] [(.int (14 : Int32)), (.ref v1)])) rfl rfl (hb hby d24_16) t kont)
  have g219 : Go p e below s₁ (mkF m 19 #[rv v1, iv ch, iv (0 : Int32), iv (15 : Int32), iv bt, iv (14 : Int32)] [(.int bt), (.int (126 : Int32))]) A0 := by
    intro t kont
    refine g217 t ?_
    refine XS.iload X0.here hx rfl (hb hby d24_17) rfl ?_
    exact kont
  by_cases c218 : (126 : Int32) = bt
  ·
    have q220 : bt.toInt = 126 := congrArg Int32.toInt (c218).symm
    have g221 : Go p e below s₁ (mkF m 24 #[rv v1, iv ch, iv (0 : Int32), iv (15 : Int32), iv bt, iv (14 : Int32)] [(.int (14 : Int32))]) A0 := by
      intro t kont
      refine g219 t ?_
      refine XS.icmpNo X0.here hx rfl (hb hby d24_19) rfl (teq c218).2 ?_
      refine XS.iload X0.here hx rfl (hb hby d24_22) rfl ?_
      exact kont
    have qb := c_i2b ch
    rw [← e_bt] at qb
    have q0 : ¬ (ch.toInt < 0) := fun z => h0_ch (Int32.lt_iff_toInt_lt.mpr z)
    have q1 : ¬ (255 < ch.toInt) := fun z => h1_ch (Int32.lt_iff_toInt_lt.mpr z)
    obtain ⟨fs, hr, hrun, hended, hW, hsame⟩ := X0.leave (v := some (.int (14 : Int32))) (fun h => by rw [Bd.returns] at h; cases h)
    refine ⟨_, _, g221 _ (retI X0 hx Bd.returns (hb hby d24_24) hr), hrun, hended, _, _, rfl, ?_, ⟨_, rfl⟩, hW, hsame.mono (by decide) (by decide)⟩
    show Q_ixc Z v1 ch kv h0 n0 _ s₁.heap _
    rw [e0]
    exact ⟨(14 : Int32), rfl, N0, rfl, by unfold own_sy; exact iff_of_false (by decide) (by omega)⟩
  have q222 : ¬ (bt.toInt = 126) := fun z => c218 (Int32.toInt_inj.mp z).symm
  have g223 : Go p e below s₁ (mkF m 32 #[rv v1, iv ch, iv (0 : Int32), iv (15 : Int32), iv bt, iv (15 : Int32)] [(.int (-1 : Int32))]) A0 := by
    intro t kont
    refine g219 t ?_
    refine XS.icmpYes X0.here hx rfl (pc0 := 19) (pc' := 25) rfl (hb hby d24_19) rfl (feq c218).2 (by decide) (by decide) ?_
    refine XS.iinc X0.here hx rfl (hb hby d24_25) rfl (l' := #[rv v1, iv ch, iv (0 : Int32), iv (15 : Int32), iv bt, iv (15 : Int32)]) rfl ?_
    refine XS.goto X0.here hx rfl (pc0 := 28) (pc' := 7) rfl (hb hby d24_28) (by decide) (by decide) ?_
    refine XS.iload X0.here hx rfl (hb hby d24_7) rfl ?_
    refine XS.iloadN X0.here hx rfl (hb hby d24_9) rfl ?_
    refine XS.icmpYes X0.here hx rfl (pc0 := 10) (pc' := 31) rfl (hb hby d24_10) rfl (flt (by decide : ¬ ((15 : Int32) < (15 : Int32)))).2.1 (by decide) (by decide) ?_
    refine XS.iconst X0.here hx rfl (hb hby d24_31) ?_
    exact kont
  have qb := c_i2b ch
  rw [← e_bt] at qb
  have q0 : ¬ (ch.toInt < 0) := fun z => h0_ch (Int32.lt_iff_toInt_lt.mpr z)
  have q1 : ¬ (255 < ch.toInt) := fun z => h1_ch (Int32.lt_iff_toInt_lt.mpr z)
  obtain ⟨fs, hr, hrun, hended, hW, hsame⟩ := X0.leave (v := some (.int (-1 : Int32))) (fun h => by rw [Bd.returns] at h; cases h)
  refine ⟨_, _, g223 _ (retI X0 hx Bd.returns (hb hby d24_32) hr), hrun, hended, _, _, rfl, ?_, ⟨_, rfl⟩, hW, hsame.mono (by decide) (by decide)⟩
  show Q_ixc Z v1 ch kv h0 n0 _ s₁.heap _
  rw [e0]
  exact ⟨(-1 : Int32), rfl, N0, rfl, by unfold own_sy; exact iff_of_true (by decide) (by omega)⟩
theorem d20_0 : decode jdk_43_method_22_code 0 = .ok (.iload_n 1, 1) := by decide +kernel
theorem d20_1 : decode jdk_43_method_22_code 1 = .ok (.invokestatic 88, 3) := by decide +kernel
theorem pd_14 : parseMethodDescriptor "(I)Z" = some ⟨[.int], some .boolean⟩ := by decide +kernel
theorem d20_4 : decode jdk_43_method_22_code 4 = .ok (.ifCond .ne 5, 3) := by decide +kernel
theorem d20_9 : decode jdk_43_method_22_code 9 = .ok (.iload_n 2, 1) := by decide +kernel
theorem d20_10 : decode jdk_43_method_22_code 10 = .ok (.iconst 0, 1) := by decide +kernel
theorem d20_11 : decode jdk_43_method_22_code 11 = .ok (.invokestatic 92, 3) := by decide +kernel
theorem pd_15 : parseMethodDescriptor "(II)I" = some ⟨[.int, .int], some .int⟩ := by decide +kernel
theorem d20_14 : decode jdk_43_method_22_code 14 = .ok (.istore_n 2, 1) := by decide +kernel
theorem d20_15 : decode jdk_43_method_22_code 15 = .ok (.iload_n 3, 1) := by decide +kernel
theorem d20_16 : decode jdk_43_method_22_code 16 = .ok (.aload_n 0, 1) := by decide +kernel
theorem d20_17 : decode jdk_43_method_22_code 17 = .ok (.arraylength, 1) := by decide +kernel
theorem d20_18 : decode jdk_43_method_22_code 18 = .ok (.invokestatic 38, 3) := by decide +kernel
theorem d20_21 : decode jdk_43_method_22_code 21 = .ok (.istore_n 3, 1) := by decide +kernel
theorem d20_22 : decode jdk_43_method_22_code 22 = .ok (.iload_n 2, 1) := by decide +kernel
theorem d20_23 : decode jdk_43_method_22_code 23 = .ok (.iload_n 3, 1) := by decide +kernel
theorem d20_24 : decode jdk_43_method_22_code 24 = .ok (.if_icmp .lt 5, 3) := by decide +kernel
theorem d20_29 : decode jdk_43_method_22_code 29 = .ok (.aload_n 0, 1) := by decide +kernel
theorem d20_30 : decode jdk_43_method_22_code 30 = .ok (.iload_n 1, 1) := by decide +kernel
theorem d20_31 : decode jdk_43_method_22_code 31 = .ok (.iload_n 2, 1) := by decide +kernel
theorem d20_32 : decode jdk_43_method_22_code 32 = .ok (.iload_n 3, 1) := by decide +kernel
theorem d20_33 : decode jdk_43_method_22_code 33 = .ok (.invokestatic 95, 3) := by decide +kernel
theorem pd_16 : parseMethodDescriptor "([BIII)I" = some ⟨[(.array .byte), .int, .int, .int], some .int⟩ := by decide +kernel
theorem d20_36 : decode jdk_43_method_22_code 36 = .ok (.ireturn, 1) := by decide +kernel
theorem ef_lixL (m : MethodId) (x0 : Addr) (x1 : Int32) (x2 : Int32) (x3 : Int32)  : entryFrame m #[(.ref x0), (.int x1), (.int x2), (.int x3)] 4 = mkF m 0 #[.val (.ref x0), .val (.int x1), .val (.int x2), .val (.int x3)] [] := by first | (simp [entryFrame, mkF, argsToLocals, Value.category]; done) | rfl
def Q_lixL (Z : State) (v1 : Addr) (ch : Int32) (kv : ClassId) (h0 : Heap) (n0 : Nat) (v : Option Value) (h : Heap) (L : List Loc) : Prop := ∃ (ii : Int32), v = some (.int ii) ∧ Fr n0 L ∧ h = h0 ∧ (ii < (0 : Int32) ↔ ¬ own_sy ch)
set_option maxRecDepth 65536 in
set_option maxHeartbeats 40000000 in
theorem rm_lixL (l : Launch) (Z : State) (a0 : Array Value) (hw : ∀ d ∈ tables_1, d.before a0 Z = true) (ws : List Jvm.Cond) (v1 : Addr) (ch : Int32) (kv : ClassId) (h0 : Heap) (n0 : Nat) (O0 : Old Z n0 h0) (A0_ : Arv Z h0 v1 kv .byte (15 : Int32) [(.int (33 : Int32)), (.int (35 : Int32)), (.int (36 : Int32)), (.int (37 : Int32)), (.int (38 : Int32)), (.int (39 : Int32)), (.int (42 : Int32)), (.int (43 : Int32)), (.int (45 : Int32)), (.int (46 : Int32)), (.int (94 : Int32)), (.int (95 : Int32)), (.int (96 : Int32)), (.int (124 : Int32)), (.int (126 : Int32))] (.int (0 : Int32))) (h0_ch : ¬ (ch < (0 : Int32))) (h1_ch : ¬ ((255 : Int32) < ch)) :
    MetFree l (⟨"java/lang/StringLatin1", "indexOf", "([BIII)I"⟩ : MethodName) (head1 (Jvm.Cond.code (⟨"java/lang/StringLatin1", "indexOf", "([BIII)I"⟩ : MethodName) jdk_43_method_22_code 4 (some .int) :: ws) ({ frames := 1, cells := 0, slots := 0, locals := 17 } : Room)) (fun a U => a = #[(.ref v1), (.int ch), (.int (0 : Int32)), (.int (15 : Int32))] ∧ Z.Warmed39 U.vm ∧ U.heap = h0) (fun _ _ _ _ _ => True) (fun _ U o U' => ∃ v L, o = .returned v ∧ Q_lixL Z v1 ch kv h0 n0 v U'.heap L ∧ FrameEnd U o U' L ({ frames := 1, cells := 0, slots := 0, locals := 17 } : Room).cells ({ frames := 1, cells := 0, slots := 0, locals := 17 } : Room).slots) := by
  refine MetFree.of_bodySF (plainFor_of_name pn_java_lang_StringLatin1) hisR ?_
  intro p e s m args below meth c s₁ Bd hml0 hP hK
  obtain ⟨rfl, hZ, hh⟩ := hP
  have hx := Bd.exec
  have hby := Bd.bytes
  have hml : c.maxLocals = 4 := hml0
  have hown : s.vm.findClass "java/lang/StringLatin1" = some m.cls := findClass_of_methodNamed Bd.named
  have hnm := (name_of_methodNamed Bd.named Bd.method).1
  have X0 : Stand p l e ({ frames := 1, cells := 0, slots := 0, locals := 17 } : Room) s m #[(.ref v1), (.int ch), (.int (0 : Int32)), (.int (15 : Int32))] below meth c s₁ [] 0 0 := Stand.of_body Bd
  have e0 : s₁.heap = h0 := by rw [← hh, Bd.state]; rfl
  have N0 := Fr.nil n0
  have g0 : Go p e below s₁ (mkF m 0 #[rv v1, iv ch, iv (0 : Int32), iv (15 : Int32)] []) (s₁.setTop (entryFrame m #[(.ref v1), (.int ch), (.int (0 : Int32)), (.int (15 : Int32))] 4)) := fun t kont => castTop (ef_lixL m v1 ch (0 : Int32) (15 : Int32) ) kont
  generalize s₁.setTop (entryFrame m #[(.ref v1), (.int ch), (.int (0 : Int32)), (.int (15 : Int32))] 4) = A0 at g0 ⊢
  have g101 : Go p e below s₁ (mkF m 1 #[rv v1, iv ch, iv (0 : Int32), iv (15 : Int32)] [(.int ch)]) A0 := by
    intro t kont
    refine g0 t ?_
    refine XS.iloadN X0.here hx rfl (hb hby d20_0) rfl ?_
    exact kont
  obtain ⟨_, _, ⟨T102, L102, k102, n102⟩, -, X102, ⟨Lc102, hQ102, l102, y102, z102⟩, st102⟩ := Jvm.LawKit.callS X0 hx (y := (⟨"java/lang/StringLatin1", "canEncode", "(I)Z"⟩ : MethodName)) hown (mvT hZ (hw _ (List.mem_of_getElem? (i := 97) rfl))) (mvT hZ (hw _ (List.mem_of_getElem? (i := 98) rfl))) (mvT hZ (hw _ (List.mem_of_getElem? (i := 72) rfl))) (mvT hZ (hw _ (List.mem_of_getElem? (i := 99) rfl))) (by decide) (backOf (W := 0) (rm_ceL l Z a0 hw [] ch h0 n0 O0 h0_ch h1_ch) hZ (hw _ (List.mem_of_getElem? (i := 99) rfl)) (hw _ (List.mem_of_getElem? (i := 72) rfl)) (by decide) (by decide)) (g := (mkF m 1 #[rv v1, iv ch, iv (0 : Int32), iv (15 : Int32)] [(.int ch)])) rfl (by rw [hml]; rfl) (argsL := [(.int ch)]) (rest := []) (lenOf pd_14 rfl) rfl (by show 2 * 0 + _ ≤ _; exact Nat.le_of_eq rfl) (hb hby d20_1) (fun _ _ => ⟨rfl, e0, (by decide : 0 + 0 ≤ _), (by decide : 0 + 0 ≤ _)⟩)
  dsimp only [Pt.U, Pt.locs, Pt.cells, Pt.slots] at X102 l102 y102 z102 st102 hQ102
  subst l102 y102 z102
  obtain ⟨rfl, M102, e102⟩ := hQ102
  have N102 := Fr.app N0 M102
  have g103 : Go p e below T102 (mkF m 4 #[rv v1, iv ch, iv (0 : Int32), iv (15 : Int32)] [(.int (1 : Int32))]) A0 := fun t kont => g101 t (st102 t kont)
  have g104 : Go p e below T102 (mkF m 11 #[rv v1, iv ch, iv (0 : Int32), iv (15 : Int32)] [(.int (0 : Int32)), (.int (0 : Int32))]) A0 := by
    intro t kont
    refine g103 t ?_
    refine XS.ifYes X102.here hx rfl (pc0 := 4) (pc' := 9) rfl (hb hby d20_4) rfl ((if0 _ _).trans (feq (by decide : ¬ ((1 : Int32) = (0 : Int32)))).2) (by decide) (by decide) ?_
    refine XS.iloadN X102.here hx rfl (hb hby d20_9) rfl ?_
    refine XS.iconst X102.here hx rfl (hb hby d20_10) ?_
    exact kont
  obtain ⟨_, _, ⟨T105, L105, k105, n105⟩, -, X105, ⟨Lc105, hQ105, l105, y105, z105⟩, st105⟩ := Jvm.LawKit.callS X102 hx (y := (⟨"java/lang/Math", "max", "(II)I"⟩ : MethodName)) hown (mvT hZ (hw _ (List.mem_of_getElem? (i := 100) rfl))) (mvT hZ (hw _ (List.mem_of_getElem? (i := 101) rfl))) (mvT hZ (hw _ (List.mem_of_getElem? (i := 102) rfl))) (mvT hZ (hw _ (List.mem_of_getElem? (i := 103) rfl))) (by decide) (backOf (W := 0) (rm_max l Z a0 hw []  h0 n0 O0 ) hZ (hw _ (List.mem_of_getElem? (i := 103) rfl)) (hw _ (List.mem_of_getElem? (i := 102) rfl)) (by decide) (by decide)) (g := (mkF m 11 #[rv v1, iv ch, iv (0 : Int32), iv (15 : Int32)] [(.int (0 : Int32)), (.int (0 : Int32))])) rfl (by rw [hml]; rfl) (argsL := [(.int (0 : Int32)), (.int (0 : Int32))]) (rest := []) (lenOf pd_15 rfl) rfl (by show 2 * 0 + _ ≤ _; exact Nat.le_of_eq rfl) (hb hby d20_11) (fun _ _ => ⟨rfl, e102, (by decide : 0 + 0 ≤ _), (by decide : 0 + 0 ≤ _)⟩)
  dsimp only [Pt.U, Pt.locs, Pt.cells, Pt.slots] at X105 l105 y105 z105 st105 hQ105
  subst l105 y105 z105
  obtain ⟨rfl, M105, e105⟩ := hQ105
  have N105 := Fr.app N102 M105
  have g106 : Go p e below T105 (mkF m 14 #[rv v1, iv ch, iv (0 : Int32), iv (15 : Int32)] [(.int (0 : Int32))]) A0 := fun t kont => g104 t (st105 t kont)
  have g107 : Go p e below T105 (mkF m 17 #[rv v1, iv ch, iv (0 : Int32), iv (15 : Int32)] [(.ref v1), (.int (15 : Int32))]) A0 := by
    intro t kont
    refine g106 t ?_
    refine XS.istoreN X105.here hx rfl (hb hby d20_14) rfl (l' := #[rv v1, iv ch, iv (0 : Int32), iv (15 : Int32)]) rfl ?_
    refine XS.iloadN X105.here hx rfl (hb hby d20_15) rfl ?_
    refine XS.aloadN X105.here hx rfl (hb hby d20_16) rfl rfl ?_
    exact kont
  have zz108 := A0_
  obtain ⟨cl108, Ar108, -, S108, M108, -, -⟩ := zz108
  have g109 : Go p e below T105 (mkF m 18 #[rv v1, iv ch, iv (0 : Int32), iv (15 : Int32)] [(.int (15 : Int32)), (.int (15 : Int32))]) A0 := by
    intro t kont
    refine g107 t ?_
    refine X105.arraylength hx (by rw [e105]; exact Ar108.1) (State.isArrayOf_alike hZ.alike Ar108.2.1) (g := (mkF m 17 #[rv v1, iv ch, iv (0 : Int32), iv (15 : Int32)] [(.ref v1), (.int (15 : Int32))])) rfl rfl (hb hby d20_17) _ ?_
    rw [len_of S108 M108]
    exact kont
  obtain ⟨_, _, ⟨T110, L110, k110, n110⟩, -, X110, ⟨Lc110, hQ110, l110, y110, z110⟩, st110⟩ := Jvm.LawKit.callS X105 hx (y := (⟨"java/lang/Math", "min", "(II)I"⟩ : MethodName)) hown (mvT hZ (hw _ (List.mem_of_getElem? (i := 104) rfl))) (mvT hZ (hw _ (List.mem_of_getElem? (i := 105) rfl))) (mvT hZ (hw _ (List.mem_of_getElem? (i := 102) rfl))) (mvT hZ (hw _ (List.mem_of_getElem? (i := 106) rfl))) (by decide) (backOf (W := 0) (rm_min l Z a0 hw []  h0 n0 O0 ) hZ (hw _ (List.mem_of_getElem? (i := 106) rfl)) (hw _ (List.mem_of_getElem? (i := 102) rfl)) (by decide) (by decide)) (g := (mkF m 18 #[rv v1, iv ch, iv (0 : Int32), iv (15 : Int32)] [(.int (15 : Int32)), (.int (15 : Int32))])) rfl (by rw [hml]; rfl) (argsL := [(.int (15 : Int32)), (.int (15 : Int32))]) (rest := []) (lenOf pd_15 rfl) rfl (by show 2 * 0 + _ ≤ _; exact Nat.le_of_eq rfl) (hb hby d20_18) (fun _ _ => ⟨rfl, e105, (by decide : 0 + 0 ≤ _), (by decide : 0 + 0 ≤ _)⟩)
  dsimp only [Pt.U, Pt.locs, Pt.cells, Pt.slots] at X110 l110 y110 z110 st110 hQ110
  subst l110 y110 z110
  obtain ⟨rfl, M110, e110⟩ := hQ110
  have N110 := Fr.app N105 M110
  have g111 : Go p e below T110 (mkF m 21 #[rv v1, iv ch, iv (0 : Int32), iv (15 : Int32)] [(.int (15 : Int32))]) A0 := fun t kont => g109 t (st110 t kont)
  have g112 : Go p e below T110 (mkF m 33 #[rv v1, iv ch, iv (0 : Int32), iv (15 : Int32)] [(.int (15 : Int32)), (.int (0 : Int32)), (.int ch), (.ref v1)]) A0 := by
    intro t kont
    refine g111 t ?_
    refine XS.istoreN X110.here hx rfl (hb hby d20_21) rfl (l' := #[rv v1, iv ch, iv (0 : Int32), iv (15 : Int32)]) rfl ?_
    refine XS.iloadN X110.here hx rfl (hb hby d20_22) rfl ?_
    refine XS.iloadN X110.here hx rfl (hb hby d20_23) rfl ?_
    refine XS.icmpYes X110.here hx rfl (pc0 := 24) (pc' := 29) rfl (hb hby d20_24) rfl (tlt (by decide : (0 : Int32) < (15 : Int32))).1 (by decide) (by decide) ?_
    refine XS.aloadN X110.here hx rfl (hb hby d20_29) rfl rfl ?_
    refine XS.iloadN X110.here hx rfl (hb hby d20_30) rfl ?_
    refine XS.iloadN X110.here hx rfl (hb hby d20_31) rfl ?_
    refine XS.iloadN X110.here hx rfl (hb hby d20_32) rfl ?_
    exact kont
  obtain ⟨_, _, ⟨T113, L113, k113, n113⟩, -, X113, ⟨Lc113, hQ113, l113, y113, z113⟩, st113⟩ := Jvm.LawKit.callS X110 hx (y := (⟨"java/lang/StringLatin1", "indexOfChar", "([BIII)I"⟩ : MethodName)) hown (mvT hZ (hw _ (List.mem_of_getElem? (i := 107) rfl))) (mvT hZ (hw _ (List.mem_of_getElem? (i := 108) rfl))) (mvT hZ (hw _ (List.mem_of_getElem? (i := 72) rfl))) (mvT hZ (hw _ (List.mem_of_getElem? (i := 109) rfl))) (by decide) (backOf (W := 0) (rm_ixc l Z a0 hw [] v1 ch kv h0 n0 O0 A0_ h0_ch h1_ch) hZ (hw _ (List.mem_of_getElem? (i := 109) rfl)) (hw _ (List.mem_of_getElem? (i := 72) rfl)) (by decide) (by decide)) (g := (mkF m 33 #[rv v1, iv ch, iv (0 : Int32), iv (15 : Int32)] [(.int (15 : Int32)), (.int (0 : Int32)), (.int ch), (.ref v1)])) rfl (by rw [hml]; rfl) (argsL := [(.ref v1), (.int ch), (.int (0 : Int32)), (.int (15 : Int32))]) (rest := []) (lenOf pd_16 rfl) rfl (by show 2 * 0 + _ ≤ _; exact Nat.le_of_eq rfl) (hb hby d20_33) (fun _ _ => ⟨rfl, e110, (by decide : 0 + 0 ≤ _), (by decide : 0 + 0 ≤ _)⟩)
  dsimp only [Pt.U, Pt.locs, Pt.cells, Pt.slots] at X113 l113 y113 z113 st113 hQ113
  subst l113 y113 z113
  obtain ⟨r114, rfl, M113, e113, y115⟩ := hQ113
  have N113 := Fr.app N110 M113
  have g116 : Go p e below T113 (mkF m 36 #[rv v1, iv ch, iv (0 : Int32), iv (15 : Int32)] [(.int r114)]) A0 := fun t kont => g112 t (st113 t kont)
  obtain ⟨fs, hr, hrun, hended, hW, hsame⟩ := X113.leave (v := some (.int r114)) (fun h => by rw [Bd.returns] at h; cases h)
  refine ⟨_, _, g116 _ (retI X113 hx Bd.returns (hb hby d20_36) hr), hrun, hended, _, _, rfl, ?_, ⟨_, rfl⟩, hW, hsame.mono (by decide) (by decide)⟩
  show Q_lixL Z v1 ch kv h0 n0 _ T113.heap _
  rw [e113]
  exact ⟨r114, rfl, N113, rfl, y115⟩
theorem ef_cdr0 (m : MethodId) (x0 : Addr)  : entryFrame m #[(.ref x0)] 1 = mkF m 0 #[.val (.ref x0)] [] := by first | (simp [entryFrame, mkF, argsToLocals, Value.category]; done) | rfl
def Q_cdr0 (Z : State) (a1 : Addr) (cs : Int32) (h0 : Heap) (n0 : Nat) (v : Option Value) (h : Heap) (L : List Loc) : Prop := v = some (.int (0 : Int32)) ∧ Fr n0 L ∧ h = h0
set_option maxRecDepth 65536 in
set_option maxHeartbeats 40000000 in
theorem rm_cdr0 (l : Launch) (Z : State) (a0 : Array Value) (hw : ∀ d ∈ tables_1, d.before a0 Z = true) (ws : List Jvm.Cond) (a1 : Addr) (cs : Int32) (h0 : Heap) (n0 : Nat) (O0 : Old Z n0 h0) (S0_ : Sta Z Z.heap "java/lang/String" "COMPACT_STRINGS" "Z" (.int cs)) (hcs : ¬ (cs = (0 : Int32))) (F2_ : Fld Z h0 a1 "java/lang/String" "coder" "B" (.int (0 : Int32))) :
    MetFree l (⟨"java/lang/String", "coder", "()B"⟩ : MethodName) (head1 (Jvm.Cond.code (⟨"java/lang/String", "coder", "()B"⟩ : MethodName) jdk_42_method_152_code 1 (some .byte) :: ws) ({ frames := 0, cells := 0, slots := 0, locals := 0 } : Room)) (fun a U => a = #[(.ref a1)] ∧ Z.Warmed39 U.vm ∧ U.heap = h0) (fun _ _ _ _ _ => True) (fun _ U o U' => ∃ v L, o = .returned v ∧ Q_cdr0 Z a1 cs h0 n0 v U'.heap L ∧ FrameEnd U o U' L ({ frames := 0, cells := 0, slots := 0, locals := 0 } : Room).cells ({ frames := 0, cells := 0, slots := 0, locals := 0 } : Room).slots) := by
  refine MetFree.of_bodySF (plainFor_of_name pn_java_lang_String) hisR ?_
  intro p e s m args below meth c s₁ Bd hml0 hP hK
  obtain ⟨rfl, hZ, hh⟩ := hP
  have hx := Bd.exec
  have hby := Bd.bytes
  have hml : c.maxLocals = 1 := hml0
  have hown : s.vm.findClass "java/lang/String" = some m.cls := findClass_of_methodNamed Bd.named
  have hnm := (name_of_methodNamed Bd.named Bd.method).1
  have X0 : Stand p l e ({ frames := 0, cells := 0, slots := 0, locals := 0 } : Room) s m #[(.ref a1)] below meth c s₁ [] 0 0 := Stand.of_body Bd
  have e0 : s₁.heap = h0 := by rw [← hh, Bd.state]; rfl
  have N0 := Fr.nil n0
  have g0 : Go p e below s₁ (mkF m 0 #[rv a1] []) (s₁.setTop (entryFrame m #[(.ref a1)] 1)) := fun t kont => castTop (ef_cdr0 m a1 ) kont
  generalize s₁.setTop (entryFrame m #[(.ref a1)] 1) = A0 at g0 ⊢
  have y101 : Sta Z h0 "java/lang/String" "COMPACT_STRINGS" "Z" (.int cs) := S0_.ext O0.2
  obtain ⟨T102, X102, e102, st102⟩ := getS2 X0 hx hZ hown (host := "") (Or.inl (hw _ (List.mem_of_getElem? (i := 36) rfl))) Via.refl e0 y101 (g := (mkF m 0 #[rv a1] [])) rfl (hb hby d12_0)
  have g103 : Go p e below T102 (mkF m 3 #[rv a1] [(.int cs)]) A0 := fun t kont => g0 t (st102 t kont)
  have g104 : Go p e below T102 (mkF m 7 #[rv a1] [(.ref a1)]) A0 := by
    intro t kont
    refine g103 t ?_
    refine XS.ifNo X102.here hx rfl (hb hby d12_3) rfl ((if0 _ _).trans (feq hcs).1) ?_
    refine XS.aloadN X102.here hx rfl (hb hby d12_6) rfl rfl ?_
    exact kont
  obtain ⟨T105, X105, e105, st105⟩ := getF X102 hx hZ hown (host := "") (Or.inl (hw _ (List.mem_of_getElem? (i := 26) rfl))) Via.refl e102 F2_ (g := (mkF m 7 #[rv a1] [(.ref a1)])) rfl rfl (hb hby d12_7)
  have g106 : Go p e below T105 (mkF m 10 #[rv a1] [(.int (0 : Int32))]) A0 := fun t kont => g104 t (st105 t kont)
  have g107 : Go p e below T105 (mkF m 14 #[rv a1] [(.int (0 : Int32))]) A0 := by
    intro t kont
    refine g106 t ?_
    refine XS.goto X105.here hx rfl (pc0 := 10) (pc' := 14) rfl (hb hby d12_10) (by decide) (by decide) ?_
    exact kont
  obtain ⟨fs, hr, hrun, hended, hW, hsame⟩ := X105.leave (v := some (.int (0 : Int32))) (fun h => by rw [Bd.returns] at h; cases h)
  refine ⟨_, _, g107 _ (retN X105 hx (t := .byte) Bd.returns (by simp) (hb hby d12_14) hr), hrun, hended, _, _, rfl, ?_, ⟨_, rfl⟩, hW, hsame.mono (by decide) (by decide)⟩
  show Q_cdr0 Z a1 cs h0 n0 _ T105.heap _
  rw [e105]
  exact ⟨rfl, N0, rfl⟩
theorem ef_lenS (m : MethodId) (x0 : Addr)  : entryFrame m #[(.ref x0)] 1 = mkF m 0 #[.val (.ref x0)] [] := by first | (simp [entryFrame, mkF, argsToLocals, Value.category]; done) | rfl
def Q_lenS (Z : State) (a1 : Addr) (v1 : Addr) (kv : ClassId) (cs : Int32) (h0 : Heap) (n0 : Nat) (v : Option Value) (h : Heap) (L : List Loc) : Prop := v = some (.int (15 : Int32)) ∧ Fr n0 L ∧ h = h0
set_option maxRecDepth 65536 in
set_option maxHeartbeats 40000000 in
theorem rm_lenS (l : Launch) (Z : State) (a0 : Array Value) (hw : ∀ d ∈ tables_1, d.before a0 Z = true) (ws : List Jvm.Cond) (a1 : Addr) (v1 : Addr) (kv : ClassId) (cs : Int32) (h0 : Heap) (n0 : Nat) (O0 : Old Z n0 h0) (S0_ : Sta Z Z.heap "java/lang/String" "COMPACT_STRINGS" "Z" (.int cs)) (hcs : ¬ (cs = (0 : Int32))) (F2_ : Fld Z h0 a1 "java/lang/String" "value" "[B" (.ref v1)) (F3_ : Fld Z h0 a1 "java/lang/String" "coder" "B" (.int (0 : Int32))) (E4_ : Exa Z h0 a1 "java/lang/String") (A5_ : Arv Z h0 v1 kv .byte (15 : Int32) [(.int (33 : Int32)), (.int (35 : Int32)), (.int (36 : Int32)), (.int (37 : Int32)), (.int (38 : Int32)), (.int (39 : Int32)), (.int (42 : Int32)), (.int (43 : Int32)), (.int (45 : Int32)), (.int (46 : Int32)), (.int (94 : Int32)), (.int (95 : Int32)), (.int (96 : Int32)), (.int (124 : Int32)), (.int (126 : Int32))] (.int (0 : Int32))) :
    MetFree l (⟨"java/lang/String", "length", "()I"⟩ : MethodName) (head1 (Jvm.Cond.code (⟨"java/lang/String", "length", "()I"⟩ : MethodName) jdk_42_method_54_code 1 (some .int) :: ws) ({ frames := 1, cells := 0, slots := 0, locals := 13 } : Room)) (fun a U => a = #[(.ref a1)] ∧ Z.Warmed39 U.vm ∧ U.heap = h0) (fun _ _ _ _ _ => True) (fun _ U o U' => ∃ v L, o = .returned v ∧ Q_lenS Z a1 v1 kv cs h0 n0 v U'.heap L ∧ FrameEnd U o U' L ({ frames := 1, cells := 0, slots := 0, locals := 13 } : Room).cells ({ frames := 1, cells := 0, slots := 0, locals := 13 } : Room).slots) := by
  refine MetFree.of_bodySF (plainFor_of_name pn_java_lang_String) hisR ?_
  intro p e s m args below meth c s₁ Bd hml0 hP hK
  obtain ⟨rfl, hZ, hh⟩ := hP
  have hx := Bd.exec
  have hby := Bd.bytes
  have hml : c.maxLocals = 1 := hml0
  have hown : s.vm.findClass "java/lang/String" = some m.cls := findClass_of_methodNamed Bd.named
  have hnm := (name_of_methodNamed Bd.named Bd.method).1
  have X0 : Stand p l e ({ frames := 1, cells := 0, slots := 0, locals := 13 } : Room) s m #[(.ref a1)] below meth c s₁ [] 0 0 := Stand.of_body Bd
  have e0 : s₁.heap = h0 := by rw [← hh, Bd.state]; rfl
  have N0 := Fr.nil n0
  have g0 : Go p e below s₁ (mkF m 0 #[rv a1] []) (s₁.setTop (entryFrame m #[(.ref a1)] 1)) := fun t kont => castTop (ef_lenS m a1 ) kont
  generalize s₁.setTop (entryFrame m #[(.ref a1)] 1) = A0 at g0 ⊢
  have g101 : Go p e below s₁ (mkF m 1 #[rv a1] [(.ref a1)]) A0 := by
    intro t kont
    refine g0 t ?_
    refine XS.aloadN X0.here hx rfl (hb hby d11_0) rfl rfl ?_
    exact kont
  obtain ⟨T102, X102, e102, st102⟩ := getF X0 hx hZ hown (host := "") (Or.inl (hw _ (List.mem_of_getElem? (i := 25) rfl))) Via.refl e0 F2_ (g := (mkF m 1 #[rv a1] [(.ref a1)])) rfl rfl (hb hby d11_1)
  have g103 : Go p e below T102 (mkF m 4 #[rv a1] [(.ref v1)]) A0 := fun t kont => g101 t (st102 t kont)
  have zz104 := A5_
  obtain ⟨cl104, Ar104, -, S104, M104, -, -⟩ := zz104
  have g105 : Go p e below T102 (mkF m 5 #[rv a1] [(.int (15 : Int32))]) A0 := by
    intro t kont
    refine g103 t ?_
    refine X102.arraylength hx (by rw [e102]; exact Ar104.1) (State.isArrayOf_alike hZ.alike Ar104.2.1) (g := (mkF m 4 #[rv a1] [(.ref v1)])) rfl rfl (hb hby d11_4) _ ?_
    rw [len_of S104 M104]
    exact kont
  have g106 : Go p e below T102 (mkF m 6 #[rv a1] [(.ref a1), (.int (15 : Int32))]) A0 := by
    intro t kont
    refine g105 t ?_
    refine XS.aloadN X102.here hx rfl (hb hby d11_5) rfl rfl ?_
    exact kont
  obtain ⟨cq107, kq107, q107a, q107b, q107c⟩ := isOf hZ e102 E4_
  obtain ⟨_, _, ⟨T107, L107, k107, n107⟩, -, X107, ⟨Lc107, hQ107, l107, y107, z107⟩, st107⟩ := X102.virtualBack hx (y := (⟨"java/lang/String", "coder", "()B"⟩ : MethodName)) (z := (⟨"java/lang/String", "coder", "()B"⟩ : MethodName)) hown (mvT hZ (hw _ (List.mem_of_getElem? (i := 55) rfl))) (mvT hZ (hw _ (List.mem_of_getElem? (i := 56) rfl))) (notFace_of_selects (args := #[]) (mvT hZ (hw _ (List.mem_of_getElem? (i := 58) rfl)))) (mvT hZ (hw _ (List.mem_of_getElem? (i := 58) rfl))) (mvT hZ (hw _ (List.mem_of_getElem? (i := 57) rfl))) (by decide) (backOf (W := 1) (rm_cdr0 l Z a0 hw [] a1 cs h0 n0 O0 S0_ hcs F3_) hZ (hw _ (List.mem_of_getElem? (i := 59) rfl)) (hw _ (List.mem_of_getElem? (i := 8) rfl)) (by decide) (by decide)) q107a q107c (g := (mkF m 6 #[rv a1] [(.ref a1), (.int (15 : Int32))])) rfl (by rw [hml]; rfl) (Steps.refl _) (argsL := []) (rest := [(.int (15 : Int32))]) (lenOf pd_8 rfl) rfl (by show 2 * 0 + _ ≤ _; exact Nat.le_of_eq rfl) (hb hby d11_6) (fun _ _ => ⟨rfl, e102, (by decide : 0 + 0 ≤ _), (by decide : 0 + 0 ≤ _)⟩)
  dsimp only [Pt.U, Pt.locs, Pt.cells, Pt.slots] at X107 l107 y107 z107 st107 hQ107
  subst l107 y107 z107
  obtain ⟨rfl, M107, e107⟩ := hQ107
  have N107 := Fr.app N0 M107
  have g108 : Go p e below T107 (mkF m 9 #[rv a1] [(.int (0 : Int32)), (.int (15 : Int32))]) A0 := fun t kont => g106 t (st107.trans kont)
  have g109 : Go p e below T107 (mkF m 10 #[rv a1] [(.int (15 : Int32))]) A0 := by
    intro t kont
    refine g108 t ?_
    refine XS.ishr X107.here hx rfl (hb hby d11_9) rfl ?_
    exact kont
  obtain ⟨fs, hr, hrun, hended, hW, hsame⟩ := X107.leave (v := some (.int (15 : Int32))) (fun h => by rw [Bd.returns] at h; cases h)
  refine ⟨_, _, g109 _ (retI X107 hx Bd.returns (hb hby d11_10) hr), hrun, hended, _, _, rfl, ?_, ⟨_, rfl⟩, hW, hsame.mono (by decide) (by decide)⟩
  show Q_lenS Z a1 v1 kv cs h0 n0 _ T107.heap _
  rw [e107]
  exact ⟨rfl, N107, rfl⟩
theorem d19_0 : decode jdk_42_method_80_code 0 = .ok (.aload_n 0, 1) := by decide +kernel
theorem d19_1 : decode jdk_42_method_80_code 1 = .ok (.invokevirtual 492, 3) := by decide +kernel
theorem d19_4 : decode jdk_42_method_80_code 4 = .ok (.ifCond .eq 19, 3) := by decide +kernel
theorem d19_7 : decode jdk_42_method_80_code 7 = .ok (.aload_n 0, 1) := by decide +kernel
theorem d19_8 : decode jdk_42_method_80_code 8 = .ok (.getfield 9, 3) := by decide +kernel
theorem d19_11 : decode jdk_42_method_80_code 11 = .ok (.iload_n 1, 1) := by decide +kernel
theorem d19_12 : decode jdk_42_method_80_code 12 = .ok (.iload_n 2, 1) := by decide +kernel
theorem d19_13 : decode jdk_42_method_80_code 13 = .ok (.aload_n 0, 1) := by decide +kernel
theorem d19_14 : decode jdk_42_method_80_code 14 = .ok (.invokevirtual 505, 3) := by decide +kernel
theorem pd_17 : parseMethodDescriptor "()I" = some ⟨[], some .int⟩ := by decide +kernel
theorem d19_17 : decode jdk_42_method_80_code 17 = .ok (.invokestatic 637, 3) := by decide +kernel
theorem d19_20 : decode jdk_42_method_80_code 20 = .ok (.goto 16, 3) := by decide +kernel
theorem d19_36 : decode jdk_42_method_80_code 36 = .ok (.ireturn, 1) := by decide +kernel
theorem ef_ix2L (m : MethodId) (x0 : Addr) (x1 : Int32) (x2 : Int32)  : entryFrame m #[(.ref x0), (.int x1), (.int x2)] 3 = mkF m 0 #[.val (.ref x0), .val (.int x1), .val (.int x2)] [] := by first | (simp [entryFrame, mkF, argsToLocals, Value.category]; done) | rfl
def Q_ix2L (Z : State) (a1 : Addr) (v1 : Addr) (ch : Int32) (kv : ClassId) (cs : Int32) (h0 : Heap) (n0 : Nat) (v : Option Value) (h : Heap) (L : List Loc) : Prop := ∃ (ii : Int32), v = some (.int ii) ∧ Fr n0 L ∧ h = h0 ∧ (ii < (0 : Int32) ↔ ¬ own_sy ch)
set_option maxRecDepth 65536 in
set_option maxHeartbeats 40000000 in
theorem rm_ix2L (l : Launch) (Z : State) (a0 : Array Value) (hw : ∀ d ∈ tables_1, d.before a0 Z = true) (ws : List Jvm.Cond) (a1 : Addr) (v1 : Addr) (ch : Int32) (kv : ClassId) (cs : Int32) (h0 : Heap) (n0 : Nat) (O0 : Old Z n0 h0) (S0_ : Sta Z Z.heap "java/lang/String" "COMPACT_STRINGS" "Z" (.int cs)) (hcs : ¬ (cs = (0 : Int32))) (F2_ : Fld Z h0 a1 "java/lang/String" "value" "[B" (.ref v1)) (F3_ : Fld Z h0 a1 "java/lang/String" "coder" "B" (.int (0 : Int32))) (E4_ : Exa Z h0 a1 "java/lang/String") (A5_ : Arv Z h0 v1 kv .byte (15 : Int32) [(.int (33 : Int32)), (.int (35 : Int32)), (.int (36 : Int32)), (.int (37 : Int32)), (.int (38 : Int32)), (.int (39 : Int32)), (.int (42 : Int32)), (.int (43 : Int32)), (.int (45 : Int32)), (.int (46 : Int32)), (.int (94 : Int32)), (.int (95 : Int32)), (.int (96 : Int32)), (.int (124 : Int32)), (.int (126 : Int32))] (.int (0 : Int32))) (h0_ch : ¬ (ch < (0 : Int32))) (h1_ch : ¬ ((255 : Int32) < ch)) :
    MetFree l (⟨"java/lang/String", "indexOf", "(II)I"⟩ : MethodName) (head1 (Jvm.Cond.code (⟨"java/lang/String", "indexOf", "(II)I"⟩ : MethodName) jdk_42_method_80_code 3 (some .int) :: ws) ({ frames := 2, cells := 0, slots := 0, locals := 32 } : Room)) (fun a U => a = #[(.ref a1), (.int ch), (.int (0 : Int32))] ∧ Z.Warmed39 U.vm ∧ U.heap = h0) (fun _ _ _ _ _ => True) (fun _ U o U' => ∃ v L, o = .returned v ∧ Q_ix2L Z a1 v1 ch kv cs h0 n0 v U'.heap L ∧ FrameEnd U o U' L ({ frames := 2, cells := 0, slots := 0, locals := 32 } : Room).cells ({ frames := 2, cells := 0, slots := 0, locals := 32 } : Room).slots) := by
  refine MetFree.of_bodySF (plainFor_of_name pn_java_lang_String) hisR ?_
  intro p e s m args below meth c s₁ Bd hml0 hP hK
  obtain ⟨rfl, hZ, hh⟩ := hP
  have hx := Bd.exec
  have hby := Bd.bytes
  have hml : c.maxLocals = 3 := hml0
  have hown : s.vm.findClass "java/lang/String" = some m.cls := findClass_of_methodNamed Bd.named
  have hnm := (name_of_methodNamed Bd.named Bd.method).1
  have X0 : Stand p l e ({ frames := 2, cells := 0, slots := 0, locals := 32 } : Room) s m #[(.ref a1), (.int ch), (.int (0 : Int32))] below meth c s₁ [] 0 0 := Stand.of_body Bd
  have e0 : s₁.heap = h0 := by rw [← hh, Bd.state]; rfl
  have N0 := Fr.nil n0
  have g0 : Go p e below s₁ (mkF m 0 #[rv a1, iv ch, iv (0 : Int32)] []) (s₁.setTop (entryFrame m #[(.ref a1), (.int ch), (.int (0 : Int32))] 3)) := fun t kont => castTop (ef_ix2L m a1 ch (0 : Int32) ) kont
  generalize s₁.setTop (entryFrame m #[(.ref a1), (.int ch), (.int (0 : Int32))] 3) = A0 at g0 ⊢
  have g101 : Go p e below s₁ (mkF m 1 #[rv a1, iv ch, iv (0 : Int32)] [(.ref a1)]) A0 := by
    intro t kont
    refine g0 t ?_
    refine XS.aloadN X0.here hx rfl (hb hby d19_0) rfl rfl ?_
    exact kont
  obtain ⟨cq102, kq102, q102a, q102b, q102c⟩ := isOf hZ e0 E4_
  obtain ⟨_, _, ⟨T102, L102, k102, n102⟩, -, X102, ⟨Lc102, hQ102, l102, y102, z102⟩, st102⟩ := X0.virtualBack hx (y := (⟨"java/lang/String", "isLatin1", "()Z"⟩ : MethodName)) (z := (⟨"java/lang/String", "isLatin1", "()Z"⟩ : MethodName)) hown (mvT hZ (hw _ (List.mem_of_getElem? (i := 65) rfl))) (mvT hZ (hw _ (List.mem_of_getElem? (i := 66) rfl))) (notFace_of_selects (args := #[]) (mvT hZ (hw _ (List.mem_of_getElem? (i := 68) rfl)))) (mvT hZ (hw _ (List.mem_of_getElem? (i := 68) rfl))) (mvT hZ (hw _ (List.mem_of_getElem? (i := 67) rfl))) (by decide) (backOf (W := 0) (rm_isl0 l Z a0 hw [] a1 cs h0 n0 O0 S0_ hcs F3_) hZ (hw _ (List.mem_of_getElem? (i := 69) rfl)) (hw _ (List.mem_of_getElem? (i := 8) rfl)) (by decide) (by decide)) q102a q102c (g := (mkF m 1 #[rv a1, iv ch, iv (0 : Int32)] [(.ref a1)])) rfl (by rw [hml]; rfl) (Steps.refl _) (argsL := []) (rest := []) (lenOf pd_13 rfl) rfl (by show 2 * 0 + _ ≤ _; exact Nat.le_of_eq rfl) (hb hby d19_1) (fun _ _ => ⟨rfl, e0, (by decide : 0 + 0 ≤ _), (by decide : 0 + 0 ≤ _)⟩)
  dsimp only [Pt.U, Pt.locs, Pt.cells, Pt.slots] at X102 l102 y102 z102 st102 hQ102
  subst l102 y102 z102
  obtain ⟨rfl, M102, e102⟩ := hQ102
  have N102 := Fr.app N0 M102
  have g103 : Go p e below T102 (mkF m 4 #[rv a1, iv ch, iv (0 : Int32)] [(.int (1 : Int32))]) A0 := fun t kont => g101 t (st102.trans kont)
  have g104 : Go p e below T102 (mkF m 8 #[rv a1, iv ch, iv (0 : Int32)] [(.ref a1)]) A0 := by
    intro t kont
    refine g103 t ?_
    refine XS.ifNo X102.here hx rfl (hb hby d19_4) rfl ((if0 _ _).trans (feq (by decide : ¬ ((1 : Int32) = (0 : Int32)))).1) ?_
    refine XS.aloadN X102.here hx rfl (hb hby d19_7) rfl rfl ?_
    exact kont
  obtain ⟨T105, X105, e105, st105⟩ := getF X102 hx hZ hown (host := "") (Or.inl (hw _ (List.mem_of_getElem? (i := 25) rfl))) Via.refl e102 F2_ (g := (mkF m 8 #[rv a1, iv ch, iv (0 : Int32)] [(.ref a1)])) rfl rfl (hb hby d19_8)
  have g106 : Go p e below T105 (mkF m 11 #[rv a1, iv ch, iv (0 : Int32)] [(.ref v1)]) A0 := fun t kont => g104 t (st105 t kont)
  have g107 : Go p e below T105 (mkF m 14 #[rv a1, iv ch, iv (0 : Int32)] [(.ref a1), (.int (0 : Int32)), (.int ch), (.ref v1)]) A0 := by
    intro t kont
    refine g106 t ?_
    refine XS.iloadN X105.here hx rfl (hb hby d19_11) rfl ?_
    refine XS.iloadN X105.here hx rfl (hb hby d19_12) rfl ?_
    refine XS.aloadN X105.here hx rfl (hb hby d19_13) rfl rfl ?_
    exact kont
  obtain ⟨cq108, kq108, q108a, q108b, q108c⟩ := isOf hZ e105 E4_
  obtain ⟨_, _, ⟨T108, L108, k108, n108⟩, -, X108, ⟨Lc108, hQ108, l108, y108, z108⟩, st108⟩ := X105.virtualBack hx (y := (⟨"java/lang/String", "length", "()I"⟩ : MethodName)) (z := (⟨"java/lang/String", "length", "()I"⟩ : MethodName)) hown (mvT hZ (hw _ (List.mem_of_getElem? (i := 93) rfl))) (mvT hZ (hw _ (List.mem_of_getElem? (i := 51) rfl))) (notFace_of_selects (args := #[]) (mvT hZ (hw _ (List.mem_of_getElem? (i := 53) rfl)))) (mvT hZ (hw _ (List.mem_of_getElem? (i := 53) rfl))) (mvT hZ (hw _ (List.mem_of_getElem? (i := 52) rfl))) (by decide) (backOf (W := 3) (rm_lenS l Z a0 hw [] a1 v1 kv cs h0 n0 O0 S0_ hcs F2_ F3_ E4_ A5_) hZ (hw _ (List.mem_of_getElem? (i := 54) rfl)) (hw _ (List.mem_of_getElem? (i := 8) rfl)) (by decide) (by decide)) q108a q108c (g := (mkF m 14 #[rv a1, iv ch, iv (0 : Int32)] [(.ref a1), (.int (0 : Int32)), (.int ch), (.ref v1)])) rfl (by rw [hml]; rfl) (Steps.refl _) (argsL := []) (rest := [(.int (0 : Int32)), (.int ch), (.ref v1)]) (lenOf pd_17 rfl) rfl (by show 2 * 0 + _ ≤ _; exact Nat.le_of_eq rfl) (hb hby d19_14) (fun _ _ => ⟨rfl, e105, (by decide : 0 + 0 ≤ _), (by decide : 0 + 0 ≤ _)⟩)
  dsimp only [Pt.U, Pt.locs, Pt.cells, Pt.slots] at X108 l108 y108 z108 st108 hQ108
  subst l108 y108 z108
  obtain ⟨rfl, M108, e108⟩ := hQ108
  have N108 := Fr.app N102 M108
  have g109 : Go p e below T108 (mkF m 17 #[rv a1, iv ch, iv (0 : Int32)] [(.int (15 : Int32)), (.int (0 : Int32)), (.int ch), (.ref v1)]) A0 := fun t kont => g107 t (st108.trans kont)
  obtain ⟨_, _, ⟨T110, L110, k110, n110⟩, -, X110, ⟨Lc110, hQ110, l110, y110, z110⟩, st110⟩ := Jvm.LawKit.callS X108 hx (y := (⟨"java/lang/StringLatin1", "indexOf", "([BIII)I"⟩ : MethodName)) hown (mvT hZ (hw _ (List.mem_of_getElem? (i := 94) rfl))) (mvT hZ (hw _ (List.mem_of_getElem? (i := 95) rfl))) (mvT hZ (hw _ (List.mem_of_getElem? (i := 72) rfl))) (mvT hZ (hw _ (List.mem_of_getElem? (i := 96) rfl))) (by decide) (backOf (W := 0) (rm_lixL l Z a0 hw [] v1 ch kv h0 n0 O0 A5_ h0_ch h1_ch) hZ (hw _ (List.mem_of_getElem? (i := 96) rfl)) (hw _ (List.mem_of_getElem? (i := 72) rfl)) (by decide) (by decide)) (g := (mkF m 17 #[rv a1, iv ch, iv (0 : Int32)] [(.int (15 : Int32)), (.int (0 : Int32)), (.int ch), (.ref v1)])) rfl (by rw [hml]; rfl) (argsL := [(.ref v1), (.int ch), (.int (0 : Int32)), (.int (15 : Int32))]) (rest := []) (lenOf pd_16 rfl) rfl (by show 2 * 0 + _ ≤ _; exact Nat.le_of_eq rfl) (hb hby d19_17) (fun _ _ => ⟨rfl, e108, (by decide : 0 + 0 ≤ _), (by decide : 0 + 0 ≤ _)⟩)
  dsimp only [Pt.U, Pt.locs, Pt.cells, Pt.slots] at X110 l110 y110 z110 st110 hQ110
  subst l110 y110 z110
  obtain ⟨r111, rfl, M110, e110, y112⟩ := hQ110
  have N110 := Fr.app N108 M110
  have g113 : Go p e below T110 (mkF m 20 #[rv a1, iv ch, iv (0 : Int32)] [(.int r111)]) A0 := fun t kont => g109 t (st110 t kont)
  have g114 : Go p e below T110 (mkF m 36 #[rv a1, iv ch, iv (0 : Int32)] [(.int r111)]) A0 := by
    intro t kont
    refine g113 t ?_
    refine XS.goto X110.here hx rfl (pc0 := 20) (pc' := 36) rfl (hb hby d19_20) (by decide) (by decide) ?_
    exact kont
  obtain ⟨fs, hr, hrun, hended, hW, hsame⟩ := X110.leave (v := some (.int r111)) (fun h => by rw [Bd.returns] at h; cases h)
  refine ⟨_, _, g114 _ (retI X110 hx Bd.returns (hb hby d19_36) hr), hrun, hended, _, _, rfl, ?_, ⟨_, rfl⟩, hW, hsame.mono (by decide) (by decide)⟩
  show Q_ix2L Z a1 v1 ch kv cs h0 n0 _ T110.heap _
  rw [e110]
  exact ⟨r111, rfl, N110, rfl, y112⟩
theorem d18_0 : decode jdk_42_method_79_code 0 = .ok (.aload_n 0, 1) := by decide +kernel
theorem d18_1 : decode jdk_42_method_79_code 1 = .ok (.iload_n 1, 1) := by decide +kernel
theorem d18_2 : decode jdk_42_method_79_code 2 = .ok (.iconst 0, 1) := by decide +kernel
theorem d18_3 : decode jdk_42_method_79_code 3 = .ok (.invokevirtual 633, 3) := by decide +kernel
theorem d18_6 : decode jdk_42_method_79_code 6 = .ok (.ireturn, 1) := by decide +kernel
theorem ef_ix1L (m : MethodId) (x0 : Addr) (x1 : Int32)  : entryFrame m #[(.ref x0), (.int x1)] 2 = mkF m 0 #[.val (.ref x0), .val (.int x1)] [] := by first | (simp [entryFrame, mkF, argsToLocals, Value.category]; done) | rfl
def Q_ix1L (Z : State) (a1 : Addr) (v1 : Addr) (ch : Int32) (kv : ClassId) (cs : Int32) (h0 : Heap) (n0 : Nat) (v : Option Value) (h : Heap) (L : List Loc) : Prop := ∃ (ii : Int32), v = some (.int ii) ∧ Fr n0 L ∧ h = h0 ∧ (ii < (0 : Int32) ↔ ¬ own_sy ch)
set_option maxRecDepth 65536 in
set_option maxHeartbeats 40000000 in
theorem rm_ix1L (l : Launch) (Z : State) (a0 : Array Value) (hw : ∀ d ∈ tables_1, d.before a0 Z = true) (ws : List Jvm.Cond) (a1 : Addr) (v1 : Addr) (ch : Int32) (kv : ClassId) (cs : Int32) (h0 : Heap) (n0 : Nat) (O0 : Old Z n0 h0) (S0_ : Sta Z Z.heap "java/lang/String" "COMPACT_STRINGS" "Z" (.int cs)) (hcs : ¬ (cs = (0 : Int32))) (F2_ : Fld Z h0 a1 "java/lang/String" "value" "[B" (.ref v1)) (F3_ : Fld Z h0 a1 "java/lang/String" "coder" "B" (.int (0 : Int32))) (E4_ : Exa Z h0 a1 "java/lang/String") (A5_ : Arv Z h0 v1 kv .byte (15 : Int32) [(.int (33 : Int32)), (.int (35 : Int32)), (.int (36 : Int32)), (.int (37 : Int32)), (.int (38 : Int32)), (.int (39 : Int32)), (.int (42 : Int32)), (.int (43 : Int32)), (.int (45 : Int32)), (.int (46 : Int32)), (.int (94 : Int32)), (.int (95 : Int32)), (.int (96 : Int32)), (.int (124 : Int32)), (.int (126 : Int32))] (.int (0 : Int32))) (h0_ch : ¬ (ch < (0 : Int32))) (h1_ch : ¬ ((255 : Int32) < ch)) :
    MetFree l (⟨"java/lang/String", "indexOf", "(I)I"⟩ : MethodName) (head1 (Jvm.Cond.code (⟨"java/lang/String", "indexOf", "(I)I"⟩ : MethodName) jdk_42_method_79_code 2 (some .int) :: ws) ({ frames := 3, cells := 0, slots := 0, locals := 46 } : Room)) (fun a U => a = #[(.ref a1), (.int ch)] ∧ Z.Warmed39 U.vm ∧ U.heap = h0) (fun _ _ _ _ _ => True) (fun _ U o U' => ∃ v L, o = .returned v ∧ Q_ix1L Z a1 v1 ch kv cs h0 n0 v U'.heap L ∧ FrameEnd U o U' L ({ frames := 3, cells := 0, slots := 0, locals := 46 } : Room).cells ({ frames := 3, cells := 0, slots := 0, locals := 46 } : Room).slots) := by
  refine MetFree.of_bodySF (plainFor_of_name pn_java_lang_String) hisR ?_
  intro p e s m args below meth c s₁ Bd hml0 hP hK
  obtain ⟨rfl, hZ, hh⟩ := hP
  have hx := Bd.exec
  have hby := Bd.bytes
  have hml : c.maxLocals = 2 := hml0
  have hown : s.vm.findClass "java/lang/String" = some m.cls := findClass_of_methodNamed Bd.named
  have hnm := (name_of_methodNamed Bd.named Bd.method).1
  have X0 : Stand p l e ({ frames := 3, cells := 0, slots := 0, locals := 46 } : Room) s m #[(.ref a1), (.int ch)] below meth c s₁ [] 0 0 := Stand.of_body Bd
  have e0 : s₁.heap = h0 := by rw [← hh, Bd.state]; rfl
  have N0 := Fr.nil n0
  have g0 : Go p e below s₁ (mkF m 0 #[rv a1, iv ch] []) (s₁.setTop (entryFrame m #[(.ref a1), (.int ch)] 2)) := fun t kont => castTop (ef_ix1L m a1 ch ) kont
  generalize s₁.setTop (entryFrame m #[(.ref a1), (.int ch)] 2) = A0 at g0 ⊢
  have g101 : Go p e below s₁ (mkF m 3 #[rv a1, iv ch] [(.int (0 : Int32)), (.int ch), (.ref a1)]) A0 := by
    intro t kont
    refine g0 t ?_
    refine XS.aloadN X0.here hx rfl (hb hby d18_0) rfl rfl ?_
    refine XS.iloadN X0.here hx rfl (hb hby d18_1) rfl ?_
    refine XS.iconst X0.here hx rfl (hb hby d18_2) ?_
    exact kont
  obtain ⟨cq102, kq102, q102a, q102b, q102c⟩ := isOf hZ e0 E4_
  obtain ⟨_, _, ⟨T102, L102, k102, n102⟩, -, X102, ⟨Lc102, hQ102, l102, y102, z102⟩, st102⟩ := X0.virtualBack hx (y := (⟨"java/lang/String", "indexOf", "(II)I"⟩ : MethodName)) (z := (⟨"java/lang/String", "indexOf", "(II)I"⟩ : MethodName)) hown (mvT hZ (hw _ (List.mem_of_getElem? (i := 88) rfl))) (mvT hZ (hw _ (List.mem_of_getElem? (i := 89) rfl))) (notFace_of_selects (args := #[]) (mvT hZ (hw _ (List.mem_of_getElem? (i := 91) rfl)))) (mvT hZ (hw _ (List.mem_of_getElem? (i := 91) rfl))) (mvT hZ (hw _ (List.mem_of_getElem? (i := 90) rfl))) (by decide) (backOf (W := 0) (rm_ix2L l Z a0 hw [] a1 v1 ch kv cs h0 n0 O0 S0_ hcs F2_ F3_ E4_ A5_ h0_ch h1_ch) hZ (hw _ (List.mem_of_getElem? (i := 92) rfl)) (hw _ (List.mem_of_getElem? (i := 8) rfl)) (by decide) (by decide)) q102a q102c (g := (mkF m 3 #[rv a1, iv ch] [(.int (0 : Int32)), (.int ch), (.ref a1)])) rfl (by rw [hml]; rfl) (Steps.refl _) (argsL := [(.int ch), (.int (0 : Int32))]) (rest := []) (lenOf pd_15 rfl) rfl (by show 2 * 0 + _ ≤ _; exact Nat.le_of_eq rfl) (hb hby d18_3) (fun _ _ => ⟨rfl, e0, (by decide : 0 + 0 ≤ _), (by decide : 0 + 0 ≤ _)⟩)
  dsimp only [Pt.U, Pt.locs, Pt.cells, Pt.slots] at X102 l102 y102 z102 st102 hQ102
  subst l102 y102 z102
  obtain ⟨r103, rfl, M102, e102, y104⟩ := hQ102
  have N102 := Fr.app N0 M102
  have g105 : Go p e below T102 (mkF m 6 #[rv a1, iv ch] [(.int r103)]) A0 := fun t kont => g101 t (st102.trans kont)
  obtain ⟨fs, hr, hrun, hended, hW, hsame⟩ := X102.leave (v := some (.int r103)) (fun h => by rw [Bd.returns] at h; cases h)
  refine ⟨_, _, g105 _ (retI X102 hx Bd.returns (hb hby d18_6) hr), hrun, hended, _, _, rfl, ?_, ⟨_, rfl⟩, hW, hsame.mono (by decide) (by decide)⟩
  show Q_ix1L Z a1 v1 ch kv cs h0 n0 _ T102.heap _
  rw [e102]
  exact ⟨r103, rfl, N102, rfl, y104⟩
theorem d20_7 : decode jdk_43_method_22_code 7 = .ok (.iconst (-1), 1) := by decide +kernel
theorem d20_8 : decode jdk_43_method_22_code 8 = .ok (.ireturn, 1) := by decide +kernel
theorem ef_lixU (m : MethodId) (x0 : Addr) (x1 : Int32) (x2 : Int32) (x3 : Int32)  : entryFrame m #[(.ref x0), (.int x1), (.int x2), (.int x3)] 4 = mkF m 0 #[.val (.ref x0), .val (.int x1), .val (.int x2), .val (.int x3)] [] := by first | (simp [entryFrame, mkF, argsToLocals, Value.category]; done) | rfl
def Q_lixU (Z : State) (v1 : Addr) (ch : Int32) (kv : ClassId) (h0 : Heap) (n0 : Nat) (v : Option Value) (h : Heap) (L : List Loc) : Prop := ∃ (ii : Int32), v = some (.int ii) ∧ Fr n0 L ∧ h = h0 ∧ (ii < (0 : Int32) ↔ ¬ own_sy ch)
set_option maxRecDepth 65536 in
set_option maxHeartbeats 40000000 in
theorem rm_lixU (l : Launch) (Z : State) (a0 : Array Value) (hw : ∀ d ∈ tables_1, d.before a0 Z = true) (ws : List Jvm.Cond) (v1 : Addr) (ch : Int32) (kv : ClassId) (h0 : Heap) (n0 : Nat) (O0 : Old Z n0 h0) (A0_ : Arv Z h0 v1 kv .byte (15 : Int32) [(.int (33 : Int32)), (.int (35 : Int32)), (.int (36 : Int32)), (.int (37 : Int32)), (.int (38 : Int32)), (.int (39 : Int32)), (.int (42 : Int32)), (.int (43 : Int32)), (.int (45 : Int32)), (.int (46 : Int32)), (.int (94 : Int32)), (.int (95 : Int32)), (.int (96 : Int32)), (.int (124 : Int32)), (.int (126 : Int32))] (.int (0 : Int32))) (h0_ch : ¬ (ch < (0 : Int32))) (h1_ch : (255 : Int32) < ch) :
    MetFree l (⟨"java/lang/StringLatin1", "indexOf", "([BIII)I"⟩ : MethodName) (head1 (Jvm.Cond.code (⟨"java/lang/StringLatin1", "indexOf", "([BIII)I"⟩ : MethodName) jdk_43_method_22_code 4 (some .int) :: ws) ({ frames := 1, cells := 0, slots := 0, locals := 12 } : Room)) (fun a U => a = #[(.ref v1), (.int ch), (.int (0 : Int32)), (.int (15 : Int32))] ∧ Z.Warmed39 U.vm ∧ U.heap = h0) (fun _ _ _ _ _ => True) (fun _ U o U' => ∃ v L, o = .returned v ∧ Q_lixU Z v1 ch kv h0 n0 v U'.heap L ∧ FrameEnd U o U' L ({ frames := 1, cells := 0, slots := 0, locals := 12 } : Room).cells ({ frames := 1, cells := 0, slots := 0, locals := 12 } : Room).slots) := by
  refine MetFree.of_bodySF (plainFor_of_name pn_java_lang_StringLatin1) hisR ?_
  intro p e s m args below meth c s₁ Bd hml0 hP hK
  obtain ⟨rfl, hZ, hh⟩ := hP
  have hx := Bd.exec
  have hby := Bd.bytes
  have hml : c.maxLocals = 4 := hml0
  have hown : s.vm.findClass "java/lang/StringLatin1" = some m.cls := findClass_of_methodNamed Bd.named
  have hnm := (name_of_methodNamed Bd.named Bd.method).1
  have X0 : Stand p l e ({ frames := 1, cells := 0, slots := 0, locals := 12 } : Room) s m #[(.ref v1), (.int ch), (.int (0 : Int32)), (.int (15 : Int32))] below meth c s₁ [] 0 0 := Stand.of_body Bd
  have e0 : s₁.heap = h0 := by rw [← hh, Bd.state]; rfl
  have N0 := Fr.nil n0
  have g0 : Go p e below s₁ (mkF m 0 #[rv v1, iv ch, iv (0 : Int32), iv (15 : Int32)] []) (s₁.setTop (entryFrame m #[(.ref v1), (.int ch), (.int (0 : Int32)), (.int (15 : Int32))] 4)) := fun t kont => castTop (ef_lixU m v1 ch (0 : Int32) (15 : Int32) ) kont
  generalize s₁.setTop (entryFrame m #[(.ref v1), (.int ch), (.int (0 : Int32)), (.int (15 : Int32))] 4) = A0 at g0 ⊢
  have g101 : Go p e below s₁ (mkF m 1 #[rv v1, iv ch, iv (0 : Int32), iv (15 : Int32)] [(.int ch)]) A0 := by
    intro t kont
    refine g0 t ?_
    refine XS.iloadN X0.here hx rfl (hb hby d20_0) rfl ?_
    exact kont
  obtain ⟨_, _, ⟨T102, L102, k102, n102⟩, -, X102, ⟨Lc102, hQ102, l102, y102, z102⟩, st102⟩ := Jvm.LawKit.callS X0 hx (y := (⟨"java/lang/StringLatin1", "canEncode", "(I)Z"⟩ : MethodName)) hown (mvT hZ (hw _ (List.mem_of_getElem? (i := 97) rfl))) (mvT hZ (hw _ (List.mem_of_getElem? (i := 98) rfl))) (mvT hZ (hw _ (List.mem_of_getElem? (i := 72) rfl))) (mvT hZ (hw _ (List.mem_of_getElem? (i := 99) rfl))) (by decide) (backOf (W := 0) (rm_ceU l Z a0 hw [] ch h0 n0 O0 h0_ch h1_ch) hZ (hw _ (List.mem_of_getElem? (i := 99) rfl)) (hw _ (List.mem_of_getElem? (i := 72) rfl)) (by decide) (by decide)) (g := (mkF m 1 #[rv v1, iv ch, iv (0 : Int32), iv (15 : Int32)] [(.int ch)])) rfl (by rw [hml]; rfl) (argsL := [(.int ch)]) (rest := []) (lenOf pd_14 rfl) rfl (by show 2 * 0 + _ ≤ _; exact Nat.le_of_eq rfl) (hb hby d20_1) (fun _ _ => ⟨rfl, e0, (by decide : 0 + 0 ≤ _), (by decide : 0 + 0 ≤ _)⟩)
  dsimp only [Pt.U, Pt.locs, Pt.cells, Pt.slots] at X102 l102 y102 z102 st102 hQ102
  subst l102 y102 z102
  obtain ⟨rfl, M102, e102⟩ := hQ102
  have N102 := Fr.app N0 M102
  have g103 : Go p e below T102 (mkF m 4 #[rv v1, iv ch, iv (0 : Int32), iv (15 : Int32)] [(.int (0 : Int32))]) A0 := fun t kont => g101 t (st102 t kont)
  have g104 : Go p e below T102 (mkF m 8 #[rv v1, iv ch, iv (0 : Int32), iv (15 : Int32)] [(.int (-1 : Int32))]) A0 := by
    intro t kont
    refine g103 t ?_
    refine XS.ifNo X102.here hx rfl (hb hby d20_4) rfl ((if0 _ _).trans (teq (by decide : (0 : Int32) = (0 : Int32))).2) ?_
    refine XS.iconst X102.here hx rfl (hb hby d20_7) ?_
    exact kont
  have q1 : 255 < ch.toInt := Int32.lt_iff_toInt_lt.mp h1_ch
  obtain ⟨fs, hr, hrun, hended, hW, hsame⟩ := X102.leave (v := some (.int (-1 : Int32))) (fun h => by rw [Bd.returns] at h; cases h)
  refine ⟨_, _, g104 _ (retI X102 hx Bd.returns (hb hby d20_8) hr), hrun, hended, _, _, rfl, ?_, ⟨_, rfl⟩, hW, hsame.mono (by decide) (by decide)⟩
  show Q_lixU Z v1 ch kv h0 n0 _ T102.heap _
  rw [e102]
  exact ⟨(-1 : Int32), rfl, N102, rfl, by unfold own_sy; exact iff_of_true (by decide) (by omega)⟩
theorem ef_ix2U (m : MethodId) (x0 : Addr) (x1 : Int32) (x2 : Int32)  : entryFrame m #[(.ref x0), (.int x1), (.int x2)] 3 = mkF m 0 #[.val (.ref x0), .val (.int x1), .val (.int x2)] [] := by first | (simp [entryFrame, mkF, argsToLocals, Value.category]; done) | rfl
def Q_ix2U (Z : State) (a1 : Addr) (v1 : Addr) (ch : Int32) (kv : ClassId) (cs : Int32) (h0 : Heap) (n0 : Nat) (v : Option Value) (h : Heap) (L : List Loc) : Prop := ∃ (ii : Int32), v = some (.int ii) ∧ Fr n0 L ∧ h = h0 ∧ (ii < (0 : Int32) ↔ ¬ own_sy ch)
set_option maxRecDepth 65536 in
set_option maxHeartbeats 40000000 in
theorem rm_ix2U (l : Launch) (Z : State) (a0 : Array Value) (hw : ∀ d ∈ tables_1, d.before a0 Z = true) (ws : List Jvm.Cond) (a1 : Addr) (v1 : Addr) (ch : Int32) (kv : ClassId) (cs : Int32) (h0 : Heap) (n0 : Nat) (O0 : Old Z n0 h0) (S0_ : Sta Z Z.heap "java/lang/String" "COMPACT_STRINGS" "Z" (.int cs)) (hcs : ¬ (cs = (0 : Int32))) (F2_ : Fld Z h0 a1 "java/lang/String" "value" "[B" (.ref v1)) (F3_ : Fld Z h0 a1 "java/lang/String" "coder" "B" (.int (0 : Int32))) (E4_ : Exa Z h0 a1 "java/lang/String") (A5_ : Arv Z h0 v1 kv .byte (15 : Int32) [(.int (33 : Int32)), (.int (35 : Int32)), (.int (36 : Int32)), (.int (37 : Int32)), (.int (38 : Int32)), (.int (39 : Int32)), (.int (42 : Int32)), (.int (43 : Int32)), (.int (45 : Int32)), (.int (46 : Int32)), (.int (94 : Int32)), (.int (95 : Int32)), (.int (96 : Int32)), (.int (124 : Int32)), (.int (126 : Int32))] (.int (0 : Int32))) (h0_ch : ¬ (ch < (0 : Int32))) (h1_ch : (255 : Int32) < ch) :
    MetFree l (⟨"java/lang/String", "indexOf", "(II)I"⟩ : MethodName) (head1 (Jvm.Cond.code (⟨"java/lang/String", "indexOf", "(II)I"⟩ : MethodName) jdk_42_method_80_code 3 (some .int) :: ws) ({ frames := 2, cells := 0, slots := 0, locals := 28 } : Room)) (fun a U => a = #[(.ref a1), (.int ch), (.int (0 : Int32))] ∧ Z.Warmed39 U.vm ∧ U.heap = h0) (fun _ _ _ _ _ => True) (fun _ U o U' => ∃ v L, o = .returned v ∧ Q_ix2U Z a1 v1 ch kv cs h0 n0 v U'.heap L ∧ FrameEnd U o U' L ({ frames := 2, cells := 0, slots := 0, locals := 28 } : Room).cells ({ frames := 2, cells := 0, slots := 0, locals := 28 } : Room).slots) := by
  refine MetFree.of_bodySF (plainFor_of_name pn_java_lang_String) hisR ?_
  intro p e s m args below meth c s₁ Bd hml0 hP hK
  obtain ⟨rfl, hZ, hh⟩ := hP
  have hx := Bd.exec
  have hby := Bd.bytes
  have hml : c.maxLocals = 3 := hml0
  have hown : s.vm.findClass "java/lang/String" = some m.cls := findClass_of_methodNamed Bd.named
  have hnm := (name_of_methodNamed Bd.named Bd.method).1
  have X0 : Stand p l e ({ frames := 2, cells := 0, slots := 0, locals := 28 } : Room) s m #[(.ref a1), (.int ch), (.int (0 : Int32))] below meth c s₁ [] 0 0 := Stand.of_body Bd
  have e0 : s₁.heap = h0 := by rw [← hh, Bd.state]; rfl
  have N0 := Fr.nil n0
  have g0 : Go p e below s₁ (mkF m 0 #[rv a1, iv ch, iv (0 : Int32)] []) (s₁.setTop (entryFrame m #[(.ref a1), (.int ch), (.int (0 : Int32))] 3)) := fun t kont => castTop (ef_ix2U m a1 ch (0 : Int32) ) kont
  generalize s₁.setTop (entryFrame m #[(.ref a1), (.int ch), (.int (0 : Int32))] 3) = A0 at g0 ⊢
  have g101 : Go p e below s₁ (mkF m 1 #[rv a1, iv ch, iv (0 : Int32)] [(.ref a1)]) A0 := by
    intro t kont
    refine g0 t ?_
    refine XS.aloadN X0.here hx rfl (hb hby d19_0) rfl rfl ?_
    exact kont
  obtain ⟨cq102, kq102, q102a, q102b, q102c⟩ := isOf hZ e0 E4_
  obtain ⟨_, _, ⟨T102, L102, k102, n102⟩, -, X102, ⟨Lc102, hQ102, l102, y102, z102⟩, st102⟩ := X0.virtualBack hx (y := (⟨"java/lang/String", "isLatin1", "()Z"⟩ : MethodName)) (z := (⟨"java/lang/String", "isLatin1", "()Z"⟩ : MethodName)) hown (mvT hZ (hw _ (List.mem_of_getElem? (i := 65) rfl))) (mvT hZ (hw _ (List.mem_of_getElem? (i := 66) rfl))) (notFace_of_selects (args := #[]) (mvT hZ (hw _ (List.mem_of_getElem? (i := 68) rfl)))) (mvT hZ (hw _ (List.mem_of_getElem? (i := 68) rfl))) (mvT hZ (hw _ (List.mem_of_getElem? (i := 67) rfl))) (by decide) (backOf (W := 0) (rm_isl0 l Z a0 hw [] a1 cs h0 n0 O0 S0_ hcs F3_) hZ (hw _ (List.mem_of_getElem? (i := 69) rfl)) (hw _ (List.mem_of_getElem? (i := 8) rfl)) (by decide) (by decide)) q102a q102c (g := (mkF m 1 #[rv a1, iv ch, iv (0 : Int32)] [(.ref a1)])) rfl (by rw [hml]; rfl) (Steps.refl _) (argsL := []) (rest := []) (lenOf pd_13 rfl) rfl (by show 2 * 0 + _ ≤ _; exact Nat.le_of_eq rfl) (hb hby d19_1) (fun _ _ => ⟨rfl, e0, (by decide : 0 + 0 ≤ _), (by decide : 0 + 0 ≤ _)⟩)
  dsimp only [Pt.U, Pt.locs, Pt.cells, Pt.slots] at X102 l102 y102 z102 st102 hQ102
  subst l102 y102 z102
  obtain ⟨rfl, M102, e102⟩ := hQ102
  have N102 := Fr.app N0 M102
  have g103 : Go p e below T102 (mkF m 4 #[rv a1, iv ch, iv (0 : Int32)] [(.int (1 : Int32))]) A0 := fun t kont => g101 t (st102.trans kont)
  have g104 : Go p e below T102 (mkF m 8 #[rv a1, iv ch, iv (0 : Int32)] [(.ref a1)]) A0 := by
    intro t kont
    refine g103 t ?_
    refine XS.ifNo X102.here hx rfl (hb hby d19_4) rfl ((if0 _ _).trans (feq (by decide : ¬ ((1 : Int32) = (0 : Int32)))).1) ?_
    refine XS.aloadN X102.here hx rfl (hb hby d19_7) rfl rfl ?_
    exact kont
  obtain ⟨T105, X105, e105, st105⟩ := getF X102 hx hZ hown (host := "") (Or.inl (hw _ (List.mem_of_getElem? (i := 25) rfl))) Via.refl e102 F2_ (g := (mkF m 8 #[rv a1, iv ch, iv (0 : Int32)] [(.ref a1)])) rfl rfl (hb hby d19_8)
  have g106 : Go p e below T105 (mkF m 11 #[rv a1, iv ch, iv (0 : Int32)] [(.ref v1)]) A0 := fun t kont => g104 t (st105 t kont)
  have g107 : Go p e below T105 (mkF m 14 #[rv a1, iv ch, iv (0 : Int32)] [(.ref a1), (.int (0 : Int32)), (.int ch), (.ref v1)]) A0 := by
    intro t kont
    refine g106 t ?_
    refine XS.iloadN X105.here hx rfl (hb hby d19_11) rfl ?_
    refine XS.iloadN X105.here hx rfl (hb hby d19_12) rfl ?_
    refine XS.aloadN X105.here hx rfl (hb hby d19_13) rfl rfl ?_
    exact kont
  obtain ⟨cq108, kq108, q108a, q108b, q108c⟩ := isOf hZ e105 E4_
  obtain ⟨_, _, ⟨T108, L108, k108, n108⟩, -, X108, ⟨Lc108, hQ108, l108, y108, z108⟩, st108⟩ := X105.virtualBack hx (y := (⟨"java/lang/String", "length", "()I"⟩ : MethodName)) (z := (⟨"java/lang/String", "length", "()I"⟩ : MethodName)) hown (mvT hZ (hw _ (List.mem_of_getElem? (i := 93) rfl))) (mvT hZ (hw _ (List.mem_of_getElem? (i := 51) rfl))) (notFace_of_selects (args := #[]) (mvT hZ (hw _ (List.mem_of_getElem? (i := 53) rfl)))) (mvT hZ (hw _ (List.mem_of_getElem? (i := 53) rfl))) (mvT hZ (hw _ (List.mem_of_getElem? (i := 52) rfl))) (by decide) (backOf (W := 3) (rm_lenS l Z a0 hw [] a1 v1 kv cs h0 n0 O0 S0_ hcs F2_ F3_ E4_ A5_) hZ (hw _ (List.mem_of_getElem? (i := 54) rfl)) (hw _ (List.mem_of_getElem? (i := 8) rfl)) (by decide) (by decide)) q108a q108c (g := (mkF m 14 #[rv a1, iv ch, iv (0 : Int32)] [(.ref a1), (.int (0 : Int32)), (.int ch), (.ref v1)])) rfl (by rw [hml]; rfl) (Steps.refl _) (argsL := []) (rest := [(.int (0 : Int32)), (.int ch), (.ref v1)]) (lenOf pd_17 rfl) rfl (by show 2 * 0 + _ ≤ _; exact Nat.le_of_eq rfl) (hb hby d19_14) (fun _ _ => ⟨rfl, e105, (by decide : 0 + 0 ≤ _), (by decide : 0 + 0 ≤ _)⟩)
  dsimp only [Pt.U, Pt.locs, Pt.cells, Pt.slots] at X108 l108 y108 z108 st108 hQ108
  subst l108 y108 z108
  obtain ⟨rfl, M108, e108⟩ := hQ108
  have N108 := Fr.app N102 M108
  have g109 : Go p e below T108 (mkF m 17 #[rv a1, iv ch, iv (0 : Int32)] [(.int (15 : Int32)), (.int (0 : Int32)), (.int ch), (.ref v1)]) A0 := fun t kont => g107 t (st108.trans kont)
  obtain ⟨_, _, ⟨T110, L110, k110, n110⟩, -, X110, ⟨Lc110, hQ110, l110, y110, z110⟩, st110⟩ := Jvm.LawKit.callS X108 hx (y := (⟨"java/lang/StringLatin1", "indexOf", "([BIII)I"⟩ : MethodName)) hown (mvT hZ (hw _ (List.mem_of_getElem? (i := 94) rfl))) (mvT hZ (hw _ (List.mem_of_getElem? (i := 95) rfl))) (mvT hZ (hw _ (List.mem_of_getElem? (i := 72) rfl))) (mvT hZ (hw _ (List.mem_of_getElem? (i := 96) rfl))) (by decide) (backOf (W := 0) (rm_lixU l Z a0 hw [] v1 ch kv h0 n0 O0 A5_ h0_ch h1_ch) hZ (hw _ (List.mem_of_getElem? (i := 96) rfl)) (hw _ (List.mem_of_getElem? (i := 72) rfl)) (by decide) (by decide)) (g := (mkF m 17 #[rv a1, iv ch, iv (0 : Int32)] [(.int (15 : Int32)), (.int (0 : Int32)), (.int ch), (.ref v1)])) rfl (by rw [hml]; rfl) (argsL := [(.ref v1), (.int ch), (.int (0 : Int32)), (.int (15 : Int32))]) (rest := []) (lenOf pd_16 rfl) rfl (by show 2 * 0 + _ ≤ _; exact Nat.le_of_eq rfl) (hb hby d19_17) (fun _ _ => ⟨rfl, e108, (by decide : 0 + 0 ≤ _), (by decide : 0 + 0 ≤ _)⟩)
  dsimp only [Pt.U, Pt.locs, Pt.cells, Pt.slots] at X110 l110 y110 z110 st110 hQ110
  subst l110 y110 z110
  obtain ⟨r111, rfl, M110, e110, y112⟩ := hQ110
  have N110 := Fr.app N108 M110
  have g113 : Go p e below T110 (mkF m 20 #[rv a1, iv ch, iv (0 : Int32)] [(.int r111)]) A0 := fun t kont => g109 t (st110 t kont)
  have g114 : Go p e below T110 (mkF m 36 #[rv a1, iv ch, iv (0 : Int32)] [(.int r111)]) A0 := by
    intro t kont
    refine g113 t ?_
    refine XS.goto X110.here hx rfl (pc0 := 20) (pc' := 36) rfl (hb hby d19_20) (by decide) (by decide) ?_
    exact kont
  obtain ⟨fs, hr, hrun, hended, hW, hsame⟩ := X110.leave (v := some (.int r111)) (fun h => by rw [Bd.returns] at h; cases h)
  refine ⟨_, _, g114 _ (retI X110 hx Bd.returns (hb hby d19_36) hr), hrun, hended, _, _, rfl, ?_, ⟨_, rfl⟩, hW, hsame.mono (by decide) (by decide)⟩
  show Q_ix2U Z a1 v1 ch kv cs h0 n0 _ T110.heap _
  rw [e110]
  exact ⟨r111, rfl, N110, rfl, y112⟩
theorem ef_ix1U (m : MethodId) (x0 : Addr) (x1 : Int32)  : entryFrame m #[(.ref x0), (.int x1)] 2 = mkF m 0 #[.val (.ref x0), .val (.int x1)] [] := by first | (simp [entryFrame, mkF, argsToLocals, Value.category]; done) | rfl
def Q_ix1U (Z : State) (a1 : Addr) (v1 : Addr) (ch : Int32) (kv : ClassId) (cs : Int32) (h0 : Heap) (n0 : Nat) (v : Option Value) (h : Heap) (L : List Loc) : Prop := ∃ (ii : Int32), v = some (.int ii) ∧ Fr n0 L ∧ h = h0 ∧ (ii < (0 : Int32) ↔ ¬ own_sy ch)
set_option maxRecDepth 65536 in
set_option maxHeartbeats 40000000 in
theorem rm_ix1U (l : Launch) (Z : State) (a0 : Array Value) (hw : ∀ d ∈ tables_1, d.before a0 Z = true) (ws : List Jvm.Cond) (a1 : Addr) (v1 : Addr) (ch : Int32) (kv : ClassId) (cs : Int32) (h0 : Heap) (n0 : Nat) (O0 : Old Z n0 h0) (S0_ : Sta Z Z.heap "java/lang/String" "COMPACT_STRINGS" "Z" (.int cs)) (hcs : ¬ (cs = (0 : Int32))) (F2_ : Fld Z h0 a1 "java/lang/String" "value" "[B" (.ref v1)) (F3_ : Fld Z h0 a1 "java/lang/String" "coder" "B" (.int (0 : Int32))) (E4_ : Exa Z h0 a1 "java/lang/String") (A5_ : Arv Z h0 v1 kv .byte (15 : Int32) [(.int (33 : Int32)), (.int (35 : Int32)), (.int (36 : Int32)), (.int (37 : Int32)), (.int (38 : Int32)), (.int (39 : Int32)), (.int (42 : Int32)), (.int (43 : Int32)), (.int (45 : Int32)), (.int (46 : Int32)), (.int (94 : Int32)), (.int (95 : Int32)), (.int (96 : Int32)), (.int (124 : Int32)), (.int (126 : Int32))] (.int (0 : Int32))) (h0_ch : ¬ (ch < (0 : Int32))) (h1_ch : (255 : Int32) < ch) :
    MetFree l (⟨"java/lang/String", "indexOf", "(I)I"⟩ : MethodName) (head1 (Jvm.Cond.code (⟨"java/lang/String", "indexOf", "(I)I"⟩ : MethodName) jdk_42_method_79_code 2 (some .int) :: ws) ({ frames := 3, cells := 0, slots := 0, locals := 42 } : Room)) (fun a U => a = #[(.ref a1), (.int ch)] ∧ Z.Warmed39 U.vm ∧ U.heap = h0) (fun _ _ _ _ _ => True) (fun _ U o U' => ∃ v L, o = .returned v ∧ Q_ix1U Z a1 v1 ch kv cs h0 n0 v U'.heap L ∧ FrameEnd U o U' L ({ frames := 3, cells := 0, slots := 0, locals := 42 } : Room).cells ({ frames := 3, cells := 0, slots := 0, locals := 42 } : Room).slots) := by
  refine MetFree.of_bodySF (plainFor_of_name pn_java_lang_String) hisR ?_
  intro p e s m args below meth c s₁ Bd hml0 hP hK
  obtain ⟨rfl, hZ, hh⟩ := hP
  have hx := Bd.exec
  have hby := Bd.bytes
  have hml : c.maxLocals = 2 := hml0
  have hown : s.vm.findClass "java/lang/String" = some m.cls := findClass_of_methodNamed Bd.named
  have hnm := (name_of_methodNamed Bd.named Bd.method).1
  have X0 : Stand p l e ({ frames := 3, cells := 0, slots := 0, locals := 42 } : Room) s m #[(.ref a1), (.int ch)] below meth c s₁ [] 0 0 := Stand.of_body Bd
  have e0 : s₁.heap = h0 := by rw [← hh, Bd.state]; rfl
  have N0 := Fr.nil n0
  have g0 : Go p e below s₁ (mkF m 0 #[rv a1, iv ch] []) (s₁.setTop (entryFrame m #[(.ref a1), (.int ch)] 2)) := fun t kont => castTop (ef_ix1U m a1 ch ) kont
  generalize s₁.setTop (entryFrame m #[(.ref a1), (.int ch)] 2) = A0 at g0 ⊢
  have g101 : Go p e below s₁ (mkF m 3 #[rv a1, iv ch] [(.int (0 : Int32)), (.int ch), (.ref a1)]) A0 := by
    intro t kont
    refine g0 t ?_
    refine XS.aloadN X0.here hx rfl (hb hby d18_0) rfl rfl ?_
    refine XS.iloadN X0.here hx rfl (hb hby d18_1) rfl ?_
    refine XS.iconst X0.here hx rfl (hb hby d18_2) ?_
    exact kont
  obtain ⟨cq102, kq102, q102a, q102b, q102c⟩ := isOf hZ e0 E4_
  obtain ⟨_, _, ⟨T102, L102, k102, n102⟩, -, X102, ⟨Lc102, hQ102, l102, y102, z102⟩, st102⟩ := X0.virtualBack hx (y := (⟨"java/lang/String", "indexOf", "(II)I"⟩ : MethodName)) (z := (⟨"java/lang/String", "indexOf", "(II)I"⟩ : MethodName)) hown (mvT hZ (hw _ (List.mem_of_getElem? (i := 88) rfl))) (mvT hZ (hw _ (List.mem_of_getElem? (i := 89) rfl))) (notFace_of_selects (args := #[]) (mvT hZ (hw _ (List.mem_of_getElem? (i := 91) rfl)))) (mvT hZ (hw _ (List.mem_of_getElem? (i := 91) rfl))) (mvT hZ (hw _ (List.mem_of_getElem? (i := 90) rfl))) (by decide) (backOf (W := 0) (rm_ix2U l Z a0 hw [] a1 v1 ch kv cs h0 n0 O0 S0_ hcs F2_ F3_ E4_ A5_ h0_ch h1_ch) hZ (hw _ (List.mem_of_getElem? (i := 92) rfl)) (hw _ (List.mem_of_getElem? (i := 8) rfl)) (by decide) (by decide)) q102a q102c (g := (mkF m 3 #[rv a1, iv ch] [(.int (0 : Int32)), (.int ch), (.ref a1)])) rfl (by rw [hml]; rfl) (Steps.refl _) (argsL := [(.int ch), (.int (0 : Int32))]) (rest := []) (lenOf pd_15 rfl) rfl (by show 2 * 0 + _ ≤ _; exact Nat.le_of_eq rfl) (hb hby d18_3) (fun _ _ => ⟨rfl, e0, (by decide : 0 + 0 ≤ _), (by decide : 0 + 0 ≤ _)⟩)
  dsimp only [Pt.U, Pt.locs, Pt.cells, Pt.slots] at X102 l102 y102 z102 st102 hQ102
  subst l102 y102 z102
  obtain ⟨r103, rfl, M102, e102, y104⟩ := hQ102
  have N102 := Fr.app N0 M102
  have g105 : Go p e below T102 (mkF m 6 #[rv a1, iv ch] [(.int r103)]) A0 := fun t kont => g101 t (st102.trans kont)
  obtain ⟨fs, hr, hrun, hended, hW, hsame⟩ := X102.leave (v := some (.int r103)) (fun h => by rw [Bd.returns] at h; cases h)
  refine ⟨_, _, g105 _ (retI X102 hx Bd.returns (hb hby d18_6) hr), hrun, hended, _, _, rfl, ?_, ⟨_, rfl⟩, hW, hsame.mono (by decide) (by decide)⟩
  show Q_ix1U Z a1 v1 ch kv cs h0 n0 _ T102.heap _
  rw [e102]
  exact ⟨r103, rfl, N102, rfl, y104⟩
theorem d5_25 : decode prog_16_method_6_code 25 = .ok (.iload_n 2, 1) := by decide +kernel
theorem d5_26 : decode prog_16_method_6_code 26 = .ok (.bipush 65, 2) := by decide +kernel
theorem d5_28 : decode prog_16_method_6_code 28 = .ok (.if_icmp .lt 9, 3) := by decide +kernel
theorem d5_37 : decode prog_16_method_6_code 37 = .ok (.iload_n 2, 1) := by decide +kernel
theorem d5_38 : decode prog_16_method_6_code 38 = .ok (.bipush 97, 2) := by decide +kernel
theorem d5_40 : decode prog_16_method_6_code 40 = .ok (.if_icmp .lt 9, 3) := by decide +kernel
theorem d5_49 : decode prog_16_method_6_code 49 = .ok (.iload_n 2, 1) := by decide +kernel
theorem d5_50 : decode prog_16_method_6_code 50 = .ok (.bipush 48, 2) := by decide +kernel
theorem d5_52 : decode prog_16_method_6_code 52 = .ok (.if_icmp .lt 13, 3) := by decide +kernel
theorem d5_65 : decode prog_16_method_6_code 65 = .ok (.iconst 0, 1) := by decide +kernel
theorem d5_55 : decode prog_16_method_6_code 55 = .ok (.iload_n 2, 1) := by decide +kernel
theorem d5_56 : decode prog_16_method_6_code 56 = .ok (.bipush 57, 2) := by decide +kernel
theorem d5_58 : decode prog_16_method_6_code 58 = .ok (.if_icmp .gt 7, 3) := by decide +kernel
theorem d5_61 : decode prog_16_method_6_code 61 = .ok (.iconst 1, 1) := by decide +kernel
theorem d5_62 : decode prog_16_method_6_code 62 = .ok (.goto 4, 3) := by decide +kernel
theorem d5_43 : decode prog_16_method_6_code 43 = .ok (.iload_n 2, 1) := by decide +kernel
theorem d5_44 : decode prog_16_method_6_code 44 = .ok (.bipush 122, 2) := by decide +kernel
theorem d5_46 : decode prog_16_method_6_code 46 = .ok (.if_icmp .le 15, 3) := by decide +kernel
theorem d5_31 : decode prog_16_method_6_code 31 = .ok (.iload_n 2, 1) := by decide +kernel
theorem d5_32 : decode prog_16_method_6_code 32 = .ok (.bipush 90, 2) := by decide +kernel
theorem d5_34 : decode prog_16_method_6_code 34 = .ok (.if_icmp .le 27, 3) := by decide +kernel
set_option maxRecDepth 65536 in
set_option maxHeartbeats 40000000 in
theorem pz_al {p : Program} {l : Launch} {e : Env} {R : Room} {s : State} {m : MethodId} {args : Array Value} {below : List Frame} {meth : Method} {c : Code} {T0 : State} {locs : List Loc} {cells slots : Nat} (X0 : Stand p l e R s m args below meth c T0 locs cells slots) (hx : p.tables.exec = Jvm.exec) (hby : c.code = prog_16_method_6_code) (a1 : Addr) (i1 : Int32) (ch : Int32) (sl : Slot)  :
    ∃ al : Int32, (al = (0 : Int32) ∨ al = (1 : Int32)) ∧ (al = (1 : Int32) ↔ own_al ch) ∧ Go p e below T0 (mkF m 66 #[rv a1, iv i1, iv ch, sl] [(.int al)]) (T0.setTop (mkF m 25 #[rv a1, iv i1, iv ch, sl] [])) := by
  have g0 : Go p e below T0 (mkF m 25 #[rv a1, iv i1, iv ch, sl] []) (T0.setTop (mkF m 25 #[rv a1, iv i1, iv ch, sl] [])) := fun t kont => kont
  generalize T0.setTop (mkF m 25 #[rv a1, iv i1, iv ch, sl] []) = A0 at g0 ⊢
  have g102 : Go p e below T0 (mkF m 28 #[rv a1, iv i1, iv ch, sl] [(.int (65 : Int32)), (.int ch)]) A0 := by
    intro t kont
    refine g0 t ?_
    refine XS.iloadN X0.here hx rfl (hb hby d5_25) rfl ?_
    refine XS.bipush X0.here hx rfl (hb hby d5_26) ?_
    exact kont
  by_cases c101 : ch < (65 : Int32)
  ·
    have q103 : ch.toInt < 65 := Int32.lt_iff_toInt_lt.mp c101
    have g105 : Go p e below T0 (mkF m 40 #[rv a1, iv i1, iv ch, sl] [(.int (97 : Int32)), (.int ch)]) A0 := by
      intro t kont
      refine g102 t ?_
      refine XS.icmpYes X0.here hx rfl (pc0 := 28) (pc' := 37) rfl (hb hby d5_28) rfl (tlt c101).1 (by decide) (by decide) ?_
      refine XS.iloadN X0.here hx rfl (hb hby d5_37) rfl ?_
      refine XS.bipush X0.here hx rfl (hb hby d5_38) ?_
      exact kont
    by_cases c104 : ch < (97 : Int32)
    ·
      have q106 : ch.toInt < 97 := Int32.lt_iff_toInt_lt.mp c104
      have g108 : Go p e below T0 (mkF m 52 #[rv a1, iv i1, iv ch, sl] [(.int (48 : Int32)), (.int ch)]) A0 := by
        intro t kont
        refine g105 t ?_
        refine XS.icmpYes X0.here hx rfl (pc0 := 40) (pc' := 49) rfl (hb hby d5_40) rfl (tlt c104).1 (by decide) (by decide) ?_
        refine XS.iloadN X0.here hx rfl (hb hby d5_49) rfl ?_
        refine XS.bipush X0.here hx rfl (hb hby d5_50) ?_
        exact kont
      by_cases c107 : ch < (48 : Int32)
      ·
        have q109 : ch.toInt < 48 := Int32.lt_iff_toInt_lt.mp c107
        have g110 : Go p e below T0 (mkF m 66 #[rv a1, iv i1, iv ch, sl] [(.int (0 : Int32))]) A0 := by
          intro t kont
          refine g108 t ?_
          refine XS.icmpYes X0.here hx rfl (pc0 := 52) (pc' := 65) rfl (hb hby d5_52) rfl (tlt c107).1 (by decide) (by decide) ?_
          refine XS.iconst X0.here hx rfl (hb hby d5_65) ?_
          exact kont
        exact ⟨(0 : Int32), (Or.inl rfl), (by unfold own_al; exact iff_of_false (by decide) (by omega)), g110⟩
      have q111 : ¬ (ch.toInt < 48) := fun z => c107 (Int32.lt_iff_toInt_lt.mpr z)
      have g113 : Go p e below T0 (mkF m 58 #[rv a1, iv i1, iv ch, sl] [(.int (57 : Int32)), (.int ch)]) A0 := by
        intro t kont
        refine g108 t ?_
        refine XS.icmpNo X0.here hx rfl (hb hby d5_52) rfl (flt c107).1 ?_
        refine XS.iloadN X0.here hx rfl (hb hby d5_55) rfl ?_
        refine XS.bipush X0.here hx rfl (hb hby d5_56) ?_
        exact kont
      by_cases c112 : (57 : Int32) < ch
      ·
        have q114 : 57 < ch.toInt := Int32.lt_iff_toInt_lt.mp c112
        have g115 : Go p e below T0 (mkF m 66 #[rv a1, iv i1, iv ch, sl] [(.int (0 : Int32))]) A0 := by
          intro t kont
          refine g113 t ?_
          refine XS.icmpYes X0.here hx rfl (pc0 := 58) (pc' := 65) rfl (hb hby d5_58) rfl (tlt c112).2.2.1 (by decide) (by decide) ?_
          refine XS.iconst X0.here hx rfl (hb hby d5_65) ?_
          exact kont
        exact ⟨(0 : Int32), (Or.inl rfl), (by unfold own_al; exact iff_of_false (by decide) (by omega)), g115⟩
      have q116 : ¬ (57 < ch.toInt) := fun z => c112 (Int32.lt_iff_toInt_lt.mpr z)
      have g117 : Go p e below T0 (mkF m 66 #[rv a1, iv i1, iv ch, sl] [(.int (1 : Int32))]) A0 := by
        intro t kont
        refine g113 t ?_
        refine XS.icmpNo X0.here hx rfl (hb hby d5_58) rfl (flt c112).2.2.1 ?_
        refine XS.iconst X0.here hx rfl (hb hby d5_61) ?_
        refine XS.goto X0.here hx rfl (pc0 := 62) (pc' := 66) rfl (hb hby d5_62) (by decide) (by decide) ?_
        exact kont
      exact ⟨(1 : Int32), (Or.inr rfl), (by unfold own_al; exact iff_of_true rfl (by omega)), g117⟩
    have q118 : ¬ (ch.toInt < 97) := fun z => c104 (Int32.lt_iff_toInt_lt.mpr z)
    have g120 : Go p e below T0 (mkF m 46 #[rv a1, iv i1, iv ch, sl] [(.int (122 : Int32)), (.int ch)]) A0 := by
      intro t kont
      refine g105 t ?_
      refine XS.icmpNo X0.here hx rfl (hb hby d5_40) rfl (flt c104).1 ?_
      refine XS.iloadN X0.here hx rfl (hb hby d5_43) rfl ?_
      refine XS.bipush X0.here hx rfl (hb hby d5_44) ?_
      exact kont
    by_cases c119 : (122 : Int32) < ch
    ·
      have q121 : 122 < ch.toInt := Int32.lt_iff_toInt_lt.mp c119
      have g123 : Go p e below T0 (mkF m 52 #[rv a1, iv i1, iv ch, sl] [(.int (48 : Int32)), (.int ch)]) A0 := by
        intro t kont
        refine g120 t ?_
        refine XS.icmpNo X0.here hx rfl (hb hby d5_46) rfl (tlt c119).2.2.2 ?_
        refine XS.iloadN X0.here hx rfl (hb hby d5_49) rfl ?_
        refine XS.bipush X0.here hx rfl (hb hby d5_50) ?_
        exact kont
      by_cases c122 : ch < (48 : Int32)
      ·
        have q124 : ch.toInt < 48 := Int32.lt_iff_toInt_lt.mp c122
        have g125 : Go p e below T0 (mkF m 66 #[rv a1, iv i1, iv ch, sl] [(.int (0 : Int32))]) A0 := by
          intro t kont
          refine g123 t ?_
          refine XS.icmpYes X0.here hx rfl (pc0 := 52) (pc' := 65) rfl (hb hby d5_52) rfl (tlt c122).1 (by decide) (by decide) ?_
          refine XS.iconst X0.here hx rfl (hb hby d5_65) ?_
          exact kont
        exact ⟨(0 : Int32), (Or.inl rfl), (by unfold own_al; exact iff_of_false (by decide) (by omega)), g125⟩
      have q126 : ¬ (ch.toInt < 48) := fun z => c122 (Int32.lt_iff_toInt_lt.mpr z)
      have g128 : Go p e below T0 (mkF m 58 #[rv a1, iv i1, iv ch, sl] [(.int (57 : Int32)), (.int ch)]) A0 := by
        intro t kont
        refine g123 t ?_
        refine XS.icmpNo X0.here hx rfl (hb hby d5_52) rfl (flt c122).1 ?_
        refine XS.iloadN X0.here hx rfl (hb hby d5_55) rfl ?_
        refine XS.bipush X0.here hx rfl (hb hby d5_56) ?_
        exact kont
      by_cases c127 : (57 : Int32) < ch
      ·
        have q129 : 57 < ch.toInt := Int32.lt_iff_toInt_lt.mp c127
        have g130 : Go p e below T0 (mkF m 66 #[rv a1, iv i1, iv ch, sl] [(.int (0 : Int32))]) A0 := by
          intro t kont
          refine g128 t ?_
          refine XS.icmpYes X0.here hx rfl (pc0 := 58) (pc' := 65) rfl (hb hby d5_58) rfl (tlt c127).2.2.1 (by decide) (by decide) ?_
          refine XS.iconst X0.here hx rfl (hb hby d5_65) ?_
          exact kont
        exact ⟨(0 : Int32), (Or.inl rfl), (by unfold own_al; exact iff_of_false (by decide) (by omega)), g130⟩
      have q131 : ¬ (57 < ch.toInt) := fun z => c127 (Int32.lt_iff_toInt_lt.mpr z)
      have g132 : Go p e below T0 (mkF m 66 #[rv a1, iv i1, iv ch, sl] [(.int (1 : Int32))]) A0 := by
        intro t kont
        refine g128 t ?_
        refine XS.icmpNo X0.here hx rfl (hb hby d5_58) rfl (flt c127).2.2.1 ?_
        refine XS.iconst X0.here hx rfl (hb hby d5_61) ?_
        refine XS.goto X0.here hx rfl (pc0 := 62) (pc' := 66) rfl (hb hby d5_62) (by decide) (by decide) ?_
        exact kont
      exact ⟨(1 : Int32), (Or.inr rfl), (by unfold own_al; exact iff_of_true rfl (by omega)), g132⟩
    have q133 : ¬ (122 < ch.toInt) := fun z => c119 (Int32.lt_iff_toInt_lt.mpr z)
    have g134 : Go p e below T0 (mkF m 66 #[rv a1, iv i1, iv ch, sl] [(.int (1 : Int32))]) A0 := by
      intro t kont
      refine g120 t ?_
      refine XS.icmpYes X0.here hx rfl (pc0 := 46) (pc' := 61) rfl (hb hby d5_46) rfl (flt c119).2.2.2 (by decide) (by decide) ?_
      refine XS.iconst X0.here hx rfl (hb hby d5_61) ?_
      refine XS.goto X0.here hx rfl (pc0 := 62) (pc' := 66) rfl (hb hby d5_62) (by decide) (by decide) ?_
      exact kont
    exact ⟨(1 : Int32), (Or.inr rfl), (by unfold own_al; exact iff_of_true rfl (by omega)), g134⟩
  have q135 : ¬ (ch.toInt < 65) := fun z => c101 (Int32.lt_iff_toInt_lt.mpr z)
  have g137 : Go p e below T0 (mkF m 34 #[rv a1, iv i1, iv ch, sl] [(.int (90 : Int32)), (.int ch)]) A0 := by
    intro t kont
    refine g102 t ?_
    refine XS.icmpNo X0.here hx rfl (hb hby d5_28) rfl (flt c101).1 ?_
    refine XS.iloadN X0.here hx rfl (hb hby d5_31) rfl ?_
    refine XS.bipush X0.here hx rfl (hb hby d5_32) ?_
    exact kont
  by_cases c136 : (90 : Int32) < ch
  ·
    have q138 : 90 < ch.toInt := Int32.lt_iff_toInt_lt.mp c136
    have g140 : Go p e below T0 (mkF m 40 #[rv a1, iv i1, iv ch, sl] [(.int (97 : Int32)), (.int ch)]) A0 := by
      intro t kont
      refine g137 t ?_
      refine XS.icmpNo X0.here hx rfl (hb hby d5_34) rfl (tlt c136).2.2.2 ?_
      refine XS.iloadN X0.here hx rfl (hb hby d5_37) rfl ?_
      refine XS.bipush X0.here hx rfl (hb hby d5_38) ?_
      exact kont
    by_cases c139 : ch < (97 : Int32)
    ·
      have q141 : ch.toInt < 97 := Int32.lt_iff_toInt_lt.mp c139
      have g143 : Go p e below T0 (mkF m 52 #[rv a1, iv i1, iv ch, sl] [(.int (48 : Int32)), (.int ch)]) A0 := by
        intro t kont
        refine g140 t ?_
        refine XS.icmpYes X0.here hx rfl (pc0 := 40) (pc' := 49) rfl (hb hby d5_40) rfl (tlt c139).1 (by decide) (by decide) ?_
        refine XS.iloadN X0.here hx rfl (hb hby d5_49) rfl ?_
        refine XS.bipush X0.here hx rfl (hb hby d5_50) ?_
        exact kont
      by_cases c142 : ch < (48 : Int32)
      ·
        have q144 : ch.toInt < 48 := Int32.lt_iff_toInt_lt.mp c142
        have g145 : Go p e below T0 (mkF m 66 #[rv a1, iv i1, iv ch, sl] [(.int (0 : Int32))]) A0 := by
          intro t kont
          refine g143 t ?_
          refine XS.icmpYes X0.here hx rfl (pc0 := 52) (pc' := 65) rfl (hb hby d5_52) rfl (tlt c142).1 (by decide) (by decide) ?_
          refine XS.iconst X0.here hx rfl (hb hby d5_65) ?_
          exact kont
        exact ⟨(0 : Int32), (Or.inl rfl), (by unfold own_al; exact iff_of_false (by decide) (by omega)), g145⟩
      have q146 : ¬ (ch.toInt < 48) := fun z => c142 (Int32.lt_iff_toInt_lt.mpr z)
      have g148 : Go p e below T0 (mkF m 58 #[rv a1, iv i1, iv ch, sl] [(.int (57 : Int32)), (.int ch)]) A0 := by
        intro t kont
        refine g143 t ?_
        refine XS.icmpNo X0.here hx rfl (hb hby d5_52) rfl (flt c142).1 ?_
        refine XS.iloadN X0.here hx rfl (hb hby d5_55) rfl ?_
        refine XS.bipush X0.here hx rfl (hb hby d5_56) ?_
        exact kont
      by_cases c147 : (57 : Int32) < ch
      ·
        have q149 : 57 < ch.toInt := Int32.lt_iff_toInt_lt.mp c147
        have g150 : Go p e below T0 (mkF m 66 #[rv a1, iv i1, iv ch, sl] [(.int (0 : Int32))]) A0 := by
          intro t kont
          refine g148 t ?_
          refine XS.icmpYes X0.here hx rfl (pc0 := 58) (pc' := 65) rfl (hb hby d5_58) rfl (tlt c147).2.2.1 (by decide) (by decide) ?_
          refine XS.iconst X0.here hx rfl (hb hby d5_65) ?_
          exact kont
        exact ⟨(0 : Int32), (Or.inl rfl), (by unfold own_al; exact iff_of_false (by decide) (by omega)), g150⟩
      have q151 : ¬ (57 < ch.toInt) := fun z => c147 (Int32.lt_iff_toInt_lt.mpr z)
      have g152 : Go p e below T0 (mkF m 66 #[rv a1, iv i1, iv ch, sl] [(.int (1 : Int32))]) A0 := by
        intro t kont
        refine g148 t ?_
        refine XS.icmpNo X0.here hx rfl (hb hby d5_58) rfl (flt c147).2.2.1 ?_
        refine XS.iconst X0.here hx rfl (hb hby d5_61) ?_
        refine XS.goto X0.here hx rfl (pc0 := 62) (pc' := 66) rfl (hb hby d5_62) (by decide) (by decide) ?_
        exact kont
      exact ⟨(1 : Int32), (Or.inr rfl), (by unfold own_al; exact iff_of_true rfl (by omega)), g152⟩
    have q153 : ¬ (ch.toInt < 97) := fun z => c139 (Int32.lt_iff_toInt_lt.mpr z)
    have g155 : Go p e below T0 (mkF m 46 #[rv a1, iv i1, iv ch, sl] [(.int (122 : Int32)), (.int ch)]) A0 := by
      intro t kont
      refine g140 t ?_
      refine XS.icmpNo X0.here hx rfl (hb hby d5_40) rfl (flt c139).1 ?_
      refine XS.iloadN X0.here hx rfl (hb hby d5_43) rfl ?_
      refine XS.bipush X0.here hx rfl (hb hby d5_44) ?_
      exact kont
    by_cases c154 : (122 : Int32) < ch
    ·
      have q156 : 122 < ch.toInt := Int32.lt_iff_toInt_lt.mp c154
      have g158 : Go p e below T0 (mkF m 52 #[rv a1, iv i1, iv ch, sl] [(.int (48 : Int32)), (.int ch)]) A0 := by
        intro t kont
        refine g155 t ?_
        refine XS.icmpNo X0.here hx rfl (hb hby d5_46) rfl (tlt c154).2.2.2 ?_
        refine XS.iloadN X0.here hx rfl (hb hby d5_49) rfl ?_
        refine XS.bipush X0.here hx rfl (hb hby d5_50) ?_
        exact kont
      by_cases c157 : ch < (48 : Int32)
      ·
        have q159 : ch.toInt < 48 := Int32.lt_iff_toInt_lt.mp c157
        have g160 : Go p e below T0 (mkF m 66 #[rv a1, iv i1, iv ch, sl] [(.int (0 : Int32))]) A0 := by
          intro t kont
          refine g158 t ?_
          refine XS.icmpYes X0.here hx rfl (pc0 := 52) (pc' := 65) rfl (hb hby d5_52) rfl (tlt c157).1 (by decide) (by decide) ?_
          refine XS.iconst X0.here hx rfl (hb hby d5_65) ?_
          exact kont
        exact ⟨(0 : Int32), (Or.inl rfl), (by unfold own_al; exact iff_of_false (by decide) (by omega)), g160⟩
      have q161 : ¬ (ch.toInt < 48) := fun z => c157 (Int32.lt_iff_toInt_lt.mpr z)
      have g163 : Go p e below T0 (mkF m 58 #[rv a1, iv i1, iv ch, sl] [(.int (57 : Int32)), (.int ch)]) A0 := by
        intro t kont
        refine g158 t ?_
        refine XS.icmpNo X0.here hx rfl (hb hby d5_52) rfl (flt c157).1 ?_
        refine XS.iloadN X0.here hx rfl (hb hby d5_55) rfl ?_
        refine XS.bipush X0.here hx rfl (hb hby d5_56) ?_
        exact kont
      by_cases c162 : (57 : Int32) < ch
      ·
        have q164 : 57 < ch.toInt := Int32.lt_iff_toInt_lt.mp c162
        have g165 : Go p e below T0 (mkF m 66 #[rv a1, iv i1, iv ch, sl] [(.int (0 : Int32))]) A0 := by
          intro t kont
          refine g163 t ?_
          refine XS.icmpYes X0.here hx rfl (pc0 := 58) (pc' := 65) rfl (hb hby d5_58) rfl (tlt c162).2.2.1 (by decide) (by decide) ?_
          refine XS.iconst X0.here hx rfl (hb hby d5_65) ?_
          exact kont
        exact ⟨(0 : Int32), (Or.inl rfl), (by unfold own_al; exact iff_of_false (by decide) (by omega)), g165⟩
      have q166 : ¬ (57 < ch.toInt) := fun z => c162 (Int32.lt_iff_toInt_lt.mpr z)
      have g167 : Go p e below T0 (mkF m 66 #[rv a1, iv i1, iv ch, sl] [(.int (1 : Int32))]) A0 := by
        intro t kont
        refine g163 t ?_
        refine XS.icmpNo X0.here hx rfl (hb hby d5_58) rfl (flt c162).2.2.1 ?_
        refine XS.iconst X0.here hx rfl (hb hby d5_61) ?_
        refine XS.goto X0.here hx rfl (pc0 := 62) (pc' := 66) rfl (hb hby d5_62) (by decide) (by decide) ?_
        exact kont
      exact ⟨(1 : Int32), (Or.inr rfl), (by unfold own_al; exact iff_of_true rfl (by omega)), g167⟩
    have q168 : ¬ (122 < ch.toInt) := fun z => c154 (Int32.lt_iff_toInt_lt.mpr z)
    have g169 : Go p e below T0 (mkF m 66 #[rv a1, iv i1, iv ch, sl] [(.int (1 : Int32))]) A0 := by
      intro t kont
      refine g155 t ?_
      refine XS.icmpYes X0.here hx rfl (pc0 := 46) (pc' := 61) rfl (hb hby d5_46) rfl (flt c154).2.2.2 (by decide) (by decide) ?_
      refine XS.iconst X0.here hx rfl (hb hby d5_61) ?_
      refine XS.goto X0.here hx rfl (pc0 := 62) (pc' := 66) rfl (hb hby d5_62) (by decide) (by decide) ?_
      exact kont
    exact ⟨(1 : Int32), (Or.inr rfl), (by unfold own_al; exact iff_of_true rfl (by omega)), g169⟩
  have q170 : ¬ (90 < ch.toInt) := fun z => c136 (Int32.lt_iff_toInt_lt.mpr z)
  have g171 : Go p e below T0 (mkF m 66 #[rv a1, iv i1, iv ch, sl] [(.int (1 : Int32))]) A0 := by
    intro t kont
    refine g137 t ?_
    refine XS.icmpYes X0.here hx rfl (pc0 := 34) (pc' := 61) rfl (hb hby d5_34) rfl (flt c136).2.2.2 (by decide) (by decide) ?_
    refine XS.iconst X0.here hx rfl (hb hby d5_61) ?_
    refine XS.goto X0.here hx rfl (pc0 := 62) (pc' := 66) rfl (hb hby d5_62) (by decide) (by decide) ?_
    exact kont
  exact ⟨(1 : Int32), (Or.inr rfl), (by unfold own_al; exact iff_of_true rfl (by omega)), g171⟩
theorem d5_0 : decode prog_16_method_6_code 0 = .ok (.aload_n 0, 1) := by decide +kernel
theorem d5_1 : decode prog_16_method_6_code 1 = .ok (.invokevirtual 101, 3) := by decide +kernel
theorem d5_4 : decode prog_16_method_6_code 4 = .ok (.ifCond .eq 5, 3) := by decide +kernel
theorem d5_7 : decode prog_16_method_6_code 7 = .ok (.iconst 0, 1) := by decide +kernel
theorem d5_8 : decode prog_16_method_6_code 8 = .ok (.ireturn, 1) := by decide +kernel
theorem pn_com_example_rolegate_rolegate_MethodSet : plainName "com/example/rolegate/rolegate/MethodSet" = true := by first | (simp [plainName, overriddenIn]; done) | decide +kernel
theorem ef_isM0 (m : MethodId) (x0 : Addr)  : entryFrame m #[(.ref x0)] 4 = mkF m 0 #[.val (.ref x0), .unset, .unset, .unset] [] := by first | (simp [entryFrame, mkF, argsToLocals, Value.category]; done) | rfl
def Q_isM0 (Z : State) (a1 : Addr) (v1 : Addr) (kv : ClassId) (vs1 : List Value) (h0 : Heap) (n0 : Nat) (v : Option Value) (h : Heap) (L : List Loc) : Prop := v = some (.int (0 : Int32)) ∧ Fr n0 L ∧ Keep h0 h []
set_option maxRecDepth 65536 in
set_option maxHeartbeats 40000000 in
theorem rm_isM0 (l : Launch) (Z : State) (a0 : Array Value) (hw : ∀ d ∈ tables_1, d.before a0 Z = true) (ws : List Jvm.Cond) (a1 : Addr) (v1 : Addr) (kv : ClassId) (vs1 : List Value) (h0 : Heap) (n0 : Nat) (O0 : Old Z n0 h0) (E0_ : Exa Z h0 a1 "java/lang/String") (F1_ : Fld Z h0 a1 "java/lang/String" "value" "[B" (.ref v1)) (A2_ : Arv Z h0 v1 kv .byte (0 : Int32) vs1 (.int (0 : Int32))) :
    MetFree l (⟨"com/example/rolegate/rolegate/MethodSet", "isMethodName", "(Ljava/lang/String;)Z"⟩ : MethodName) (head1 (Jvm.Cond.code (⟨"com/example/rolegate/rolegate/MethodSet", "isMethodName", "(Ljava/lang/String;)Z"⟩ : MethodName) prog_16_method_6_code 4 (some .boolean) :: ws) ({ frames := 1, cells := 0, slots := 0, locals := 12 } : Room)) (fun a U => a = #[(.ref a1)] ∧ Z.Warmed39 U.vm ∧ U.heap = h0 ∧ CHv Z consts_1 U.vm h0) (fun _ _ _ _ _ => True) (fun _ U o U' => ∃ v L, o = .returned v ∧ Q_isM0 Z a1 v1 kv vs1 h0 n0 v U'.heap L ∧ CHr Z consts_1 U.vm U.heap U'.vm U'.heap ∧ ReturnedEndW U o U' L ({ frames := 1, cells := 0, slots := 0, locals := 12 } : Room).cells ({ frames := 1, cells := 0, slots := 0, locals := 12 } : Room).slots) := by
  refine MetFree.of_bodySF (plainFor_of_name pn_com_example_rolegate_rolegate_MethodSet) hisR ?_
  intro p e s m args below meth c s₁ Bd hml0 hP hK
  obtain ⟨rfl, hZ, hh, hC0⟩ := hP
  have hx := Bd.exec
  have hby := Bd.bytes
  have hml : c.maxLocals = 4 := hml0
  have hown : s.vm.findClass "com/example/rolegate/rolegate/MethodSet" = some m.cls := findClass_of_methodNamed Bd.named
  have hnm := (name_of_methodNamed Bd.named Bd.method).1
  have X0 : Stand p l e ({ frames := 1, cells := 0, slots := 0, locals := 12 } : Room) (s.setVm s.vm) m #[(.ref a1)] below meth c s₁ [] 0 0 := Stand.of_body Bd
  have e0 : s₁.heap = h0 := by rw [← hh, Bd.state]; rfl
  have N0 := Fr.nil n0
  have hS : s.Since s.vm 0 := (State.WarmedH.refl s).since 0
  have hk : 0 ≤ h0.size := Nat.zero_le _
  have hZ : Z.Warmed39 (s.setVm s.vm).vm := hZ
  have hown : (s.setVm s.vm).vm.findClass "com/example/rolegate/rolegate/MethodSet" = some m.cls := hown
  have R0 : CHr Z consts_1 s.vm h0 s.vm h0 := CHr.refl hC0
  have g0 : Go p e below s₁ (mkF m 0 #[rv a1, .unset, .unset, .unset] []) (s₁.setTop (entryFrame m #[(.ref a1)] 4)) := fun t kont => castTop (ef_isM0 m a1 ) kont
  generalize s₁.setTop (entryFrame m #[(.ref a1)] 4) = A0 at g0 ⊢
  have g101 : Go p e below s₁ (mkF m 1 #[rv a1, .unset, .unset, .unset] [(.ref a1)]) A0 := by
    intro t kont
    refine g0 t ?_
    refine XS.aloadN X0.here hx rfl (hb hby d5_0) rfl rfl ?_
    exact kont
  obtain ⟨cq102, kq102, q102a, q102b, q102c⟩ := isOf hZ e0 E0_
  obtain ⟨_, _, ⟨T102, L102, k102, n102⟩, -, X102, ⟨Lc102, hQ102, l102, y102, z102⟩, st102⟩ := X0.virtualBack hx (y := (⟨"java/lang/String", "isEmpty", "()Z"⟩ : MethodName)) (z := (⟨"java/lang/String", "isEmpty", "()Z"⟩ : MethodName)) hown (mvT hZ (hw _ (List.mem_of_getElem? (i := 31) rfl))) (mvT hZ (hw _ (List.mem_of_getElem? (i := 32) rfl))) (notFace_of_selects (args := #[]) (mvT hZ (hw _ (List.mem_of_getElem? (i := 34) rfl)))) (mvT hZ (hw _ (List.mem_of_getElem? (i := 34) rfl))) (mvT hZ (hw _ (List.mem_of_getElem? (i := 33) rfl))) (by decide) (backOf (W := 0) (rm_isE0 l Z a0 hw [] a1 v1 kv vs1 h0 n0 O0 F1_ A2_) hZ (hw _ (List.mem_of_getElem? (i := 35) rfl)) (hw _ (List.mem_of_getElem? (i := 8) rfl)) (by decide) (by decide)) q102a q102c (g := (mkF m 1 #[rv a1, .unset, .unset, .unset] [(.ref a1)])) rfl (by rw [hml]; rfl) (Steps.refl _) (argsL := []) (rest := []) (lenOf pd_13 rfl) rfl (by show 2 * 0 + _ ≤ _; exact Nat.le_of_eq rfl) (hb hby d5_1) (fun _ _ => ⟨rfl, e0, (by decide : 0 + 0 ≤ _), (by decide : 0 + 0 ≤ _)⟩)
  dsimp only [Pt.U, Pt.locs, Pt.cells, Pt.slots] at X102 l102 y102 z102 st102 hQ102
  subst l102 y102 z102
  obtain ⟨rfl, M102, e102⟩ := hQ102
  have N102 := Fr.app N0 M102
  have g103 : Go p e below T102 (mkF m 4 #[rv a1, .unset, .unset, .unset] [(.int (1 : Int32))]) A0 := fun t kont => g101 t (st102.trans kont)
  have g104 : Go p e below T102 (mkF m 8 #[rv a1, .unset, .unset, .unset] [(.int (0 : Int32))]) A0 := by
    intro t kont
    refine g103 t ?_
    refine XS.ifNo X102.here hx rfl (hb hby d5_4) rfl ((if0 _ _).trans (feq (by decide : ¬ ((1 : Int32) = (0 : Int32)))).1) ?_
    refine XS.iconst X102.here hx rfl (hb hby d5_7) ?_
    exact kont
  have K105 : Keep h0 h0 [] := (Keep.refl h0 [])
  obtain ⟨fs, hr, hrun, hended, hRW⟩ := X102.leaveW hS (by rw [e102]; exact hk) (v := some (.int (0 : Int32))) (fun h => by rw [Bd.returns] at h; cases h)
  refine ⟨_, _, g104 _ (retN X102 hx (t := .boolean) Bd.returns (by simp) (hb hby d5_8) hr), hrun, hended, _, _, rfl, ?_, ?_, hRW.1, hRW.2.1, hRW.2.2.1, hRW.2.2.2.mono (by decide) (by decide)⟩
  ·
    show Q_isM0 Z a1 v1 kv vs1 h0 n0 _ T102.heap _
    rw [e102]
    exact ⟨rfl, N102, K105⟩
  ·
    rw [hh]
    show CHr Z consts_1 s.vm h0 T102.vm T102.heap
    rw [e102]
    exact R0.trans (CHv.at X102 hZ (own_EW hw) R0.1)
theorem d5_9 : decode prog_16_method_6_code 9 = .ok (.iconst 0, 1) := by decide +kernel
theorem d5_10 : decode prog_16_method_6_code 10 = .ok (.istore_n 1, 1) := by decide +kernel
theorem d5_11 : decode prog_16_method_6_code 11 = .ok (.iload_n 1, 1) := by decide +kernel
theorem d5_12 : decode prog_16_method_6_code 12 = .ok (.aload_n 0, 1) := by decide +kernel
theorem d5_13 : decode prog_16_method_6_code 13 = .ok (.invokevirtual 104, 3) := by decide +kernel
theorem d5_16 : decode prog_16_method_6_code 16 = .ok (.if_icmp .ge 72, 3) := by decide +kernel
theorem d5_19 : decode prog_16_method_6_code 19 = .ok (.aload_n 0, 1) := by decide +kernel
theorem d5_20 : decode prog_16_method_6_code 20 = .ok (.iload_n 1, 1) := by decide +kernel
theorem d5_21 : decode prog_16_method_6_code 21 = .ok (.invokevirtual 108, 3) := by decide +kernel
theorem pd_18 : parseMethodDescriptor "(I)C" = some ⟨[.int], some .char⟩ := by decide +kernel
theorem d5_24 : decode prog_16_method_6_code 24 = .ok (.istore_n 2, 1) := by decide +kernel
theorem d5_66 : decode prog_16_method_6_code 66 = .ok (.istore_n 3, 1) := by decide +kernel
theorem d5_67 : decode prog_16_method_6_code 67 = .ok (.iload_n 3, 1) := by decide +kernel
theorem d5_68 : decode prog_16_method_6_code 68 = .ok (.ifCond .ne 14, 3) := by decide +kernel
theorem d5_71 : decode prog_16_method_6_code 71 = .ok (.ldc 112, 2) := by decide +kernel
theorem d5_73 : decode prog_16_method_6_code 73 = .ok (.iload_n 2, 1) := by decide +kernel
theorem d5_74 : decode prog_16_method_6_code 74 = .ok (.invokevirtual 114, 3) := by decide +kernel
theorem d5_77 : decode prog_16_method_6_code 77 = .ok (.ifCond .ge 5, 3) := by decide +kernel
theorem d5_82 : decode prog_16_method_6_code 82 = .ok (.iinc 1 1, 3) := by decide +kernel
theorem d5_85 : decode prog_16_method_6_code 85 = .ok (.goto (-74), 3) := by decide +kernel
theorem d5_88 : decode prog_16_method_6_code 88 = .ok (.iconst 1, 1) := by decide +kernel
theorem d5_89 : decode prog_16_method_6_code 89 = .ok (.ireturn, 1) := by decide +kernel
theorem d5_80 : decode prog_16_method_6_code 80 = .ok (.iconst 0, 1) := by decide +kernel
theorem d5_81 : decode prog_16_method_6_code 81 = .ok (.ireturn, 1) := by decide +kernel
theorem ef_isM1 (m : MethodId) (x0 : Addr)  : entryFrame m #[(.ref x0)] 4 = mkF m 0 #[.val (.ref x0), .unset, .unset, .unset] [] := by first | (simp [entryFrame, mkF, argsToLocals, Value.category]; done) | rfl
def Q_isM1 (Z : State) (a1 : Addr) (v1 : Addr) (kv : ClassId) (cs : Int32) (fm : Value) (cd : Int32) (z1 : Int32) (vs : List Value) (c0_ : Int32) (h0 : Heap) (n0 : Nat) (v : Option Value) (h : Heap) (L : List Loc) : Prop := ∃ (rr : Int32), v = some (.int rr) ∧ Fr n0 L ∧ Keep h0 h [] ∧ (rr = (0 : Int32) ∨ rr = (1 : Int32)) ∧ (rr = (1 : Int32) ↔ (own_tok c0_))
set_option maxRecDepth 65536 in
set_option maxHeartbeats 40000000 in
theorem rm_isM1 (l : Launch) (Z : State) (a0 : Array Value) (hw : ∀ d ∈ tables_1, d.before a0 Z = true) (ws : List Jvm.Cond) (a1 : Addr) (v1 : Addr) (kv : ClassId) (cs : Int32) (fm : Value) (cd : Int32) (z1 : Int32) (vs : List Value) (c0_ : Int32) (h0 : Heap) (n0 : Nat) (O0 : Old Z n0 h0) (S0_ : Sta Z Z.heap "java/lang/String" "COMPACT_STRINGS" "Z" (.int cs)) (hcs : ¬ (cs = (0 : Int32))) (E2_ : Exa Z h0 a1 "java/lang/String") (F3_ : Fld Z h0 a1 "java/lang/String" "value" "[B" (.ref v1)) (F4_ : Fld Z h0 a1 "java/lang/String" "coder" "B" (.int cd)) (A5_ : Arv Z h0 v1 kv .byte z1 vs (.int (0 : Int32))) (hcod : own_cod [c0_] cd z1 vs) (hch : own_chars [c0_]) (S8_ : Sta Z Z.heap "jdk/internal/util/Preconditions" "SIOOBE_FORMATTER" "Ljava/util/function/BiFunction;" fm) (hfm : fm.isRef = true) (S10_ : Sta Z Z.heap "java/lang/StringUTF16" "$assertionsDisabled" "Z" (.int (1 : Int32))) (S11_ : Sta Z Z.heap "java/lang/StringUTF16" "HI_BYTE_SHIFT" "I" (.int (0 : Int32))) (S12_ : Sta Z Z.heap "java/lang/StringUTF16" "LO_BYTE_SHIFT" "I" (.int (8 : Int32))) :
    MetFree l (⟨"com/example/rolegate/rolegate/MethodSet", "isMethodName", "(Ljava/lang/String;)Z"⟩ : MethodName) (head1 (Jvm.Cond.code (⟨"com/example/rolegate/rolegate/MethodSet", "isMethodName", "(Ljava/lang/String;)Z"⟩ : MethodName) prog_16_method_6_code 4 (some .boolean) :: ws) ({ frames := 5, cells := 2, slots := 64, locals := 66 } : Room)) (fun a U => a = #[(.ref a1)] ∧ Z.Warmed39 U.vm ∧ U.heap = h0 ∧ CHv Z consts_1 U.vm h0) (fun _ _ _ _ _ => True) (fun _ U o U' => ∃ v L, o = .returned v ∧ Q_isM1 Z a1 v1 kv cs fm cd z1 vs c0_ h0 n0 v U'.heap L ∧ CHr Z consts_1 U.vm U.heap U'.vm U'.heap ∧ ReturnedEndW U o U' L ({ frames := 5, cells := 2, slots := 64, locals := 66 } : Room).cells ({ frames := 5, cells := 2, slots := 64, locals := 66 } : Room).slots) := by
  refine MetFree.of_bodySF (plainFor_of_name pn_com_example_rolegate_rolegate_MethodSet) hisR ?_
  intro p e s m args below meth c s₁ Bd hml0 hP hK
  obtain ⟨rfl, hZ, hh, hC0⟩ := hP
  have hx := Bd.exec
  have hby := Bd.bytes
  have hml : c.maxLocals = 4 := hml0
  have hown : s.vm.findClass "com/example/rolegate/rolegate/MethodSet" = some m.cls := findClass_of_methodNamed Bd.named
  have hnm := (name_of_methodNamed Bd.named Bd.method).1
  have X0 : Stand p l e ({ frames := 5, cells := 2, slots := 64, locals := 66 } : Room) (s.setVm s.vm) m #[(.ref a1)] below meth c s₁ [] 0 0 := Stand.of_body Bd
  have e0 : s₁.heap = h0 := by rw [← hh, Bd.state]; rfl
  have N0 := Fr.nil n0
  have hS : s.Since s.vm 0 := (State.WarmedH.refl s).since 0
  have hk : 0 ≤ h0.size := Nat.zero_le _
  have hZ : Z.Warmed39 (s.setVm s.vm).vm := hZ
  have hown : (s.setVm s.vm).vm.findClass "com/example/rolegate/rolegate/MethodSet" = some m.cls := hown
  have R0 : CHr Z consts_1 s.vm h0 s.vm h0 := CHr.refl hC0
  have g0 : Go p e below s₁ (mkF m 0 #[rv a1, .unset, .unset, .unset] []) (s₁.setTop (entryFrame m #[(.ref a1)] 4)) := fun t kont => castTop (ef_isM1 m a1 ) kont
  generalize s₁.setTop (entryFrame m #[(.ref a1)] 4) = A0 at g0 ⊢
  have hb0_ := hch 0 (by simp)
  have g101 : Go p e below s₁ (mkF m 1 #[rv a1, .unset, .unset, .unset] [(.ref a1)]) A0 := by
    intro t kont
    refine g0 t ?_
    refine XS.aloadN X0.here hx rfl (hb hby d5_0) rfl rfl ?_
    exact kont
  obtain ⟨cq102, kq102, q102a, q102b, q102c⟩ := isOf hZ e0 E2_
  obtain ⟨_, _, ⟨T102, L102, k102, n102⟩, -, X102, ⟨Lc102, hQ102, l102, y102, z102⟩, st102⟩ := X0.virtualBack hx (y := (⟨"java/lang/String", "isEmpty", "()Z"⟩ : MethodName)) (z := (⟨"java/lang/String", "isEmpty", "()Z"⟩ : MethodName)) hown (mvT hZ (hw _ (List.mem_of_getElem? (i := 31) rfl))) (mvT hZ (hw _ (List.mem_of_getElem? (i := 32) rfl))) (notFace_of_selects (args := #[]) (mvT hZ (hw _ (List.mem_of_getElem? (i := 34) rfl)))) (mvT hZ (hw _ (List.mem_of_getElem? (i := 34) rfl))) (mvT hZ (hw _ (List.mem_of_getElem? (i := 33) rfl))) (by decide) (backOf (W := 0) (rm_isE l Z a0 hw [] a1 v1 kv z1 vs h0 n0 O0 F3_ A5_ (own_codz hcod (by simp) (by simp))) hZ (hw _ (List.mem_of_getElem? (i := 35) rfl)) (hw _ (List.mem_of_getElem? (i := 8) rfl)) (by decide) (by decide)) q102a q102c (g := (mkF m 1 #[rv a1, .unset, .unset, .unset] [(.ref a1)])) rfl (by rw [hml]; rfl) (Steps.refl _) (argsL := []) (rest := []) (lenOf pd_13 rfl) rfl (by show 2 * 0 + _ ≤ _; exact Nat.le_of_eq rfl) (hb hby d5_1) (fun _ _ => ⟨rfl, e0, (by decide : 0 + 0 ≤ _), (by decide : 0 + 0 ≤ _)⟩)
  dsimp only [Pt.U, Pt.locs, Pt.cells, Pt.slots] at X102 l102 y102 z102 st102 hQ102
  subst l102 y102 z102
  obtain ⟨rfl, M102, e102⟩ := hQ102
  have N102 := Fr.app N0 M102
  have g103 : Go p e below T102 (mkF m 4 #[rv a1, .unset, .unset, .unset] [(.int (0 : Int32))]) A0 := fun t kont => g101 t (st102.trans kont)
  have g104 : Go p e below T102 (mkF m 13 #[rv a1, iv (0 : Int32), .unset, .unset] [(.ref a1), (.int (0 : Int32))]) A0 := by
    intro t kont
    refine g103 t ?_
    refine XS.ifYes X102.here hx rfl (pc0 := 4) (pc' := 9) rfl (hb hby d5_4) rfl ((if0 _ _).trans (teq (by decide : (0 : Int32) = (0 : Int32))).1) (by decide) (by decide) ?_
    refine XS.iconst X102.here hx rfl (hb hby d5_9) ?_
    refine XS.istoreN X102.here hx rfl (hb hby d5_10) rfl (l' := #[rv a1, iv (0 : Int32), .unset, .unset]) rfl ?_
    refine XS.iloadN X102.here hx rfl (hb hby d5_11) rfl ?_
    refine XS.aloadN X102.here hx rfl (hb hby d5_12) rfl rfl ?_
    exact kont
  obtain ⟨cq105, kq105, q105a, q105b, q105c⟩ := isOf hZ e102 E2_
  obtain ⟨_, _, ⟨T105, L105, k105, n105⟩, -, X105, ⟨Lc105, hQ105, l105, y105, z105⟩, st105⟩ := X102.virtualBack hx (y := (⟨"java/lang/String", "length", "()I"⟩ : MethodName)) (z := (⟨"java/lang/String", "length", "()I"⟩ : MethodName)) hown (mvT hZ (hw _ (List.mem_of_getElem? (i := 50) rfl))) (mvT hZ (hw _ (List.mem_of_getElem? (i := 51) rfl))) (notFace_of_selects (args := #[]) (mvT hZ (hw _ (List.mem_of_getElem? (i := 53) rfl)))) (mvT hZ (hw _ (List.mem_of_getElem? (i := 53) rfl))) (mvT hZ (hw _ (List.mem_of_getElem? (i := 52) rfl))) (by decide) (backOf (W := 1) (rm_lenG l Z a0 hw [] a1 v1 kv cd z1 vs [c0_] cs h0 n0 O0 S0_ hcs F3_ F4_ E2_ A5_ hcod (by simp)) hZ (hw _ (List.mem_of_getElem? (i := 54) rfl)) (hw _ (List.mem_of_getElem? (i := 8) rfl)) (by decide) (by decide)) q105a q105c (g := (mkF m 13 #[rv a1, iv (0 : Int32), .unset, .unset] [(.ref a1), (.int (0 : Int32))])) rfl (by rw [hml]; rfl) (Steps.refl _) (argsL := []) (rest := [(.int (0 : Int32))]) (lenOf pd_17 rfl) rfl (by show 2 * 0 + _ ≤ _; exact Nat.le_of_eq rfl) (hb hby d5_13) (fun _ _ => ⟨rfl, e102, (by decide : 0 + 0 ≤ _), (by decide : 0 + 0 ≤ _)⟩)
  dsimp only [Pt.U, Pt.locs, Pt.cells, Pt.slots] at X105 l105 y105 z105 st105 hQ105
  subst l105 y105 z105
  obtain ⟨rfl, M105, e105⟩ := hQ105
  have N105 := Fr.app N102 M105
  have g106 : Go p e below T105 (mkF m 16 #[rv a1, iv (0 : Int32), .unset, .unset] [(.int (1 : Int32)), (.int (0 : Int32))]) A0 := fun t kont => g104 t (st105.trans kont)
  have g107 : Go p e below T105 (mkF m 21 #[rv a1, iv (0 : Int32), .unset, .unset] [(.int (0 : Int32)), (.ref a1)]) A0 := by
    intro t kont
    refine g106 t ?_
    refine XS.icmpNo X105.here hx rfl (hb hby d5_16) rfl (tlt (by decide : (0 : Int32) < (1 : Int32))).2.1 ?_
    refine XS.aloadN X105.here hx rfl (hb hby d5_19) rfl rfl ?_
    refine XS.iloadN X105.here hx rfl (hb hby d5_20) rfl ?_
    exact kont
  obtain ⟨cq108, kq108, q108a, q108b, q108c⟩ := isOf hZ e105 E2_
  obtain ⟨_, _, ⟨T108, L108, k108, n108⟩, -, X108, ⟨Lc108, hQ108, l108, y108, z108⟩, st108⟩ := X105.virtualBack hx (y := (⟨"java/lang/String", "charAt", "(I)C"⟩ : MethodName)) (z := (⟨"java/lang/String", "charAt", "(I)C"⟩ : MethodName)) hown (mvT hZ (hw _ (List.mem_of_getElem? (i := 60) rfl))) (mvT hZ (hw _ (List.mem_of_getElem? (i := 61) rfl))) (notFace_of_selects (args := #[]) (mvT hZ (hw _ (List.mem_of_getElem? (i := 63) rfl)))) (mvT hZ (hw _ (List.mem_of_getElem? (i := 63) rfl))) (mvT hZ (hw _ (List.mem_of_getElem? (i := 62) rfl))) (by decide) (backOf (W := 0) (rm_chaG l Z a0 hw [] a1 v1 kv cd z1 vs [c0_] cs 0 fm h0 n0 O0 S0_ hcs F3_ F4_ E2_ A5_ hcod (by simp) (by simp) hch S8_ hfm S10_ S11_ S12_) hZ (hw _ (List.mem_of_getElem? (i := 64) rfl)) (hw _ (List.mem_of_getElem? (i := 8) rfl)) (by decide) (by decide)) q108a q108c (g := (mkF m 21 #[rv a1, iv (0 : Int32), .unset, .unset] [(.int (0 : Int32)), (.ref a1)])) rfl (by rw [hml]; rfl) (Steps.refl _) (argsL := [(.int (0 : Int32))]) (rest := []) (lenOf pd_18 rfl) rfl (by show 2 * 0 + _ ≤ _; exact Nat.le_of_eq rfl) (hb hby d5_21) (fun _ _ => ⟨rfl, e105, (by decide : 0 + 0 ≤ _), (by decide : 0 + 0 ≤ _)⟩)
  dsimp only [Pt.U, Pt.locs, Pt.cells, Pt.slots] at X108 l108 y108 z108 st108 hQ108
  subst l108 y108 z108
  obtain ⟨rfl, M108, e108⟩ := hQ108
  have N108 := Fr.app N105 M108
  have g109 : Go p e below T108 (mkF m 24 #[rv a1, iv (0 : Int32), .unset, .unset] [(.int c0_)]) A0 := fun t kont => g107 t (st108.trans kont)
  have g110 : Go p e below T108 (mkF m 25 #[rv a1, iv (0 : Int32), iv c0_, .unset] []) A0 := by
    intro t kont
    refine g109 t ?_
    refine XS.istoreN X108.here hx rfl (hb hby d5_24) rfl (l' := #[rv a1, iv (0 : Int32), iv c0_, .unset]) rfl ?_
    exact kont
  obtain ⟨al0, j112, j113, gp111⟩ := pz_al X108 hx hby a1 (0 : Int32) c0_ (.unset) 
  have g114 : Go p e below T108 (mkF m 66 #[rv a1, iv (0 : Int32), iv c0_, .unset] [(.int al0)]) A0 := fun t kont => g110 t (gp111 t kont)
  by_cases c115 : own_tok c0_
  ·
    obtain ⟨af0, T116, lc116, h116, vm116, k116, X116, e116, E116, hS, hk, hZ, hown, R116, C116, N116, g116⟩ : ∃ af0 : Int32, ∃ (T116 : State) (lc116 : List Loc) (h116 : Heap) (vm116 : Vm) (k116 : Nat), Stand p l e ({ frames := 5, cells := 2, slots := 64, locals := 66 } : Room) (s.setVm vm116) m #[(.ref a1)] below meth c T116 lc116 2 64 ∧ T116.heap = h116 ∧ Ext h0 h116 ∧ s.Since vm116 k116 ∧ k116 ≤ h116.size ∧ Z.Warmed39 (s.setVm vm116).vm ∧ (s.setVm vm116).vm.findClass "com/example/rolegate/rolegate/MethodSet" = some m.cls ∧ CHr Z consts_1 s.vm h0 vm116 h116 ∧ CHr Z consts_1 s.vm h0 vm116 h116 ∧ Fr n0 lc116 ∧ Go p e below T116 (mkF m 82 #[rv a1, iv (0 : Int32), iv c0_, iv af0] []) A0 := by
      have g117 : Go p e below T108 (mkF m 68 #[rv a1, iv (0 : Int32), iv c0_, iv al0] [(.int al0)]) A0 := by
        intro t kont
        refine g114 t ?_
        refine XS.istoreN X108.here hx rfl (hb hby d5_66) rfl (l' := #[rv a1, iv (0 : Int32), iv c0_, iv al0]) rfl ?_
        refine XS.iloadN X108.here hx rfl (hb hby d5_67) rfl ?_
        exact kont
      rcases (j112 : al0 = (0 : Int32) ∨ al0 = (1 : Int32)) with c118 | c118
      ·
        subst c118
        have g119 : Go p e below T108 (mkF m 71 #[rv a1, iv (0 : Int32), iv c0_, iv (0 : Int32)] []) A0 := by
          intro t kont
          refine g117 t ?_
          refine XS.ifNo X108.here hx rfl (hb hby d5_68) rfl ((if0 _ _).trans (teq (by decide : (0 : Int32) = (0 : Int32))).2) ?_
          exact kont
        obtain ⟨b120, T120, h120, k120, c120, kc120, X120, e120, E120, hS, hk, hZ, hown, A120, F120, G120, V120, la120, lb120, C120, -, ne120, st120⟩ := ldcCH X108 hx hZ hown (hw _ (List.mem_of_getElem? (i := 82) rfl)) (own_wS hw) e108 hS hk (own_EW hw) (List.mem_of_getElem? (i := 0) rfl) R0.1 (vs := [(.int (33 : Int32)), (.int (35 : Int32)), (.int (36 : Int32)), (.int (37 : Int32)), (.int (38 : Int32)), (.int (39 : Int32)), (.int (42 : Int32)), (.int (43 : Int32)), (.int (45 : Int32)), (.int (46 : Int32)), (.int (94 : Int32)), (.int (95 : Int32)), (.int (96 : Int32)), (.int (124 : Int32)), (.int (126 : Int32))]) (z := (15 : Int32)) ⟨by decide, by decide⟩ (by decide) rfl (g := (mkF m 71 #[rv a1, iv (0 : Int32), iv c0_, iv (0 : Int32)] [])) rfl (hb hby d5_71) (n := 60) (by decide) (by decide) (by decide) (by decide)
        have R121 : CHr Z consts_1 s.vm h0 T120.vm h120 := R0.trans C120
        have O122 := O0.ext E120
        have g123 : Go p e below T120 (mkF m 73 #[rv a1, iv (0 : Int32), iv c0_, iv (0 : Int32)] [(.ref b120)]) A0 := fun t kont => g119 t (st120 t kont)
        have g125 : Go p e below T120 (mkF m 74 #[rv a1, iv (0 : Int32), iv c0_, iv (0 : Int32)] [(.int c0_), (.ref b120)]) A0 := by
          intro t kont
          refine g123 t ?_
          refine XS.iloadN X120.here hx rfl (hb hby d5_73) rfl ?_
          exact kont
        by_cases c124 : (255 : Int32) < c0_
        ·
          obtain ⟨cq126, kq126, q126a, q126b, q126c⟩ := isOf hZ e120 A120
          obtain ⟨_, _, ⟨T126, L126, k126, n126⟩, -, X126, ⟨Lc126, hQ126, l126, y126, z126⟩, st126⟩ := X120.virtualBack hx (y := (⟨"java/lang/String", "indexOf", "(I)I"⟩ : MethodName)) (z := (⟨"java/lang/String", "indexOf", "(I)I"⟩ : MethodName)) hown (mvT hZ (hw _ (List.mem_of_getElem? (i := 83) rfl))) (mvT hZ (hw _ (List.mem_of_getElem? (i := 84) rfl))) (notFace_of_selects (args := #[]) (mvT hZ (hw _ (List.mem_of_getElem? (i := 86) rfl)))) (mvT hZ (hw _ (List.mem_of_getElem? (i := 86) rfl))) (mvT hZ (hw _ (List.mem_of_getElem? (i := 85) rfl))) (by decide) (backOf (W := 0) (rm_ix1U l Z a0 hw [] b120 c120 c0_ kc120 cs h120 n0 O122 S0_ hcs G120 F120 A120 V120 hb0_.1 c124) hZ (hw _ (List.mem_of_getElem? (i := 87) rfl)) (hw _ (List.mem_of_getElem? (i := 8) rfl)) (by decide) (by decide)) q126a q126c (g := (mkF m 74 #[rv a1, iv (0 : Int32), iv c0_, iv (0 : Int32)] [(.int c0_), (.ref b120)])) rfl (by rw [hml]; rfl) (Steps.refl _) (argsL := [(.int c0_)]) (rest := []) (lenOf pd_1 rfl) rfl (by show 2 * 0 + _ ≤ _; exact Nat.le_of_eq rfl) (hb hby d5_74) (fun _ _ => ⟨rfl, e120, (by decide : 2 + 0 ≤ _), (by decide : 64 + 0 ≤ _)⟩)
          dsimp only [Pt.U, Pt.locs, Pt.cells, Pt.slots] at X126 l126 y126 z126 st126 hQ126
          subst l126 y126 z126
          obtain ⟨r127, rfl, M126, e126, y128⟩ := hQ126
          have N126 := Fr.app N108 M126
          have g129 : Go p e below T126 (mkF m 77 #[rv a1, iv (0 : Int32), iv c0_, iv (0 : Int32)] [(.int r127)]) A0 := fun t kont => g125 t (st126.trans kont)
          have g130 : Go p e below T126 (mkF m 82 #[rv a1, iv (0 : Int32), iv c0_, iv (0 : Int32)] []) A0 := by
            intro t kont
            refine g129 t ?_
            refine XS.ifYes X126.here hx rfl (pc0 := 77) (pc' := 82) rfl (hb hby d5_77) rfl ((if0 _ _).trans (flt (own_u2 y128 (own_u1 j113 c115) : ¬ (r127 < (0 : Int32)))).2.1) (by decide) (by decide) ?_
            exact kont
          exact ⟨(0 : Int32), _, _, _, _, _, (X126.more (by decide) (by decide)), e126, E120, hS, hk, hZ, hown, R121, ((CHr.refl R0.1).trans (C120)), N126, g130⟩
        obtain ⟨cq131, kq131, q131a, q131b, q131c⟩ := isOf hZ e120 A120
        obtain ⟨_, _, ⟨T131, L131, k131, n131⟩, -, X131, ⟨Lc131, hQ131, l131, y131, z131⟩, st131⟩ := X120.virtualBack hx (y := (⟨"java/lang/String", "indexOf", "(I)I"⟩ : MethodName)) (z := (⟨"java/lang/String", "indexOf", "(I)I"⟩ : MethodName)) hown (mvT hZ (hw _ (List.mem_of_getElem? (i := 83) rfl))) (mvT hZ (hw _ (List.mem_of_getElem? (i := 84) rfl))) (notFace_of_selects (args := #[]) (mvT hZ (hw _ (List.mem_of_getElem? (i := 86) rfl)))) (mvT hZ (hw _ (List.mem_of_getElem? (i := 86) rfl))) (mvT hZ (hw _ (List.mem_of_getElem? (i := 85) rfl))) (by decide) (backOf (W := 0) (rm_ix1L l Z a0 hw [] b120 c120 c0_ kc120 cs h120 n0 O122 S0_ hcs G120 F120 A120 V120 hb0_.1 c124) hZ (hw _ (List.mem_of_getElem? (i := 87) rfl)) (hw _ (List.mem_of_getElem? (i := 8) rfl)) (by decide) (by decide)) q131a q131c (g := (mkF m 74 #[rv a1, iv (0 : Int32), iv c0_, iv (0 : Int32)] [(.int c0_), (.ref b120)])) rfl (by rw [hml]; rfl) (Steps.refl _) (argsL := [(.int c0_)]) (rest := []) (lenOf pd_1 rfl) rfl (by show 2 * 0 + _ ≤ _; exact Nat.le_of_eq rfl) (hb hby d5_74) (fun _ _ => ⟨rfl, e120, (by decide : 2 + 0 ≤ _), (by decide : 64 + 0 ≤ _)⟩)
        dsimp only [Pt.U, Pt.locs, Pt.cells, Pt.slots] at X131 l131 y131 z131 st131 hQ131
        subst l131 y131 z131
        obtain ⟨r132, rfl, M131, e131, y133⟩ := hQ131
        have N131 := Fr.app N108 M131
        have g134 : Go p e below T131 (mkF m 77 #[rv a1, iv (0 : Int32), iv c0_, iv (0 : Int32)] [(.int r132)]) A0 := fun t kont => g125 t (st131.trans kont)
        have g135 : Go p e below T131 (mkF m 82 #[rv a1, iv (0 : Int32), iv c0_, iv (0 : Int32)] []) A0 := by
          intro t kont
          refine g134 t ?_
          refine XS.ifYes X131.here hx rfl (pc0 := 77) (pc' := 82) rfl (hb hby d5_77) rfl ((if0 _ _).trans (flt (own_u2 y133 (own_u1 j113 c115) : ¬ (r132 < (0 : Int32)))).2.1) (by decide) (by decide) ?_
          exact kont
        exact ⟨(0 : Int32), _, _, _, _, _, (X131.more (by decide) (by decide)), e131, E120, hS, hk, hZ, hown, R121, ((CHr.refl R0.1).trans (C120)), N131, g135⟩
      subst c118
      have g136 : Go p e below T108 (mkF m 82 #[rv a1, iv (0 : Int32), iv c0_, iv (1 : Int32)] []) A0 := by
        intro t kont
        refine g117 t ?_
        refine XS.ifYes X108.here hx rfl (pc0 := 68) (pc' := 82) rfl (hb hby d5_68) rfl ((if0 _ _).trans (feq (by decide : ¬ ((1 : Int32) = (0 : Int32)))).2) (by decide) (by decide) ?_
        exact kont
      exact ⟨(1 : Int32), _, _, _, _, _, (X108.more (by decide) (by decide)), e108, own_ext_refl, hS, hk, hZ, hown, R0, (CHr.refl R0.1), N108, g136⟩
    have O137 := O0.ext E116
    have g138 : Go p e below T116 (mkF m 13 #[rv a1, iv (1 : Int32), iv c0_, iv af0] [(.ref a1), (.int (1 : Int32))]) A0 := by
      intro t kont
      refine g116 t ?_
      refine XS.iinc X116.here hx rfl (hb hby d5_82) rfl (l' := #[rv a1, iv (1 : Int32), iv c0_, iv af0]) rfl ?_
      refine XS.goto X116.here hx rfl (pc0 := 85) (pc' := 11) rfl (hb hby d5_85) (by decide) (by decide) ?_
      refine XS.iloadN X116.here hx rfl (hb hby d5_11) rfl ?_
      refine XS.aloadN X116.here hx rfl (hb hby d5_12) rfl rfl ?_
      exact kont
    have y140 : Exa Z h116 a1 "java/lang/String" := (E2_.ext E116)
    have y141 : Fld Z h116 a1 "java/lang/String" "value" "[B" (.ref v1) := (F3_.ext E116)
    have y142 : Fld Z h116 a1 "java/lang/String" "coder" "B" (.int cd) := (F4_.ext E116)
    have y143 : Arv Z h116 v1 kv .byte z1 vs (.int (0 : Int32)) := (A5_.ext E116)
    obtain ⟨cq139, kq139, q139a, q139b, q139c⟩ := isOf hZ e116 y140
    obtain ⟨_, _, ⟨T139, L139, k139, n139⟩, -, X139, ⟨Lc139, hQ139, l139, y139, z139⟩, st139⟩ := X116.virtualBack hx (y := (⟨"java/lang/String", "length", "()I"⟩ : MethodName)) (z := (⟨"java/lang/String", "length", "()I"⟩ : MethodName)) hown (mvT hZ (hw _ (List.mem_of_getElem? (i := 50) rfl))) (mvT hZ (hw _ (List.mem_of_getElem? (i := 51) rfl))) (notFace_of_selects (args := #[]) (mvT hZ (hw _ (List.mem_of_getElem? (i := 53) rfl)))) (mvT hZ (hw _ (List.mem_of_getElem? (i := 53) rfl))) (mvT hZ (hw _ (List.mem_of_getElem? (i := 52) rfl))) (by decide) (backOf (W := 1) (rm_lenG l Z a0 hw [] a1 v1 kv cd z1 vs [c0_] cs h116 n0 O137 S0_ hcs y141 y142 y140 y143 hcod (by simp)) hZ (hw _ (List.mem_of_getElem? (i := 54) rfl)) (hw _ (List.mem_of_getElem? (i := 8) rfl)) (by decide) (by decide)) q139a q139c (g := (mkF m 13 #[rv a1, iv (1 : Int32), iv c0_, iv af0] [(.ref a1), (.int (1 : Int32))])) rfl (by rw [hml]; rfl) (Steps.refl _) (argsL := []) (rest := [(.int (1 : Int32))]) (lenOf pd_17 rfl) rfl (by show 2 * 0 + _ ≤ _; exact Nat.le_of_eq rfl) (hb hby d5_13) (fun _ _ => ⟨rfl, e116, (by decide : 2 + 0 ≤ _), (by decide : 64 + 0 ≤ _)⟩)
    dsimp only [Pt.U, Pt.locs, Pt.cells, Pt.slots] at X139 l139 y139 z139 st139 hQ139
    subst l139 y139 z139
    obtain ⟨rfl, M139, e139⟩ := hQ139
    have N139 := Fr.app N116 M139
    have g144 : Go p e below T139 (mkF m 16 #[rv a1, iv (1 : Int32), iv c0_, iv af0] [(.int (1 : Int32)), (.int (1 : Int32))]) A0 := fun t kont => g138 t (st139.trans kont)
    have g145 : Go p e below T139 (mkF m 89 #[rv a1, iv (1 : Int32), iv c0_, iv af0] [(.int (1 : Int32))]) A0 := by
      intro t kont
      refine g144 t ?_
      refine XS.icmpYes X139.here hx rfl (pc0 := 16) (pc' := 88) rfl (hb hby d5_16) rfl (flt (by decide : ¬ ((1 : Int32) < (1 : Int32)))).2.1 (by decide) (by decide) ?_
      refine XS.iconst X139.here hx rfl (hb hby d5_88) ?_
      exact kont
    have K146 : Keep h0 h116 [] := ((Keep.refl h0 []).ext E116)
    obtain ⟨fs, hr, hrun, hended, hRW⟩ := X139.leaveW hS (by rw [e139]; exact hk) (v := some (.int (1 : Int32))) (fun h => by rw [Bd.returns] at h; cases h)
    refine ⟨_, _, g145 _ (retN X139 hx (t := .boolean) Bd.returns (by simp) (hb hby d5_89) hr), hrun, hended, _, _, rfl, ?_, ?_, hRW.1, hRW.2.1, hRW.2.2.1, hRW.2.2.2.mono (by decide) (by decide)⟩
    ·
      show Q_isM1 Z a1 v1 kv cs fm cd z1 vs c0_ h0 n0 _ T139.heap _
      rw [e139]
      exact ⟨(1 : Int32), rfl, N139, K146, Or.inr rfl, iff_of_true rfl c115⟩
    ·
      rw [hh]
      show CHr Z consts_1 s.vm h0 T139.vm T139.heap
      rw [e139]
      exact R116.trans (CHv.at X139 hZ (own_EW hw) R116.1)
  have g147 : Go p e below T108 (mkF m 68 #[rv a1, iv (0 : Int32), iv c0_, iv al0] [(.int al0)]) A0 := by
    intro t kont
    refine g114 t ?_
    refine XS.istoreN X108.here hx rfl (hb hby d5_66) rfl (l' := #[rv a1, iv (0 : Int32), iv c0_, iv al0]) rfl ?_
    refine XS.iloadN X108.here hx rfl (hb hby d5_67) rfl ?_
    exact kont
  rcases (j112 : al0 = (0 : Int32) ∨ al0 = (1 : Int32)) with c148 | c148
  ·
    subst c148
    have g149 : Go p e below T108 (mkF m 71 #[rv a1, iv (0 : Int32), iv c0_, iv (0 : Int32)] []) A0 := by
      intro t kont
      refine g147 t ?_
      refine XS.ifNo X108.here hx rfl (hb hby d5_68) rfl ((if0 _ _).trans (teq (by decide : (0 : Int32) = (0 : Int32))).2) ?_
      exact kont
    obtain ⟨b150, T150, h150, k150, c150, kc150, X150, e150, E150, hS, hk, hZ, hown, A150, F150, G150, V150, la150, lb150, C150, -, ne150, st150⟩ := ldcCH X108 hx hZ hown (hw _ (List.mem_of_getElem? (i := 82) rfl)) (own_wS hw) e108 hS hk (own_EW hw) (List.mem_of_getElem? (i := 0) rfl) R0.1 (vs := [(.int (33 : Int32)), (.int (35 : Int32)), (.int (36 : Int32)), (.int (37 : Int32)), (.int (38 : Int32)), (.int (39 : Int32)), (.int (42 : Int32)), (.int (43 : Int32)), (.int (45 : Int32)), (.int (46 : Int32)), (.int (94 : Int32)), (.int (95 : Int32)), (.int (96 : Int32)), (.int (124 : Int32)), (.int (126 : Int32))]) (z := (15 : Int32)) ⟨by decide, by decide⟩ (by decide) rfl (g := (mkF m 71 #[rv a1, iv (0 : Int32), iv c0_, iv (0 : Int32)] [])) rfl (hb hby d5_71) (n := 60) (by decide) (by decide) (by decide) (by decide)
    have R151 : CHr Z consts_1 s.vm h0 T150.vm h150 := R0.trans C150
    have O152 := O0.ext E150
    have g153 : Go p e below T150 (mkF m 73 #[rv a1, iv (0 : Int32), iv c0_, iv (0 : Int32)] [(.ref b150)]) A0 := fun t kont => g149 t (st150 t kont)
    have g155 : Go p e below T150 (mkF m 74 #[rv a1, iv (0 : Int32), iv c0_, iv (0 : Int32)] [(.int c0_), (.ref b150)]) A0 := by
      intro t kont
      refine g153 t ?_
      refine XS.iloadN X150.here hx rfl (hb hby d5_73) rfl ?_
      exact kont
    by_cases c154 : (255 : Int32) < c0_
    ·
      obtain ⟨cq156, kq156, q156a, q156b, q156c⟩ := isOf hZ e150 A150
      obtain ⟨_, _, ⟨T156, L156, k156, n156⟩, -, X156, ⟨Lc156, hQ156, l156, y156, z156⟩, st156⟩ := X150.virtualBack hx (y := (⟨"java/lang/String", "indexOf", "(I)I"⟩ : MethodName)) (z := (⟨"java/lang/String", "indexOf", "(I)I"⟩ : MethodName)) hown (mvT hZ (hw _ (List.mem_of_getElem? (i := 83) rfl))) (mvT hZ (hw _ (List.mem_of_getElem? (i := 84) rfl))) (notFace_of_selects (args := #[]) (mvT hZ (hw _ (List.mem_of_getElem? (i := 86) rfl)))) (mvT hZ (hw _ (List.mem_of_getElem? (i := 86) rfl))) (mvT hZ (hw _ (List.mem_of_getElem? (i := 85) rfl))) (by decide) (backOf (W := 0) (rm_ix1U l Z a0 hw [] b150 c150 c0_ kc150 cs h150 n0 O152 S0_ hcs G150 F150 A150 V150 hb0_.1 c154) hZ (hw _ (List.mem_of_getElem? (i := 87) rfl)) (hw _ (List.mem_of_getElem? (i := 8) rfl)) (by decide) (by decide)) q156a q156c (g := (mkF m 74 #[rv a1, iv (0 : Int32), iv c0_, iv (0 : Int32)] [(.int c0_), (.ref b150)])) rfl (by rw [hml]; rfl) (Steps.refl _) (argsL := [(.int c0_)]) (rest := []) (lenOf pd_1 rfl) rfl (by show 2 * 0 + _ ≤ _; exact Nat.le_of_eq rfl) (hb hby d5_74) (fun _ _ => ⟨rfl, e150, (by decide : 2 + 0 ≤ _), (by decide : 64 + 0 ≤ _)⟩)
      dsimp only [Pt.U, Pt.locs, Pt.cells, Pt.slots] at X156 l156 y156 z156 st156 hQ156
      subst l156 y156 z156
      obtain ⟨r157, rfl, M156, e156, y158⟩ := hQ156
      have N156 := Fr.app N108 M156
      have g159 : Go p e below T156 (mkF m 77 #[rv a1, iv (0 : Int32), iv c0_, iv (0 : Int32)] [(.int r157)]) A0 := fun t kont => g155 t (st156.trans kont)
      have g160 : Go p e below T156 (mkF m 81 #[rv a1, iv (0 : Int32), iv c0_, iv (0 : Int32)] [(.int (0 : Int32))]) A0 := by
        intro t kont
        refine g159 t ?_
        refine XS.ifNo X156.here hx rfl (hb hby d5_77) rfl ((if0 _ _).trans (tlt (own_u3 y158 c115 : r157 < (0 : Int32))).2.1) ?_
        refine XS.iconst X156.here hx rfl (hb hby d5_80) ?_
        exact kont
      have K161 : Keep h0 h150 [] := ((Keep.refl h0 []).ext E150)
      obtain ⟨fs, hr, hrun, hended, hRW⟩ := X156.leaveW hS (by rw [e156]; exact hk) (v := some (.int (0 : Int32))) (fun h => by rw [Bd.returns] at h; cases h)
      refine ⟨_, _, g160 _ (retN X156 hx (t := .boolean) Bd.returns (by simp) (hb hby d5_81) hr), hrun, hended, _, _, rfl, ?_, ?_, hRW.1, hRW.2.1, hRW.2.2.1, hRW.2.2.2.mono (by decide) (by decide)⟩
      ·
        show Q_isM1 Z a1 v1 kv cs fm cd z1 vs c0_ h0 n0 _ T156.heap _
        rw [e156]
        exact ⟨(0 : Int32), rfl, N156, K161, Or.inl rfl, iff_of_false (by decide) (fun q => c115 q)⟩
      ·
        rw [hh]
        show CHr Z consts_1 s.vm h0 T156.vm T156.heap
        rw [e156]
        exact R151.trans (CHv.at X156 hZ (own_EW hw) R151.1)
    obtain ⟨cq162, kq162, q162a, q162b, q162c⟩ := isOf hZ e150 A150
    obtain ⟨_, _, ⟨T162, L162, k162, n162⟩, -, X162, ⟨Lc162, hQ162, l162, y162, z162⟩, st162⟩ := X150.virtualBack hx (y := (⟨"java/lang/String", "indexOf", "(I)I"⟩ : MethodName)) (z := (⟨"java/lang/String", "indexOf", "(I)I"⟩ : MethodName)) hown (mvT hZ (hw _ (List.mem_of_getElem? (i := 83) rfl))) (mvT hZ (hw _ (List.mem_of_getElem? (i := 84) rfl))) (notFace_of_selects (args := #[]) (mvT hZ (hw _ (List.mem_of_getElem? (i := 86) rfl)))) (mvT hZ (hw _ (List.mem_of_getElem? (i := 86) rfl))) (mvT hZ (hw _ (List.mem_of_getElem? (i := 85) rfl))) (by decide) (backOf (W := 0) (rm_ix1L l Z a0 hw [] b150 c150 c0_ kc150 cs h150 n0 O152 S0_ hcs G150 F150 A150 V150 hb0_.1 c154) hZ (hw _ (List.mem_of_getElem? (i := 87) rfl)) (hw _ (List.mem_of_getElem? (i := 8) rfl)) (by decide) (by decide)) q162a q162c (g := (mkF m 74 #[rv a1, iv (0 : Int32), iv c0_, iv (0 : Int32)] [(.int c0_), (.ref b150)])) rfl (by rw [hml]; rfl) (Steps.refl _) (argsL := [(.int c0_)]) (rest := []) (lenOf pd_1 rfl) rfl (by show 2 * 0 + _ ≤ _; exact Nat.le_of_eq rfl) (hb hby d5_74) (fun _ _ => ⟨rfl, e150, (by decide : 2 + 0 ≤ _), (by decide : 64 + 0 ≤ _)⟩)
    dsimp only [Pt.U, Pt.locs, Pt.cells, Pt.slots] at X162 l162 y162 z162 st162 hQ162
    subst l162 y162 z162
    obtain ⟨r163, rfl, M162, e162, y164⟩ := hQ162
    have N162 := Fr.app N108 M162
    have g165 : Go p e below T162 (mkF m 77 #[rv a1, iv (0 : Int32), iv c0_, iv (0 : Int32)] [(.int r163)]) A0 := fun t kont => g155 t (st162.trans kont)
    have g166 : Go p e below T162 (mkF m 81 #[rv a1, iv (0 : Int32), iv c0_, iv (0 : Int32)] [(.int (0 : Int32))]) A0 := by
      intro t kont
      refine g165 t ?_
      refine XS.ifNo X162.here hx rfl (hb hby d5_77) rfl ((if0 _ _).trans (tlt (own_u3 y164 c115 : r163 < (0 : Int32))).2.1) ?_
      refine XS.iconst X162.here hx rfl (hb hby d5_80) ?_
      exact kont
    have K167 : Keep h0 h150 [] := ((Keep.refl h0 []).ext E150)
    obtain ⟨fs, hr, hrun, hended, hRW⟩ := X162.leaveW hS (by rw [e162]; exact hk) (v := some (.int (0 : Int32))) (fun h => by rw [Bd.returns] at h; cases h)
    refine ⟨_, _, g166 _ (retN X162 hx (t := .boolean) Bd.returns (by simp) (hb hby d5_81) hr), hrun, hended, _, _, rfl, ?_, ?_, hRW.1, hRW.2.1, hRW.2.2.1, hRW.2.2.2.mono (by decide) (by decide)⟩
    ·
      show Q_isM1 Z a1 v1 kv cs fm cd z1 vs c0_ h0 n0 _ T162.heap _
      rw [e162]
      exact ⟨(0 : Int32), rfl, N162, K167, Or.inl rfl, iff_of_false (by decide) (fun q => c115 q)⟩
    ·
      rw [hh]
      show CHr Z consts_1 s.vm h0 T162.vm T162.heap
      rw [e162]
      exact R151.trans (CHv.at X162 hZ (own_EW hw) R151.1)
  subst c148
  exact (c115 (own_t1 j113)).elim
theorem ef_isM2 (m : MethodId) (x0 : Addr)  : entryFrame m #[(.ref x0)] 4 = mkF m 0 #[.val (.ref x0), .unset, .unset, .unset] [] := by first | (simp [entryFrame, mkF, argsToLocals, Value.category]; done) | rfl
def Q_isM2 (Z : State) (a1 : Addr) (v1 : Addr) (kv : ClassId) (cs : Int32) (fm : Value) (cd : Int32) (z1 : Int32) (vs : List Value) (c0_ : Int32) (c1_ : Int32) (h0 : Heap) (n0 : Nat) (v : Option Value) (h : Heap) (L : List Loc) : Prop := ∃ (rr : Int32), v = some (.int rr) ∧ Fr n0 L ∧ Keep h0 h [] ∧ (rr = (0 : Int32) ∨ rr = (1 : Int32)) ∧ (rr = (1 : Int32) ↔ (own_tok c0_ ∧ own_tok c1_))
set_option maxRecDepth 65536 in
set_option maxHeartbeats 40000000 in
theorem rm_isM2 (l : Launch) (Z : State) (a0 : Array Value) (hw : ∀ d ∈ tables_1, d.before a0 Z = true) (ws : List Jvm.Cond) (a1 : Addr) (v1 : Addr) (kv : ClassId) (cs : Int32) (fm : Value) (cd : Int32) (z1 : Int32) (vs : List Value) (c0_ : Int32) (c1_ : Int32) (h0 : Heap) (n0 : Nat) (O0 : Old Z n0 h0) (S0_ : Sta Z Z.heap "java/lang/String" "COMPACT_STRINGS" "Z" (.int cs)) (hcs : ¬ (cs = (0 : Int32))) (E2_ : Exa Z h0 a1 "java/lang/String") (F3_ : Fld Z h0 a1 "java/lang/String" "value" "[B" (.ref v1)) (F4_ : Fld Z h0 a1 "java/lang/String" "coder" "B" (.int cd)) (A5_ : Arv Z h0 v1 kv .byte z1 vs (.int (0 : Int32))) (hcod : own_cod [c0_, c1_] cd z1 vs) (hch : own_chars [c0_, c1_]) (S8_ : Sta Z Z.heap "jdk/internal/util/Preconditions" "SIOOBE_FORMATTER" "Ljava/util/function/BiFunction;" fm) (hfm : fm.isRef = true) (S10_ : Sta Z Z.heap "java/lang/StringUTF16" "$assertionsDisabled" "Z" (.int (1 : Int32))) (S11_ : Sta Z Z.heap "java/lang/StringUTF16" "HI_BYTE_SHIFT" "I" (.int (0 : Int32))) (S12_ : Sta Z Z.heap "java/lang/StringUTF16" "LO_BYTE_SHIFT" "I" (.int (8 : Int32))) :
    MetFree l (⟨"com/example/rolegate/rolegate/MethodSet", "isMethodName", "(Ljava/lang/String;)Z"⟩ : MethodName) (head1 (Jvm.Cond.code (⟨"com/example/rolegate/rolegate/MethodSet", "isMethodName", "(Ljava/lang/String;)Z"⟩ : MethodName) prog_16_method_6_code 4 (some .boolean) :: ws) ({ frames := 5, cells := 4, slots := 128, locals := 66 } : Room)) (fun a U => a = #[(.ref a1)] ∧ Z.Warmed39 U.vm ∧ U.heap = h0 ∧ CHv Z consts_1 U.vm h0) (fun _ _ _ _ _ => True) (fun _ U o U' => ∃ v L, o = .returned v ∧ Q_isM2 Z a1 v1 kv cs fm cd z1 vs c0_ c1_ h0 n0 v U'.heap L ∧ CHr Z consts_1 U.vm U.heap U'.vm U'.heap ∧ ReturnedEndW U o U' L ({ frames := 5, cells := 4, slots := 128, locals := 66 } : Room).cells ({ frames := 5, cells := 4, slots := 128, locals := 66 } : Room).slots) := by
  refine MetFree.of_bodySF (plainFor_of_name pn_com_example_rolegate_rolegate_MethodSet) hisR ?_
  intro p e s m args below meth c s₁ Bd hml0 hP hK
  obtain ⟨rfl, hZ, hh, hC0⟩ := hP
  have hx := Bd.exec
  have hby := Bd.bytes
  have hml : c.maxLocals = 4 := hml0
  have hown : s.vm.findClass "com/example/rolegate/rolegate/MethodSet" = some m.cls := findClass_of_methodNamed Bd.named
  have hnm := (name_of_methodNamed Bd.named Bd.method).1
  have X0 : Stand p l e ({ frames := 5, cells := 4, slots := 128, locals := 66 } : Room) (s.setVm s.vm) m #[(.ref a1)] below meth c s₁ [] 0 0 := Stand.of_body Bd
  have e0 : s₁.heap = h0 := by rw [← hh, Bd.state]; rfl
  have N0 := Fr.nil n0
  have hS : s.Since s.vm 0 := (State.WarmedH.refl s).since 0
  have hk : 0 ≤ h0.size := Nat.zero_le _
  have hZ : Z.Warmed39 (s.setVm s.vm).vm := hZ
  have hown : (s.setVm s.vm).vm.findClass "com/example/rolegate/rolegate/MethodSet" = some m.cls := hown
  have R0 : CHr Z consts_1 s.vm h0 s.vm h0 := CHr.refl hC0
  have g0 : Go p e below s₁ (mkF m 0 #[rv a1, .unset, .unset, .unset] []) (s₁.setTop (entryFrame m #[(.ref a1)] 4)) := fun t kont => castTop (ef_isM2 m a1 ) kont
  generalize s₁.setTop (entryFrame m #[(.ref a1)] 4) = A0 at g0 ⊢
  have hb0_ := hch 0 (by simp)
  have hb1_ := hch 1 (by simp)
  have g101 : Go p e below s₁ (mkF m 1 #[rv a1, .unset, .unset, .unset] [(.ref a1)]) A0 := by
    intro t kont
    refine g0 t ?_
    refine XS.aloadN X0.here hx rfl (hb hby d5_0) rfl rfl ?_
    exact kont
  obtain ⟨cq102, kq102, q102a, q102b, q102c⟩ := isOf hZ e0 E2_
  obtain ⟨_, _, ⟨T102, L102, k102, n102⟩, -, X102, ⟨Lc102, hQ102, l102, y102, z102⟩, st102⟩ := X0.virtualBack hx (y := (⟨"java/lang/String", "isEmpty", "()Z"⟩ : MethodName)) (z := (⟨"java/lang/String", "isEmpty", "()Z"⟩ : MethodName)) hown (mvT hZ (hw _ (List.mem_of_getElem? (i := 31) rfl))) (mvT hZ (hw _ (List.mem_of_getElem? (i := 32) rfl))) (notFace_of_selects (args := #[]) (mvT hZ (hw _ (List.mem_of_getElem? (i := 34) rfl)))) (mvT hZ (hw _ (List.mem_of_getElem? (i := 34) rfl))) (mvT hZ (hw _ (List.mem_of_getElem? (i := 33) rfl))) (by decide) (backOf (W := 0) (rm_isE l Z a0 hw [] a1 v1 kv z1 vs h0 n0 O0 F3_ A5_ (own_codz hcod (by simp) (by simp))) hZ (hw _ (List.mem_of_getElem? (i := 35) rfl)) (hw _ (List.mem_of_getElem? (i := 8) rfl)) (by decide) (by decide)) q102a q102c (g := (mkF m 1 #[rv a1, .unset, .unset, .unset] [(.ref a1)])) rfl (by rw [hml]; rfl) (Steps.refl _) (argsL := []) (rest := []) (lenOf pd_13 rfl) rfl (by show 2 * 0 + _ ≤ _; exact Nat.le_of_eq rfl) (hb hby d5_1) (fun _ _ => ⟨rfl, e0, (by decide : 0 + 0 ≤ _), (by decide : 0 + 0 ≤ _)⟩)
  dsimp only [Pt.U, Pt.locs, Pt.cells, Pt.slots] at X102 l102 y102 z102 st102 hQ102
  subst l102 y102 z102
  obtain ⟨rfl, M102, e102⟩ := hQ102
  have N102 := Fr.app N0 M102
  have g103 : Go p e below T102 (mkF m 4 #[rv a1, .unset, .unset, .unset] [(.int (0 : Int32))]) A0 := fun t kont => g101 t (st102.trans kont)
  have g104 : Go p e below T102 (mkF m 13 #[rv a1, iv (0 : Int32), .unset, .unset] [(.ref a1), (.int (0 : Int32))]) A0 := by
    intro t kont
    refine g103 t ?_
    refine XS.ifYes X102.here hx rfl (pc0 := 4) (pc' := 9) rfl (hb hby d5_4) rfl ((if0 _ _).trans (teq (by decide : (0 : Int32) = (0 : Int32))).1) (by decide) (by decide) ?_
    refine XS.iconst X102.here hx rfl (hb hby d5_9) ?_
    refine XS.istoreN X102.here hx rfl (hb hby d5_10) rfl (l' := #[rv a1, iv (0 : Int32), .unset, .unset]) rfl ?_
    refine XS.iloadN X102.here hx rfl (hb hby d5_11) rfl ?_
    refine XS.aloadN X102.here hx rfl (hb hby d5_12) rfl rfl ?_
    exact kont
  obtain ⟨cq105, kq105, q105a, q105b, q105c⟩ := isOf hZ e102 E2_
  obtain ⟨_, _, ⟨T105, L105, k105, n105⟩, -, X105, ⟨Lc105, hQ105, l105, y105, z105⟩, st105⟩ := X102.virtualBack hx (y := (⟨"java/lang/String", "length", "()I"⟩ : MethodName)) (z := (⟨"java/lang/String", "length", "()I"⟩ : MethodName)) hown (mvT hZ (hw _ (List.mem_of_getElem? (i := 50) rfl))) (mvT hZ (hw _ (List.mem_of_getElem? (i := 51) rfl))) (notFace_of_selects (args := #[]) (mvT hZ (hw _ (List.mem_of_getElem? (i := 53) rfl)))) (mvT hZ (hw _ (List.mem_of_getElem? (i := 53) rfl))) (mvT hZ (hw _ (List.mem_of_getElem? (i := 52) rfl))) (by decide) (backOf (W := 1) (rm_lenG l Z a0 hw [] a1 v1 kv cd z1 vs [c0_, c1_] cs h0 n0 O0 S0_ hcs F3_ F4_ E2_ A5_ hcod (by simp)) hZ (hw _ (List.mem_of_getElem? (i := 54) rfl)) (hw _ (List.mem_of_getElem? (i := 8) rfl)) (by decide) (by decide)) q105a q105c (g := (mkF m 13 #[rv a1, iv (0 : Int32), .unset, .unset] [(.ref a1), (.int (0 : Int32))])) rfl (by rw [hml]; rfl) (Steps.refl _) (argsL := []) (rest := [(.int (0 : Int32))]) (lenOf pd_17 rfl) rfl (by show 2 * 0 + _ ≤ _; exact Nat.le_of_eq rfl) (hb hby d5_13) (fun _ _ => ⟨rfl, e102, (by decide : 0 + 0 ≤ _), (by decide : 0 + 0 ≤ _)⟩)
  dsimp only [Pt.U, Pt.locs, Pt.cells, Pt.slots] at X105 l105 y105 z105 st105 hQ105
  subst l105 y105 z105
  obtain ⟨rfl, M105, e105⟩ := hQ105
  have N105 := Fr.app N102 M105
  have g106 : Go p e below T105 (mkF m 16 #[rv a1, iv (0 : Int32), .unset, .unset] [(.int (2 : Int32)), (.int (0 : Int32))]) A0 := fun t kont => g104 t (st105.trans kont)
  have g107 : Go p e below T105 (mkF m 21 #[rv a1, iv (0 : Int32), .unset, .unset] [(.int (0 : Int32)), (.ref a1)]) A0 := by
    intro t kont
    refine g106 t ?_
    refine XS.icmpNo X105.here hx rfl (hb hby d5_16) rfl (tlt (by decide : (0 : Int32) < (2 : Int32))).2.1 ?_
    refine XS.aloadN X105.here hx rfl (hb hby d5_19) rfl rfl ?_
    refine XS.iloadN X105.here hx rfl (hb hby d5_20) rfl ?_
    exact kont
  obtain ⟨cq108, kq108, q108a, q108b, q108c⟩ := isOf hZ e105 E2_
  obtain ⟨_, _, ⟨T108, L108, k108, n108⟩, -, X108, ⟨Lc108, hQ108, l108, y108, z108⟩, st108⟩ := X105.virtualBack hx (y := (⟨"java/lang/String", "charAt", "(I)C"⟩ : MethodName)) (z := (⟨"java/lang/String", "charAt", "(I)C"⟩ : MethodName)) hown (mvT hZ (hw _ (List.mem_of_getElem? (i := 60) rfl))) (mvT hZ (hw _ (List.mem_of_getElem? (i := 61) rfl))) (notFace_of_selects (args := #[]) (mvT hZ (hw _ (List.mem_of_getElem? (i := 63) rfl)))) (mvT hZ (hw _ (List.mem_of_getElem? (i := 63) rfl))) (mvT hZ (hw _ (List.mem_of_getElem? (i := 62) rfl))) (by decide) (backOf (W := 0) (rm_chaG l Z a0 hw [] a1 v1 kv cd z1 vs [c0_, c1_] cs 0 fm h0 n0 O0 S0_ hcs F3_ F4_ E2_ A5_ hcod (by simp) (by simp) hch S8_ hfm S10_ S11_ S12_) hZ (hw _ (List.mem_of_getElem? (i := 64) rfl)) (hw _ (List.mem_of_getElem? (i := 8) rfl)) (by decide) (by decide)) q108a q108c (g := (mkF m 21 #[rv a1, iv (0 : Int32), .unset, .unset] [(.int (0 : Int32)), (.ref a1)])) rfl (by rw [hml]; rfl) (Steps.refl _) (argsL := [(.int (0 : Int32))]) (rest := []) (lenOf pd_18 rfl) rfl (by show 2 * 0 + _ ≤ _; exact Nat.le_of_eq rfl) (hb hby d5_21) (fun _ _ => ⟨rfl, e105, (by decide : 0 + 0 ≤ _), (by decide : 0 + 0 ≤ _)⟩)
  dsimp only [Pt.U, Pt.locs, Pt.cells, Pt.slots] at X108 l108 y108 z108 st108 hQ108
  subst l108 y108 z108
  obtain ⟨rfl, M108, e108⟩ := hQ108
  have N108 := Fr.app N105 M108
  have g109 : Go p e below T108 (mkF m 24 #[rv a1, iv (0 : Int32), .unset, .unset] [(.int c0_)]) A0 := fun t kont => g107 t (st108.trans kont)
  have g110 : Go p e below T108 (mkF m 25 #[rv a1, iv (0 : Int32), iv c0_, .unset] []) A0 := by
    intro t kont
    refine g109 t ?_
    refine XS.istoreN X108.here hx rfl (hb hby d5_24) rfl (l' := #[rv a1, iv (0 : Int32), iv c0_, .unset]) rfl ?_
    exact kont
  obtain ⟨al0, j112, j113, gp111⟩ := pz_al X108 hx hby a1 (0 : Int32) c0_ (.unset) 
  have g114 : Go p e below T108 (mkF m 66 #[rv a1, iv (0 : Int32), iv c0_, .unset] [(.int al0)]) A0 := fun t kont => g110 t (gp111 t kont)
  by_cases c115 : own_tok c0_
  ·
    obtain ⟨af0, T116, lc116, h116, vm116, k116, X116, e116, E116, hS, hk, hZ, hown, R116, C116, N116, g116⟩ : ∃ af0 : Int32, ∃ (T116 : State) (lc116 : List Loc) (h116 : Heap) (vm116 : Vm) (k116 : Nat), Stand p l e ({ frames := 5, cells := 4, slots := 128, locals := 66 } : Room) (s.setVm vm116) m #[(.ref a1)] below meth c T116 lc116 2 64 ∧ T116.heap = h116 ∧ Ext h0 h116 ∧ s.Since vm116 k116 ∧ k116 ≤ h116.size ∧ Z.Warmed39 (s.setVm vm116).vm ∧ (s.setVm vm116).vm.findClass "com/example/rolegate/rolegate/MethodSet" = some m.cls ∧ CHr Z consts_1 s.vm h0 vm116 h116 ∧ CHr Z consts_1 s.vm h0 vm116 h116 ∧ Fr n0 lc116 ∧ Go p e below T116 (mkF m 82 #[rv a1, iv (0 : Int32), iv c0_, iv af0] []) A0 := by
      have g117 : Go p e below T108 (mkF m 68 #[rv a1, iv (0 : Int32), iv c0_, iv al0] [(.int al0)]) A0 := by
        intro t kont
        refine g114 t ?_
        refine XS.istoreN X108.here hx rfl (hb hby d5_66) rfl (l' := #[rv a1, iv (0 : Int32), iv c0_, iv al0]) rfl ?_
        refine XS.iloadN X108.here hx rfl (hb hby d5_67) rfl ?_
        exact kont
      rcases (j112 : al0 = (0 : Int32) ∨ al0 = (1 : Int32)) with c118 | c118
      ·
        subst c118
        have g119 : Go p e below T108 (mkF m 71 #[rv a1, iv (0 : Int32), iv c0_, iv (0 : Int32)] []) A0 := by
          intro t kont
          refine g117 t ?_
          refine XS.ifNo X108.here hx rfl (hb hby d5_68) rfl ((if0 _ _).trans (teq (by decide : (0 : Int32) = (0 : Int32))).2) ?_
          exact kont
        obtain ⟨b120, T120, h120, k120, c120, kc120, X120, e120, E120, hS, hk, hZ, hown, A120, F120, G120, V120, la120, lb120, C120, -, ne120, st120⟩ := ldcCH X108 hx hZ hown (hw _ (List.mem_of_getElem? (i := 82) rfl)) (own_wS hw) e108 hS hk (own_EW hw) (List.mem_of_getElem? (i := 0) rfl) R0.1 (vs := [(.int (33 : Int32)), (.int (35 : Int32)), (.int (36 : Int32)), (.int (37 : Int32)), (.int (38 : Int32)), (.int (39 : Int32)), (.int (42 : Int32)), (.int (43 : Int32)), (.int (45 : Int32)), (.int (46 : Int32)), (.int (94 : Int32)), (.int (95 : Int32)), (.int (96 : Int32)), (.int (124 : Int32)), (.int (126 : Int32))]) (z := (15 : Int32)) ⟨by decide, by decide⟩ (by decide) rfl (g := (mkF m 71 #[rv a1, iv (0 : Int32), iv c0_, iv (0 : Int32)] [])) rfl (hb hby d5_71) (n := 60) (by decide) (by decide) (by decide) (by decide)
        have R121 : CHr Z consts_1 s.vm h0 T120.vm h120 := R0.trans C120
        have O122 := O0.ext E120
        have g123 : Go p e below T120 (mkF m 73 #[rv a1, iv (0 : Int32), iv c0_, iv (0 : Int32)] [(.ref b120)]) A0 := fun t kont => g119 t (st120 t kont)
        have g125 : Go p e below T120 (mkF m 74 #[rv a1, iv (0 : Int32), iv c0_, iv (0 : Int32)] [(.int c0_), (.ref b120)]) A0 := by
          intro t kont
          refine g123 t ?_
          refine XS.iloadN X120.here hx rfl (hb hby d5_73) rfl ?_
          exact kont
        by_cases c124 : (255 : Int32) < c0_
        ·
          obtain ⟨cq126, kq126, q126a, q126b, q126c⟩ := isOf hZ e120 A120
          obtain ⟨_, _, ⟨T126, L126, k126, n126⟩, -, X126, ⟨Lc126, hQ126, l126, y126, z126⟩, st126⟩ := X120.virtualBack hx (y := (⟨"java/lang/String", "indexOf", "(I)I"⟩ : MethodName)) (z := (⟨"java/lang/String", "indexOf", "(I)I"⟩ : MethodName)) hown (mvT hZ (hw _ (List.mem_of_getElem? (i := 83) rfl))) (mvT hZ (hw _ (List.mem_of_getElem? (i := 84) rfl))) (notFace_of_selects (args := #[]) (mvT hZ (hw _ (List.mem_of_getElem? (i := 86) rfl)))) (mvT hZ (hw _ (List.mem_of_getElem? (i := 86) rfl))) (mvT hZ (hw _ (List.mem_of_getElem? (i := 85) rfl))) (by decide) (backOf (W := 0) (rm_ix1U l Z a0 hw [] b120 c120 c0_ kc120 cs h120 n0 O122 S0_ hcs G120 F120 A120 V120 hb0_.1 c124) hZ (hw _ (List.mem_of_getElem? (i := 87) rfl)) (hw _ (List.mem_of_getElem? (i := 8) rfl)) (by decide) (by decide)) q126a q126c (g := (mkF m 74 #[rv a1, iv (0 : Int32), iv c0_, iv (0 : Int32)] [(.int c0_), (.ref b120)])) rfl (by rw [hml]; rfl) (Steps.refl _) (argsL := [(.int c0_)]) (rest := []) (lenOf pd_1 rfl) rfl (by show 2 * 0 + _ ≤ _; exact Nat.le_of_eq rfl) (hb hby d5_74) (fun _ _ => ⟨rfl, e120, (by decide : 2 + 0 ≤ _), (by decide : 64 + 0 ≤ _)⟩)
          dsimp only [Pt.U, Pt.locs, Pt.cells, Pt.slots] at X126 l126 y126 z126 st126 hQ126
          subst l126 y126 z126
          obtain ⟨r127, rfl, M126, e126, y128⟩ := hQ126
          have N126 := Fr.app N108 M126
          have g129 : Go p e below T126 (mkF m 77 #[rv a1, iv (0 : Int32), iv c0_, iv (0 : Int32)] [(.int r127)]) A0 := fun t kont => g125 t (st126.trans kont)
          have g130 : Go p e below T126 (mkF m 82 #[rv a1, iv (0 : Int32), iv c0_, iv (0 : Int32)] []) A0 := by
            intro t kont
            refine g129 t ?_
            refine XS.ifYes X126.here hx rfl (pc0 := 77) (pc' := 82) rfl (hb hby d5_77) rfl ((if0 _ _).trans (flt (own_u2 y128 (own_u1 j113 c115) : ¬ (r127 < (0 : Int32)))).2.1) (by decide) (by decide) ?_
            exact kont
          exact ⟨(0 : Int32), _, _, _, _, _, (X126.more (by decide) (by decide)), e126, E120, hS, hk, hZ, hown, R121, ((CHr.refl R0.1).trans (C120)), N126, g130⟩
        obtain ⟨cq131, kq131, q131a, q131b, q131c⟩ := isOf hZ e120 A120
        obtain ⟨_, _, ⟨T131, L131, k131, n131⟩, -, X131, ⟨Lc131, hQ131, l131, y131, z131⟩, st131⟩ := X120.virtualBack hx (y := (⟨"java/lang/String", "indexOf", "(I)I"⟩ : MethodName)) (z := (⟨"java/lang/String", "indexOf", "(I)I"⟩ : MethodName)) hown (mvT hZ (hw _ (List.mem_of_getElem? (i := 83) rfl))) (mvT hZ (hw _ (List.mem_of_getElem? (i := 84) rfl))) (notFace_of_selects (args := #[]) (mvT hZ (hw _ (List.mem_of_getElem? (i := 86) rfl)))) (mvT hZ (hw _ (List.mem_of_getElem? (i := 86) rfl))) (mvT hZ (hw _ (List.mem_of_getElem? (i := 85) rfl))) (by decide) (backOf (W := 0) (rm_ix1L l Z a0 hw [] b120 c120 c0_ kc120 cs h120 n0 O122 S0_ hcs G120 F120 A120 V120 hb0_.1 c124) hZ (hw _ (List.mem_of_getElem? (i := 87) rfl)) (hw _ (List.mem_of_getElem? (i := 8) rfl)) (by decide) (by decide)) q131a q131c (g := (mkF m 74 #[rv a1, iv (0 : Int32), iv c0_, iv (0 : Int32)] [(.int c0_), (.ref b120)])) rfl (by rw [hml]; rfl) (Steps.refl _) (argsL := [(.int c0_)]) (rest := []) (lenOf pd_1 rfl) rfl (by show 2 * 0 + _ ≤ _; exact Nat.le_of_eq rfl) (hb hby d5_74) (fun _ _ => ⟨rfl, e120, (by decide : 2 + 0 ≤ _), (by decide : 64 + 0 ≤ _)⟩)
        dsimp only [Pt.U, Pt.locs, Pt.cells, Pt.slots] at X131 l131 y131 z131 st131 hQ131
        subst l131 y131 z131
        obtain ⟨r132, rfl, M131, e131, y133⟩ := hQ131
        have N131 := Fr.app N108 M131
        have g134 : Go p e below T131 (mkF m 77 #[rv a1, iv (0 : Int32), iv c0_, iv (0 : Int32)] [(.int r132)]) A0 := fun t kont => g125 t (st131.trans kont)
        have g135 : Go p e below T131 (mkF m 82 #[rv a1, iv (0 : Int32), iv c0_, iv (0 : Int32)] []) A0 := by
          intro t kont
          refine g134 t ?_
          refine XS.ifYes X131.here hx rfl (pc0 := 77) (pc' := 82) rfl (hb hby d5_77) rfl ((if0 _ _).trans (flt (own_u2 y133 (own_u1 j113 c115) : ¬ (r132 < (0 : Int32)))).2.1) (by decide) (by decide) ?_
          exact kont
        exact ⟨(0 : Int32), _, _, _, _, _, (X131.more (by decide) (by decide)), e131, E120, hS, hk, hZ, hown, R121, ((CHr.refl R0.1).trans (C120)), N131, g135⟩
      subst c118
      have g136 : Go p e below T108 (mkF m 82 #[rv a1, iv (0 : Int32), iv c0_, iv (1 : Int32)] []) A0 := by
        intro t kont
        refine g117 t ?_
        refine XS.ifYes X108.here hx rfl (pc0 := 68) (pc' := 82) rfl (hb hby d5_68) rfl ((if0 _ _).trans (feq (by decide : ¬ ((1 : Int32) = (0 : Int32)))).2) (by decide) (by decide) ?_
        exact kont
      exact ⟨(1 : Int32), _, _, _, _, _, (X108.more (by decide) (by decide)), e108, own_ext_refl, hS, hk, hZ, hown, R0, (CHr.refl R0.1), N108, g136⟩
    have O137 := O0.ext E116
    have g138 : Go p e below T116 (mkF m 13 #[rv a1, iv (1 : Int32), iv c0_, iv af0] [(.ref a1), (.int (1 : Int32))]) A0 := by
      intro t kont
      refine g116 t ?_
      refine XS.iinc X116.here hx rfl (hb hby d5_82) rfl (l' := #[rv a1, iv (1 : Int32), iv c0_, iv af0]) rfl ?_
      refine XS.goto X116.here hx rfl (pc0 := 85) (pc' := 11) rfl (hb hby d5_85) (by decide) (by decide) ?_
      refine XS.iloadN X116.here hx rfl (hb hby d5_11) rfl ?_
      refine XS.aloadN X116.here hx rfl (hb hby d5_12) rfl rfl ?_
      exact kont
    have y140 : Exa Z h116 a1 "java/lang/String" := (E2_.ext E116)
    have y141 : Fld Z h116 a1 "java/lang/String" "value" "[B" (.ref v1) := (F3_.ext E116)
    have y142 : Fld Z h116 a1 "java/lang/String" "coder" "B" (.int cd) := (F4_.ext E116)
    have y143 : Arv Z h116 v1 kv .byte z1 vs (.int (0 : Int32)) := (A5_.ext E116)
    obtain ⟨cq139, kq139, q139a, q139b, q139c⟩ := isOf hZ e116 y140
    obtain ⟨_, _, ⟨T139, L139, k139, n139⟩, -, X139, ⟨Lc139, hQ139, l139, y139, z139⟩, st139⟩ := X116.virtualBack hx (y := (⟨"java/lang/String", "length", "()I"⟩ : MethodName)) (z := (⟨"java/lang/String", "length", "()I"⟩ : MethodName)) hown (mvT hZ (hw _ (List.mem_of_getElem? (i := 50) rfl))) (mvT hZ (hw _ (List.mem_of_getElem? (i := 51) rfl))) (notFace_of_selects (args := #[]) (mvT hZ (hw _ (List.mem_of_getElem? (i := 53) rfl)))) (mvT hZ (hw _ (List.mem_of_getElem? (i := 53) rfl))) (mvT hZ (hw _ (List.mem_of_getElem? (i := 52) rfl))) (by decide) (backOf (W := 1) (rm_lenG l Z a0 hw [] a1 v1 kv cd z1 vs [c0_, c1_] cs h116 n0 O137 S0_ hcs y141 y142 y140 y143 hcod (by simp)) hZ (hw _ (List.mem_of_getElem? (i := 54) rfl)) (hw _ (List.mem_of_getElem? (i := 8) rfl)) (by decide) (by decide)) q139a q139c (g := (mkF m 13 #[rv a1, iv (1 : Int32), iv c0_, iv af0] [(.ref a1), (.int (1 : Int32))])) rfl (by rw [hml]; rfl) (Steps.refl _) (argsL := []) (rest := [(.int (1 : Int32))]) (lenOf pd_17 rfl) rfl (by show 2 * 0 + _ ≤ _; exact Nat.le_of_eq rfl) (hb hby d5_13) (fun _ _ => ⟨rfl, e116, (by decide : 2 + 0 ≤ _), (by decide : 64 + 0 ≤ _)⟩)
    dsimp only [Pt.U, Pt.locs, Pt.cells, Pt.slots] at X139 l139 y139 z139 st139 hQ139
    subst l139 y139 z139
    obtain ⟨rfl, M139, e139⟩ := hQ139
    have N139 := Fr.app N116 M139
    have g144 : Go p e below T139 (mkF m 16 #[rv a1, iv (1 : Int32), iv c0_, iv af0] [(.int (2 : Int32)), (.int (1 : Int32))]) A0 := fun t kont => g138 t (st139.trans kont)
    have g145 : Go p e below T139 (mkF m 21 #[rv a1, iv (1 : Int32), iv c0_, iv af0] [(.int (1 : Int32)), (.ref a1)]) A0 := by
      intro t kont
      refine g144 t ?_
      refine XS.icmpNo X139.here hx rfl (hb hby d5_16) rfl (tlt (by decide : (1 : Int32) < (2 : Int32))).2.1 ?_
      refine XS.aloadN X139.here hx rfl (hb hby d5_19) rfl rfl ?_
      refine XS.iloadN X139.here hx rfl (hb hby d5_20) rfl ?_
      exact kont
    obtain ⟨cq146, kq146, q146a, q146b, q146c⟩ := isOf hZ e139 y140
    obtain ⟨_, _, ⟨T146, L146, k146, n146⟩, -, X146, ⟨Lc146, hQ146, l146, y146, z146⟩, st146⟩ := X139.virtualBack hx (y := (⟨"java/lang/String", "charAt", "(I)C"⟩ : MethodName)) (z := (⟨"java/lang/String", "charAt", "(I)C"⟩ : MethodName)) hown (mvT hZ (hw _ (List.mem_of_getElem? (i := 60) rfl))) (mvT hZ (hw _ (List.mem_of_getElem? (i := 61) rfl))) (notFace_of_selects (args := #[]) (mvT hZ (hw _ (List.mem_of_getElem? (i := 63) rfl)))) (mvT hZ (hw _ (List.mem_of_getElem? (i := 63) rfl))) (mvT hZ (hw _ (List.mem_of_getElem? (i := 62) rfl))) (by decide) (backOf (W := 0) (rm_chaG l Z a0 hw [] a1 v1 kv cd z1 vs [c0_, c1_] cs 1 fm h116 n0 O137 S0_ hcs y141 y142 y140 y143 hcod (by simp) (by simp) hch S8_ hfm S10_ S11_ S12_) hZ (hw _ (List.mem_of_getElem? (i := 64) rfl)) (hw _ (List.mem_of_getElem? (i := 8) rfl)) (by decide) (by decide)) q146a q146c (g := (mkF m 21 #[rv a1, iv (1 : Int32), iv c0_, iv af0] [(.int (1 : Int32)), (.ref a1)])) rfl (by rw [hml]; rfl) (Steps.refl _) (argsL := [(.int (1 : Int32))]) (rest := []) (lenOf pd_18 rfl) rfl (by show 2 * 0 + _ ≤ _; exact Nat.le_of_eq rfl) (hb hby d5_21) (fun _ _ => ⟨rfl, e139, (by decide : 2 + 0 ≤ _), (by decide : 64 + 0 ≤ _)⟩)
    dsimp only [Pt.U, Pt.locs, Pt.cells, Pt.slots] at X146 l146 y146 z146 st146 hQ146
    subst l146 y146 z146
    obtain ⟨rfl, M146, e146⟩ := hQ146
    have N146 := Fr.app N139 M146
    have g147 : Go p e below T146 (mkF m 24 #[rv a1, iv (1 : Int32), iv c0_, iv af0] [(.int c1_)]) A0 := fun t kont => g145 t (st146.trans kont)
    have g148 : Go p e below T146 (mkF m 25 #[rv a1, iv (1 : Int32), iv c1_, iv af0] []) A0 := by
      intro t kont
      refine g147 t ?_
      refine XS.istoreN X146.here hx rfl (hb hby d5_24) rfl (l' := #[rv a1, iv (1 : Int32), iv c1_, iv af0]) rfl ?_
      exact kont
    obtain ⟨al1, j150, j151, gp149⟩ := pz_al X146 hx hby a1 (1 : Int32) c1_ (iv af0) 
    have g152 : Go p e below T146 (mkF m 66 #[rv a1, iv (1 : Int32), iv c1_, iv af0] [(.int al1)]) A0 := fun t kont => g148 t (gp149 t kont)
    by_cases c153 : own_tok c1_
    ·
      obtain ⟨af1, T154, lc154, h154, vm154, k154, X154, e154, E154, hS, hk, hZ, hown, R154, C154, N154, g154⟩ : ∃ af1 : Int32, ∃ (T154 : State) (lc154 : List Loc) (h154 : Heap) (vm154 : Vm) (k154 : Nat), Stand p l e ({ frames := 5, cells := 4, slots := 128, locals := 66 } : Room) (s.setVm vm154) m #[(.ref a1)] below meth c T154 lc154 4 128 ∧ T154.heap = h154 ∧ Ext h116 h154 ∧ s.Since vm154 k154 ∧ k154 ≤ h154.size ∧ Z.Warmed39 (s.setVm vm154).vm ∧ (s.setVm vm154).vm.findClass "com/example/rolegate/rolegate/MethodSet" = some m.cls ∧ CHr Z consts_1 s.vm h0 vm154 h154 ∧ CHr Z consts_1 vm116 h116 vm154 h154 ∧ Fr n0 lc154 ∧ Go p e below T154 (mkF m 82 #[rv a1, iv (1 : Int32), iv c1_, iv af1] []) A0 := by
        have g155 : Go p e below T146 (mkF m 68 #[rv a1, iv (1 : Int32), iv c1_, iv al1] [(.int al1)]) A0 := by
          intro t kont
          refine g152 t ?_
          refine XS.istoreN X146.here hx rfl (hb hby d5_66) rfl (l' := #[rv a1, iv (1 : Int32), iv c1_, iv al1]) rfl ?_
          refine XS.iloadN X146.here hx rfl (hb hby d5_67) rfl ?_
          exact kont
        rcases (j150 : al1 = (0 : Int32) ∨ al1 = (1 : Int32)) with c156 | c156
        ·
          subst c156
          have g157 : Go p e below T146 (mkF m 71 #[rv a1, iv (1 : Int32), iv c1_, iv (0 : Int32)] []) A0 := by
            intro t kont
            refine g155 t ?_
            refine XS.ifNo X146.here hx rfl (hb hby d5_68) rfl ((if0 _ _).trans (teq (by decide : (0 : Int32) = (0 : Int32))).2) ?_
            exact kont
          obtain ⟨b158, T158, h158, k158, c158, kc158, X158, e158, E158, hS, hk, hZ, hown, A158, F158, G158, V158, la158, lb158, C158, -, ne158, st158⟩ := ldcCH X146 hx hZ hown (hw _ (List.mem_of_getElem? (i := 82) rfl)) (own_wS hw) e146 hS hk (own_EW hw) (List.mem_of_getElem? (i := 0) rfl) R116.1 (vs := [(.int (33 : Int32)), (.int (35 : Int32)), (.int (36 : Int32)), (.int (37 : Int32)), (.int (38 : Int32)), (.int (39 : Int32)), (.int (42 : Int32)), (.int (43 : Int32)), (.int (45 : Int32)), (.int (46 : Int32)), (.int (94 : Int32)), (.int (95 : Int32)), (.int (96 : Int32)), (.int (124 : Int32)), (.int (126 : Int32))]) (z := (15 : Int32)) ⟨by decide, by decide⟩ (by decide) rfl (g := (mkF m 71 #[rv a1, iv (1 : Int32), iv c1_, iv (0 : Int32)] [])) rfl (hb hby d5_71) (n := 60) (by decide) (by decide) (by decide) (by decide)
          have R159 : CHr Z consts_1 s.vm h0 T158.vm h158 := R116.trans C158
          have O160 := O137.ext E158
          have g161 : Go p e below T158 (mkF m 73 #[rv a1, iv (1 : Int32), iv c1_, iv (0 : Int32)] [(.ref b158)]) A0 := fun t kont => g157 t (st158 t kont)
          have g163 : Go p e below T158 (mkF m 74 #[rv a1, iv (1 : Int32), iv c1_, iv (0 : Int32)] [(.int c1_), (.ref b158)]) A0 := by
            intro t kont
            refine g161 t ?_
            refine XS.iloadN X158.here hx rfl (hb hby d5_73) rfl ?_
            exact kont
          by_cases c162 : (255 : Int32) < c1_
          ·
            obtain ⟨cq164, kq164, q164a, q164b, q164c⟩ := isOf hZ e158 A158
            obtain ⟨_, _, ⟨T164, L164, k164, n164⟩, -, X164, ⟨Lc164, hQ164, l164, y164, z164⟩, st164⟩ := X158.virtualBack hx (y := (⟨"java/lang/String", "indexOf", "(I)I"⟩ : MethodName)) (z := (⟨"java/lang/String", "indexOf", "(I)I"⟩ : MethodName)) hown (mvT hZ (hw _ (List.mem_of_getElem? (i := 83) rfl))) (mvT hZ (hw _ (List.mem_of_getElem? (i := 84) rfl))) (notFace_of_selects (args := #[]) (mvT hZ (hw _ (List.mem_of_getElem? (i := 86) rfl)))) (mvT hZ (hw _ (List.mem_of_getElem? (i := 86) rfl))) (mvT hZ (hw _ (List.mem_of_getElem? (i := 85) rfl))) (by decide) (backOf (W := 0) (rm_ix1U l Z a0 hw [] b158 c158 c1_ kc158 cs h158 n0 O160 S0_ hcs G158 F158 A158 V158 hb1_.1 c162) hZ (hw _ (List.mem_of_getElem? (i := 87) rfl)) (hw _ (List.mem_of_getElem? (i := 8) rfl)) (by decide) (by decide)) q164a q164c (g := (mkF m 74 #[rv a1, iv (1 : Int32), iv c1_, iv (0 : Int32)] [(.int c1_), (.ref b158)])) rfl (by rw [hml]; rfl) (Steps.refl _) (argsL := [(.int c1_)]) (rest := []) (lenOf pd_1 rfl) rfl (by show 2 * 0 + _ ≤ _; exact Nat.le_of_eq rfl) (hb hby d5_74) (fun _ _ => ⟨rfl, e158, (by decide : 4 + 0 ≤ _), (by decide : 128 + 0 ≤ _)⟩)
            dsimp only [Pt.U, Pt.locs, Pt.cells, Pt.slots] at X164 l164 y164 z164 st164 hQ164
            subst l164 y164 z164
            obtain ⟨r165, rfl, M164, e164, y166⟩ := hQ164
            have N164 := Fr.app N146 M164
            have g167 : Go p e below T164 (mkF m 77 #[rv a1, iv (1 : Int32), iv c1_, iv (0 : Int32)] [(.int r165)]) A0 := fun t kont => g163 t (st164.trans kont)
            have g168 : Go p e below T164 (mkF m 82 #[rv a1, iv (1 : Int32), iv c1_, iv (0 : Int32)] []) A0 := by
              intro t kont
              refine g167 t ?_
              refine XS.ifYes X164.here hx rfl (pc0 := 77) (pc' := 82) rfl (hb hby d5_77) rfl ((if0 _ _).trans (flt (own_u2 y166 (own_u1 j151 c153) : ¬ (r165 < (0 : Int32)))).2.1) (by decide) (by decide) ?_
              exact kont
            exact ⟨(0 : Int32), _, _, _, _, _, (X164.more (by decide) (by decide)), e164, E158, hS, hk, hZ, hown, R159, ((CHr.refl R116.1).trans (C158)), N164, g168⟩
          obtain ⟨cq169, kq169, q169a, q169b, q169c⟩ := isOf hZ e158 A158
          obtain ⟨_, _, ⟨T169, L169, k169, n169⟩, -, X169, ⟨Lc169, hQ169, l169, y169, z169⟩, st169⟩ := X158.virtualBack hx (y := (⟨"java/lang/String", "indexOf", "(I)I"⟩ : MethodName)) (z := (⟨"java/lang/String", "indexOf", "(I)I"⟩ : MethodName)) hown (mvT hZ (hw _ (List.mem_of_getElem? (i := 83) rfl))) (mvT hZ (hw _ (List.mem_of_getElem? (i := 84) rfl))) (notFace_of_selects (args := #[]) (mvT hZ (hw _ (List.mem_of_getElem? (i := 86) rfl)))) (mvT hZ (hw _ (List.mem_of_getElem? (i := 86) rfl))) (mvT hZ (hw _ (List.mem_of_getElem? (i := 85) rfl))) (by decide) (backOf (W := 0) (rm_ix1L l Z a0 hw [] b158 c158 c1_ kc158 cs h158 n0 O160 S0_ hcs G158 F158 A158 V158 hb1_.1 c162) hZ (hw _ (List.mem_of_getElem? (i := 87) rfl)) (hw _ (List.mem_of_getElem? (i := 8) rfl)) (by decide) (by decide)) q169a q169c (g := (mkF m 74 #[rv a1, iv (1 : Int32), iv c1_, iv (0 : Int32)] [(.int c1_), (.ref b158)])) rfl (by rw [hml]; rfl) (Steps.refl _) (argsL := [(.int c1_)]) (rest := []) (lenOf pd_1 rfl) rfl (by show 2 * 0 + _ ≤ _; exact Nat.le_of_eq rfl) (hb hby d5_74) (fun _ _ => ⟨rfl, e158, (by decide : 4 + 0 ≤ _), (by decide : 128 + 0 ≤ _)⟩)
          dsimp only [Pt.U, Pt.locs, Pt.cells, Pt.slots] at X169 l169 y169 z169 st169 hQ169
          subst l169 y169 z169
          obtain ⟨r170, rfl, M169, e169, y171⟩ := hQ169
          have N169 := Fr.app N146 M169
          have g172 : Go p e below T169 (mkF m 77 #[rv a1, iv (1 : Int32), iv c1_, iv (0 : Int32)] [(.int r170)]) A0 := fun t kont => g163 t (st169.trans kont)
          have g173 : Go p e below T169 (mkF m 82 #[rv a1, iv (1 : Int32), iv c1_, iv (0 : Int32)] []) A0 := by
            intro t kont
            refine g172 t ?_
            refine XS.ifYes X169.here hx rfl (pc0 := 77) (pc' := 82) rfl (hb hby d5_77) rfl ((if0 _ _).trans (flt (own_u2 y171 (own_u1 j151 c153) : ¬ (r170 < (0 : Int32)))).2.1) (by decide) (by decide) ?_
            exact kont
          exact ⟨(0 : Int32), _, _, _, _, _, (X169.more (by decide) (by decide)), e169, E158, hS, hk, hZ, hown, R159, ((CHr.refl R116.1).trans (C158)), N169, g173⟩
        subst c156
        have g174 : Go p e below T146 (mkF m 82 #[rv a1, iv (1 : Int32), iv c1_, iv (1 : Int32)] []) A0 := by
          intro t kont
          refine g155 t ?_
          refine XS.ifYes X146.here hx rfl (pc0 := 68) (pc' := 82) rfl (hb hby d5_68) rfl ((if0 _ _).trans (feq (by decide : ¬ ((1 : Int32) = (0 : Int32)))).2) (by decide) (by decide) ?_
          exact kont
        exact ⟨(1 : Int32), _, _, _, _, _, (X146.more (by decide) (by decide)), e146, own_ext_refl, hS, hk, hZ, hown, R116, (CHr.refl R116.1), N146, g174⟩
      have O175 := O137.ext E154
      have g176 : Go p e below T154 (mkF m 13 #[rv a1, iv (2 : Int32), iv c1_, iv af1] [(.ref a1), (.int (2 : Int32))]) A0 := by
        intro t kont
        refine g154 t ?_
        refine XS.iinc X154.here hx rfl (hb hby d5_82) rfl (l' := #[rv a1, iv (2 : Int32), iv c1_, iv af1]) rfl ?_
        refine XS.goto X154.here hx rfl (pc0 := 85) (pc' := 11) rfl (hb hby d5_85) (by decide) (by decide) ?_
        refine XS.iloadN X154.here hx rfl (hb hby d5_11) rfl ?_
        refine XS.aloadN X154.here hx rfl (hb hby d5_12) rfl rfl ?_
        exact kont
      have y178 : Exa Z h154 a1 "java/lang/String" := (y140.ext E154)
      have y179 : Fld Z h154 a1 "java/lang/String" "value" "[B" (.ref v1) := (y141.ext E154)
      have y180 : Fld Z h154 a1 "java/lang/String" "coder" "B" (.int cd) := (y142.ext E154)
      have y181 : Arv Z h154 v1 kv .byte z1 vs (.int (0 : Int32)) := (y143.ext E154)
      obtain ⟨cq177, kq177, q177a, q177b, q177c⟩ := isOf hZ e154 y178
      obtain ⟨_, _, ⟨T177, L177, k177, n177⟩, -, X177, ⟨Lc177, hQ177, l177, y177, z177⟩, st177⟩ := X154.virtualBack hx (y := (⟨"java/lang/String", "length", "()I"⟩ : MethodName)) (z := (⟨"java/lang/String", "length", "()I"⟩ : MethodName)) hown (mvT hZ (hw _ (List.mem_of_getElem? (i := 50) rfl))) (mvT hZ (hw _ (List.mem_of_getElem? (i := 51) rfl))) (notFace_of_selects (args := #[]) (mvT hZ (hw _ (List.mem_of_getElem? (i := 53) rfl)))) (mvT hZ (hw _ (List.mem_of_getElem? (i := 53) rfl))) (mvT hZ (hw _ (List.mem_of_getElem? (i := 52) rfl))) (by decide) (backOf (W := 1) (rm_lenG l Z a0 hw [] a1 v1 kv cd z1 vs [c0_, c1_] cs h154 n0 O175 S0_ hcs y179 y180 y178 y181 hcod (by simp)) hZ (hw _ (List.mem_of_getElem? (i := 54) rfl)) (hw _ (List.mem_of_getElem? (i := 8) rfl)) (by decide) (by decide)) q177a q177c (g := (mkF m 13 #[rv a1, iv (2 : Int32), iv c1_, iv af1] [(.ref a1), (.int (2 : Int32))])) rfl (by rw [hml]; rfl) (Steps.refl _) (argsL := []) (rest := [(.int (2 : Int32))]) (lenOf pd_17 rfl) rfl (by show 2 * 0 + _ ≤ _; exact Nat.le_of_eq rfl) (hb hby d5_13) (fun _ _ => ⟨rfl, e154, (by decide : 4 + 0 ≤ _), (by decide : 128 + 0 ≤ _)⟩)
      dsimp only [Pt.U, Pt.locs, Pt.cells, Pt.slots] at X177 l177 y177 z177 st177 hQ177
      subst l177 y177 z177
      obtain ⟨rfl, M177, e177⟩ := hQ177
      have N177 := Fr.app N154 M177
      have g182 : Go p e below T177 (mkF m 16 #[rv a1, iv (2 : Int32), iv c1_, iv af1] [(.int (2 : Int32)), (.int (2 : Int32))]) A0 := fun t kont => g176 t (st177.trans kont)
      have g183 : Go p e below T177 (mkF m 89 #[rv a1, iv (2 : Int32), iv c1_, iv af1] [(.int (1 : Int32))]) A0 := by
        intro t kont
        refine g182 t ?_
        refine XS.icmpYes X177.here hx rfl (pc0 := 16) (pc' := 88) rfl (hb hby d5_16) rfl (flt (by decide : ¬ ((2 : Int32) < (2 : Int32)))).2.1 (by decide) (by decide) ?_
        refine XS.iconst X177.here hx rfl (hb hby d5_88) ?_
        exact kont
      have K184 : Keep h0 h154 [] := (((Keep.refl h0 []).ext E116).ext E154)
      obtain ⟨fs, hr, hrun, hended, hRW⟩ := X177.leaveW hS (by rw [e177]; exact hk) (v := some (.int (1 : Int32))) (fun h => by rw [Bd.returns] at h; cases h)
      refine ⟨_, _, g183 _ (retN X177 hx (t := .boolean) Bd.returns (by simp) (hb hby d5_89) hr), hrun, hended, _, _, rfl, ?_, ?_, hRW.1, hRW.2.1, hRW.2.2.1, hRW.2.2.2.mono (by decide) (by decide)⟩
      ·
        show Q_isM2 Z a1 v1 kv cs fm cd z1 vs c0_ c1_ h0 n0 _ T177.heap _
        rw [e177]
        exact ⟨(1 : Int32), rfl, N177, K184, Or.inr rfl, iff_of_true rfl ⟨c115, c153⟩⟩
      ·
        rw [hh]
        show CHr Z consts_1 s.vm h0 T177.vm T177.heap
        rw [e177]
        exact R154.trans (CHv.at X177 hZ (own_EW hw) R154.1)
    have g185 : Go p e below T146 (mkF m 68 #[rv a1, iv (1 : Int32), iv c1_, iv al1] [(.int al1)]) A0 := by
      intro t kont
      refine g152 t ?_
      refine XS.istoreN X146.here hx rfl (hb hby d5_66) rfl (l' := #[rv a1, iv (1 : Int32), iv c1_, iv al1]) rfl ?_
      refine XS.iloadN X146.here hx rfl (hb hby d5_67) rfl ?_
      exact kont
    rcases (j150 : al1 = (0 : Int32) ∨ al1 = (1 : Int32)) with c186 | c186
    ·
      subst c186
      have g187 : Go p e below T146 (mkF m 71 #[rv a1, iv (1 : Int32), iv c1_, iv (0 : Int32)] []) A0 := by
        intro t kont
        refine g185 t ?_
        refine XS.ifNo X146.here hx rfl (hb hby d5_68) rfl ((if0 _ _).trans (teq (by decide : (0 : Int32) = (0 : Int32))).2) ?_
        exact kont
      obtain ⟨b188, T188, h188, k188, c188, kc188, X188, e188, E188, hS, hk, hZ, hown, A188, F188, G188, V188, la188, lb188, C188, -, ne188, st188⟩ := ldcCH X146 hx hZ hown (hw _ (List.mem_of_getElem? (i := 82) rfl)) (own_wS hw) e146 hS hk (own_EW hw) (List.mem_of_getElem? (i := 0) rfl) R116.1 (vs := [(.int (33 : Int32)), (.int (35 : Int32)), (.int (36 : Int32)), (.int (37 : Int32)), (.int (38 : Int32)), (.int (39 : Int32)), (.int (42 : Int32)), (.int (43 : Int32)), (.int (45 : Int32)), (.int (46 : Int32)), (.int (94 : Int32)), (.int (95 : Int32)), (.int (96 : Int32)), (.int (124 : Int32)), (.int (126 : Int32))]) (z := (15 : Int32)) ⟨by decide, by decide⟩ (by decide) rfl (g := (mkF m 71 #[rv a1, iv (1 : Int32), iv c1_, iv (0 : Int32)] [])) rfl (hb hby d5_71) (n := 60) (by decide) (by decide) (by decide) (by decide)
      have R189 : CHr Z consts_1 s.vm h0 T188.vm h188 := R116.trans C188
      have O190 := O137.ext E188
      have g191 : Go p e below T188 (mkF m 73 #[rv a1, iv (1 : Int32), iv c1_, iv (0 : Int32)] [(.ref b188)]) A0 := fun t kont => g187 t (st188 t kont)
      have g193 : Go p e below T188 (mkF m 74 #[rv a1, iv (1 : Int32), iv c1_, iv (0 : Int32)] [(.int c1_), (.ref b188)]) A0 := by
        intro t kont
        refine g191 t ?_
        refine XS.iloadN X188.here hx rfl (hb hby d5_73) rfl ?_
        exact kont
      by_cases c192 : (255 : Int32) < c1_
      ·
        obtain ⟨cq194, kq194, q194a, q194b, q194c⟩ := isOf hZ e188 A188
        obtain ⟨_, _, ⟨T194, L194, k194, n194⟩, -, X194, ⟨Lc194, hQ194, l194, y194, z194⟩, st194⟩ := X188.virtualBack hx (y := (⟨"java/lang/String", "indexOf", "(I)I"⟩ : MethodName)) (z := (⟨"java/lang/String", "indexOf", "(I)I"⟩ : MethodName)) hown (mvT hZ (hw _ (List.mem_of_getElem? (i := 83) rfl))) (mvT hZ (hw _ (List.mem_of_getElem? (i := 84) rfl))) (notFace_of_selects (args := #[]) (mvT hZ (hw _ (List.mem_of_getElem? (i := 86) rfl)))) (mvT hZ (hw _ (List.mem_of_getElem? (i := 86) rfl))) (mvT hZ (hw _ (List.mem_of_getElem? (i := 85) rfl))) (by decide) (backOf (W := 0) (rm_ix1U l Z a0 hw [] b188 c188 c1_ kc188 cs h188 n0 O190 S0_ hcs G188 F188 A188 V188 hb1_.1 c192) hZ (hw _ (List.mem_of_getElem? (i := 87) rfl)) (hw _ (List.mem_of_getElem? (i := 8) rfl)) (by decide) (by decide)) q194a q194c (g := (mkF m 74 #[rv a1, iv (1 : Int32), iv c1_, iv (0 : Int32)] [(.int c1_), (.ref b188)])) rfl (by rw [hml]; rfl) (Steps.refl _) (argsL := [(.int c1_)]) (rest := []) (lenOf pd_1 rfl) rfl (by show 2 * 0 + _ ≤ _; exact Nat.le_of_eq rfl) (hb hby d5_74) (fun _ _ => ⟨rfl, e188, (by decide : 4 + 0 ≤ _), (by decide : 128 + 0 ≤ _)⟩)
        dsimp only [Pt.U, Pt.locs, Pt.cells, Pt.slots] at X194 l194 y194 z194 st194 hQ194
        subst l194 y194 z194
        obtain ⟨r195, rfl, M194, e194, y196⟩ := hQ194
        have N194 := Fr.app N146 M194
        have g197 : Go p e below T194 (mkF m 77 #[rv a1, iv (1 : Int32), iv c1_, iv (0 : Int32)] [(.int r195)]) A0 := fun t kont => g193 t (st194.trans kont)
        have g198 : Go p e below T194 (mkF m 81 #[rv a1, iv (1 : Int32), iv c1_, iv (0 : Int32)] [(.int (0 : Int32))]) A0 := by
          intro t kont
          refine g197 t ?_
          refine XS.ifNo X194.here hx rfl (hb hby d5_77) rfl ((if0 _ _).trans (tlt (own_u3 y196 c153 : r195 < (0 : Int32))).2.1) ?_
          refine XS.iconst X194.here hx rfl (hb hby d5_80) ?_
          exact kont
        have K199 : Keep h0 h188 [] := (((Keep.refl h0 []).ext E116).ext E188)
        obtain ⟨fs, hr, hrun, hended, hRW⟩ := X194.leaveW hS (by rw [e194]; exact hk) (v := some (.int (0 : Int32))) (fun h => by rw [Bd.returns] at h; cases h)
        refine ⟨_, _, g198 _ (retN X194 hx (t := .boolean) Bd.returns (by simp) (hb hby d5_81) hr), hrun, hended, _, _, rfl, ?_, ?_, hRW.1, hRW.2.1, hRW.2.2.1, hRW.2.2.2.mono (by decide) (by decide)⟩
        ·
          show Q_isM2 Z a1 v1 kv cs fm cd z1 vs c0_ c1_ h0 n0 _ T194.heap _
          rw [e194]
          exact ⟨(0 : Int32), rfl, N194, K199, Or.inl rfl, iff_of_false (by decide) (fun q => c153 q.2)⟩
        ·
          rw [hh]
          show CHr Z consts_1 s.vm h0 T194.vm T194.heap
          rw [e194]
          exact R189.trans (CHv.at X194 hZ (own_EW hw) R189.1)
      obtain ⟨cq200, kq200, q200a, q200b, q200c⟩ := isOf hZ e188 A188
      obtain ⟨_, _, ⟨T200, L200, k200, n200⟩, -, X200, ⟨Lc200, hQ200, l200, y200, z200⟩, st200⟩ := X188.virtualBack hx (y := (⟨"java/lang/String", "indexOf", "(I)I"⟩ : MethodName)) (z := (⟨"java/lang/String", "indexOf", "(I)I"⟩ : MethodName)) hown (mvT hZ (hw _ (List.mem_of_getElem? (i := 83) rfl))) (mvT hZ (hw _ (List.mem_of_getElem? (i := 84) rfl))) (notFace_of_selects (args := #[]) (mvT hZ (hw _ (List.mem_of_getElem? (i := 86) rfl)))) (mvT hZ (hw _ (List.mem_of_getElem? (i := 86) rfl))) (mvT hZ (hw _ (List.mem_of_getElem? (i := 85) rfl))) (by decide) (backOf (W := 0) (rm_ix1L l Z a0 hw [] b188 c188 c1_ kc188 cs h188 n0 O190 S0_ hcs G188 F188 A188 V188 hb1_.1 c192) hZ (hw _ (List.mem_of_getElem? (i := 87) rfl)) (hw _ (List.mem_of_getElem? (i := 8) rfl)) (by decide) (by decide)) q200a q200c (g := (mkF m 74 #[rv a1, iv (1 : Int32), iv c1_, iv (0 : Int32)] [(.int c1_), (.ref b188)])) rfl (by rw [hml]; rfl) (Steps.refl _) (argsL := [(.int c1_)]) (rest := []) (lenOf pd_1 rfl) rfl (by show 2 * 0 + _ ≤ _; exact Nat.le_of_eq rfl) (hb hby d5_74) (fun _ _ => ⟨rfl, e188, (by decide : 4 + 0 ≤ _), (by decide : 128 + 0 ≤ _)⟩)
      dsimp only [Pt.U, Pt.locs, Pt.cells, Pt.slots] at X200 l200 y200 z200 st200 hQ200
      subst l200 y200 z200
      obtain ⟨r201, rfl, M200, e200, y202⟩ := hQ200
      have N200 := Fr.app N146 M200
      have g203 : Go p e below T200 (mkF m 77 #[rv a1, iv (1 : Int32), iv c1_, iv (0 : Int32)] [(.int r201)]) A0 := fun t kont => g193 t (st200.trans kont)
      have g204 : Go p e below T200 (mkF m 81 #[rv a1, iv (1 : Int32), iv c1_, iv (0 : Int32)] [(.int (0 : Int32))]) A0 := by
        intro t kont
        refine g203 t ?_
        refine XS.ifNo X200.here hx rfl (hb hby d5_77) rfl ((if0 _ _).trans (tlt (own_u3 y202 c153 : r201 < (0 : Int32))).2.1) ?_
        refine XS.iconst X200.here hx rfl (hb hby d5_80) ?_
        exact kont
      have K205 : Keep h0 h188 [] := (((Keep.refl h0 []).ext E116).ext E188)
      obtain ⟨fs, hr, hrun, hended, hRW⟩ := X200.leaveW hS (by rw [e200]; exact hk) (v := some (.int (0 : Int32))) (fun h => by rw [Bd.returns] at h; cases h)
      refine ⟨_, _, g204 _ (retN X200 hx (t := .boolean) Bd.returns (by simp) (hb hby d5_81) hr), hrun, hended, _, _, rfl, ?_, ?_, hRW.1, hRW.2.1, hRW.2.2.1, hRW.2.2.2.mono (by decide) (by decide)⟩
      ·
        show Q_isM2 Z a1 v1 kv cs fm cd z1 vs c0_ c1_ h0 n0 _ T200.heap _
        rw [e200]
        exact ⟨(0 : Int32), rfl, N200, K205, Or.inl rfl, iff_of_false (by decide) (fun q => c153 q.2)⟩
      ·
        rw [hh]
        show CHr Z consts_1 s.vm h0 T200.vm T200.heap
        rw [e200]
        exact R189.trans (CHv.at X200 hZ (own_EW hw) R189.1)
    subst c186
    exact (c153 (own_t1 j151)).elim
  have g206 : Go p e below T108 (mkF m 68 #[rv a1, iv (0 : Int32), iv c0_, iv al0] [(.int al0)]) A0 := by
    intro t kont
    refine g114 t ?_
    refine XS.istoreN X108.here hx rfl (hb hby d5_66) rfl (l' := #[rv a1, iv (0 : Int32), iv c0_, iv al0]) rfl ?_
    refine XS.iloadN X108.here hx rfl (hb hby d5_67) rfl ?_
    exact kont
  rcases (j112 : al0 = (0 : Int32) ∨ al0 = (1 : Int32)) with c207 | c207
  ·
    subst c207
    have g208 : Go p e below T108 (mkF m 71 #[rv a1, iv (0 : Int32), iv c0_, iv (0 : Int32)] []) A0 := by
      intro t kont
      refine g206 t ?_
      refine XS.ifNo X108.here hx rfl (hb hby d5_68) rfl ((if0 _ _).trans (teq (by decide : (0 : Int32) = (0 : Int32))).2) ?_
      exact kont
    obtain ⟨b209, T209, h209, k209, c209, kc209, X209, e209, E209, hS, hk, hZ, hown, A209, F209, G209, V209, la209, lb209, C209, -, ne209, st209⟩ := ldcCH X108 hx hZ hown (hw _ (List.mem_of_getElem? (i := 82) rfl)) (own_wS hw) e108 hS hk (own_EW hw) (List.mem_of_getElem? (i := 0) rfl) R0.1 (vs := [(.int (33 : Int32)), (.int (35 : Int32)), (.int (36 : Int32)), (.int (37 : Int32)), (.int (38 : Int32)), (.int (39 : Int32)), (.int (42 : Int32)), (.int (43 : Int32)), (.int (45 : Int32)), (.int (46 : Int32)), (.int (94 : Int32)), (.int (95 : Int32)), (.int (96 : Int32)), (.int (124 : Int32)), (.int (126 : Int32))]) (z := (15 : Int32)) ⟨by decide, by decide⟩ (by decide) rfl (g := (mkF m 71 #[rv a1, iv (0 : Int32), iv c0_, iv (0 : Int32)] [])) rfl (hb hby d5_71) (n := 60) (by decide) (by decide) (by decide) (by decide)
    have R210 : CHr Z consts_1 s.vm h0 T209.vm h209 := R0.trans C209
    have O211 := O0.ext E209
    have g212 : Go p e below T209 (mkF m 73 #[rv a1, iv (0 : Int32), iv c0_, iv (0 : Int32)] [(.ref b209)]) A0 := fun t kont => g208 t (st209 t kont)
    have g214 : Go p e below T209 (mkF m 74 #[rv a1, iv (0 : Int32), iv c0_, iv (0 : Int32)] [(.int c0_), (.ref b209)]) A0 := by
      intro t kont
      refine g212 t ?_
      refine XS.iloadN X209.here hx rfl (hb hby d5_73) rfl ?_
      exact kont
    by_cases c213 : (255 : Int32) < c0_
    ·
      obtain ⟨cq215, kq215, q215a, q215b, q215c⟩ := isOf hZ e209 A209
      obtain ⟨_, _, ⟨T215, L215, k215, n215⟩, -, X215, ⟨Lc215, hQ215, l215, y215, z215⟩, st215⟩ := X209.virtualBack hx (y := (⟨"java/lang/String", "indexOf", "(I)I"⟩ : MethodName)) (z := (⟨"java/lang/String", "indexOf", "(I)I"⟩ : MethodName)) hown (mvT hZ (hw _ (List.mem_of_getElem? (i := 83) rfl))) (mvT hZ (hw _ (List.mem_of_getElem? (i := 84) rfl))) (notFace_of_selects (args := #[]) (mvT hZ (hw _ (List.mem_of_getElem? (i := 86) rfl)))) (mvT hZ (hw _ (List.mem_of_getElem? (i := 86) rfl))) (mvT hZ (hw _ (List.mem_of_getElem? (i := 85) rfl))) (by decide) (backOf (W := 0) (rm_ix1U l Z a0 hw [] b209 c209 c0_ kc209 cs h209 n0 O211 S0_ hcs G209 F209 A209 V209 hb0_.1 c213) hZ (hw _ (List.mem_of_getElem? (i := 87) rfl)) (hw _ (List.mem_of_getElem? (i := 8) rfl)) (by decide) (by decide)) q215a q215c (g := (mkF m 74 #[rv a1, iv (0 : Int32), iv c0_, iv (0 : Int32)] [(.int c0_), (.ref b209)])) rfl (by rw [hml]; rfl) (Steps.refl _) (argsL := [(.int c0_)]) (rest := []) (lenOf pd_1 rfl) rfl (by show 2 * 0 + _ ≤ _; exact Nat.le_of_eq rfl) (hb hby d5_74) (fun _ _ => ⟨rfl, e209, (by decide : 2 + 0 ≤ _), (by decide : 64 + 0 ≤ _)⟩)
      dsimp only [Pt.U, Pt.locs, Pt.cells, Pt.slots] at X215 l215 y215 z215 st215 hQ215
      subst l215 y215 z215
      obtain ⟨r216, rfl, M215, e215, y217⟩ := hQ215
      have N215 := Fr.app N108 M215
      have g218 : Go p e below T215 (mkF m 77 #[rv a1, iv (0 : Int32), iv c0_, iv (0 : Int32)] [(.int r216)]) A0 := fun t kont => g214 t (st215.trans kont)
      have g219 : Go p e below T215 (mkF m 81 #[rv a1, iv (0 : Int32), iv c0_, iv (0 : Int32)] [(.int (0 : Int32))]) A0 := by
        intro t kont
        refine g218 t ?_
        refine XS.ifNo X215.here hx rfl (hb hby d5_77) rfl ((if0 _ _).trans (tlt (own_u3 y217 c115 : r216 < (0 : Int32))).2.1) ?_
        refine XS.iconst X215.here hx rfl (hb hby d5_80) ?_
        exact kont
      have K220 : Keep h0 h209 [] := ((Keep.refl h0 []).ext E209)
      obtain ⟨fs, hr, hrun, hended, hRW⟩ := X215.leaveW hS (by rw [e215]; exact hk) (v := some (.int (0 : Int32))) (fun h => by rw [Bd.returns] at h; cases h)
      refine ⟨_, _, g219 _ (retN X215 hx (t := .boolean) Bd.returns (by simp) (hb hby d5_81) hr), hrun, hended, _, _, rfl, ?_, ?_, hRW.1, hRW.2.1, hRW.2.2.1, hRW.2.2.2.mono (by decide) (by decide)⟩
      ·
        show Q_isM2 Z a1 v1 kv cs fm cd z1 vs c0_ c1_ h0 n0 _ T215.heap _
        rw [e215]
        exact ⟨(0 : Int32), rfl, N215, K220, Or.inl rfl, iff_of_false (by decide) (fun q => c115 q.1)⟩
      ·
        rw [hh]
        show CHr Z consts_1 s.vm h0 T215.vm T215.heap
        rw [e215]
        exact R210.trans (CHv.at X215 hZ (own_EW hw) R210.1)
    obtain ⟨cq221, kq221, q221a, q221b, q221c⟩ := isOf hZ e209 A209
    obtain ⟨_, _, ⟨T221, L221, k221, n221⟩, -, X221, ⟨Lc221, hQ221, l221, y221, z221⟩, st221⟩ := X209.virtualBack hx (y := (⟨"java/lang/String", "indexOf", "(I)I"⟩ : MethodName)) (z := (⟨"java/lang/String", "indexOf", "(I)I"⟩ : MethodName)) hown (mvT hZ (hw _ (List.mem_of_getElem? (i := 83) rfl))) (mvT hZ (hw _ (List.mem_of_getElem? (i := 84) rfl))) (notFace_of_selects (args := #[]) (mvT hZ (hw _ (List.mem_of_getElem? (i := 86) rfl)))) (mvT hZ (hw _ (List.mem_of_getElem? (i := 86) rfl))) (mvT hZ (hw _ (List.mem_of_getElem? (i := 85) rfl))) (by decide) (backOf (W := 0) (rm_ix1L l Z a0 hw [] b209 c209 c0_ kc209 cs h209 n0 O211 S0_ hcs G209 F209 A209 V209 hb0_.1 c213) hZ (hw _ (List.mem_of_getElem? (i := 87) rfl)) (hw _ (List.mem_of_getElem? (i := 8) rfl)) (by decide) (by decide)) q221a q221c (g := (mkF m 74 #[rv a1, iv (0 : Int32), iv c0_, iv (0 : Int32)] [(.int c0_), (.ref b209)])) rfl (by rw [hml]; rfl) (Steps.refl _) (argsL := [(.int c0_)]) (rest := []) (lenOf pd_1 rfl) rfl (by show 2 * 0 + _ ≤ _; exact Nat.le_of_eq rfl) (hb hby d5_74) (fun _ _ => ⟨rfl, e209, (by decide : 2 + 0 ≤ _), (by decide : 64 + 0 ≤ _)⟩)
    dsimp only [Pt.U, Pt.locs, Pt.cells, Pt.slots] at X221 l221 y221 z221 st221 hQ221
    subst l221 y221 z221
    obtain ⟨r222, rfl, M221, e221, y223⟩ := hQ221
    have N221 := Fr.app N108 M221
    have g224 : Go p e below T221 (mkF m 77 #[rv a1, iv (0 : Int32), iv c0_, iv (0 : Int32)] [(.int r222)]) A0 := fun t kont => g214 t (st221.trans kont)
    have g225 : Go p e below T221 (mkF m 81 #[rv a1, iv (0 : Int32), iv c0_, iv (0 : Int32)] [(.int (0 : Int32))]) A0 := by
      intro t kont
      refine g224 t ?_
      refine XS.ifNo X221.here hx rfl (hb hby d5_77) rfl ((if0 _ _).trans (tlt (own_u3 y223 c115 : r222 < (0 : Int32))).2.1) ?_
      refine XS.iconst X221.here hx rfl (hb hby d5_80) ?_
      exact kont
    have K226 : Keep h0 h209 [] := ((Keep.refl h0 []).ext E209)
    obtain ⟨fs, hr, hrun, hended, hRW⟩ := X221.leaveW hS (by rw [e221]; exact hk) (v := some (.int (0 : Int32))) (fun h => by rw [Bd.returns] at h; cases h)
    refine ⟨_, _, g225 _ (retN X221 hx (t := .boolean) Bd.returns (by simp) (hb hby d5_81) hr), hrun, hended, _, _, rfl, ?_, ?_, hRW.1, hRW.2.1, hRW.2.2.1, hRW.2.2.2.mono (by decide) (by decide)⟩
    ·
      show Q_isM2 Z a1 v1 kv cs fm cd z1 vs c0_ c1_ h0 n0 _ T221.heap _
      rw [e221]
      exact ⟨(0 : Int32), rfl, N221, K226, Or.inl rfl, iff_of_false (by decide) (fun q => c115 q.1)⟩
    ·
      rw [hh]
      show CHr Z consts_1 s.vm h0 T221.vm T221.heap
      rw [e221]
      exact R210.trans (CHv.at X221 hZ (own_EW hw) R210.1)
  subst c207
  exact (c115 (own_t1 j113)).elim
theorem ef_isM3 (m : MethodId) (x0 : Addr)  : entryFrame m #[(.ref x0)] 4 = mkF m 0 #[.val (.ref x0), .unset, .unset, .unset] [] := by first | (simp [entryFrame, mkF, argsToLocals, Value.category]; done) | rfl
def Q_isM3 (Z : State) (a1 : Addr) (v1 : Addr) (kv : ClassId) (cs : Int32) (fm : Value) (cd : Int32) (z1 : Int32) (vs : List Value) (c0_ : Int32) (c1_ : Int32) (c2_ : Int32) (h0 : Heap) (n0 : Nat) (v : Option Value) (h : Heap) (L : List Loc) : Prop := ∃ (rr : Int32), v = some (.int rr) ∧ Fr n0 L ∧ Keep h0 h [] ∧ (rr = (0 : Int32) ∨ rr = (1 : Int32)) ∧ (rr = (1 : Int32) ↔ (own_tok c0_ ∧ own_tok c1_ ∧ own_tok c2_))
set_option maxRecDepth 65536 in
set_option maxHeartbeats 40000000 in
theorem rm_isM3 (l : Launch) (Z : State) (a0 : Array Value) (hw : ∀ d ∈ tables_1, d.before a0 Z = true) (ws : List Jvm.Cond) (a1 : Addr) (v1 : Addr) (kv : ClassId) (cs : Int32) (fm : Value) (cd : Int32) (z1 : Int32) (vs : List Value) (c0_ : Int32) (c1_ : Int32) (c2_ : Int32) (h0 : Heap) (n0 : Nat) (O0 : Old Z n0 h0) (S0_ : Sta Z Z.heap "java/lang/String" "COMPACT_STRINGS" "Z" (.int cs)) (hcs : ¬ (cs = (0 : Int32))) (E2_ : Exa Z h0 a1 "java/lang/String") (F3_ : Fld Z h0 a1 "java/lang/String" "value" "[B" (.ref v1)) (F4_ : Fld Z h0 a1 "java/lang/String" "coder" "B" (.int cd)) (A5_ : Arv Z h0 v1 kv .byte z1 vs (.int (0 : Int32))) (hcod : own_cod [c0_, c1_, c2_] cd z1 vs) (hch : own_chars [c0_, c1_, c2_]) (S8_ : Sta Z Z.heap "jdk/internal/util/Preconditions" "SIOOBE_FORMATTER" "Ljava/util/function/BiFunction;" fm) (hfm : fm.isRef = true) (S10_ : Sta Z Z.heap "java/lang/StringUTF16" "$assertionsDisabled" "Z" (.int (1 : Int32))) (S11_ : Sta Z Z.heap "java/lang/StringUTF16" "HI_BYTE_SHIFT" "I" (.int (0 : Int32))) (S12_ : Sta Z Z.heap "java/lang/StringUTF16" "LO_BYTE_SHIFT" "I" (.int (8 : Int32))) :
    MetFree l (⟨"com/example/rolegate/rolegate/MethodSet", "isMethodName", "(Ljava/lang/String;)Z"⟩ : MethodName) (head1 (Jvm.Cond.code (⟨"com/example/rolegate/rolegate/MethodSet", "isMethodName", "(Ljava/lang/String;)Z"⟩ : MethodName) prog_16_method_6_code 4 (some .boolean) :: ws) ({ frames := 5, cells := 6, slots := 192, locals := 66 } : Room)) (fun a U => a = #[(.ref a1)] ∧ Z.Warmed39 U.vm ∧ U.heap = h0 ∧ CHv Z consts_1 U.vm h0) (fun _ _ _ _ _ => True) (fun _ U o U' => ∃ v L, o = .returned v ∧ Q_isM3 Z a1 v1 kv cs fm cd z1 vs c0_ c1_ c2_ h0 n0 v U'.heap L ∧ CHr Z consts_1 U.vm U.heap U'.vm U'.heap ∧ ReturnedEndW U o U' L ({ frames := 5, cells := 6, slots := 192, locals := 66 } : Room).cells ({ frames := 5, cells := 6, slots := 192, locals := 66 } : Room).slots) := by
  refine MetFree.of_bodySF (plainFor_of_name pn_com_example_rolegate_rolegate_MethodSet) hisR ?_
  intro p e s m args below meth c s₁ Bd hml0 hP hK
  obtain ⟨rfl, hZ, hh, hC0⟩ := hP
  have hx := Bd.exec
  have hby := Bd.bytes
  have hml : c.maxLocals = 4 := hml0
  have hown : s.vm.findClass "com/example/rolegate/rolegate/MethodSet" = some m.cls := findClass_of_methodNamed Bd.named
  have hnm := (name_of_methodNamed Bd.named Bd.method).1
  have X0 : Stand p l e ({ frames := 5, cells := 6, slots := 192, locals := 66 } : Room) (s.setVm s.vm) m #[(.ref a1)] below meth c s₁ [] 0 0 := Stand.of_body Bd
  have e0 : s₁.heap = h0 := by rw [← hh, Bd.state]; rfl
  have N0 := Fr.nil n0
  have hS : s.Since s.vm 0 := (State.WarmedH.refl s).since 0
  have hk : 0 ≤ h0.size := Nat.zero_le _
  have hZ : Z.Warmed39 (s.setVm s.vm).vm := hZ
  have hown : (s.setVm s.vm).vm.findClass "com/example/rolegate/rolegate/MethodSet" = some m.cls := hown
  have R0 : CHr Z consts_1 s.vm h0 s.vm h0 := CHr.refl hC0
  have g0 : Go p e below s₁ (mkF m 0 #[rv a1, .unset, .unset, .unset] []) (s₁.setTop (entryFrame m #[(.ref a1)] 4)) := fun t kont => castTop (ef_isM3 m a1 ) kont
  generalize s₁.setTop (entryFrame m #[(.ref a1)] 4) = A0 at g0 ⊢
  have hb0_ := hch 0 (by simp)
  have hb1_ := hch 1 (by simp)
  have hb2_ := hch 2 (by simp)
  have g101 : Go p e below s₁ (mkF m 1 #[rv a1, .unset, .unset, .unset] [(.ref a1)]) A0 := by
    intro t kont
    refine g0 t ?_
    refine XS.aloadN X0.here hx rfl (hb hby d5_0) rfl rfl ?_
    exact kont
  obtain ⟨cq102, kq102, q102a, q102b, q102c⟩ := isOf hZ e0 E2_
  obtain ⟨_, _, ⟨T102, L102, k102, n102⟩, -, X102, ⟨Lc102, hQ102, l102, y102, z102⟩, st102⟩ := X0.virtualBack hx (y := (⟨"java/lang/String", "isEmpty", "()Z"⟩ : MethodName)) (z := (⟨"java/lang/String", "isEmpty", "()Z"⟩ : MethodName)) hown (mvT hZ (hw _ (List.mem_of_getElem? (i := 31) rfl))) (mvT hZ (hw _ (List.mem_of_getElem? (i := 32) rfl))) (notFace_of_selects (args := #[]) (mvT hZ (hw _ (List.mem_of_getElem? (i := 34) rfl)))) (mvT hZ (hw _ (List.mem_of_getElem? (i := 34) rfl))) (mvT hZ (hw _ (List.mem_of_getElem? (i := 33) rfl))) (by decide) (backOf (W := 0) (rm_isE l Z a0 hw [] a1 v1 kv z1 vs h0 n0 O0 F3_ A5_ (own_codz hcod (by simp) (by simp))) hZ (hw _ (List.mem_of_getElem? (i := 35) rfl)) (hw _ (List.mem_of_getElem? (i := 8) rfl)) (by decide) (by decide)) q102a q102c (g := (mkF m 1 #[rv a1, .unset, .unset, .unset] [(.ref a1)])) rfl (by rw [hml]; rfl) (Steps.refl _) (argsL := []) (rest := []) (lenOf pd_13 rfl) rfl (by show 2 * 0 + _ ≤ _; exact Nat.le_of_eq rfl) (hb hby d5_1) (fun _ _ => ⟨rfl, e0, (by decide : 0 + 0 ≤ _), (by decide : 0 + 0 ≤ _)⟩)
  dsimp only [Pt.U, Pt.locs, Pt.cells, Pt.slots] at X102 l102 y102 z102 st102 hQ102
  subst l102 y102 z102
  obtain ⟨rfl, M102, e102⟩ := hQ102
  have N102 := Fr.app N0 M102
  have g103 : Go p e below T102 (mkF m 4 #[rv a1, .unset, .unset, .unset] [(.int (0 : Int32))]) A0 := fun t kont => g101 t (st102.trans kont)
  have g104 : Go p e below T102 (mkF m 13 #[rv a1, iv (0 : Int32), .unset, .unset] [(.ref a1), (.int (0 : Int32))]) A0 := by
    intro t kont
    refine g103 t ?_
    refine XS.ifYes X102.here hx rfl (pc0 := 4) (pc' := 9) rfl (hb hby d5_4) rfl ((if0 _ _).trans (teq (by decide : (0 : Int32) = (0 : Int32))).1) (by decide) (by decide) ?_
    refine XS.iconst X102.here hx rfl (hb hby d5_9) ?_
    refine XS.istoreN X102.here hx rfl (hb hby d5_10) rfl (l' := #[rv a1, iv (0 : Int32), .unset, .unset]) rfl ?_
    refine XS.iloadN X102.here hx rfl (hb hby d5_11) rfl ?_
    refine XS.aloadN X102.here hx rfl (hb hby d5_12) rfl rfl ?_
    exact kont
  obtain ⟨cq105, kq105, q105a, q105b, q105c⟩ := isOf hZ e102 E2_
  obtain ⟨_, _, ⟨T105, L105, k105, n105⟩, -, X105, ⟨Lc105, hQ105, l105, y105, z105⟩, st105⟩ := X102.virtualBack hx (y := (⟨"java/lang/String", "length", "()I"⟩ : MethodName)) (z := (⟨"java/lang/String", "length", "()I"⟩ : MethodName)) hown (mvT hZ (hw _ (List.mem_of_getElem? (i := 50) rfl))) (mvT hZ (hw _ (List.mem_of_getElem? (i := 51) rfl))) (notFace_of_selects (args := #[]) (mvT hZ (hw _ (List.mem_of_getElem? (i := 53) rfl)))) (mvT hZ (hw _ (List.mem_of_getElem? (i := 53) rfl))) (mvT hZ (hw _ (List.mem_of_getElem? (i := 52) rfl))) (by decide) (backOf (W := 1) (rm_lenG l Z a0 hw [] a1 v1 kv cd z1 vs [c0_, c1_, c2_] cs h0 n0 O0 S0_ hcs F3_ F4_ E2_ A5_ hcod (by simp)) hZ (hw _ (List.mem_of_getElem? (i := 54) rfl)) (hw _ (List.mem_of_getElem? (i := 8) rfl)) (by decide) (by decide)) q105a q105c (g := (mkF m 13 #[rv a1, iv (0 : Int32), .unset, .unset] [(.ref a1), (.int (0 : Int32))])) rfl (by rw [hml]; rfl) (Steps.refl _) (argsL := []) (rest := [(.int (0 : Int32))]) (lenOf pd_17 rfl) rfl (by show 2 * 0 + _ ≤ _; exact Nat.le_of_eq rfl) (hb hby d5_13) (fun _ _ => ⟨rfl, e102, (by decide : 0 + 0 ≤ _), (by decide : 0 + 0 ≤ _)⟩)
  dsimp only [Pt.U, Pt.locs, Pt.cells, Pt.slots] at X105 l105 y105 z105 st105 hQ105
  subst l105 y105 z105
  obtain ⟨rfl, M105, e105⟩ := hQ105
  have N105 := Fr.app N102 M105
  have g106 : Go p e below T105 (mkF m 16 #[rv a1, iv (0 : Int32), .unset, .unset] [(.int (3 : Int32)), (.int (0 : Int32))]) A0 := fun t kont => g104 t (st105.trans kont)
  have g107 : Go p e below T105 (mkF m 21 #[rv a1, iv (0 : Int32), .unset, .unset] [(.int (0 : Int32)), (.ref a1)]) A0 := by
    intro t kont
    refine g106 t ?_
    refine XS.icmpNo X105.here hx rfl (hb hby d5_16) rfl (tlt (by decide : (0 : Int32) < (3 : Int32))).2.1 ?_
    refine XS.aloadN X105.here hx rfl (hb hby d5_19) rfl rfl ?_
    refine XS.iloadN X105.here hx rfl (hb hby d5_20) rfl ?_
    exact kont
  obtain ⟨cq108, kq108, q108a, q108b, q108c⟩ := isOf hZ e105 E2_
  obtain ⟨_, _, ⟨T108, L108, k108, n108⟩, -, X108, ⟨Lc108, hQ108, l108, y108, z108⟩, st108⟩ := X105.virtualBack hx (y := (⟨"java/lang/String", "charAt", "(I)C"⟩ : MethodName)) (z := (⟨"java/lang/String", "charAt", "(I)C"⟩ : MethodName)) hown (mvT hZ (hw _ (List.mem_of_getElem? (i := 60) rfl))) (mvT hZ (hw _ (List.mem_of_getElem? (i := 61) rfl))) (notFace_of_selects (args := #[]) (mvT hZ (hw _ (List.mem_of_getElem? (i := 63) rfl)))) (mvT hZ (hw _ (List.mem_of_getElem? (i := 63) rfl))) (mvT hZ (hw _ (List.mem_of_getElem? (i := 62) rfl))) (by decide) (backOf (W := 0) (rm_chaG l Z a0 hw [] a1 v1 kv cd z1 vs [c0_, c1_, c2_] cs 0 fm h0 n0 O0 S0_ hcs F3_ F4_ E2_ A5_ hcod (by simp) (by simp) hch S8_ hfm S10_ S11_ S12_) hZ (hw _ (List.mem_of_getElem? (i := 64) rfl)) (hw _ (List.mem_of_getElem? (i := 8) rfl)) (by decide) (by decide)) q108a q108c (g := (mkF m 21 #[rv a1, iv (0 : Int32), .unset, .unset] [(.int (0 : Int32)), (.ref a1)])) rfl (by rw [hml]; rfl) (Steps.refl _) (argsL := [(.int (0 : Int32))]) (rest := []) (lenOf pd_18 rfl) rfl (by show 2 * 0 + _ ≤ _; exact Nat.le_of_eq rfl) (hb hby d5_21) (fun _ _ => ⟨rfl, e105, (by decide : 0 + 0 ≤ _), (by decide : 0 + 0 ≤ _)⟩)
  dsimp only [Pt.U, Pt.locs, Pt.cells, Pt.slots] at X108 l108 y108 z108 st108 hQ108
  subst l108 y108 z108
  obtain ⟨rfl, M108, e108⟩ := hQ108
  have N108 := Fr.app N105 M108
  have g109 : Go p e below T108 (mkF m 24 #[rv a1, iv (0 : Int32), .unset, .unset] [(.int c0_)]) A0 := fun t kont => g107 t (st108.trans kont)
  have g110 : Go p e below T108 (mkF m 25 #[rv a1, iv (0 : Int32), iv c0_, .unset] []) A0 := by
    intro t kont
    refine g109 t ?_
    refine XS.istoreN X108.here hx rfl (hb hby d5_24) rfl (l' := #[rv a1, iv (0 : Int32), iv c0_, .unset]) rfl ?_
    exact kont
  obtain ⟨al0, j112, j113, gp111⟩ := pz_al X108 hx hby a1 (0 : Int32) c0_ (.unset) 
  have g114 : Go p e below T108 (mkF m 66 #[rv a1, iv (0 : Int32), iv c0_, .unset] [(.int al0)]) A0 := fun t kont => g110 t (gp111 t kont)
  by_cases c115 : own_tok c0_
  ·
    obtain ⟨af0, T116, lc116, h116, vm116, k116, X116, e116, E116, hS, hk, hZ, hown, R116, C116, N116, g116⟩ : ∃ af0 : Int32, ∃ (T116 : State) (lc116 : List Loc) (h116 : Heap) (vm116 : Vm) (k116 : Nat), Stand p l e ({ frames := 5, cells := 6, slots := 192, locals := 66 } : Room) (s.setVm vm116) m #[(.ref a1)] below meth c T116 lc116 2 64 ∧ T116.heap = h116 ∧ Ext h0 h116 ∧ s.Since vm116 k116 ∧ k116 ≤ h116.size ∧ Z.Warmed39 (s.setVm vm116).vm ∧ (s.setVm vm116).vm.findClass "com/example/rolegate/rolegate/MethodSet" = some m.cls ∧ CHr Z consts_1 s.vm h0 vm116 h116 ∧ CHr Z consts_1 s.vm h0 vm116 h116 ∧ Fr n0 lc116 ∧ Go p e below T116 (mkF m 82 #[rv a1, iv (0 : Int32), iv c0_, iv af0] []) A0 := by
      have g117 : Go p e below T108 (mkF m 68 #[rv a1, iv (0 : Int32), iv c0_, iv al0] [(.int al0)]) A0 := by
        intro t kont
        refine g114 t ?_
        refine XS.istoreN X108.here hx rfl (hb hby d5_66) rfl (l' := #[rv a1, iv (0 : Int32), iv c0_, iv al0]) rfl ?_
        refine XS.iloadN X108.here hx rfl (hb hby d5_67) rfl ?_
        exact kont
      rcases (j112 : al0 = (0 : Int32) ∨ al0 = (1 : Int32)) with c118 | c118
      ·
        subst c118
        have g119 : Go p e below T108 (mkF m 71 #[rv a1, iv (0 : Int32), iv c0_, iv (0 : Int32)] []) A0 := by
          intro t kont
          refine g117 t ?_
          refine XS.ifNo X108.here hx rfl (hb hby d5_68) rfl ((if0 _ _).trans (teq (by decide : (0 : Int32) = (0 : Int32))).2) ?_
          exact kont
        obtain ⟨b120, T120, h120, k120, c120, kc120, X120, e120, E120, hS, hk, hZ, hown, A120, F120, G120, V120, la120, lb120, C120, -, ne120, st120⟩ := ldcCH X108 hx hZ hown (hw _ (List.mem_of_getElem? (i := 82) rfl)) (own_wS hw) e108 hS hk (own_EW hw) (List.mem_of_getElem? (i := 0) rfl) R0.1 (vs := [(.int (33 : Int32)), (.int (35 : Int32)), (.int (36 : Int32)), (.int (37 : Int32)), (.int (38 : Int32)), (.int (39 : Int32)), (.int (42 : Int32)), (.int (43 : Int32)), (.int (45 : Int32)), (.int (46 : Int32)), (.int (94 : Int32)), (.int (95 : Int32)), (.int (96 : Int32)), (.int (124 : Int32)), (.int (126 : Int32))]) (z := (15 : Int32)) ⟨by decide, by decide⟩ (by decide) rfl (g := (mkF m 71 #[rv a1, iv (0 : Int32), iv c0_, iv (0 : Int32)] [])) rfl (hb hby d5_71) (n := 60) (by decide) (by decide) (by decide) (by decide)
        have R121 : CHr Z consts_1 s.vm h0 T120.vm h120 := R0.trans C120
        have O122 := O0.ext E120
        have g123 : Go p e below T120 (mkF m 73 #[rv a1, iv (0 : Int32), iv c0_, iv (0 : Int32)] [(.ref b120)]) A0 := fun t kont => g119 t (st120 t kont)
        have g125 : Go p e below T120 (mkF m 74 #[rv a1, iv (0 : Int32), iv c0_, iv (0 : Int32)] [(.int c0_), (.ref b120)]) A0 := by
          intro t kont
          refine g123 t ?_
          refine XS.iloadN X120.here hx rfl (hb hby d5_73) rfl ?_
          exact kont
        by_cases c124 : (255 : Int32) < c0_
        ·
          obtain ⟨cq126, kq126, q126a, q126b, q126c⟩ := isOf hZ e120 A120
          obtain ⟨_, _, ⟨T126, L126, k126, n126⟩, -, X126, ⟨Lc126, hQ126, l126, y126, z126⟩, st126⟩ := X120.virtualBack hx (y := (⟨"java/lang/String", "indexOf", "(I)I"⟩ : MethodName)) (z := (⟨"java/lang/String", "indexOf", "(I)I"⟩ : MethodName)) hown (mvT hZ (hw _ (List.mem_of_getElem? (i := 83) rfl))) (mvT hZ (hw _ (List.mem_of_getElem? (i := 84) rfl))) (notFace_of_selects (args := #[]) (mvT hZ (hw _ (List.mem_of_getElem? (i := 86) rfl)))) (mvT hZ (hw _ (List.mem_of_getElem? (i := 86) rfl))) (mvT hZ (hw _ (List.mem_of_getElem? (i := 85) rfl))) (by decide) (backOf (W := 0) (rm_ix1U l Z a0 hw [] b120 c120 c0_ kc120 cs h120 n0 O122 S0_ hcs G120 F120 A120 V120 hb0_.1 c124) hZ (hw _ (List.mem_of_getElem? (i := 87) rfl)) (hw _ (List.mem_of_getElem? (i := 8) rfl)) (by decide) (by decide)) q126a q126c (g := (mkF m 74 #[rv a1, iv (0 : Int32), iv c0_, iv (0 : Int32)] [(.int c0_), (.ref b120)])) rfl (by rw [hml]; rfl) (Steps.refl _) (argsL := [(.int c0_)]) (rest := []) (lenOf pd_1 rfl) rfl (by show 2 * 0 + _ ≤ _; exact Nat.le_of_eq rfl) (hb hby d5_74) (fun _ _ => ⟨rfl, e120, (by decide : 2 + 0 ≤ _), (by decide : 64 + 0 ≤ _)⟩)
          dsimp only [Pt.U, Pt.locs, Pt.cells, Pt.slots] at X126 l126 y126 z126 st126 hQ126
          subst l126 y126 z126
          obtain ⟨r127, rfl, M126, e126, y128⟩ := hQ126
          have N126 := Fr.app N108 M126
          have g129 : Go p e below T126 (mkF m 77 #[rv a1, iv (0 : Int32), iv c0_, iv (0 : Int32)] [(.int r127)]) A0 := fun t kont => g125 t (st126.trans kont)
          have g130 : Go p e below T126 (mkF m 82 #[rv a1, iv (0 : Int32), iv c0_, iv (0 : Int32)] []) A0 := by
            intro t kont
            refine g129 t ?_
            refine XS.ifYes X126.here hx rfl (pc0 := 77) (pc' := 82) rfl (hb hby d5_77) rfl ((if0 _ _).trans (flt (own_u2 y128 (own_u1 j113 c115) : ¬ (r127 < (0 : Int32)))).2.1) (by decide) (by decide) ?_
            exact kont
          exact ⟨(0 : Int32), _, _, _, _, _, (X126.more (by decide) (by decide)), e126, E120, hS, hk, hZ, hown, R121, ((CHr.refl R0.1).trans (C120)), N126, g130⟩
        obtain ⟨cq131, kq131, q131a, q131b, q131c⟩ := isOf hZ e120 A120
        obtain ⟨_, _, ⟨T131, L131, k131, n131⟩, -, X131, ⟨Lc131, hQ131, l131, y131, z131⟩, st131⟩ := X120.virtualBack hx (y := (⟨"java/lang/String", "indexOf", "(I)I"⟩ : MethodName)) (z := (⟨"java/lang/String", "indexOf", "(I)I"⟩ : MethodName)) hown (mvT hZ (hw _ (List.mem_of_getElem? (i := 83) rfl))) (mvT hZ (hw _ (List.mem_of_getElem? (i := 84) rfl))) (notFace_of_selects (args := #[]) (mvT hZ (hw _ (List.mem_of_getElem? (i := 86) rfl)))) (mvT hZ (hw _ (List.mem_of_getElem? (i := 86) rfl))) (mvT hZ (hw _ (List.mem_of_getElem? (i := 85) rfl))) (by decide) (backOf (W := 0) (rm_ix1L l Z a0 hw [] b120 c120 c0_ kc120 cs h120 n0 O122 S0_ hcs G120 F120 A120 V120 hb0_.1 c124) hZ (hw _ (List.mem_of_getElem? (i := 87) rfl)) (hw _ (List.mem_of_getElem? (i := 8) rfl)) (by decide) (by decide)) q131a q131c (g := (mkF m 74 #[rv a1, iv (0 : Int32), iv c0_, iv (0 : Int32)] [(.int c0_), (.ref b120)])) rfl (by rw [hml]; rfl) (Steps.refl _) (argsL := [(.int c0_)]) (rest := []) (lenOf pd_1 rfl) rfl (by show 2 * 0 + _ ≤ _; exact Nat.le_of_eq rfl) (hb hby d5_74) (fun _ _ => ⟨rfl, e120, (by decide : 2 + 0 ≤ _), (by decide : 64 + 0 ≤ _)⟩)
        dsimp only [Pt.U, Pt.locs, Pt.cells, Pt.slots] at X131 l131 y131 z131 st131 hQ131
        subst l131 y131 z131
        obtain ⟨r132, rfl, M131, e131, y133⟩ := hQ131
        have N131 := Fr.app N108 M131
        have g134 : Go p e below T131 (mkF m 77 #[rv a1, iv (0 : Int32), iv c0_, iv (0 : Int32)] [(.int r132)]) A0 := fun t kont => g125 t (st131.trans kont)
        have g135 : Go p e below T131 (mkF m 82 #[rv a1, iv (0 : Int32), iv c0_, iv (0 : Int32)] []) A0 := by
          intro t kont
          refine g134 t ?_
          refine XS.ifYes X131.here hx rfl (pc0 := 77) (pc' := 82) rfl (hb hby d5_77) rfl ((if0 _ _).trans (flt (own_u2 y133 (own_u1 j113 c115) : ¬ (r132 < (0 : Int32)))).2.1) (by decide) (by decide) ?_
          exact kont
        exact ⟨(0 : Int32), _, _, _, _, _, (X131.more (by decide) (by decide)), e131, E120, hS, hk, hZ, hown, R121, ((CHr.refl R0.1).trans (C120)), N131, g135⟩
      subst c118
      have g136 : Go p e below T108 (mkF m 82 #[rv a1, iv (0 : Int32), iv c0_, iv (1 : Int32)] []) A0 := by
        intro t kont
        refine g117 t ?_
        refine XS.ifYes X108.here hx rfl (pc0 := 68) (pc' := 82) rfl (hb hby d5_68) rfl ((if0 _ _).trans (feq (by decide : ¬ ((1 : Int32) = (0 : Int32)))).2) (by decide) (by decide) ?_
        exact kont
      exact ⟨(1 : Int32), _, _, _, _, _, (X108.more (by decide) (by decide)), e108, own_ext_refl, hS, hk, hZ, hown, R0, (CHr.refl R0.1), N108, g136⟩
    have O137 := O0.ext E116
    have g138 : Go p e below T116 (mkF m 13 #[rv a1, iv (1 : Int32), iv c0_, iv af0] [(.ref a1), (.int (1 : Int32))]) A0 := by
      intro t kont
      refine g116 t ?_
      refine XS.iinc X116.here hx rfl (hb hby d5_82) rfl (l' := #[rv a1, iv (1 : Int32), iv c0_, iv af0]) rfl ?_
      refine XS.goto X116.here hx rfl (pc0 := 85) (pc' := 11) rfl (hb hby d5_85) (by decide) (by decide) ?_
      refine XS.iloadN X116.here hx rfl (hb hby d5_11) rfl ?_
      refine XS.aloadN X116.here hx rfl (hb hby d5_12) rfl rfl ?_
      exact kont
    have y140 : Exa Z h116 a1 "java/lang/String" := (E2_.ext E116)
    have y141 : Fld Z h116 a1 "java/lang/String" "value" "[B" (.ref v1) := (F3_.ext E116)
    have y142 : Fld Z h116 a1 "java/lang/String" "coder" "B" (.int cd) := (F4_.ext E116)
    have y143 : Arv Z h116 v1 kv .byte z1 vs (.int (0 : Int32)) := (A5_.ext E116)
    obtain ⟨cq139, kq139, q139a, q139b, q139c⟩ := isOf hZ e116 y140
    obtain ⟨_, _, ⟨T139, L139, k139, n139⟩, -, X139, ⟨Lc139, hQ139, l139, y139, z139⟩, st139⟩ := X116.virtualBack hx (y := (⟨"java/lang/String", "length", "()I"⟩ : MethodName)) (z := (⟨"java/lang/String", "length", "()I"⟩ : MethodName)) hown (mvT hZ (hw _ (List.mem_of_getElem? (i := 50) rfl))) (mvT hZ (hw _ (List.mem_of_getElem? (i := 51) rfl))) (notFace_of_selects (args := #[]) (mvT hZ (hw _ (List.mem_of_getElem? (i := 53) rfl)))) (mvT hZ (hw _ (List.mem_of_getElem? (i := 53) rfl))) (mvT hZ (hw _ (List.mem_of_getElem? (i := 52) rfl))) (by decide) (backOf (W := 1) (rm_lenG l Z a0 hw [] a1 v1 kv cd z1 vs [c0_, c1_, c2_] cs h116 n0 O137 S0_ hcs y141 y142 y140 y143 hcod (by simp)) hZ (hw _ (List.mem_of_getElem? (i := 54) rfl)) (hw _ (List.mem_of_getElem? (i := 8) rfl)) (by decide) (by decide)) q139a q139c (g := (mkF m 13 #[rv a1, iv (1 : Int32), iv c0_, iv af0] [(.ref a1), (.int (1 : Int32))])) rfl (by rw [hml]; rfl) (Steps.refl _) (argsL := []) (rest := [(.int (1 : Int32))]) (lenOf pd_17 rfl) rfl (by show 2 * 0 + _ ≤ _; exact Nat.le_of_eq rfl) (hb hby d5_13) (fun _ _ => ⟨rfl, e116, (by decide : 2 + 0 ≤ _), (by decide : 64 + 0 ≤ _)⟩)
    dsimp only [Pt.U, Pt.locs, Pt.cells, Pt.slots] at X139 l139 y139 z139 st139 hQ139
    subst l139 y139 z139
    obtain ⟨rfl, M139, e139⟩ := hQ139
    have N139 := Fr.app N116 M139
    have g144 : Go p e below T139 (mkF m 16 #[rv a1, iv (1 : Int32), iv c0_, iv af0] [(.int (3 : Int32)), (.int (1 : Int32))]) A0 := fun t kont => g138 t (st139.trans kont)
    have g145 : Go p e below T139 (mkF m 21 #[rv a1, iv (1 : Int32), iv c0_, iv af0] [(.int (1 : Int32)), (.ref a1)]) A0 := by
      intro t kont
      refine g144 t ?_
      refine XS.icmpNo X139.here hx rfl (hb hby d5_16) rfl (tlt (by decide : (1 : Int32) < (3 : Int32))).2.1 ?_
      refine XS.aloadN X139.here hx rfl (hb hby d5_19) rfl rfl ?_
      refine XS.iloadN X139.here hx rfl (hb hby d5_20) rfl ?_
      exact kont
    obtain ⟨cq146, kq146, q146a, q146b, q146c⟩ := isOf hZ e139 y140
    obtain ⟨_, _, ⟨T146, L146, k146, n146⟩, -, X146, ⟨Lc146, hQ146, l146, y146, z146⟩, st146⟩ := X139.virtualBack hx (y := (⟨"java/lang/String", "charAt", "(I)C"⟩ : MethodName)) (z := (⟨"java/lang/String", "charAt", "(I)C"⟩ : MethodName)) hown (mvT hZ (hw _ (List.mem_of_getElem? (i := 60) rfl))) (mvT hZ (hw _ (List.mem_of_getElem? (i := 61) rfl))) (notFace_of_selects (args := #[]) (mvT hZ (hw _ (List.mem_of_getElem? (i := 63) rfl)))) (mvT hZ (hw _ (List.mem_of_getElem? (i := 63) rfl))) (mvT hZ (hw _ (List.mem_of_getElem? (i := 62) rfl))) (by decide) (backOf (W := 0) (rm_chaG l Z a0 hw [] a1 v1 kv cd z1 vs [c0_, c1_, c2_] cs 1 fm h116 n0 O137 S0_ hcs y141 y142 y140 y143 hcod (by simp) (by simp) hch S8_ hfm S10_ S11_ S12_) hZ (hw _ (List.mem_of_getElem? (i := 64) rfl)) (hw _ (List.mem_of_getElem? (i := 8) rfl)) (by decide) (by decide)) q146a q146c (g := (mkF m 21 #[rv a1, iv (1 : Int32), iv c0_, iv af0] [(.int (1 : Int32)), (.ref a1)])) rfl (by rw [hml]; rfl) (Steps.refl _) (argsL := [(.int (1 : Int32))]) (rest := []) (lenOf pd_18 rfl) rfl (by show 2 * 0 + _ ≤ _; exact Nat.le_of_eq rfl) (hb hby d5_21) (fun _ _ => ⟨rfl, e139, (by decide : 2 + 0 ≤ _), (by decide : 64 + 0 ≤ _)⟩)
    dsimp only [Pt.U, Pt.locs, Pt.cells, Pt.slots] at X146 l146 y146 z146 st146 hQ146
    subst l146 y146 z146
    obtain ⟨rfl, M146, e146⟩ := hQ146
    have N146 := Fr.app N139 M146
    have g147 : Go p e below T146 (mkF m 24 #[rv a1, iv (1 : Int32), iv c0_, iv af0] [(.int c1_)]) A0 := fun t kont => g145 t (st146.trans kont)
    have g148 : Go p e below T146 (mkF m 25 #[rv a1, iv (1 : Int32), iv c1_, iv af0] []) A0 := by
      intro t kont
      refine g147 t ?_
      refine XS.istoreN X146.here hx rfl (hb hby d5_24) rfl (l' := #[rv a1, iv (1 : Int32), iv c1_, iv af0]) rfl ?_
      exact kont
    obtain ⟨al1, j150, j151, gp149⟩ := pz_al X146 hx hby a1 (1 : Int32) c1_ (iv af0) 
    have g152 : Go p e below T146 (mkF m 66 #[rv a1, iv (1 : Int32), iv c1_, iv af0] [(.int al1)]) A0 := fun t kont => g148 t (gp149 t kont)
    by_cases c153 : own_tok c1_
    ·
      obtain ⟨af1, T154, lc154, h154, vm154, k154, X154, e154, E154, hS, hk, hZ, hown, R154, C154, N154, g154⟩ : ∃ af1 : Int32, ∃ (T154 : State) (lc154 : List Loc) (h154 : Heap) (vm154 : Vm) (k154 : Nat), Stand p l e ({ frames := 5, cells := 6, slots := 192, locals := 66 } : Room) (s.setVm vm154) m #[(.ref a1)] below meth c T154 lc154 4 128 ∧ T154.heap = h154 ∧ Ext h116 h154 ∧ s.Since vm154 k154 ∧ k154 ≤ h154.size ∧ Z.Warmed39 (s.setVm vm154).vm ∧ (s.setVm vm154).vm.findClass "com/example/rolegate/rolegate/MethodSet" = some m.cls ∧ CHr Z consts_1 s.vm h0 vm154 h154 ∧ CHr Z consts_1 vm116 h116 vm154 h154 ∧ Fr n0 lc154 ∧ Go p e below T154 (mkF m 82 #[rv a1, iv (1 : Int32), iv c1_, iv af1] []) A0 := by
        have g155 : Go p e below T146 (mkF m 68 #[rv a1, iv (1 : Int32), iv c1_, iv al1] [(.int al1)]) A0 := by
          intro t kont
          refine g152 t ?_
          refine XS.istoreN X146.here hx rfl (hb hby d5_66) rfl (l' := #[rv a1, iv (1 : Int32), iv c1_, iv al1]) rfl ?_
          refine XS.iloadN X146.here hx rfl (hb hby d5_67) rfl ?_
          exact kont
        rcases (j150 : al1 = (0 : Int32) ∨ al1 = (1 : Int32)) with c156 | c156
        ·
          subst c156
          have g157 : Go p e below T146 (mkF m 71 #[rv a1, iv (1 : Int32), iv c1_, iv (0 : Int32)] []) A0 := by
            intro t kont
            refine g155 t ?_
            refine XS.ifNo X146.here hx rfl (hb hby d5_68) rfl ((if0 _ _).trans (teq (by decide : (0 : Int32) = (0 : Int32))).2) ?_
            exact kont
          obtain ⟨b158, T158, h158, k158, c158, kc158, X158, e158, E158, hS, hk, hZ, hown, A158, F158, G158, V158, la158, lb158, C158, -, ne158, st158⟩ := ldcCH X146 hx hZ hown (hw _ (List.mem_of_getElem? (i := 82) rfl)) (own_wS hw) e146 hS hk (own_EW hw) (List.mem_of_getElem? (i := 0) rfl) R116.1 (vs := [(.int (33 : Int32)), (.int (35 : Int32)), (.int (36 : Int32)), (.int (37 : Int32)), (.int (38 : Int32)), (.int (39 : Int32)), (.int (42 : Int32)), (.int (43 : Int32)), (.int (45 : Int32)), (.int (46 : Int32)), (.int (94 : Int32)), (.int (95 : Int32)), (.int (96 : Int32)), (.int (124 : Int32)), (.int (126 : Int32))]) (z := (15 : Int32)) ⟨by decide, by decide⟩ (by decide) rfl (g := (mkF m 71 #[rv a1, iv (1 : Int32), iv c1_, iv (0 : Int32)] [])) rfl (hb hby d5_71) (n := 60) (by decide) (by decide) (by decide) (by decide)
          have R159 : CHr Z consts_1 s.vm h0 T158.vm h158 := R116.trans C158
          have O160 := O137.ext E158
          have g161 : Go p e below T158 (mkF m 73 #[rv a1, iv (1 : Int32), iv c1_, iv (0 : Int32)] [(.ref b158)]) A0 := fun t kont => g157 t (st158 t kont)
          have g163 : Go p e below T158 (mkF m 74 #[rv a1, iv (1 : Int32), iv c1_, iv (0 : Int32)] [(.int c1_), (.ref b158)]) A0 := by
            intro t kont
            refine g161 t ?_
            refine XS.iloadN X158.here hx rfl (hb hby d5_73) rfl ?_
            exact kont
          by_cases c162 : (255 : Int32) < c1_
          ·
            obtain ⟨cq164, kq164, q164a, q164b, q164c⟩ := isOf hZ e158 A158
            obtain ⟨_, _, ⟨T164, L164, k164, n164⟩, -, X164, ⟨Lc164, hQ164, l164, y164, z164⟩, st164⟩ := X158.virtualBack hx (y := (⟨"java/lang/String", "indexOf", "(I)I"⟩ : MethodName)) (z := (⟨"java/lang/String", "indexOf", "(I)I"⟩ : MethodName)) hown (mvT hZ (hw _ (List.mem_of_getElem? (i := 83) rfl))) (mvT hZ (hw _ (List.mem_of_getElem? (i := 84) rfl))) (notFace_of_selects (args := #[]) (mvT hZ (hw _ (List.mem_of_getElem? (i := 86) rfl)))) (mvT hZ (hw _ (List.mem_of_getElem? (i := 86) rfl))) (mvT hZ (hw _ (List.mem_of_getElem? (i := 85) rfl))) (by decide) (backOf (W := 0) (rm_ix1U l Z a0 hw [] b158 c158 c1_ kc158 cs h158 n0 O160 S0_ hcs G158 F158 A158 V158 hb1_.1 c162) hZ (hw _ (List.mem_of_getElem? (i := 87) rfl)) (hw _ (List.mem_of_getElem? (i := 8) rfl)) (by decide) (by decide)) q164a q164c (g := (mkF m 74 #[rv a1, iv (1 : Int32), iv c1_, iv (0 : Int32)] [(.int c1_), (.ref b158)])) rfl (by rw [hml]; rfl) (Steps.refl _) (argsL := [(.int c1_)]) (rest := []) (lenOf pd_1 rfl) rfl (by show 2 * 0 + _ ≤ _; exact Nat.le_of_eq rfl) (hb hby d5_74) (fun _ _ => ⟨rfl, e158, (by decide : 4 + 0 ≤ _), (by decide : 128 + 0 ≤ _)⟩)
            dsimp only [Pt.U, Pt.locs, Pt.cells, Pt.slots] at X164 l164 y164 z164 st164 hQ164
            subst l164 y164 z164
            obtain ⟨r165, rfl, M164, e164, y166⟩ := hQ164
            have N164 := Fr.app N146 M164
            have g167 : Go p e below T164 (mkF m 77 #[rv a1, iv (1 : Int32), iv c1_, iv (0 : Int32)] [(.int r165)]) A0 := fun t kont => g163 t (st164.trans kont)
            have g168 : Go p e below T164 (mkF m 82 #[rv a1, iv (1 : Int32), iv c1_, iv (0 : Int32)] []) A0 := by
              intro t kont
              refine g167 t ?_
              refine XS.ifYes X164.here hx rfl (pc0 := 77) (pc' := 82) rfl (hb hby d5_77) rfl ((if0 _ _).trans (flt (own_u2 y166 (own_u1 j151 c153) : ¬ (r165 < (0 : Int32)))).2.1) (by decide) (by decide) ?_
              exact kont
            exact ⟨(0 : Int32), _, _, _, _, _, (X164.more (by decide) (by decide)), e164, E158, hS, hk, hZ, hown, R159, ((CHr.refl R116.1).trans (C158)), N164, g168⟩
          obtain ⟨cq169, kq169, q169a, q169b, q169c⟩ := isOf hZ e158 A158
          obtain ⟨_, _, ⟨T169, L169, k169, n169⟩, -, X169, ⟨Lc169, hQ169, l169, y169, z169⟩, st169⟩ := X158.virtualBack hx (y := (⟨"java/lang/String", "indexOf", "(I)I"⟩ : MethodName)) (z := (⟨"java/lang/String", "indexOf", "(I)I"⟩ : MethodName)) hown (mvT hZ (hw _ (List.mem_of_getElem? (i := 83) rfl))) (mvT hZ (hw _ (List.mem_of_getElem? (i := 84) rfl))) (notFace_of_selects (args := #[]) (mvT hZ (hw _ (List.mem_of_getElem? (i := 86) rfl)))) (mvT hZ (hw _ (List.mem_of_getElem? (i := 86) rfl))) (mvT hZ (hw _ (List.mem_of_getElem? (i := 85) rfl))) (by decide) (backOf (W := 0) (rm_ix1L l Z a0 hw [] b158 c158 c1_ kc158 cs h158 n0 O160 S0_ hcs G158 F158 A158 V158 hb1_.1 c162) hZ (hw _ (List.mem_of_getElem? (i := 87) rfl)) (hw _ (List.mem_of_getElem? (i := 8) rfl)) (by decide) (by decide)) q169a q169c (g := (mkF m 74 #[rv a1, iv (1 : Int32), iv c1_, iv (0 : Int32)] [(.int c1_), (.ref b158)])) rfl (by rw [hml]; rfl) (Steps.refl _) (argsL := [(.int c1_)]) (rest := []) (lenOf pd_1 rfl) rfl (by show 2 * 0 + _ ≤ _; exact Nat.le_of_eq rfl) (hb hby d5_74) (fun _ _ => ⟨rfl, e158, (by decide : 4 + 0 ≤ _), (by decide : 128 + 0 ≤ _)⟩)
          dsimp only [Pt.U, Pt.locs, Pt.cells, Pt.slots] at X169 l169 y169 z169 st169 hQ169
          subst l169 y169 z169
          obtain ⟨r170, rfl, M169, e169, y171⟩ := hQ169
          have N169 := Fr.app N146 M169
          have g172 : Go p e below T169 (mkF m 77 #[rv a1, iv (1 : Int32), iv c1_, iv (0 : Int32)] [(.int r170)]) A0 := fun t kont => g163 t (st169.trans kont)
          have g173 : Go p e below T169 (mkF m 82 #[rv a1, iv (1 : Int32), iv c1_, iv (0 : Int32)] []) A0 := by
            intro t kont
            refine g172 t ?_
            refine XS.ifYes X169.here hx rfl (pc0 := 77) (pc' := 82) rfl (hb hby d5_77) rfl ((if0 _ _).trans (flt (own_u2 y171 (own_u1 j151 c153) : ¬ (r170 < (0 : Int32)))).2.1) (by decide) (by decide) ?_
            exact kont
          exact ⟨(0 : Int32), _, _, _, _, _, (X169.more (by decide) (by decide)), e169, E158, hS, hk, hZ, hown, R159, ((CHr.refl R116.1).trans (C158)), N169, g173⟩
        subst c156
        have g174 : Go p e below T146 (mkF m 82 #[rv a1, iv (1 : Int32), iv c1_, iv (1 : Int32)] []) A0 := by
          intro t kont
          refine g155 t ?_
          refine XS.ifYes X146.here hx rfl (pc0 := 68) (pc' := 82) rfl (hb hby d5_68) rfl ((if0 _ _).trans (feq (by decide : ¬ ((1 : Int32) = (0 : Int32)))).2) (by decide) (by decide) ?_
          exact kont
        exact ⟨(1 : Int32), _, _, _, _, _, (X146.more (by decide) (by decide)), e146, own_ext_refl, hS, hk, hZ, hown, R116, (CHr.refl R116.1), N146, g174⟩
      have O175 := O137.ext E154
      have g176 : Go p e below T154 (mkF m 13 #[rv a1, iv (2 : Int32), iv c1_, iv af1] [(.ref a1), (.int (2 : Int32))]) A0 := by
        intro t kont
        refine g154 t ?_
        refine XS.iinc X154.here hx rfl (hb hby d5_82) rfl (l' := #[rv a1, iv (2 : Int32), iv c1_, iv af1]) rfl ?_
        refine XS.goto X154.here hx rfl (pc0 := 85) (pc' := 11) rfl (hb hby d5_85) (by decide) (by decide) ?_
        refine XS.iloadN X154.here hx rfl (hb hby d5_11) rfl ?_
        refine XS.aloadN X154.here hx rfl (hb hby d5_12) rfl rfl ?_
        exact kont
      have y178 : Exa Z h154 a1 "java/lang/String" := (y140.ext E154)
      have y179 : Fld Z h154 a1 "java/lang/String" "value" "[B" (.ref v1) := (y141.ext E154)
      have y180 : Fld Z h154 a1 "java/lang/String" "coder" "B" (.int cd) := (y142.ext E154)
      have y181 : Arv Z h154 v1 kv .byte z1 vs (.int (0 : Int32)) := (y143.ext E154)
      obtain ⟨cq177, kq177, q177a, q177b, q177c⟩ := isOf hZ e154 y178
      obtain ⟨_, _, ⟨T177, L177, k177, n177⟩, -, X177, ⟨Lc177, hQ177, l177, y177, z177⟩, st177⟩ := X154.virtualBack hx (y := (⟨"java/lang/String", "length", "()I"⟩ : MethodName)) (z := (⟨"java/lang/String", "length", "()I"⟩ : MethodName)) hown (mvT hZ (hw _ (List.mem_of_getElem? (i := 50) rfl))) (mvT hZ (hw _ (List.mem_of_getElem? (i := 51) rfl))) (notFace_of_selects (args := #[]) (mvT hZ (hw _ (List.mem_of_getElem? (i := 53) rfl)))) (mvT hZ (hw _ (List.mem_of_getElem? (i := 53) rfl))) (mvT hZ (hw _ (List.mem_of_getElem? (i := 52) rfl))) (by decide) (backOf (W := 1) (rm_lenG l Z a0 hw [] a1 v1 kv cd z1 vs [c0_, c1_, c2_] cs h154 n0 O175 S0_ hcs y179 y180 y178 y181 hcod (by simp)) hZ (hw _ (List.mem_of_getElem? (i := 54) rfl)) (hw _ (List.mem_of_getElem? (i := 8) rfl)) (by decide) (by decide)) q177a q177c (g := (mkF m 13 #[rv a1, iv (2 : Int32), iv c1_, iv af1] [(.ref a1), (.int (2 : Int32))])) rfl (by rw [hml]; rfl) (Steps.refl _) (argsL := []) (rest := [(.int (2 : Int32))]) (lenOf pd_17 rfl) rfl (by show 2 * 0 + _ ≤ _; exact Nat.le_of_eq rfl) (hb hby d5_13) (fun _ _ => ⟨rfl, e154, (by decide : 4 + 0 ≤ _), (by decide : 128 + 0 ≤ _)⟩)
      dsimp only [Pt.U, Pt.locs, Pt.cells, Pt.slots] at X177 l177 y177 z177 st177 hQ177
      subst l177 y177 z177
      obtain ⟨rfl, M177, e177⟩ := hQ177
      have N177 := Fr.app N154 M177
      have g182 : Go p e below T177 (mkF m 16 #[rv a1, iv (2 : Int32), iv c1_, iv af1] [(.int (3 : Int32)), (.int (2 : Int32))]) A0 := fun t kont => g176 t (st177.trans kont)
      have g183 : Go p e below T177 (mkF m 21 #[rv a1, iv (2 : Int32), iv c1_, iv af1] [(.int (2 : Int32)), (.ref a1)]) A0 := by
        intro t kont
        refine g182 t ?_
        refine XS.icmpNo X177.here hx rfl (hb hby d5_16) rfl (tlt (by decide : (2 : Int32) < (3 : Int32))).2.1 ?_
        refine XS.aloadN X177.here hx rfl (hb hby d5_19) rfl rfl ?_
        refine XS.iloadN X177.here hx rfl (hb hby d5_20) rfl ?_
        exact kont
      obtain ⟨cq184, kq184, q184a, q184b, q184c⟩ := isOf hZ e177 y178
      obtain ⟨_, _, ⟨T184, L184, k184, n184⟩, -, X184, ⟨Lc184, hQ184, l184, y184, z184⟩, st184⟩ := X177.virtualBack hx (y := (⟨"java/lang/String", "charAt", "(I)C"⟩ : MethodName)) (z := (⟨"java/lang/String", "charAt", "(I)C"⟩ : MethodName)) hown (mvT hZ (hw _ (List.mem_of_getElem? (i := 60) rfl))) (mvT hZ (hw _ (List.mem_of_getElem? (i := 61) rfl))) (notFace_of_selects (args := #[]) (mvT hZ (hw _ (List.mem_of_getElem? (i := 63) rfl)))) (mvT hZ (hw _ (List.mem_of_getElem? (i := 63) rfl))) (mvT hZ (hw _ (List.mem_of_getElem? (i := 62) rfl))) (by decide) (backOf (W := 0) (rm_chaG l Z a0 hw [] a1 v1 kv cd z1 vs [c0_, c1_, c2_] cs 2 fm h154 n0 O175 S0_ hcs y179 y180 y178 y181 hcod (by simp) (by simp) hch S8_ hfm S10_ S11_ S12_) hZ (hw _ (List.mem_of_getElem? (i := 64) rfl)) (hw _ (List.mem_of_getElem? (i := 8) rfl)) (by decide) (by decide)) q184a q184c (g := (mkF m 21 #[rv a1, iv (2 : Int32), iv c1_, iv af1] [(.int (2 : Int32)), (.ref a1)])) rfl (by rw [hml]; rfl) (Steps.refl _) (argsL := [(.int (2 : Int32))]) (rest := []) (lenOf pd_18 rfl) rfl (by show 2 * 0 + _ ≤ _; exact Nat.le_of_eq rfl) (hb hby d5_21) (fun _ _ => ⟨rfl, e177, (by decide : 4 + 0 ≤ _), (by decide : 128 + 0 ≤ _)⟩)
      dsimp only [Pt.U, Pt.locs, Pt.cells, Pt.slots] at X184 l184 y184 z184 st184 hQ184
      subst l184 y184 z184
      obtain ⟨rfl, M184, e184⟩ := hQ184
      have N184 := Fr.app N177 M184
      have g185 : Go p e below T184 (mkF m 24 #[rv a1, iv (2 : Int32), iv c1_, iv af1] [(.int c2_)]) A0 := fun t kont => g183 t (st184.trans kont)
      have g186 : Go p e below T184 (mkF m 25 #[rv a1, iv (2 : Int32), iv c2_, iv af1] []) A0 := by
        intro t kont
        refine g185 t ?_
        refine XS.istoreN X184.here hx rfl (hb hby d5_24) rfl (l' := #[rv a1, iv (2 : Int32), iv c2_, iv af1]) rfl ?_
        exact kont
      obtain ⟨al2, j188, j189, gp187⟩ := pz_al X184 hx hby a1 (2 : Int32) c2_ (iv af1) 
      have g190 : Go p e below T184 (mkF m 66 #[rv a1, iv (2 : Int32), iv c2_, iv af1] [(.int al2)]) A0 := fun t kont => g186 t (gp187 t kont)
      by_cases c191 : own_tok c2_
      ·
        obtain ⟨af2, T192, lc192, h192, vm192, k192, X192, e192, E192, hS, hk, hZ, hown, R192, C192, N192, g192⟩ : ∃ af2 : Int32, ∃ (T192 : State) (lc192 : List Loc) (h192 : Heap) (vm192 : Vm) (k192 : Nat), Stand p l e ({ frames := 5, cells := 6, slots := 192, locals := 66 } : Room) (s.setVm vm192) m #[(.ref a1)] below meth c T192 lc192 6 192 ∧ T192.heap = h192 ∧ Ext h154 h192 ∧ s.Since vm192 k192 ∧ k192 ≤ h192.size ∧ Z.Warmed39 (s.setVm vm192).vm ∧ (s.setVm vm192).vm.findClass "com/example/rolegate/rolegate/MethodSet" = some m.cls ∧ CHr Z consts_1 s.vm h0 vm192 h192 ∧ CHr Z consts_1 vm154 h154 vm192 h192 ∧ Fr n0 lc192 ∧ Go p e below T192 (mkF m 82 #[rv a1, iv (2 : Int32), iv c2_, iv af2] []) A0 := by
          have g193 : Go p e below T184 (mkF m 68 #[rv a1, iv (2 : Int32), iv c2_, iv al2] [(.int al2)]) A0 := by
            intro t kont
            refine g190 t ?_
            refine XS.istoreN X184.here hx rfl (hb hby d5_66) rfl (l' := #[rv a1, iv (2 : Int32), iv c2_, iv al2]) rfl ?_
            refine XS.iloadN X184.here hx rfl (hb hby d5_67) rfl ?_
            exact kont
          rcases (j188 : al2 = (0 : Int32) ∨ al2 = (1 : Int32)) with c194 | c194
          ·
            subst c194
            have g195 : Go p e below T184 (mkF m 71 #[rv a1, iv (2 : Int32), iv c2_, iv (0 : Int32)] []) A0 := by
              intro t kont
              refine g193 t ?_
              refine XS.ifNo X184.here hx rfl (hb hby d5_68) rfl ((if0 _ _).trans (teq (by decide : (0 : Int32) = (0 : Int32))).2) ?_
              exact kont
            obtain ⟨b196, T196, h196, k196, c196, kc196, X196, e196, E196, hS, hk, hZ, hown, A196, F196, G196, V196, la196, lb196, C196, -, ne196, st196⟩ := ldcCH X184 hx hZ hown (hw _ (List.mem_of_getElem? (i := 82) rfl)) (own_wS hw) e184 hS hk (own_EW hw) (List.mem_of_getElem? (i := 0) rfl) R154.1 (vs := [(.int (33 : Int32)), (.int (35 : Int32)), (.int (36 : Int32)), (.int (37 : Int32)), (.int (38 : Int32)), (.int (39 : Int32)), (.int (42 : Int32)), (.int (43 : Int32)), (.int (45 : Int32)), (.int (46 : Int32)), (.int (94 : Int32)), (.int (95 : Int32)), (.int (96 : Int32)), (.int (124 : Int32)), (.int (126 : Int32))]) (z := (15 : Int32)) ⟨by decide, by decide⟩ (by decide) rfl (g := (mkF m 71 #[rv a1, iv (2 : Int32), iv c2_, iv (0 : Int32)] [])) rfl (hb hby d5_71) (n := 60) (by decide) (by decide) (by decide) (by decide)
            have R197 : CHr Z consts_1 s.vm h0 T196.vm h196 := R154.trans C196
            have O198 := O175.ext E196
            have g199 : Go p e below T196 (mkF m 73 #[rv a1, iv (2 : Int32), iv c2_, iv (0 : Int32)] [(.ref b196)]) A0 := fun t kont => g195 t (st196 t kont)
            have g201 : Go p e below T196 (mkF m 74 #[rv a1, iv (2 : Int32), iv c2_, iv (0 : Int32)] [(.int c2_), (.ref b196)]) A0 := by
              intro t kont
              refine g199 t ?_
              refine XS.iloadN X196.here hx rfl (hb hby d5_73) rfl ?_
              exact kont
            by_cases c200 : (255 : Int32) < c2_
            ·
              obtain ⟨cq202, kq202, q202a, q202b, q202c⟩ := isOf hZ e196 A196
              obtain ⟨_, _, ⟨T202, L202, k202, n202⟩, -, X202, ⟨Lc202, hQ202, l202, y202, z202⟩, st202⟩ := X196.virtualBack hx (y := (⟨"java/lang/String", "indexOf", "(I)I"⟩ : MethodName)) (z := (⟨"java/lang/String", "indexOf", "(I)I"⟩ : MethodName)) hown (mvT hZ (hw _ (List.mem_of_getElem? (i := 83) rfl))) (mvT hZ (hw _ (List.mem_of_getElem? (i := 84) rfl))) (notFace_of_selects (args := #[]) (mvT hZ (hw _ (List.mem_of_getElem? (i := 86) rfl)))) (mvT hZ (hw _ (List.mem_of_getElem? (i := 86) rfl))) (mvT hZ (hw _ (List.mem_of_getElem? (i := 85) rfl))) (by decide) (backOf (W := 0) (rm_ix1U l Z a0 hw [] b196 c196 c2_ kc196 cs h196 n0 O198 S0_ hcs G196 F196 A196 V196 hb2_.1 c200) hZ (hw _ (List.mem_of_getElem? (i := 87) rfl)) (hw _ (List.mem_of_getElem? (i := 8) rfl)) (by decide) (by decide)) q202a q202c (g := (mkF m 74 #[rv a1, iv (2 : Int32), iv c2_, iv (0 : Int32)] [(.int c2_), (.ref b196)])) rfl (by rw [hml]; rfl) (Steps.refl _) (argsL := [(.int c2_)]) (rest := []) (lenOf pd_1 rfl) rfl (by show 2 * 0 + _ ≤ _; exact Nat.le_of_eq rfl) (hb hby d5_74) (fun _ _ => ⟨rfl, e196, (by decide : 6 + 0 ≤ _), (by decide : 192 + 0 ≤ _)⟩)
              dsimp only [Pt.U, Pt.locs, Pt.cells, Pt.slots] at X202 l202 y202 z202 st202 hQ202
              subst l202 y202 z202
              obtain ⟨r203, rfl, M202, e202, y204⟩ := hQ202
              have N202 := Fr.app N184 M202
              have g205 : Go p e below T202 (mkF m 77 #[rv a1, iv (2 : Int32), iv c2_, iv (0 : Int32)] [(.int r203)]) A0 := fun t kont => g201 t (st202.trans kont)
              have g206 : Go p e below T202 (mkF m 82 #[rv a1, iv (2 : Int32), iv c2_, iv (0 : Int32)] []) A0 := by
                intro t kont
                refine g205 t ?_
                refine XS.ifYes X202.here hx rfl (pc0 := 77) (pc' := 82) rfl (hb hby d5_77) rfl ((if0 _ _).trans (flt (own_u2 y204 (own_u1 j189 c191) : ¬ (r203 < (0 : Int32)))).2.1) (by decide) (by decide) ?_
                exact kont
              exact ⟨(0 : Int32), _, _, _, _, _, (X202.more (by decide) (by decide)), e202, E196, hS, hk, hZ, hown, R197, ((CHr.refl R154.1).trans (C196)), N202, g206⟩
            obtain ⟨cq207, kq207, q207a, q207b, q207c⟩ := isOf hZ e196 A196
            obtain ⟨_, _, ⟨T207, L207, k207, n207⟩, -, X207, ⟨Lc207, hQ207, l207, y207, z207⟩, st207⟩ := X196.virtualBack hx (y := (⟨"java/lang/String", "indexOf", "(I)I"⟩ : MethodName)) (z := (⟨"java/lang/String", "indexOf", "(I)I"⟩ : MethodName)) hown (mvT hZ (hw _ (List.mem_of_getElem? (i := 83) rfl))) (mvT hZ (hw _ (List.mem_of_getElem? (i := 84) rfl))) (notFace_of_selects (args := #[]) (mvT hZ (hw _ (List.mem_of_getElem? (i := 86) rfl)))) (mvT hZ (hw _ (List.mem_of_getElem? (i := 86) rfl))) (mvT hZ (hw _ (List.mem_of_getElem? (i := 85) rfl))) (by decide) (backOf (W := 0) (rm_ix1L l Z a0 hw [] b196 c196 c2_ kc196 cs h196 n0 O198 S0_ hcs G196 F196 A196 V196 hb2_.1 c200) hZ (hw _ (List.mem_of_getElem? (i := 87) rfl)) (hw _ (List.mem_of_getElem? (i := 8) rfl)) (by decide) (by decide)) q207a q207c (g := (mkF m 74 #[rv a1, iv (2 : Int32), iv c2_, iv (0 : Int32)] [(.int c2_), (.ref b196)])) rfl (by rw [hml]; rfl) (Steps.refl _) (argsL := [(.int c2_)]) (rest := []) (lenOf pd_1 rfl) rfl (by show 2 * 0 + _ ≤ _; exact Nat.le_of_eq rfl) (hb hby d5_74) (fun _ _ => ⟨rfl, e196, (by decide : 6 + 0 ≤ _), (by decide : 192 + 0 ≤ _)⟩)
            dsimp only [Pt.U, Pt.locs, Pt.cells, Pt.slots] at X207 l207 y207 z207 st207 hQ207
            subst l207 y207 z207
            obtain ⟨r208, rfl, M207, e207, y209⟩ := hQ207
            have N207 := Fr.app N184 M207
            have g210 : Go p e below T207 (mkF m 77 #[rv a1, iv (2 : Int32), iv c2_, iv (0 : Int32)] [(.int r208)]) A0 := fun t kont => g201 t (st207.trans kont)
            have g211 : Go p e below T207 (mkF m 82 #[rv a1, iv (2 : Int32), iv c2_, iv (0 : Int32)] []) A0 := by
              intro t kont
              refine g210 t ?_
              refine XS.ifYes X207.here hx rfl (pc0 := 77) (pc' := 82) rfl (hb hby d5_77) rfl ((if0 _ _).trans (flt (own_u2 y209 (own_u1 j189 c191) : ¬ (r208 < (0 : Int32)))).2.1) (by decide) (by decide) ?_
              exact kont
            exact ⟨(0 : Int32), _, _, _, _, _, (X207.more (by decide) (by decide)), e207, E196, hS, hk, hZ, hown, R197, ((CHr.refl R154.1).trans (C196)), N207, g211⟩
          subst c194
          have g212 : Go p e below T184 (mkF m 82 #[rv a1, iv (2 : Int32), iv c2_, iv (1 : Int32)] []) A0 := by
            intro t kont
            refine g193 t ?_
            refine XS.ifYes X184.here hx rfl (pc0 := 68) (pc' := 82) rfl (hb hby d5_68) rfl ((if0 _ _).trans (feq (by decide : ¬ ((1 : Int32) = (0 : Int32)))).2) (by decide) (by decide) ?_
            exact kont
          exact ⟨(1 : Int32), _, _, _, _, _, (X184.more (by decide) (by decide)), e184, own_ext_refl, hS, hk, hZ, hown, R154, (CHr.refl R154.1), N184, g212⟩
        have O213 := O175.ext E192
        have g214 : Go p e below T192 (mkF m 13 #[rv a1, iv (3 : Int32), iv c2_, iv af2] [(.ref a1), (.int (3 : Int32))]) A0 := by
          intro t kont
          refine g192 t ?_
          refine XS.iinc X192.here hx rfl (hb hby d5_82) rfl (l' := #[rv a1, iv (3 : Int32), iv c2_, iv af2]) rfl ?_
          refine XS.goto X192.here hx rfl (pc0 := 85) (pc' := 11) rfl (hb hby d5_85) (by decide) (by decide) ?_
          refine XS.iloadN X192.here hx rfl (hb hby d5_11) rfl ?_
          refine XS.aloadN X192.here hx rfl (hb hby d5_12) rfl rfl ?_
          exact kont
        have y216 : Exa Z h192 a1 "java/lang/String" := (y178.ext E192)
        have y217 : Fld Z h192 a1 "java/lang/String" "value" "[B" (.ref v1) := (y179.ext E192)
        have y218 : Fld Z h192 a1 "java/lang/String" "coder" "B" (.int cd) := (y180.ext E192)
        have y219 : Arv Z h192 v1 kv .byte z1 vs (.int (0 : Int32)) := (y181.ext E192)
        obtain ⟨cq215, kq215, q215a, q215b, q215c⟩ := isOf hZ e192 y216
        obtain ⟨_, _, ⟨T215, L215, k215, n215⟩, -, X215, ⟨Lc215, hQ215, l215, y215, z215⟩, st215⟩ := X192.virtualBack hx (y := (⟨"java/lang/String", "length", "()I"⟩ : MethodName)) (z := (⟨"java/lang/String", "length", "()I"⟩ : MethodName)) hown (mvT hZ (hw _ (List.mem_of_getElem? (i := 50) rfl))) (mvT hZ (hw _ (List.mem_of_getElem? (i := 51) rfl))) (notFace_of_selects (args := #[]) (mvT hZ (hw _ (List.mem_of_getElem? (i := 53) rfl)))) (mvT hZ (hw _ (List.mem_of_getElem? (i := 53) rfl))) (mvT hZ (hw _ (List.mem_of_getElem? (i := 52) rfl))) (by decide) (backOf (W := 1) (rm_lenG l Z a0 hw [] a1 v1 kv cd z1 vs [c0_, c1_, c2_] cs h192 n0 O213 S0_ hcs y217 y218 y216 y219 hcod (by simp)) hZ (hw _ (List.mem_of_getElem? (i := 54) rfl)) (hw _ (List.mem_of_getElem? (i := 8) rfl)) (by decide) (by decide)) q215a q215c (g := (mkF m 13 #[rv a1, iv (3 : Int32), iv c2_, iv af2] [(.ref a1), (.int (3 : Int32))])) rfl (by rw [hml]; rfl) (Steps.refl _) (argsL := []) (rest := [(.int (3 : Int32))]) (lenOf pd_17 rfl) rfl (by show 2 * 0 + _ ≤ _; exact Nat.le_of_eq rfl) (hb hby d5_13) (fun _ _ => ⟨rfl, e192, (by decide : 6 + 0 ≤ _), (by decide : 192 + 0 ≤ _)⟩)
        dsimp only [Pt.U, Pt.locs, Pt.cells, Pt.slots] at X215 l215 y215 z215 st215 hQ215
        subst l215 y215 z215
        obtain ⟨rfl, M215, e215⟩ := hQ215
        have N215 := Fr.app N192 M215
        have g220 : Go p e below T215 (mkF m 16 #[rv a1, iv (3 : Int32), iv c2_, iv af2] [(.int (3 : Int32)), (.int (3 : Int32))]) A0 := fun t kont => g214 t (st215.trans kont)
        have g221 : Go p e below T215 (mkF m 89 #[rv a1, iv (3 : Int32), iv c2_, iv af2] [(.int (1 : Int32))]) A0 := by
          intro t kont
          refine g220 t ?_
          refine XS.icmpYes X215.here hx rfl (pc0 := 16) (pc' := 88) rfl (hb hby d5_16) rfl (flt (by decide : ¬ ((3 : Int32) < (3 : Int32)))).2.1 (by decide) (by decide) ?_
          refine XS.iconst X215.here hx rfl (hb hby d5_88) ?_
          exact kont
        have K222 : Keep h0 h192 [] := ((((Keep.refl h0 []).ext E116).ext E154).ext E192)
        obtain ⟨fs, hr, hrun, hended, hRW⟩ := X215.leaveW hS (by rw [e215]; exact hk) (v := some (.int (1 : Int32))) (fun h => by rw [Bd.returns] at h; cases h)
        refine ⟨_, _, g221 _ (retN X215 hx (t := .boolean) Bd.returns (by simp) (hb hby d5_89) hr), hrun, hended, _, _, rfl, ?_, ?_, hRW.1, hRW.2.1, hRW.2.2.1, hRW.2.2.2.mono (by decide) (by decide)⟩
        ·
          show Q_isM3 Z a1 v1 kv cs fm cd z1 vs c0_ c1_ c2_ h0 n0 _ T215.heap _
          rw [e215]
          exact ⟨(1 : Int32), rfl, N215, K222, Or.inr rfl, iff_of_true rfl ⟨c115, c153, c191⟩⟩
        ·
          rw [hh]
          show CHr Z consts_1 s.vm h0 T215.vm T215.heap
          rw [e215]
          exact R192.trans (CHv.at X215 hZ (own_EW hw) R192.1)
      have g223 : Go p e below T184 (mkF m 68 #[rv a1, iv (2 : Int32), iv c2_, iv al2] [(.int al2)]) A0 := by
        intro t kont
        refine g190 t ?_
        refine XS.istoreN X184.here hx rfl (hb hby d5_66) rfl (l' := #[rv a1, iv (2 : Int32), iv c2_, iv al2]) rfl ?_
        refine XS.iloadN X184.here hx rfl (hb hby d5_67) rfl ?_
        exact kont
      rcases (j188 : al2 = (0 : Int32) ∨ al2 = (1 : Int32)) with c224 | c224
      ·
        subst c224
        have g225 : Go p e below T184 (mkF m 71 #[rv a1, iv (2 : Int32), iv c2_, iv (0 : Int32)] []) A0 := by
          intro t kont
          refine g223 t ?_
          refine XS.ifNo X184.here hx rfl (hb hby d5_68) rfl ((if0 _ _).trans (teq (by decide : (0 : Int32) = (0 : Int32))).2) ?_
          exact kont
        obtain ⟨b226, T226, h226, k226, c226, kc226, X226, e226, E226, hS, hk, hZ, hown, A226, F226, G226, V226, la226, lb226, C226, -, ne226, st226⟩ := ldcCH X184 hx hZ hown (hw _ (List.mem_of_getElem? (i := 82) rfl)) (own_wS hw) e184 hS hk (own_EW hw) (List.mem_of_getElem? (i := 0) rfl) R154.1 (vs := [(.int (33 : Int32)), (.int (35 : Int32)), (.int (36 : Int32)), (.int (37 : Int32)), (.int (38 : Int32)), (.int (39 : Int32)), (.int (42 : Int32)), (.int (43 : Int32)), (.int (45 : Int32)), (.int (46 : Int32)), (.int (94 : Int32)), (.int (95 : Int32)), (.int (96 : Int32)), (.int (124 : Int32)), (.int (126 : Int32))]) (z := (15 : Int32)) ⟨by decide, by decide⟩ (by decide) rfl (g := (mkF m 71 #[rv a1, iv (2 : Int32), iv c2_, iv (0 : Int32)] [])) rfl (hb hby d5_71) (n := 60) (by decide) (by decide) (by decide) (by decide)
        have R227 : CHr Z consts_1 s.vm h0 T226.vm h226 := R154.trans C226
        have O228 := O175.ext E226
        have g229 : Go p e below T226 (mkF m 73 #[rv a1, iv (2 : Int32), iv c2_, iv (0 : Int32)] [(.ref b226)]) A0 := fun t kont => g225 t (st226 t kont)
        have g231 : Go p e below T226 (mkF m 74 #[rv a1, iv (2 : Int32), iv c2_, iv (0 : Int32)] [(.int c2_), (.ref b226)]) A0 := by
          intro t kont
          refine g229 t ?_
          refine XS.iloadN X226.here hx rfl (hb hby d5_73) rfl ?_
          exact kont
        by_cases c230 : (255 : Int32) < c2_
        ·
          obtain ⟨cq232, kq232, q232a, q232b, q232c⟩ := isOf hZ e226 A226
          obtain ⟨_, _, ⟨T232, L232, k232, n232⟩, -, X232, ⟨Lc232, hQ232, l232, y232, z232⟩, st232⟩ := X226.virtualBack hx (y := (⟨"java/lang/String", "indexOf", "(I)I"⟩ : MethodName)) (z := (⟨"java/lang/String", "indexOf", "(I)I"⟩ : MethodName)) hown (mvT hZ (hw _ (List.mem_of_getElem? (i := 83) rfl))) (mvT hZ (hw _ (List.mem_of_getElem? (i := 84) rfl))) (notFace_of_selects (args := #[]) (mvT hZ (hw _ (List.mem_of_getElem? (i := 86) rfl)))) (mvT hZ (hw _ (List.mem_of_getElem? (i := 86) rfl))) (mvT hZ (hw _ (List.mem_of_getElem? (i := 85) rfl))) (by decide) (backOf (W := 0) (rm_ix1U l Z a0 hw [] b226 c226 c2_ kc226 cs h226 n0 O228 S0_ hcs G226 F226 A226 V226 hb2_.1 c230) hZ (hw _ (List.mem_of_getElem? (i := 87) rfl)) (hw _ (List.mem_of_getElem? (i := 8) rfl)) (by decide) (by decide)) q232a q232c (g := (mkF m 74 #[rv a1, iv (2 : Int32), iv c2_, iv (0 : Int32)] [(.int c2_), (.ref b226)])) rfl (by rw [hml]; rfl) (Steps.refl _) (argsL := [(.int c2_)]) (rest := []) (lenOf pd_1 rfl) rfl (by show 2 * 0 + _ ≤ _; exact Nat.le_of_eq rfl) (hb hby d5_74) (fun _ _ => ⟨rfl, e226, (by decide : 6 + 0 ≤ _), (by decide : 192 + 0 ≤ _)⟩)
          dsimp only [Pt.U, Pt.locs, Pt.cells, Pt.slots] at X232 l232 y232 z232 st232 hQ232
          subst l232 y232 z232
          obtain ⟨r233, rfl, M232, e232, y234⟩ := hQ232
          have N232 := Fr.app N184 M232
          have g235 : Go p e below T232 (mkF m 77 #[rv a1, iv (2 : Int32), iv c2_, iv (0 : Int32)] [(.int r233)]) A0 := fun t kont => g231 t (st232.trans kont)
          have g236 : Go p e below T232 (mkF m 81 #[rv a1, iv (2 : Int32), iv c2_, iv (0 : Int32)] [(.int (0 : Int32))]) A0 := by
            intro t kont
            refine g235 t ?_
            refine XS.ifNo X232.here hx rfl (hb hby d5_77) rfl ((if0 _ _).trans (tlt (own_u3 y234 c191 : r233 < (0 : Int32))).2.1) ?_
            refine XS.iconst X232.here hx rfl (hb hby d5_80) ?_
            exact kont
          have K237 : Keep h0 h226 [] := ((((Keep.refl h0 []).ext E116).ext E154).ext E226)
          obtain ⟨fs, hr, hrun, hended, hRW⟩ := X232.leaveW hS (by rw [e232]; exact hk) (v := some (.int (0 : Int32))) (fun h => by rw [Bd.returns] at h; cases h)
          refine ⟨_, _, g236 _ (retN X232 hx (t := .boolean) Bd.returns (by simp) (hb hby d5_81) hr), hrun, hended, _, _, rfl, ?_, ?_, hRW.1, hRW.2.1, hRW.2.2.1, hRW.2.2.2.mono (by decide) (by decide)⟩
          ·
            show Q_isM3 Z a1 v1 kv cs fm cd z1 vs c0_ c1_ c2_ h0 n0 _ T232.heap _
            rw [e232]
            exact ⟨(0 : Int32), rfl, N232, K237, Or.inl rfl, iff_of_false (by decide) (fun q => c191 q.2.2)⟩
          ·
            rw [hh]
            show CHr Z consts_1 s.vm h0 T232.vm T232.heap
            rw [e232]
            exact R227.trans (CHv.at X232 hZ (own_EW hw) R227.1)
        obtain ⟨cq238, kq238, q238a, q238b, q238c⟩ := isOf hZ e226 A226
        obtain ⟨_, _, ⟨T238, L238, k238, n238⟩, -, X238, ⟨Lc238, hQ238, l238, y238, z238⟩, st238⟩ := X226.virtualBack hx (y := (⟨"java/lang/String", "indexOf", "(I)I"⟩ : MethodName)) (z := (⟨"java/lang/String", "indexOf", "(I)I"⟩ : MethodName)) hown (mvT hZ (hw _ (List.mem_of_getElem? (i := 83) rfl))) (mvT hZ (hw _ (List.mem_of_getElem? (i := 84) rfl))) (notFace_of_selects (args := #[]) (mvT hZ (hw _ (List.mem_of_getElem? (i := 86) rfl)))) (mvT hZ (hw _ (List.mem_of_getElem? (i := 86) rfl))) (mvT hZ (hw _ (List.mem_of_getElem? (i := 85) rfl))) (by decide) (backOf (W := 0) (rm_ix1L l Z a0 hw [] b226 c226 c2_ kc226 cs h226 n0 O228 S0_ hcs G226 F226 A226 V226 hb2_.1 c230) hZ (hw _ (List.mem_of_getElem? (i := 87) rfl)) (hw _ (List.mem_of_getElem? (i := 8) rfl)) (by decide) (by decide)) q238a q238c (g := (mkF m 74 #[rv a1, iv (2 : Int32), iv c2_, iv (0 : Int32)] [(.int c2_), (.ref b226)])) rfl (by rw [hml]; rfl) (Steps.refl _) (argsL := [(.int c2_)]) (rest := []) (lenOf pd_1 rfl) rfl (by show 2 * 0 + _ ≤ _; exact Nat.le_of_eq rfl) (hb hby d5_74) (fun _ _ => ⟨rfl, e226, (by decide : 6 + 0 ≤ _), (by decide : 192 + 0 ≤ _)⟩)
        dsimp only [Pt.U, Pt.locs, Pt.cells, Pt.slots] at X238 l238 y238 z238 st238 hQ238
        subst l238 y238 z238
        obtain ⟨r239, rfl, M238, e238, y240⟩ := hQ238
        have N238 := Fr.app N184 M238
        have g241 : Go p e below T238 (mkF m 77 #[rv a1, iv (2 : Int32), iv c2_, iv (0 : Int32)] [(.int r239)]) A0 := fun t kont => g231 t (st238.trans kont)
        have g242 : Go p e below T238 (mkF m 81 #[rv a1, iv (2 : Int32), iv c2_, iv (0 : Int32)] [(.int (0 : Int32))]) A0 := by
          intro t kont
          refine g241 t ?_
          refine XS.ifNo X238.here hx rfl (hb hby d5_77) rfl ((if0 _ _).trans (tlt (own_u3 y240 c191 : r239 < (0 : Int32))).2.1) ?_
          refine XS.iconst X238.here hx rfl (hb hby d5_80) ?_
          exact kont
        have K243 : Keep h0 h226 [] := ((((Keep.refl h0 []).ext E116).ext E154).ext E226)
        obtain ⟨fs, hr, hrun, hended, hRW⟩ := X238.leaveW hS (by rw [e238]; exact hk) (v := some (.int (0 : Int32))) (fun h => by rw [Bd.returns] at h; cases h)
        refine ⟨_, _, g242 _ (retN X238 hx (t := .boolean) Bd.returns (by simp) (hb hby d5_81) hr), hrun, hended, _, _, rfl, ?_, ?_, hRW.1, hRW.2.1, hRW.2.2.1, hRW.2.2.2.mono (by decide) (by decide)⟩
        ·
          show Q_isM3 Z a1 v1 kv cs fm cd z1 vs c0_ c1_ c2_ h0 n0 _ T238.heap _
          rw [e238]
          exact ⟨(0 : Int32), rfl, N238, K243, Or.inl rfl, iff_of_false (by decide) (fun q => c191 q.2.2)⟩
        ·
          rw [hh]
          show CHr Z consts_1 s.vm h0 T238.vm T238.heap
          rw [e238]
          exact R227.trans (CHv.at X238 hZ (own_EW hw) R227.1)
      subst c224
      exact (c191 (own_t1 j189)).elim
    have g244 : Go p e below T146 (mkF m 68 #[rv a1, iv (1 : Int32), iv c1_, iv al1] [(.int al1)]) A0 := by
      intro t kont
      refine g152 t ?_
      refine XS.istoreN X146.here hx rfl (hb hby d5_66) rfl (l' := #[rv a1, iv (1 : Int32), iv c1_, iv al1]) rfl ?_
      refine XS.iloadN X146.here hx rfl (hb hby d5_67) rfl ?_
      exact kont
    rcases (j150 : al1 = (0 : Int32) ∨ al1 = (1 : Int32)) with c245 | c245
    ·
      subst c245
      have g246 : Go p e below T146 (mkF m 71 #[rv a1, iv (1 : Int32), iv c1_, iv (0 : Int32)] []) A0 := by
        intro t kont
        refine g244 t ?_
        refine XS.ifNo X146.here hx rfl (hb hby d5_68) rfl ((if0 _ _).trans (teq (by decide : (0 : Int32) = (0 : Int32))).2) ?_
        exact kont
      obtain ⟨b247, T247, h247, k247, c247, kc247, X247, e247, E247, hS, hk, hZ, hown, A247, F247, G247, V247, la247, lb247, C247, -, ne247, st247⟩ := ldcCH X146 hx hZ hown (hw _ (List.mem_of_getElem? (i := 82) rfl)) (own_wS hw) e146 hS hk (own_EW hw) (List.mem_of_getElem? (i := 0) rfl) R116.1 (vs := [(.int (33 : Int32)), (.int (35 : Int32)), (.int (36 : Int32)), (.int (37 : Int32)), (.int (38 : Int32)), (.int (39 : Int32)), (.int (42 : Int32)), (.int (43 : Int32)), (.int (45 : Int32)), (.int (46 : Int32)), (.int (94 : Int32)), (.int (95 : Int32)), (.int (96 : Int32)), (.int (124 : Int32)), (.int (126 : Int32))]) (z := (15 : Int32)) ⟨by decide, by decide⟩ (by decide) rfl (g := (mkF m 71 #[rv a1, iv (1 : Int32), iv c1_, iv (0 : Int32)] [])) rfl (hb hby d5_71) (n := 60) (by decide) (by decide) (by decide) (by decide)
      have R248 : CHr Z consts_1 s.vm h0 T247.vm h247 := R116.trans C247
      have O249 := O137.ext E247
      have g250 : Go p e below T247 (mkF m 73 #[rv a1, iv (1 : Int32), iv c1_, iv (0 : Int32)] [(.ref b247)]) A0 := fun t kont => g246 t (st247 t kont)
      have g252 : Go p e below T247 (mkF m 74 #[rv a1, iv (1 : Int32), iv c1_, iv (0 : Int32)] [(.int c1_), (.ref b247)]) A0 := by
        intro t kont
        refine g250 t ?_
        refine XS.iloadN X247.here hx rfl (hb hby d5_73) rfl ?_
        exact kont
      by_cases c251 : (255 : Int32) < c1_
      ·
        obtain ⟨cq253, kq253, q253a, q253b, q253c⟩ := isOf hZ e247 A247
        obtain ⟨_, _, ⟨T253, L253, k253, n253⟩, -, X253, ⟨Lc253, hQ253, l253, y253, z253⟩, st253⟩ := X247.virtualBack hx (y := (⟨"java/lang/String", "indexOf", "(I)I"⟩ : MethodName)) (z := (⟨"java/lang/String", "indexOf", "(I)I"⟩ : MethodName)) hown (mvT hZ (hw _ (List.mem_of_getElem? (i := 83) rfl))) (mvT hZ (hw _ (List.mem_of_getElem? (i := 84) rfl))) (notFace_of_selects (args := #[]) (mvT hZ (hw _ (List.mem_of_getElem? (i := 86) rfl)))) (mvT hZ (hw _ (List.mem_of_getElem? (i := 86) rfl))) (mvT hZ (hw _ (List.mem_of_getElem? (i := 85) rfl))) (by decide) (backOf (W := 0) (rm_ix1U l Z a0 hw [] b247 c247 c1_ kc247 cs h247 n0 O249 S0_ hcs G247 F247 A247 V247 hb1_.1 c251) hZ (hw _ (List.mem_of_getElem? (i := 87) rfl)) (hw _ (List.mem_of_getElem? (i := 8) rfl)) (by decide) (by decide)) q253a q253c (g := (mkF m 74 #[rv a1, iv (1 : Int32), iv c1_, iv (0 : Int32)] [(.int c1_), (.ref b247)])) rfl (by rw [hml]; rfl) (Steps.refl _) (argsL := [(.int c1_)]) (rest := []) (lenOf pd_1 rfl) rfl (by show 2 * 0 + _ ≤ _; exact Nat.le_of_eq rfl) (hb hby d5_74) (fun _ _ => ⟨rfl, e247, (by decide : 4 + 0 ≤ _), (by decide : 128 + 0 ≤ _)⟩)
        dsimp only [Pt.U, Pt.locs, Pt.cells, Pt.slots] at X253 l253 y253 z253 st253 hQ253
        subst l253 y253 z253
        obtain ⟨r254, rfl, M253, e253, y255⟩ := hQ253
        have N253 := Fr.app N146 M253
        have g256 : Go p e below T253 (mkF m 77 #[rv a1, iv (1 : Int32), iv c1_, iv (0 : Int32)] [(.int r254)]) A0 := fun t kont => g252 t (st253.trans kont)
        have g257 : Go p e below T253 (mkF m 81 #[rv a1, iv (1 : Int32), iv c1_, iv (0 : Int32)] [(.int (0 : Int32))]) A0 := by
          intro t kont
          refine g256 t ?_
          refine XS.ifNo X253.here hx rfl (hb hby d5_77) rfl ((if0 _ _).trans (tlt (own_u3 y255 c153 : r254 < (0 : Int32))).2.1) ?_
          refine XS.iconst X253.here hx rfl (hb hby d5_80) ?_
          exact kont
        have K258 : Keep h0 h247 [] := (((Keep.refl h0 []).ext E116).ext E247)
        obtain ⟨fs, hr, hrun, hended, hRW⟩ := X253.leaveW hS (by rw [e253]; exact hk) (v := some (.int (0 : Int32))) (fun h => by rw [Bd.returns] at h; cases h)
        refine ⟨_, _, g257 _ (retN X253 hx (t := .boolean) Bd.returns (by simp) (hb hby d5_81) hr), hrun, hended, _, _, rfl, ?_, ?_, hRW.1, hRW.2.1, hRW.2.2.1, hRW.2.2.2.mono (by decide) (by decide)⟩
        ·
          show Q_isM3 Z a1 v1 kv cs fm cd z1 vs c0_ c1_ c2_ h0 n0 _ T253.heap _
          rw [e253]
          exact ⟨(0 : Int32), rfl, N253, K258, Or.inl rfl, iff_of_false (by decide) (fun q => c153 q.2.1)⟩
        ·
          rw [hh]
          show CHr Z consts_1 s.vm h0 T253.vm T253.heap
          rw [e253]
          exact R248.trans (CHv.at X253 hZ (own_EW hw) R248.1)
      obtain ⟨cq259, kq259, q259a, q259b, q259c⟩ := isOf hZ e247 A247
      obtain ⟨_, _, ⟨T259, L259, k259, n259⟩, -, X259, ⟨Lc259, hQ259, l259, y259, z259⟩, st259⟩ := X247.virtualBack hx (y := (⟨"java/lang/String", "indexOf", "(I)I"⟩ : MethodName)) (z := (⟨"java/lang/String", "indexOf", "(I)I"⟩ : MethodName)) hown (mvT hZ (hw _ (List.mem_of_getElem? (i := 83) rfl))) (mvT hZ (hw _ (List.mem_of_getElem? (i := 84) rfl))) (notFace_of_selects (args := #[]) (mvT hZ (hw _ (List.mem_of_getElem? (i := 86) rfl)))) (mvT hZ (hw _ (List.mem_of_getElem? (i := 86) rfl))) (mvT hZ (hw _ (List.mem_of_getElem? (i := 85) rfl))) (by decide) (backOf (W := 0) (rm_ix1L l Z a0 hw [] b247 c247 c1_ kc247 cs h247 n0 O249 S0_ hcs G247 F247 A247 V247 hb1_.1 c251) hZ (hw _ (List.mem_of_getElem? (i := 87) rfl)) (hw _ (List.mem_of_getElem? (i := 8) rfl)) (by decide) (by decide)) q259a q259c (g := (mkF m 74 #[rv a1, iv (1 : Int32), iv c1_, iv (0 : Int32)] [(.int c1_), (.ref b247)])) rfl (by rw [hml]; rfl) (Steps.refl _) (argsL := [(.int c1_)]) (rest := []) (lenOf pd_1 rfl) rfl (by show 2 * 0 + _ ≤ _; exact Nat.le_of_eq rfl) (hb hby d5_74) (fun _ _ => ⟨rfl, e247, (by decide : 4 + 0 ≤ _), (by decide : 128 + 0 ≤ _)⟩)
      dsimp only [Pt.U, Pt.locs, Pt.cells, Pt.slots] at X259 l259 y259 z259 st259 hQ259
      subst l259 y259 z259
      obtain ⟨r260, rfl, M259, e259, y261⟩ := hQ259
      have N259 := Fr.app N146 M259
      have g262 : Go p e below T259 (mkF m 77 #[rv a1, iv (1 : Int32), iv c1_, iv (0 : Int32)] [(.int r260)]) A0 := fun t kont => g252 t (st259.trans kont)
      have g263 : Go p e below T259 (mkF m 81 #[rv a1, iv (1 : Int32), iv c1_, iv (0 : Int32)] [(.int (0 : Int32))]) A0 := by
        intro t kont
        refine g262 t ?_
        refine XS.ifNo X259.here hx rfl (hb hby d5_77) rfl ((if0 _ _).trans (tlt (own_u3 y261 c153 : r260 < (0 : Int32))).2.1) ?_
        refine XS.iconst X259.here hx rfl (hb hby d5_80) ?_
        exact kont
      have K264 : Keep h0 h247 [] := (((Keep.refl h0 []).ext E116).ext E247)
      obtain ⟨fs, hr, hrun, hended, hRW⟩ := X259.leaveW hS (by rw [e259]; exact hk) (v := some (.int (0 : Int32))) (fun h => by rw [Bd.returns] at h; cases h)
      refine ⟨_, _, g263 _ (retN X259 hx (t := .boolean) Bd.returns (by simp) (hb hby d5_81) hr), hrun, hended, _, _, rfl, ?_, ?_, hRW.1, hRW.2.1, hRW.2.2.1, hRW.2.2.2.mono (by decide) (by decide)⟩
      ·
        show Q_isM3 Z a1 v1 kv cs fm cd z1 vs c0_ c1_ c2_ h0 n0 _ T259.heap _
        rw [e259]
        exact ⟨(0 : Int32), rfl, N259, K264, Or.inl rfl, iff_of_false (by decide) (fun q => c153 q.2.1)⟩
      ·
        rw [hh]
        show CHr Z consts_1 s.vm h0 T259.vm T259.heap
        rw [e259]
        exact R248.trans (CHv.at X259 hZ (own_EW hw) R248.1)
    subst c245
    exact (c153 (own_t1 j151)).elim
  have g265 : Go p e below T108 (mkF m 68 #[rv a1, iv (0 : Int32), iv c0_, iv al0] [(.int al0)]) A0 := by
    intro t kont
    refine g114 t ?_
    refine XS.istoreN X108.here hx rfl (hb hby d5_66) rfl (l' := #[rv a1, iv (0 : Int32), iv c0_, iv al0]) rfl ?_
    refine XS.iloadN X108.here hx rfl (hb hby d5_67) rfl ?_
    exact kont
  rcases (j112 : al0 = (0 : Int32) ∨ al0 = (1 : Int32)) with c266 | c266
  ·
    subst c266
    have g267 : Go p e below T108 (mkF m 71 #[rv a1, iv (0 : Int32), iv c0_, iv (0 : Int32)] []) A0 := by
      intro t kont
      refine g265 t ?_
      refine XS.ifNo X108.here hx rfl (hb hby d5_68) rfl ((if0 _ _).trans (teq (by decide : (0 : Int32) = (0 : Int32))).2) ?_
      exact kont
    obtain ⟨b268, T268, h268, k268, c268, kc268, X268, e268, E268, hS, hk, hZ, hown, A268, F268, G268, V268, la268, lb268, C268, -, ne268, st268⟩ := ldcCH X108 hx hZ hown (hw _ (List.mem_of_getElem? (i := 82) rfl)) (own_wS hw) e108 hS hk (own_EW hw) (List.mem_of_getElem? (i := 0) rfl) R0.1 (vs := [(.int (33 : Int32)), (.int (35 : Int32)), (.int (36 : Int32)), (.int (37 : Int32)), (.int (38 : Int32)), (.int (39 : Int32)), (.int (42 : Int32)), (.int (43 : Int32)), (.int (45 : Int32)), (.int (46 : Int32)), (.int (94 : Int32)), (.int (95 : Int32)), (.int (96 : Int32)), (.int (124 : Int32)), (.int (126 : Int32))]) (z := (15 : Int32)) ⟨by decide, by decide⟩ (by decide) rfl (g := (mkF m 71 #[rv a1, iv (0 : Int32), iv c0_, iv (0 : Int32)] [])) rfl (hb hby d5_71) (n := 60) (by decide) (by decide) (by decide) (by decide)
    have R269 : CHr Z consts_1 s.vm h0 T268.vm h268 := R0.trans C268
    have O270 := O0.ext E268
    have g271 : Go p e below T268 (mkF m 73 #[rv a1, iv (0 : Int32), iv c0_, iv (0 : Int32)] [(.ref b268)]) A0 := fun t kont => g267 t (st268 t kont)
    have g273 : Go p e below T268 (mkF m 74 #[rv a1, iv (0 : Int32), iv c0_, iv (0 : Int32)] [(.int c0_), (.ref b268)]) A0 := by
      intro t kont
      refine g271 t ?_
      refine XS.iloadN X268.here hx rfl (hb hby d5_73) rfl ?_
      exact kont
    by_cases c272 : (255 : Int32) < c0_
    ·
      obtain ⟨cq274, kq274, q274a, q274b, q274c⟩ := isOf hZ e268 A268
      obtain ⟨_, _, ⟨T274, L274, k274, n274⟩, -, X274, ⟨Lc274, hQ274, l274, y274, z274⟩, st274⟩ := X268.virtualBack hx (y := (⟨"java/lang/String", "indexOf", "(I)I"⟩ : MethodName)) (z := (⟨"java/lang/String", "indexOf", "(I)I"⟩ : MethodName)) hown (mvT hZ (hw _ (List.mem_of_getElem? (i := 83) rfl))) (mvT hZ (hw _ (List.mem_of_getElem? (i := 84) rfl))) (notFace_of_selects (args := #[]) (mvT hZ (hw _ (List.mem_of_getElem? (i := 86) rfl)))) (mvT hZ (hw _ (List.mem_of_getElem? (i := 86) rfl))) (mvT hZ (hw _ (List.mem_of_getElem? (i := 85) rfl))) (by decide) (backOf (W := 0) (rm_ix1U l Z a0 hw [] b268 c268 c0_ kc268 cs h268 n0 O270 S0_ hcs G268 F268 A268 V268 hb0_.1 c272) hZ (hw _ (List.mem_of_getElem? (i := 87) rfl)) (hw _ (List.mem_of_getElem? (i := 8) rfl)) (by decide) (by decide)) q274a q274c (g := (mkF m 74 #[rv a1, iv (0 : Int32), iv c0_, iv (0 : Int32)] [(.int c0_), (.ref b268)])) rfl (by rw [hml]; rfl) (Steps.refl _) (argsL := [(.int c0_)]) (rest := []) (lenOf pd_1 rfl) rfl (by show 2 * 0 + _ ≤ _; exact Nat.le_of_eq rfl) (hb hby d5_74) (fun _ _ => ⟨rfl, e268, (by decide : 2 + 0 ≤ _), (by decide : 64 + 0 ≤ _)⟩)
      dsimp only [Pt.U, Pt.locs, Pt.cells, Pt.slots] at X274 l274 y274 z274 st274 hQ274
      subst l274 y274 z274
      obtain ⟨r275, rfl, M274, e274, y276⟩ := hQ274
      have N274 := Fr.app N108 M274
      have g277 : Go p e below T274 (mkF m 77 #[rv a1, iv (0 : Int32), iv c0_, iv (0 : Int32)] [(.int r275)]) A0 := fun t kont => g273 t (st274.trans kont)
      have g278 : Go p e below T274 (mkF m 81 #[rv a1, iv (0 : Int32), iv c0_, iv (0 : Int32)] [(.int (0 : Int32))]) A0 := by
        intro t kont
        refine g277 t ?_
        refine XS.ifNo X274.here hx rfl (hb hby d5_77) rfl ((if0 _ _).trans (tlt (own_u3 y276 c115 : r275 < (0 : Int32))).2.1) ?_
        refine XS.iconst X274.here hx rfl (hb hby d5_80) ?_
        exact kont
      have K279 : Keep h0 h268 [] := ((Keep.refl h0 []).ext E268)
      obtain ⟨fs, hr, hrun, hended, hRW⟩ := X274.leaveW hS (by rw [e274]; exact hk) (v := some (.int (0 : Int32))) (fun h => by rw [Bd.returns] at h; cases h)
      refine ⟨_, _, g278 _ (retN X274 hx (t := .boolean) Bd.returns (by simp) (hb hby d5_81) hr), hrun, hended, _, _, rfl, ?_, ?_, hRW.1, hRW.2.1, hRW.2.2.1, hRW.2.2.2.mono (by decide) (by decide)⟩
      ·
        show Q_isM3 Z a1 v1 kv cs fm cd z1 vs c0_ c1_ c2_ h0 n0 _ T274.heap _
        rw [e274]
        exact ⟨(0 : Int32), rfl, N274, K279, Or.inl rfl, iff_of_false (by decide) (fun q => c115 q.1)⟩
      ·
        rw [hh]
        show CHr Z consts_1 s.vm h0 T274.vm T274.heap
        rw [e274]
        exact R269.trans (CHv.at X274 hZ (own_EW hw) R269.1)
    obtain ⟨cq280, kq280, q280a, q280b, q280c⟩ := isOf hZ e268 A268
    obtain ⟨_, _, ⟨T280, L280, k280, n280⟩, -, X280, ⟨Lc280, hQ280, l280, y280, z280⟩, st280⟩ := X268.virtualBack hx (y := (⟨"java/lang/String", "indexOf", "(I)I"⟩ : MethodName)) (z := (⟨"java/lang/String", "indexOf", "(I)I"⟩ : MethodName)) hown (mvT hZ (hw _ (List.mem_of_getElem? (i := 83) rfl))) (mvT hZ (hw _ (List.mem_of_getElem? (i := 84) rfl))) (notFace_of_selects (args := #[]) (mvT hZ (hw _ (List.mem_of_getElem? (i := 86) rfl)))) (mvT hZ (hw _ (List.mem_of_getElem? (i := 86) rfl))) (mvT hZ (hw _ (List.mem_of_getElem? (i := 85) rfl))) (by decide) (backOf (W := 0) (rm_ix1L l Z a0 hw [] b268 c268 c0_ kc268 cs h268 n0 O270 S0_ hcs G268 F268 A268 V268 hb0_.1 c272) hZ (hw _ (List.mem_of_getElem? (i := 87) rfl)) (hw _ (List.mem_of_getElem? (i := 8) rfl)) (by decide) (by decide)) q280a q280c (g := (mkF m 74 #[rv a1, iv (0 : Int32), iv c0_, iv (0 : Int32)] [(.int c0_), (.ref b268)])) rfl (by rw [hml]; rfl) (Steps.refl _) (argsL := [(.int c0_)]) (rest := []) (lenOf pd_1 rfl) rfl (by show 2 * 0 + _ ≤ _; exact Nat.le_of_eq rfl) (hb hby d5_74) (fun _ _ => ⟨rfl, e268, (by decide : 2 + 0 ≤ _), (by decide : 64 + 0 ≤ _)⟩)
    dsimp only [Pt.U, Pt.locs, Pt.cells, Pt.slots] at X280 l280 y280 z280 st280 hQ280
    subst l280 y280 z280
    obtain ⟨r281, rfl, M280, e280, y282⟩ := hQ280
    have N280 := Fr.app N108 M280
    have g283 : Go p e below T280 (mkF m 77 #[rv a1, iv (0 : Int32), iv c0_, iv (0 : Int32)] [(.int r281)]) A0 := fun t kont => g273 t (st280.trans kont)
    have g284 : Go p e below T280 (mkF m 81 #[rv a1, iv (0 : Int32), iv c0_, iv (0 : Int32)] [(.int (0 : Int32))]) A0 := by
      intro t kont
      refine g283 t ?_
      refine XS.ifNo X280.here hx rfl (hb hby d5_77) rfl ((if0 _ _).trans (tlt (own_u3 y282 c115 : r281 < (0 : Int32))).2.1) ?_
      refine XS.iconst X280.here hx rfl (hb hby d5_80) ?_
      exact kont
    have K285 : Keep h0 h268 [] := ((Keep.refl h0 []).ext E268)
    obtain ⟨fs, hr, hrun, hended, hRW⟩ := X280.leaveW hS (by rw [e280]; exact hk) (v := some (.int (0 : Int32))) (fun h => by rw [Bd.returns] at h; cases h)
    refine ⟨_, _, g284 _ (retN X280 hx (t := .boolean) Bd.returns (by simp) (hb hby d5_81) hr), hrun, hended, _, _, rfl, ?_, ?_, hRW.1, hRW.2.1, hRW.2.2.1, hRW.2.2.2.mono (by decide) (by decide)⟩
    ·
      show Q_isM3 Z a1 v1 kv cs fm cd z1 vs c0_ c1_ c2_ h0 n0 _ T280.heap _
      rw [e280]
      exact ⟨(0 : Int32), rfl, N280, K285, Or.inl rfl, iff_of_false (by decide) (fun q => c115 q.1)⟩
    ·
      rw [hh]
      show CHr Z consts_1 s.vm h0 T280.vm T280.heap
      rw [e280]
      exact R269.trans (CHv.at X280 hZ (own_EW hw) R269.1)
  subst c266
  exact (c115 (own_t1 j113)).elim
theorem pd_19 : parseMethodDescriptor "([C)V" = some ⟨[(.array .char)], none⟩ := by decide +kernel
theorem pd_20 : parseMethodDescriptor "(Ljava/lang/String;)Z" = some ⟨[(.object "java/lang/String")], some .boolean⟩ := by decide +kernel
theorem pd_21 : parseMethodDescriptor "(C)Z" = some ⟨[.char], some .boolean⟩ := by decide +kernel
theorem ef_law (m : MethodId) (x0 : Int32) (x1 : Int32) (x2 : Int32) (x3 : Int32)  : entryFrame m #[(.int x0), (.int x1), (.int x2), (.int x3)] maxLocals = mkF m 0 #[.val (.int x0), .val (.int x1), .val (.int x2), .val (.int x3), .unset, .unset, .unset, .unset, .unset, .unset, .unset] [] := by first | (simp [entryFrame, mkF, argsToLocals, Value.category, maxLocals]; done) | rfl
def Q_law (Z : State) (p0 : Int32) (p1 : Int32) (p2 : Int32) (p3 : Int32) (i_COMPACT_STRINGS : Int32) (v_SIOOBE_FORMATTER : Value) (h0 : Heap) (n0 : Nat) (v : Option Value) (h : Heap) (L : List Loc) : Prop := v = some (.int (1 : Int32)) ∧ Fr n0 L
set_option maxRecDepth 65536 in
set_option maxHeartbeats 40000000 in
theorem rm_law (l : Launch) (Z : State) (a0 : Array Value) (hw : ∀ d ∈ tables_1, d.before a0 Z = true) (ws : List Jvm.Cond) (p0 : Int32) (p1 : Int32) (p2 : Int32) (p3 : Int32) (i_COMPACT_STRINGS : Int32) (v_SIOOBE_FORMATTER : Value) (h0 : Heap) (n0 : Nat) (O0 : Old Z n0 h0) (S0_ : Sta Z Z.heap "java/lang/String" "COMPACT_STRINGS" "Z" (.int i_COMPACT_STRINGS)) (hcs : ¬ (i_COMPACT_STRINGS = (0 : Int32))) (S2_ : Sta Z Z.heap "jdk/internal/util/Preconditions" "SIOOBE_FORMATTER" "Ljava/util/function/BiFunction;" v_SIOOBE_FORMATTER) (hfm : v_SIOOBE_FORMATTER.isRef = true) (S4_ : Sta Z Z.heap "java/lang/StringUTF16" "$assertionsDisabled" "Z" (.int (1 : Int32))) (S5_ : Sta Z Z.heap "java/lang/StringUTF16" "HI_BYTE_SHIFT" "I" (.int (0 : Int32))) (S6_ : Sta Z Z.heap "java/lang/StringUTF16" "LO_BYTE_SHIFT" "I" (.int (8 : Int32))) :
    MetFree l x (head1 (Jvm.Cond.code x code maxLocals ret :: ws) room_1) (fun a U => a = #[(.int p0), (.int p1), (.int p2), (.int p3)] ∧ Z.Warmed39 U.vm ∧ U.heap = h0 ∧ CHv Z consts_1 U.vm h0) (fun _ _ _ _ _ => True) (fun _ U o U' => ∃ v L, o = .returned v ∧ Q_law Z p0 p1 p2 p3 i_COMPACT_STRINGS v_SIOOBE_FORMATTER h0 n0 v U'.heap L ∧ CHr Z consts_1 U.vm U.heap U'.vm U'.heap ∧ ReturnedEndW U o U' L room_1.cells room_1.slots) := by
  refine MetFree.of_bodySF (plainFor_of_name pn_com_example_rolegate_rolegate_MethodSetIsMethodNamePinLaw) hisR ?_
  intro p e s m args below meth c s₁ Bd hml0 hP hK
  obtain ⟨rfl, hZ, hh, hC0⟩ := hP
  have hx := Bd.exec
  have hby := Bd.bytes
  have hml : c.maxLocals = 11 := hml0
  have hown : s.vm.findClass "com/example/rolegate/rolegate/MethodSetIsMethodNamePinLaw" = some m.cls := findClass_of_methodNamed Bd.named
  have hnm := (name_of_methodNamed Bd.named Bd.method).1
  have X0 : Stand p l e room_1 (s.setVm s.vm) m #[(.int p0), (.int p1), (.int p2), (.int p3)] below meth c s₁ [] 0 0 := Stand.of_body Bd
  have e0 : s₁.heap = h0 := by rw [← hh, Bd.state]; rfl
  have N0 := Fr.nil n0
  have hS : s.Since s.vm 0 := (State.WarmedH.refl s).since 0
  have hk : 0 ≤ h0.size := Nat.zero_le _
  have hZ : Z.Warmed39 (s.setVm s.vm).vm := hZ
  have hown : (s.setVm s.vm).vm.findClass "com/example/rolegate/rolegate/MethodSetIsMethodNamePinLaw" = some m.cls := hown
  have R0 : CHr Z consts_1 s.vm h0 s.vm h0 := CHr.refl hC0
  have g0 : Go p e below s₁ (mkF m 0 #[iv p0, iv p1, iv p2, iv p3, .unset, .unset, .unset, .unset, .unset, .unset, .unset] []) (s₁.setTop (entryFrame m #[(.int p0), (.int p1), (.int p2), (.int p3)] maxLocals)) := fun t kont => castTop (ef_law m p0 p1 p2 p3 ) kont
  generalize s₁.setTop (entryFrame m #[(.int p0), (.int p1), (.int p2), (.int p3)] maxLocals) = A0 at g0 ⊢
  have g101 : Go p e below s₁ (mkF m 3 #[iv p0, iv p1, iv p2, iv p3, .unset, .unset, .unset, .unset, .unset, .unset, .unset] [(.int (p0 &&& (3 : Int32)))]) A0 := by
    intro t kont
    refine g0 t ?_
    refine XS.iloadN X0.here hx rfl (hb hby at_0) rfl ?_
    refine XS.iconst X0.here hx rfl (hb hby at_1) ?_
    refine XS.iand X0.here hx rfl (hb hby at_2) rfl ?_
    exact kont
  obtain ⟨k, e_k⟩ : ∃ z, z = (p0 &&& (3 : Int32)) := ⟨_, rfl⟩
  have g102 : Go p e below s₁ (mkF m 3 #[iv p0, iv p1, iv p2, iv p3, .unset, .unset, .unset, .unset, .unset, .unset, .unset] [(.int k)]) A0 := by rw [e_k]; exact g101
  rcases (own_and3 e_k : k = (0 : Int32) ∨ k = (1 : Int32) ∨ k = (2 : Int32) ∨ k = (3 : Int32)) with c103 | c103 | c103 | c103
  ·
    subst c103
    have g104 : Go p e below s₁ (mkF m 6 #[iv p0, iv p1, iv p2, iv p3, iv (0 : Int32), .unset, .unset, .unset, .unset, .unset, .unset] [(.int p1)]) A0 := by
      intro t kont
      refine g102 t ?_
      refine XS.istore X0.here hx rfl (hb hby at_3) rfl (l' := #[iv p0, iv p1, iv p2, iv p3, iv (0 : Int32), .unset, .unset, .unset, .unset, .unset, .unset]) rfl ?_
      refine XS.iloadN X0.here hx rfl (hb hby at_5) rfl ?_
      exact kont
    obtain ⟨_, _, ⟨T105, L105, k105, n105⟩, -, X105, ⟨Lc105, hQ105, l105, y105, z105⟩, st105⟩ := Jvm.LawKit.callS X0 hx (y := (⟨"com/example/rolegate/rolegate/MethodSetIsMethodNamePinLaw", "pick", "(I)C"⟩ : MethodName)) hown (mvT hZ (hw _ (List.mem_of_getElem? (i := 0) rfl))) (mvT hZ (hw _ (List.mem_of_getElem? (i := 1) rfl))) (mvT hZ (hw _ (List.mem_of_getElem? (i := 2) rfl))) (mvT hZ (hw _ (List.mem_of_getElem? (i := 3) rfl))) (by decide) (backOf (W := 0) (rm_pick l Z a0 hw [] p1 h0 n0 O0 ) hZ (hw _ (List.mem_of_getElem? (i := 3) rfl)) (hw _ (List.mem_of_getElem? (i := 2) rfl)) (by decide) (by decide)) (g := (mkF m 6 #[iv p0, iv p1, iv p2, iv p3, iv (0 : Int32), .unset, .unset, .unset, .unset, .unset, .unset] [(.int p1)])) rfl (by rw [hml]; rfl) (argsL := [(.int p1)]) (rest := []) (lenOf pd_18 rfl) rfl (by show 2 * 0 + _ ≤ _; exact Nat.le_of_eq rfl) (hb hby at_6) (fun _ _ => ⟨rfl, e0, (by decide : 0 + 0 ≤ _), (by decide : 0 + 0 ≤ _)⟩)
    dsimp only [Pt.U, Pt.locs, Pt.cells, Pt.slots] at X105 l105 y105 z105 st105 hQ105
    subst l105 y105 z105
    obtain ⟨r106, rfl, M105, e105, y107, y108⟩ := hQ105
    have N105 := Fr.app N0 M105
    have g109 : Go p e below T105 (mkF m 9 #[iv p0, iv p1, iv p2, iv p3, iv (0 : Int32), .unset, .unset, .unset, .unset, .unset, .unset] [(.int r106)]) A0 := fun t kont => g104 t (st105 t kont)
    have nr110 : nar .char r106 = r106 := own_narid y107 y108
    have g111 : Go p e below T105 (mkF m 12 #[iv p0, iv p1, iv p2, iv p3, iv (0 : Int32), iv r106, .unset, .unset, .unset, .unset, .unset] [(.int p2)]) A0 := by
      intro t kont
      refine g109 t ?_
      refine XS.istore X105.here hx rfl (hb hby at_9) rfl (l' := #[iv p0, iv p1, iv p2, iv p3, iv (0 : Int32), iv r106, .unset, .unset, .unset, .unset, .unset]) rfl ?_
      refine XS.iloadN X105.here hx rfl (hb hby at_11) rfl ?_
      exact kont
    obtain ⟨_, _, ⟨T112, L112, k112, n112⟩, -, X112, ⟨Lc112, hQ112, l112, y112, z112⟩, st112⟩ := Jvm.LawKit.callS X105 hx (y := (⟨"com/example/rolegate/rolegate/MethodSetIsMethodNamePinLaw", "pick", "(I)C"⟩ : MethodName)) hown (mvT hZ (hw _ (List.mem_of_getElem? (i := 0) rfl))) (mvT hZ (hw _ (List.mem_of_getElem? (i := 1) rfl))) (mvT hZ (hw _ (List.mem_of_getElem? (i := 2) rfl))) (mvT hZ (hw _ (List.mem_of_getElem? (i := 3) rfl))) (by decide) (backOf (W := 0) (rm_pick l Z a0 hw [] p2 h0 n0 O0 ) hZ (hw _ (List.mem_of_getElem? (i := 3) rfl)) (hw _ (List.mem_of_getElem? (i := 2) rfl)) (by decide) (by decide)) (g := (mkF m 12 #[iv p0, iv p1, iv p2, iv p3, iv (0 : Int32), iv r106, .unset, .unset, .unset, .unset, .unset] [(.int p2)])) rfl (by rw [hml]; rfl) (argsL := [(.int p2)]) (rest := []) (lenOf pd_18 rfl) rfl (by show 2 * 0 + _ ≤ _; exact Nat.le_of_eq rfl) (hb hby at_12) (fun _ _ => ⟨rfl, e105, (by decide : 0 + 0 ≤ _), (by decide : 0 + 0 ≤ _)⟩)
    dsimp only [Pt.U, Pt.locs, Pt.cells, Pt.slots] at X112 l112 y112 z112 st112 hQ112
    subst l112 y112 z112
    obtain ⟨r113, rfl, M112, e112, y114, y115⟩ := hQ112
    have N112 := Fr.app N105 M112
    have g116 : Go p e below T112 (mkF m 15 #[iv p0, iv p1, iv p2, iv p3, iv (0 : Int32), iv r106, .unset, .unset, .unset, .unset, .unset] [(.int r113)]) A0 := fun t kont => g111 t (st112 t kont)
    have nr117 : nar .char r113 = r113 := own_narid y114 y115
    have g118 : Go p e below T112 (mkF m 18 #[iv p0, iv p1, iv p2, iv p3, iv (0 : Int32), iv r106, iv r113, .unset, .unset, .unset, .unset] [(.int p3)]) A0 := by
      intro t kont
      refine g116 t ?_
      refine XS.istore X112.here hx rfl (hb hby at_15) rfl (l' := #[iv p0, iv p1, iv p2, iv p3, iv (0 : Int32), iv r106, iv r113, .unset, .unset, .unset, .unset]) rfl ?_
      refine XS.iloadN X112.here hx rfl (hb hby at_17) rfl ?_
      exact kont
    obtain ⟨_, _, ⟨T119, L119, k119, n119⟩, -, X119, ⟨Lc119, hQ119, l119, y119, z119⟩, st119⟩ := Jvm.LawKit.callS X112 hx (y := (⟨"com/example/rolegate/rolegate/MethodSetIsMethodNamePinLaw", "pick", "(I)C"⟩ : MethodName)) hown (mvT hZ (hw _ (List.mem_of_getElem? (i := 0) rfl))) (mvT hZ (hw _ (List.mem_of_getElem? (i := 1) rfl))) (mvT hZ (hw _ (List.mem_of_getElem? (i := 2) rfl))) (mvT hZ (hw _ (List.mem_of_getElem? (i := 3) rfl))) (by decide) (backOf (W := 0) (rm_pick l Z a0 hw [] p3 h0 n0 O0 ) hZ (hw _ (List.mem_of_getElem? (i := 3) rfl)) (hw _ (List.mem_of_getElem? (i := 2) rfl)) (by decide) (by decide)) (g := (mkF m 18 #[iv p0, iv p1, iv p2, iv p3, iv (0 : Int32), iv r106, iv r113, .unset, .unset, .unset, .unset] [(.int p3)])) rfl (by rw [hml]; rfl) (argsL := [(.int p3)]) (rest := []) (lenOf pd_18 rfl) rfl (by show 2 * 0 + _ ≤ _; exact Nat.le_of_eq rfl) (hb hby at_18) (fun _ _ => ⟨rfl, e112, (by decide : 0 + 0 ≤ _), (by decide : 0 + 0 ≤ _)⟩)
    dsimp only [Pt.U, Pt.locs, Pt.cells, Pt.slots] at X119 l119 y119 z119 st119 hQ119
    subst l119 y119 z119
    obtain ⟨r120, rfl, M119, e119, y121, y122⟩ := hQ119
    have N119 := Fr.app N112 M119
    have g123 : Go p e below T119 (mkF m 21 #[iv p0, iv p1, iv p2, iv p3, iv (0 : Int32), iv r106, iv r113, .unset, .unset, .unset, .unset] [(.int r120)]) A0 := fun t kont => g118 t (st119 t kont)
    have nr124 : nar .char r120 = r120 := own_narid y121 y122
    have g125 : Go p e below T119 (mkF m 25 #[iv p0, iv p1, iv p2, iv p3, iv (0 : Int32), iv r106, iv r113, iv r120, .unset, .unset, .unset] [(.int (0 : Int32))]) A0 := by
      intro t kont
      refine g123 t ?_
      refine XS.istore X119.here hx rfl (hb hby at_21) rfl (l' := #[iv p0, iv p1, iv p2, iv p3, iv (0 : Int32), iv r106, iv r113, iv r120, .unset, .unset, .unset]) rfl ?_
      refine XS.iload X119.here hx rfl (hb hby at_23) rfl ?_
      exact kont
    obtain ⟨T126, h126, k126, X126, e126, E126, A126, F126, st126⟩ := newPE X119 hx hZ (hw _ (List.mem_of_getElem? (i := 5) rfl)) e119 (g := (mkF m 25 #[iv p0, iv p1, iv p2, iv p3, iv (0 : Int32), iv r106, iv r113, iv r120, .unset, .unset, .unset] [(.int (0 : Int32))])) rfl (hb hby at_25) rfl (by decide) (cap := 0) (by decide) (by decide) (by decide) (by decide) (ad := "[C") (by decide)
    obtain ⟨b126, gb126⟩ : ∃ z, z = h0.size := ⟨_, rfl⟩
    rw [← gb126] at A126 F126 st126
    have R127 : CHr Z consts_1 s.vm h0 s.vm h126 := R0.trans (CHr.ext E126 R0.1)
    have O128 := O0.ext E126
    have y129 : Arv Z h126 b126 k126 .char (0 : Int32) [] (.int (0 : Int32)) := Arv.new A126 (by decide)
    have g130 : Go p e below T126 (mkF m 27 #[iv p0, iv p1, iv p2, iv p3, iv (0 : Int32), iv r106, iv r113, iv r120, .unset, .unset, .unset] [(.ref b126)]) A0 := fun t kont => g125 t (st126 t kont)
    have g131 : Go p e below T126 (mkF m 64 #[iv p0, iv p1, iv p2, iv p3, iv (0 : Int32), iv r106, iv r113, iv r120, rv b126, .unset, .unset] []) A0 := by
      intro t kont
      refine g130 t ?_
      refine XS.astore X126.here hx rfl (hb hby at_27) rfl rfl (l' := #[iv p0, iv p1, iv p2, iv p3, iv (0 : Int32), iv r106, iv r113, iv r120, rv b126, .unset, .unset]) rfl ?_
      refine XS.iload X126.here hx rfl (hb hby at_29) rfl ?_
      refine XS.ifYes X126.here hx rfl (pc0 := 31) (pc' := 40) rfl (hb hby at_31) rfl ((if0 _ _).trans (flt (by decide : ¬ ((0 : Int32) < (0 : Int32)))).2.2.2) (by decide) (by decide) ?_
      refine XS.iload X126.here hx rfl (hb hby at_40) rfl ?_
      refine XS.iconst X126.here hx rfl (hb hby at_42) ?_
      refine XS.icmpYes X126.here hx rfl (pc0 := 43) (pc' := 52) rfl (hb hby at_43) rfl (flt (by decide : ¬ ((1 : Int32) < (0 : Int32)))).2.2.2 (by decide) (by decide) ?_
      refine XS.iload X126.here hx rfl (hb hby at_52) rfl ?_
      refine XS.iconst X126.here hx rfl (hb hby at_54) ?_
      refine XS.icmpYes X126.here hx rfl (pc0 := 55) (pc' := 64) rfl (hb hby at_55) rfl (flt (by decide : ¬ ((2 : Int32) < (0 : Int32)))).2.2.2 (by decide) (by decide) ?_
      exact kont
    obtain ⟨T132, h132, X132, e132, E132, A132, D132, -, st132⟩ := newO X126 hx hZ hown (hw _ (List.mem_of_getElem? (i := 6) rfl)) (hw _ (List.mem_of_getElem? (i := 7) rfl)) (hw _ (List.mem_of_getElem? (i := 8) rfl)) e126 (g := (mkF m 64 #[iv p0, iv p1, iv p2, iv p3, iv (0 : Int32), iv r106, iv r113, iv r120, rv b126, .unset, .unset] [])) rfl (hb hby at_64) (by decide) (by decide)
    obtain ⟨b132, gb132⟩ : ∃ z, z = h126.size := ⟨_, rfl⟩
    rw [← gb132] at A132 D132 st132
    have R133 : CHr Z consts_1 s.vm h0 s.vm h132 := R127.trans (CHr.ext E132 R127.1)
    have O134 := O128.ext E132
    have y135 : Fld Z h132 b132 "java/lang/String" "value" "[B" .null := D132 (Or.inr (hw _ (List.mem_of_getElem? (i := 21) rfl))) (ty := (.array .byte)) (by decide)
    have y136 : Fld Z h132 b132 "java/lang/String" "coder" "B" (.int (0 : Int32)) := D132 (Or.inr (hw _ (List.mem_of_getElem? (i := 22) rfl))) (ty := .byte) (by decide)
    have g137 : Go p e below T132 (mkF m 67 #[iv p0, iv p1, iv p2, iv p3, iv (0 : Int32), iv r106, iv r113, iv r120, rv b126, .unset, .unset] [(.ref b132)]) A0 := fun t kont => g131 t (st132 t kont)
    have g138 : Go p e below T132 (mkF m 70 #[iv p0, iv p1, iv p2, iv p3, iv (0 : Int32), iv r106, iv r113, iv r120, rv b126, .unset, .unset] [(.ref b126), (.ref b132), (.ref b132)]) A0 := by
      intro t kont
      refine g137 t ?_
      refine XS.dup X132.here hx rfl (hb hby at_67) rfl rfl ?_
      refine XS.aload X132.here hx rfl (hb hby at_68) rfl rfl ?_
      exact kont
    have ge140 : n0 ≤ b132 := Nat.le_trans (own_old_le O128) (Nat.le_of_eq gb132.symm)
    have y141 : Arv Z h132 b126 k126 .char (0 : Int32) [] (.int (0 : Int32)) := (y129.ext E132)
    obtain ⟨_, _, ⟨T139, L139, k139, n139⟩, -, X139, hS139, hg139, ⟨Lc139, hQ139, l139, y139, z139, C139⟩, st139⟩ := X132.specialBackS hx (y := (⟨"java/lang/String", "<init>", "([C)V"⟩ : MethodName)) rfl hown (mvT hZ (hw _ (List.mem_of_getElem? (i := 9) rfl))) (mvT hZ (hw _ (List.mem_of_getElem? (i := 10) rfl))) (mvT hZ (hw _ (List.mem_of_getElem? (i := 11) rfl))) (by decide) (backOfSH (W := 1) (rm_sIni0 l Z a0 hw [] b132 b126 k126 h132 n0 O134 y135 y136 A132 ge140 y141) hZ (hw _ (List.mem_of_getElem? (i := 11) rfl)) (hw _ (List.mem_of_getElem? (i := 8) rfl)) (by decide) (by decide) (own_EW hw) R133.1) (g := (mkF m 70 #[iv p0, iv p1, iv p2, iv p3, iv (0 : Int32), iv r106, iv r113, iv r120, rv b126, .unset, .unset] [(.ref b126), (.ref b132), (.ref b132)])) rfl (by rw [hml]; rfl) (Steps.refl _) (a := b132) (argsL := [(.ref b126)]) (rest := [(.ref b132)]) (lenOf pd_19 rfl) rfl (by show 2 * 0 + _ ≤ _; exact Nat.le_of_eq rfl) (hb hby at_70) (fun _ _ => ⟨rfl, e132, (by decide : 2 + 4 ≤ _), (by decide : 4 + 8 ≤ _)⟩)
    dsimp only [Pt.U, Pt.locs, Pt.cells, Pt.slots] at X139 l139 y139 z139 st139 hQ139 hS139 hg139 C139
    subst l139 y139 z139
    obtain ⟨X139, hS, hZ, hown⟩ := rebS hS (n1 := T132.heap.size) (by rw [e132]; exact (Nat.le_trans hk (Nat.le_trans E126.1 E132.1))) X139 hS139 hg139 hZ hown
    obtain ⟨r142, r143, rfl, M139, K139, y144, y145, y146, y147⟩ := hQ139
    have N139 := Fr.app N119 M139
    have R148 : CHr Z consts_1 s.vm h0 T139.vm T139.heap := R133.trans C139
    have O149 := O134.keep K139 (allS ge140 all0)
    have g150 : Go p e below T139 (mkF m 73 #[iv p0, iv p1, iv p2, iv p3, iv (0 : Int32), iv r106, iv r113, iv r120, rv b126, .unset, .unset] [(.ref b132)]) A0 := fun t kont => g138 t (st139.trans kont)
    have g151 : Go p e below T139 (mkF m 131 #[iv p0, iv p1, iv p2, iv p3, iv (0 : Int32), iv r106, iv r113, iv r120, rv b126, rv b132, iv (0 : Int32)] [(.ref b132)]) A0 := by
      intro t kont
      refine g150 t ?_
      refine XS.astore X139.here hx rfl (hb hby at_73) rfl rfl (l' := #[iv p0, iv p1, iv p2, iv p3, iv (0 : Int32), iv r106, iv r113, iv r120, rv b126, rv b132, .unset]) rfl ?_
      refine XS.iload X139.here hx rfl (hb hby at_75) rfl ?_
      refine XS.ifYes X139.here hx rfl (pc0 := 77) (pc' := 126) rfl (hb hby at_77) rfl ((if0 _ _).trans (flt (by decide : ¬ ((0 : Int32) < (0 : Int32)))).2.2.2) (by decide) (by decide) ?_
      refine XS.iconst X139.here hx rfl (hb hby at_126) ?_
      refine XS.istore X139.here hx rfl (hb hby at_127) rfl (l' := #[iv p0, iv p1, iv p2, iv p3, iv (0 : Int32), iv r106, iv r113, iv r120, rv b126, rv b132, iv (0 : Int32)]) rfl ?_
      refine XS.aload X139.here hx rfl (hb hby at_129) rfl rfl ?_
      exact kont
    obtain ⟨_, _, ⟨T152, L152, k152, n152⟩, -, X152, hS152, hg152, ⟨Lc152, hQ152, l152, y152, z152, C152⟩, st152⟩ := callSS X139 hx (y := (⟨"com/example/rolegate/rolegate/MethodSet", "isMethodName", "(Ljava/lang/String;)Z"⟩ : MethodName)) hown (mvT hZ (hw _ (List.mem_of_getElem? (i := 27) rfl))) (mvT hZ (hw _ (List.mem_of_getElem? (i := 28) rfl))) (mvT hZ (hw _ (List.mem_of_getElem? (i := 29) rfl))) (mvT hZ (hw _ (List.mem_of_getElem? (i := 30) rfl))) (by decide) (backOfSH (W := 0) (rm_isM0 l Z a0 hw [] b132 r142 r143 [] T139.heap n0 O149 y144 y146 y147) hZ (hw _ (List.mem_of_getElem? (i := 30) rfl)) (hw _ (List.mem_of_getElem? (i := 29) rfl)) (by decide) (by decide) (own_EW hw) R148.1) (g := (mkF m 131 #[iv p0, iv p1, iv p2, iv p3, iv (0 : Int32), iv r106, iv r113, iv r120, rv b126, rv b132, iv (0 : Int32)] [(.ref b132)])) rfl (by rw [hml]; rfl) (argsL := [(.ref b132)]) (rest := []) (lenOf pd_20 rfl) rfl (by show 2 * 0 + _ ≤ _; exact Nat.le_of_eq rfl) (hb hby at_131) (fun _ _ => ⟨rfl, rfl, (by decide : 6 + 0 ≤ _), (by decide : 12 + 0 ≤ _)⟩)
    dsimp only [Pt.U, Pt.locs, Pt.cells, Pt.slots] at X152 l152 y152 z152 st152 hQ152 hS152 hg152 C152
    subst l152 y152 z152
    obtain ⟨X152, hS, hZ, hown⟩ := rebS hS (n1 := T139.heap.size) (Nat.le_refl _) X152 hS152 hg152 hZ hown
    obtain ⟨rfl, M152, K152⟩ := hQ152
    have N152 := Fr.app N139 M152
    have R153 : CHr Z consts_1 s.vm h0 T152.vm T152.heap := R148.trans C152
    have O154 := O149.keep K152 all0
    have g155 : Go p e below T152 (mkF m 134 #[iv p0, iv p1, iv p2, iv p3, iv (0 : Int32), iv r106, iv r113, iv r120, rv b126, rv b132, iv (0 : Int32)] [(.int (0 : Int32))]) A0 := fun t kont => g151 t (st152.trans kont)
    have g156 : Go p e below T152 (mkF m 144 #[iv p0, iv p1, iv p2, iv p3, iv (0 : Int32), iv r106, iv r113, iv r120, rv b126, rv b132, iv (0 : Int32)] [(.int (1 : Int32))]) A0 := by
      intro t kont
      refine g155 t ?_
      refine XS.iload X152.here hx rfl (hb hby at_134) rfl ?_
      refine XS.icmpNo X152.here hx rfl (hb hby at_136) rfl (teq (by decide : (0 : Int32) = (0 : Int32))).2 ?_
      refine XS.iconst X152.here hx rfl (hb hby at_139) ?_
      refine XS.goto X152.here hx rfl (pc0 := 140) (pc' := 144) rfl (hb hby at_140) (by decide) (by decide) ?_
      exact kont
    obtain ⟨fs, hr, hrun, hended, hRW⟩ := X152.leaveW hS (Nat.le_refl _) (v := some (.int (1 : Int32))) (fun h => by rw [Bd.returns] at h; cases h)
    refine ⟨_, _, g156 _ (retN X152 hx (t := .boolean) Bd.returns (by simp) (hb hby at_144) hr), hrun, hended, _, _, rfl, ?_, ?_, hRW.1, hRW.2.1, hRW.2.2.1, hRW.2.2.2.mono (by decide) (by decide)⟩
    ·
      show Q_law Z p0 p1 p2 p3 i_COMPACT_STRINGS v_SIOOBE_FORMATTER h0 n0 _ T152.heap _
      exact ⟨rfl, N152⟩
    ·
      rw [hh]
      show CHr Z consts_1 s.vm h0 T152.vm T152.heap
      exact R153.trans (CHv.at X152 hZ (own_EW hw) R153.1)
  ·
    subst c103
    have g157 : Go p e below s₁ (mkF m 6 #[iv p0, iv p1, iv p2, iv p3, iv (1 : Int32), .unset, .unset, .unset, .unset, .unset, .unset] [(.int p1)]) A0 := by
      intro t kont
      refine g102 t ?_
      refine XS.istore X0.here hx rfl (hb hby at_3) rfl (l' := #[iv p0, iv p1, iv p2, iv p3, iv (1 : Int32), .unset, .unset, .unset, .unset, .unset, .unset]) rfl ?_
      refine XS.iloadN X0.here hx rfl (hb hby at_5) rfl ?_
      exact kont
    obtain ⟨_, _, ⟨T158, L158, k158, n158⟩, -, X158, ⟨Lc158, hQ158, l158, y158, z158⟩, st158⟩ := Jvm.LawKit.callS X0 hx (y := (⟨"com/example/rolegate/rolegate/MethodSetIsMethodNamePinLaw", "pick", "(I)C"⟩ : MethodName)) hown (mvT hZ (hw _ (List.mem_of_getElem? (i := 0) rfl))) (mvT hZ (hw _ (List.mem_of_getElem? (i := 1) rfl))) (mvT hZ (hw _ (List.mem_of_getElem? (i := 2) rfl))) (mvT hZ (hw _ (List.mem_of_getElem? (i := 3) rfl))) (by decide) (backOf (W := 0) (rm_pick l Z a0 hw [] p1 h0 n0 O0 ) hZ (hw _ (List.mem_of_getElem? (i := 3) rfl)) (hw _ (List.mem_of_getElem? (i := 2) rfl)) (by decide) (by decide)) (g := (mkF m 6 #[iv p0, iv p1, iv p2, iv p3, iv (1 : Int32), .unset, .unset, .unset, .unset, .unset, .unset] [(.int p1)])) rfl (by rw [hml]; rfl) (argsL := [(.int p1)]) (rest := []) (lenOf pd_18 rfl) rfl (by show 2 * 0 + _ ≤ _; exact Nat.le_of_eq rfl) (hb hby at_6) (fun _ _ => ⟨rfl, e0, (by decide : 0 + 0 ≤ _), (by decide : 0 + 0 ≤ _)⟩)
    dsimp only [Pt.U, Pt.locs, Pt.cells, Pt.slots] at X158 l158 y158 z158 st158 hQ158
    subst l158 y158 z158
    obtain ⟨r159, rfl, M158, e158, y160, y161⟩ := hQ158
    have N158 := Fr.app N0 M158
    have g162 : Go p e below T158 (mkF m 9 #[iv p0, iv p1, iv p2, iv p3, iv (1 : Int32), .unset, .unset, .unset, .unset, .unset, .unset] [(.int r159)]) A0 := fun t kont => g157 t (st158 t kont)
    have nr163 : nar .char r159 = r159 := own_narid y160 y161
    have g164 : Go p e below T158 (mkF m 12 #[iv p0, iv p1, iv p2, iv p3, iv (1 : Int32), iv r159, .unset, .unset, .unset, .unset, .unset] [(.int p2)]) A0 := by
      intro t kont
      refine g162 t ?_
      refine XS.istore X158.here hx rfl (hb hby at_9) rfl (l' := #[iv p0, iv p1, iv p2, iv p3, iv (1 : Int32), iv r159, .unset, .unset, .unset, .unset, .unset]) rfl ?_
      refine XS.iloadN X158.here hx rfl (hb hby at_11) rfl ?_
      exact kont
    obtain ⟨_, _, ⟨T165, L165, k165, n165⟩, -, X165, ⟨Lc165, hQ165, l165, y165, z165⟩, st165⟩ := Jvm.LawKit.callS X158 hx (y := (⟨"com/example/rolegate/rolegate/MethodSetIsMethodNamePinLaw", "pick", "(I)C"⟩ : MethodName)) hown (mvT hZ (hw _ (List.mem_of_getElem? (i := 0) rfl))) (mvT hZ (hw _ (List.mem_of_getElem? (i := 1) rfl))) (mvT hZ (hw _ (List.mem_of_getElem? (i := 2) rfl))) (mvT hZ (hw _ (List.mem_of_getElem? (i := 3) rfl))) (by decide) (backOf (W := 0) (rm_pick l Z a0 hw [] p2 h0 n0 O0 ) hZ (hw _ (List.mem_of_getElem? (i := 3) rfl)) (hw _ (List.mem_of_getElem? (i := 2) rfl)) (by decide) (by decide)) (g := (mkF m 12 #[iv p0, iv p1, iv p2, iv p3, iv (1 : Int32), iv r159, .unset, .unset, .unset, .unset, .unset] [(.int p2)])) rfl (by rw [hml]; rfl) (argsL := [(.int p2)]) (rest := []) (lenOf pd_18 rfl) rfl (by show 2 * 0 + _ ≤ _; exact Nat.le_of_eq rfl) (hb hby at_12) (fun _ _ => ⟨rfl, e158, (by decide : 0 + 0 ≤ _), (by decide : 0 + 0 ≤ _)⟩)
    dsimp only [Pt.U, Pt.locs, Pt.cells, Pt.slots] at X165 l165 y165 z165 st165 hQ165
    subst l165 y165 z165
    obtain ⟨r166, rfl, M165, e165, y167, y168⟩ := hQ165
    have N165 := Fr.app N158 M165
    have g169 : Go p e below T165 (mkF m 15 #[iv p0, iv p1, iv p2, iv p3, iv (1 : Int32), iv r159, .unset, .unset, .unset, .unset, .unset] [(.int r166)]) A0 := fun t kont => g164 t (st165 t kont)
    have nr170 : nar .char r166 = r166 := own_narid y167 y168
    have g171 : Go p e below T165 (mkF m 18 #[iv p0, iv p1, iv p2, iv p3, iv (1 : Int32), iv r159, iv r166, .unset, .unset, .unset, .unset] [(.int p3)]) A0 := by
      intro t kont
      refine g169 t ?_
      refine XS.istore X165.here hx rfl (hb hby at_15) rfl (l' := #[iv p0, iv p1, iv p2, iv p3, iv (1 : Int32), iv r159, iv r166, .unset, .unset, .unset, .unset]) rfl ?_
      refine XS.iloadN X165.here hx rfl (hb hby at_17) rfl ?_
      exact kont
    obtain ⟨_, _, ⟨T172, L172, k172, n172⟩, -, X172, ⟨Lc172, hQ172, l172, y172, z172⟩, st172⟩ := Jvm.LawKit.callS X165 hx (y := (⟨"com/example/rolegate/rolegate/MethodSetIsMethodNamePinLaw", "pick", "(I)C"⟩ : MethodName)) hown (mvT hZ (hw _ (List.mem_of_getElem? (i := 0) rfl))) (mvT hZ (hw _ (List.mem_of_getElem? (i := 1) rfl))) (mvT hZ (hw _ (List.mem_of_getElem? (i := 2) rfl))) (mvT hZ (hw _ (List.mem_of_getElem? (i := 3) rfl))) (by decide) (backOf (W := 0) (rm_pick l Z a0 hw [] p3 h0 n0 O0 ) hZ (hw _ (List.mem_of_getElem? (i := 3) rfl)) (hw _ (List.mem_of_getElem? (i := 2) rfl)) (by decide) (by decide)) (g := (mkF m 18 #[iv p0, iv p1, iv p2, iv p3, iv (1 : Int32), iv r159, iv r166, .unset, .unset, .unset, .unset] [(.int p3)])) rfl (by rw [hml]; rfl) (argsL := [(.int p3)]) (rest := []) (lenOf pd_18 rfl) rfl (by show 2 * 0 + _ ≤ _; exact Nat.le_of_eq rfl) (hb hby at_18) (fun _ _ => ⟨rfl, e165, (by decide : 0 + 0 ≤ _), (by decide : 0 + 0 ≤ _)⟩)
    dsimp only [Pt.U, Pt.locs, Pt.cells, Pt.slots] at X172 l172 y172 z172 st172 hQ172
    subst l172 y172 z172
    obtain ⟨r173, rfl, M172, e172, y174, y175⟩ := hQ172
    have N172 := Fr.app N165 M172
    have g176 : Go p e below T172 (mkF m 21 #[iv p0, iv p1, iv p2, iv p3, iv (1 : Int32), iv r159, iv r166, .unset, .unset, .unset, .unset] [(.int r173)]) A0 := fun t kont => g171 t (st172 t kont)
    have nr177 : nar .char r173 = r173 := own_narid y174 y175
    have g178 : Go p e below T172 (mkF m 25 #[iv p0, iv p1, iv p2, iv p3, iv (1 : Int32), iv r159, iv r166, iv r173, .unset, .unset, .unset] [(.int (1 : Int32))]) A0 := by
      intro t kont
      refine g176 t ?_
      refine XS.istore X172.here hx rfl (hb hby at_21) rfl (l' := #[iv p0, iv p1, iv p2, iv p3, iv (1 : Int32), iv r159, iv r166, iv r173, .unset, .unset, .unset]) rfl ?_
      refine XS.iload X172.here hx rfl (hb hby at_23) rfl ?_
      exact kont
    obtain ⟨T179, h179, k179, X179, e179, E179, A179, F179, st179⟩ := newPE X172 hx hZ (hw _ (List.mem_of_getElem? (i := 5) rfl)) e172 (g := (mkF m 25 #[iv p0, iv p1, iv p2, iv p3, iv (1 : Int32), iv r159, iv r166, iv r173, .unset, .unset, .unset] [(.int (1 : Int32))])) rfl (hb hby at_25) rfl (by decide) (cap := 1) (by decide) (by decide) (by decide) (by decide) (ad := "[C") (by decide)
    obtain ⟨b179, gb179⟩ : ∃ z, z = h0.size := ⟨_, rfl⟩
    rw [← gb179] at A179 F179 st179
    have R180 : CHr Z consts_1 s.vm h0 s.vm h179 := R0.trans (CHr.ext E179 R0.1)
    have O181 := O0.ext E179
    have y182 : Arv Z h179 b179 k179 .char (1 : Int32) [(.int (0 : Int32))] (.int (0 : Int32)) := (Arv.new A179 (by decide)).pad (pad_rep [] (.int (0 : Int32)) 1)
    have g183 : Go p e below T179 (mkF m 27 #[iv p0, iv p1, iv p2, iv p3, iv (1 : Int32), iv r159, iv r166, iv r173, .unset, .unset, .unset] [(.ref b179)]) A0 := fun t kont => g178 t (st179 t kont)
    have g184 : Go p e below T179 (mkF m 39 #[iv p0, iv p1, iv p2, iv p3, iv (1 : Int32), iv r159, iv r166, iv r173, rv b179, .unset, .unset] [(.int r159), (.int (0 : Int32)), (.ref b179)]) A0 := by
      intro t kont
      refine g183 t ?_
      refine XS.astore X179.here hx rfl (hb hby at_27) rfl rfl (l' := #[iv p0, iv p1, iv p2, iv p3, iv (1 : Int32), iv r159, iv r166, iv r173, rv b179, .unset, .unset]) rfl ?_
      refine XS.iload X179.here hx rfl (hb hby at_29) rfl ?_
      refine XS.ifNo X179.here hx rfl (hb hby at_31) rfl ((if0 _ _).trans (tlt (by decide : (0 : Int32) < (1 : Int32))).2.2.2) ?_
      refine XS.aload X179.here hx rfl (hb hby at_34) rfl rfl ?_
      refine XS.iconst X179.here hx rfl (hb hby at_36) ?_
      refine XS.iload X179.here hx rfl (hb hby at_37) rfl ?_
      exact kont
    have ge186 : n0 ≤ b179 := Nat.le_trans (own_old_le O0) (Nat.le_of_eq gb179.symm)
    have zz185 := y182
    obtain ⟨cl185, Ar185, q185, S185, M185, H185, G185⟩ := zz185
    have in185 : ¬ ((0 : Int32) < 0 ∨ cl185.slots.size ≤ ((0 : Int32)).toNatClampNeg) := inb_of S185 ⟨by decide, by decide⟩
    obtain ⟨T185, h185, X185, e185, W185, st185⟩ := stC X179 hx hZ e179 Ar185 (j := (0 : Int32)) in185 (g := (mkF m 39 #[iv p0, iv p1, iv p2, iv p3, iv (1 : Int32), iv r159, iv r166, iv r173, rv b179, .unset, .unset] [(.int r159), (.int (0 : Int32)), (.ref b179)])) rfl rfl (hb hby at_39)
    rw [show nar .char r159 = r159 from nr163] at W185
    have R187 : CHr Z consts_1 s.vm h0 s.vm h185 := R180.trans (CHr.wr W185 (Safe.ext E179 R0.1 (Safe.new (Nat.le_of_eq gb179.symm))) R180.1)
    have O188 := O181.wr W185 ge186
    have y189 : Arv Z h185 b179 k179 .char (1 : Int32) [(.int r159)] (.int (0 : Int32)) := Arv.set Ar185 q185 S185 M185 H185 G185 (own_ft_char (z := r159) nr163) W185 0 rfl (Nat.le_of_ble_eq_true rfl)
    have N185 := Fr.snoc X185 N172 ge186
    have g190 : Go p e below T185 (mkF m 40 #[iv p0, iv p1, iv p2, iv p3, iv (1 : Int32), iv r159, iv r166, iv r173, rv b179, .unset, .unset] []) A0 := fun t kont => g184 t (st185 t kont)
    have g191 : Go p e below T185 (mkF m 64 #[iv p0, iv p1, iv p2, iv p3, iv (1 : Int32), iv r159, iv r166, iv r173, rv b179, .unset, .unset] []) A0 := by
      intro t kont
      refine g190 t ?_
      refine XS.iload X185.here hx rfl (hb hby at_40) rfl ?_
      refine XS.iconst X185.here hx rfl (hb hby at_42) ?_
      refine XS.icmpYes X185.here hx rfl (pc0 := 43) (pc' := 52) rfl (hb hby at_43) rfl (flt (by decide : ¬ ((1 : Int32) < (1 : Int32)))).2.2.2 (by decide) (by decide) ?_
      refine XS.iload X185.here hx rfl (hb hby at_52) rfl ?_
      refine XS.iconst X185.here hx rfl (hb hby at_54) ?_
      refine XS.icmpYes X185.here hx rfl (pc0 := 55) (pc' := 64) rfl (hb hby at_55) rfl (flt (by decide : ¬ ((2 : Int32) < (1 : Int32)))).2.2.2 (by decide) (by decide) ?_
      exact kont
    obtain ⟨T192, h192, X192, e192, E192, A192, D192, -, st192⟩ := newO X185 hx hZ hown (hw _ (List.mem_of_getElem? (i := 6) rfl)) (hw _ (List.mem_of_getElem? (i := 7) rfl)) (hw _ (List.mem_of_getElem? (i := 8) rfl)) e185 (g := (mkF m 64 #[iv p0, iv p1, iv p2, iv p3, iv (1 : Int32), iv r159, iv r166, iv r173, rv b179, .unset, .unset] [])) rfl (hb hby at_64) (by decide) (by decide)
    obtain ⟨b192, gb192⟩ : ∃ z, z = h185.size := ⟨_, rfl⟩
    rw [← gb192] at A192 D192 st192
    have R193 : CHr Z consts_1 s.vm h0 s.vm h192 := R187.trans (CHr.ext E192 R187.1)
    have O194 := O188.ext E192
    have y195 : Fld Z h192 b192 "java/lang/String" "value" "[B" .null := D192 (Or.inr (hw _ (List.mem_of_getElem? (i := 21) rfl))) (ty := (.array .byte)) (by decide)
    have y196 : Fld Z h192 b192 "java/lang/String" "coder" "B" (.int (0 : Int32)) := D192 (Or.inr (hw _ (List.mem_of_getElem? (i := 22) rfl))) (ty := .byte) (by decide)
    have g197 : Go p e below T192 (mkF m 67 #[iv p0, iv p1, iv p2, iv p3, iv (1 : Int32), iv r159, iv r166, iv r173, rv b179, .unset, .unset] [(.ref b192)]) A0 := fun t kont => g191 t (st192 t kont)
    have g198 : Go p e below T192 (mkF m 70 #[iv p0, iv p1, iv p2, iv p3, iv (1 : Int32), iv r159, iv r166, iv r173, rv b179, .unset, .unset] [(.ref b179), (.ref b192), (.ref b192)]) A0 := by
      intro t kont
      refine g197 t ?_
      refine XS.dup X192.here hx rfl (hb hby at_67) rfl rfl ?_
      refine XS.aload X192.here hx rfl (hb hby at_68) rfl rfl ?_
      exact kont
    have y200 : Arv Z h192 b179 k179 .char (1 : Int32) [(.int r159)] (.int (0 : Int32)) := (y189.ext E192)
    have ge201 : n0 ≤ b192 := Nat.le_trans (own_old_le O188) (Nat.le_of_eq gb192.symm)
    obtain ⟨_, _, ⟨T199, L199, k199, n199⟩, -, X199, ⟨Lc199, hQ199, l199, y199, z199⟩, st199⟩ := X192.specialBack hx (y := (⟨"java/lang/String", "<init>", "([C)V"⟩ : MethodName)) rfl hown (mvT hZ (hw _ (List.mem_of_getElem? (i := 9) rfl))) (mvT hZ (hw _ (List.mem_of_getElem? (i := 10) rfl))) (mvT hZ (hw _ (List.mem_of_getElem? (i := 11) rfl))) (by decide) (backOf (W := 1) (rm_sIniG l Z a0 hw [] b192 b179 k179 [r159] i_COMPACT_STRINGS h192 n0 O194 y195 y196 A192 ge201 y200 (by simp) (by simp) ((own_ccons ⟨y160, y161⟩ own_cnil)) S0_ hcs S4_ S5_ S6_) hZ (hw _ (List.mem_of_getElem? (i := 11) rfl)) (hw _ (List.mem_of_getElem? (i := 8) rfl)) (by decide) (by decide)) (g := (mkF m 70 #[iv p0, iv p1, iv p2, iv p3, iv (1 : Int32), iv r159, iv r166, iv r173, rv b179, .unset, .unset] [(.ref b179), (.ref b192), (.ref b192)])) rfl (by rw [hml]; rfl) (Steps.refl _) (a := b192) (argsL := [(.ref b179)]) (rest := [(.ref b192)]) (lenOf pd_19 rfl) rfl (by show 2 * 0 + _ ≤ _; exact Nat.le_of_eq rfl) (hb hby at_70) (fun _ _ => ⟨rfl, e192, (by decide : 2 + 2 ≤ _), (by decide : 5 + 9 ≤ _)⟩)
    dsimp only [Pt.U, Pt.locs, Pt.cells, Pt.slots] at X199 l199 y199 z199 st199 hQ199
    subst l199 y199 z199
    obtain ⟨r202, r203, r204, r205, r206, rfl, M199, K199, y207, y208, y209, y210, y211, y212⟩ := hQ199
    have N199 := Fr.app N185 M199
    have R213 : CHr Z consts_1 s.vm h0 s.vm T199.heap := R193.trans (CHr.keep K199 (sfS (Safe.ext E192 R187.1 (Safe.new (Nat.le_of_eq gb192.symm))) sf0) R193.1)
    have O214 := O194.keep K199 (allS ge201 all0)
    have g215 : Go p e below T199 (mkF m 73 #[iv p0, iv p1, iv p2, iv p3, iv (1 : Int32), iv r159, iv r166, iv r173, rv b179, .unset, .unset] [(.ref b192)]) A0 := fun t kont => g198 t (st199.trans kont)
    have g216 : Go p e below T199 (mkF m 75 #[iv p0, iv p1, iv p2, iv p3, iv (1 : Int32), iv r159, iv r166, iv r173, rv b179, rv b192, .unset] []) A0 := by
      intro t kont
      refine g215 t ?_
      refine XS.astore X199.here hx rfl (hb hby at_73) rfl rfl (l' := #[iv p0, iv p1, iv p2, iv p3, iv (1 : Int32), iv r159, iv r166, iv r173, rv b179, rv b192, .unset]) rfl ?_
      exact kont
    obtain ⟨ex, T217, lc217, X217, e217, N217, g217, j227, j228⟩ : ∃ ex : Int32, ∃ (T217 : State) (lc217 : List Loc), Stand p l e room_1 (s.setVm s.vm) m #[(.int p0), (.int p1), (.int p2), (.int p3)] below meth c T217 lc217 4 14 ∧ T217.heap = T199.heap ∧ Fr n0 lc217 ∧ Go p e below T217 (mkF m 127 #[iv p0, iv p1, iv p2, iv p3, iv (1 : Int32), iv r159, iv r166, iv r173, rv b179, rv b192, .unset] [(.int ex)]) A0 ∧ (ex = (0 : Int32) ∨ ex = (1 : Int32)) ∧ (ex = (1 : Int32) ↔ (own_tok r159)) := by
      have g218 : Go p e below T199 (mkF m 88 #[iv p0, iv p1, iv p2, iv p3, iv (1 : Int32), iv r159, iv r166, iv r173, rv b179, rv b192, .unset] [(.int r159)]) A0 := by
        intro t kont
        refine g216 t ?_
        refine XS.iload X199.here hx rfl (hb hby at_75) rfl ?_
        refine XS.ifNo X199.here hx rfl (hb hby at_77) rfl ((if0 _ _).trans (tlt (by decide : (0 : Int32) < (1 : Int32))).2.2.2) ?_
        refine XS.iload X199.here hx rfl (hb hby at_80) rfl ?_
        refine XS.iconst X199.here hx rfl (hb hby at_82) ?_
        refine XS.icmpNo X199.here hx rfl (hb hby at_83) rfl (flt (by decide : ¬ ((1 : Int32) < (1 : Int32)))).1 ?_
        refine XS.iload X199.here hx rfl (hb hby at_86) rfl ?_
        exact kont
      obtain ⟨_, _, ⟨T219, L219, k219, n219⟩, -, X219, ⟨Lc219, hQ219, l219, y219, z219⟩, st219⟩ := Jvm.LawKit.callS X199 hx (y := (⟨"com/example/rolegate/rolegate/MethodSetIsMethodNamePinLaw", "tchar", "(C)Z"⟩ : MethodName)) hown (mvT hZ (hw _ (List.mem_of_getElem? (i := 47) rfl))) (mvT hZ (hw _ (List.mem_of_getElem? (i := 48) rfl))) (mvT hZ (hw _ (List.mem_of_getElem? (i := 2) rfl))) (mvT hZ (hw _ (List.mem_of_getElem? (i := 49) rfl))) (by decide) (backOf (W := 0) (rm_tch l Z a0 hw [] r159 T199.heap n0 O214 ) hZ (hw _ (List.mem_of_getElem? (i := 49) rfl)) (hw _ (List.mem_of_getElem? (i := 2) rfl)) (by decide) (by decide)) (g := (mkF m 88 #[iv p0, iv p1, iv p2, iv p3, iv (1 : Int32), iv r159, iv r166, iv r173, rv b179, rv b192, .unset] [(.int r159)])) rfl (by rw [hml]; rfl) (argsL := [(.int r159)]) (rest := []) (lenOf pd_21 rfl) rfl (by show 2 * 0 + _ ≤ _; exact Nat.le_of_eq rfl) (hb hby at_88) (fun _ _ => ⟨rfl, rfl, (by decide : 4 + 0 ≤ _), (by decide : 14 + 0 ≤ _)⟩)
      dsimp only [Pt.U, Pt.locs, Pt.cells, Pt.slots] at X219 l219 y219 z219 st219 hQ219
      subst l219 y219 z219
      obtain ⟨r220, rfl, M219, e219, y221, y222⟩ := hQ219
      have N219 := Fr.app N199 M219
      have g223 : Go p e below T219 (mkF m 91 #[iv p0, iv p1, iv p2, iv p3, iv (1 : Int32), iv r159, iv r166, iv r173, rv b179, rv b192, .unset] [(.int r220)]) A0 := fun t kont => g218 t (st219 t kont)
      by_cases c224 : r220 = (0 : Int32)
      ·
        have g225 : Go p e below T219 (mkF m 127 #[iv p0, iv p1, iv p2, iv p3, iv (1 : Int32), iv r159, iv r166, iv r173, rv b179, rv b192, .unset] [(.int (0 : Int32))]) A0 := by
          intro t kont
          refine g223 t ?_
          refine XS.ifYes X219.here hx rfl (pc0 := 91) (pc' := 126) rfl (hb hby at_91) rfl ((if0 _ _).trans (teq c224).1) (by decide) (by decide) ?_
          refine XS.iconst X219.here hx rfl (hb hby at_126) ?_
          exact kont
        exact ⟨(0 : Int32), _, _, X219, e219, N219, g225, (Or.inl rfl), (iff_of_false (by decide) (fun q => own_b0 y222 c224 q))⟩
      have g226 : Go p e below T219 (mkF m 127 #[iv p0, iv p1, iv p2, iv p3, iv (1 : Int32), iv r159, iv r166, iv r173, rv b179, rv b192, .unset] [(.int (1 : Int32))]) A0 := by
        intro t kont
        refine g223 t ?_
        refine XS.ifNo X219.here hx rfl (hb hby at_91) rfl ((if0 _ _).trans (feq c224).1) ?_
        refine XS.iload X219.here hx rfl (hb hby at_94) rfl ?_
        refine XS.iconst X219.here hx rfl (hb hby at_96) ?_
        refine XS.icmpYes X219.here hx rfl (pc0 := 97) (pc' := 108) rfl (hb hby at_97) rfl (tlt (by decide : (1 : Int32) < (2 : Int32))).1 (by decide) (by decide) ?_
        refine XS.iload X219.here hx rfl (hb hby at_108) rfl ?_
        refine XS.iconst X219.here hx rfl (hb hby at_110) ?_
        refine XS.icmpYes X219.here hx rfl (pc0 := 111) (pc' := 122) rfl (hb hby at_111) rfl (tlt (by decide : (1 : Int32) < (3 : Int32))).1 (by decide) (by decide) ?_
        refine XS.iconst X219.here hx rfl (hb hby at_122) ?_
        refine XS.goto X219.here hx rfl (pc0 := 123) (pc' := 127) rfl (hb hby at_123) (by decide) (by decide) ?_
        exact kont
      exact ⟨(1 : Int32), _, _, X219, e219, N219, g226, (Or.inr rfl), (iff_of_true rfl (own_b1 y221 y222 c224))⟩
    have g229 : Go p e below T217 (mkF m 131 #[iv p0, iv p1, iv p2, iv p3, iv (1 : Int32), iv r159, iv r166, iv r173, rv b179, rv b192, iv ex] [(.ref b192)]) A0 := by
      intro t kont
      refine g217 t ?_
      refine XS.istore X217.here hx rfl (hb hby at_127) rfl (l' := #[iv p0, iv p1, iv p2, iv p3, iv (1 : Int32), iv r159, iv r166, iv r173, rv b179, rv b192, iv ex]) rfl ?_
      refine XS.aload X217.here hx rfl (hb hby at_129) rfl rfl ?_
      exact kont
    obtain ⟨_, _, ⟨T230, L230, k230, n230⟩, -, X230, hS230, hg230, ⟨Lc230, hQ230, l230, y230, z230, C230⟩, st230⟩ := callSS X217 hx (y := (⟨"com/example/rolegate/rolegate/MethodSet", "isMethodName", "(Ljava/lang/String;)Z"⟩ : MethodName)) hown (mvT hZ (hw _ (List.mem_of_getElem? (i := 27) rfl))) (mvT hZ (hw _ (List.mem_of_getElem? (i := 28) rfl))) (mvT hZ (hw _ (List.mem_of_getElem? (i := 29) rfl))) (mvT hZ (hw _ (List.mem_of_getElem? (i := 30) rfl))) (by decide) (backOfSH (W := 0) (rm_isM1 l Z a0 hw [] b192 r202 r203 i_COMPACT_STRINGS v_SIOOBE_FORMATTER r204 r205 r206 r159 T199.heap n0 O214 S0_ hcs y207 y209 y208 y211 y212 ((own_ccons ⟨y160, y161⟩ own_cnil)) S2_ hfm S4_ S5_ S6_) hZ (hw _ (List.mem_of_getElem? (i := 30) rfl)) (hw _ (List.mem_of_getElem? (i := 29) rfl)) (by decide) (by decide) (own_EW hw) R213.1) (g := (mkF m 131 #[iv p0, iv p1, iv p2, iv p3, iv (1 : Int32), iv r159, iv r166, iv r173, rv b179, rv b192, iv ex] [(.ref b192)])) rfl (by rw [hml]; rfl) (argsL := [(.ref b192)]) (rest := []) (lenOf pd_20 rfl) rfl (by show 2 * 0 + _ ≤ _; exact Nat.le_of_eq rfl) (hb hby at_131) (fun _ _ => ⟨rfl, e217, (by decide : 4 + 2 ≤ _), (by decide : 14 + 64 ≤ _)⟩)
    dsimp only [Pt.U, Pt.locs, Pt.cells, Pt.slots] at X230 l230 y230 z230 st230 hQ230 hS230 hg230 C230
    subst l230 y230 z230
    obtain ⟨X230, hS, hZ, hown⟩ := rebS hS (n1 := T217.heap.size) (by rw [e217]; exact (Nat.le_trans hk (Nat.le_trans (Nat.le_trans (Nat.le_trans E179.1 (Keep.of_wr W185).1) E192.1) K199.1))) X230 hS230 hg230 hZ hown
    obtain ⟨r231, rfl, M230, K230, y232, y233⟩ := hQ230
    have N230 := Fr.app N217 M230
    have R234 : CHr Z consts_1 s.vm h0 T230.vm T230.heap := R213.trans C230
    have O235 := O214.keep K230 all0
    have g236 : Go p e below T230 (mkF m 134 #[iv p0, iv p1, iv p2, iv p3, iv (1 : Int32), iv r159, iv r166, iv r173, rv b179, rv b192, iv ex] [(.int r231)]) A0 := fun t kont => g229 t (st230.trans kont)
    have g237 : Go p e below T230 (mkF m 144 #[iv p0, iv p1, iv p2, iv p3, iv (1 : Int32), iv r159, iv r166, iv r173, rv b179, rv b192, iv ex] [(.int (1 : Int32))]) A0 := by
      intro t kont
      refine g236 t ?_
      refine XS.iload X230.here hx rfl (hb hby at_134) rfl ?_
      refine XS.icmpNo X230.here hx rfl (hb hby at_136) rfl (teq (own_eqb y232 y233 j227 j228 : r231 = ex)).2 ?_
      refine XS.iconst X230.here hx rfl (hb hby at_139) ?_
      refine XS.goto X230.here hx rfl (pc0 := 140) (pc' := 144) rfl (hb hby at_140) (by decide) (by decide) ?_
      exact kont
    obtain ⟨fs, hr, hrun, hended, hRW⟩ := X230.leaveW hS (Nat.le_refl _) (v := some (.int (1 : Int32))) (fun h => by rw [Bd.returns] at h; cases h)
    refine ⟨_, _, g237 _ (retN X230 hx (t := .boolean) Bd.returns (by simp) (hb hby at_144) hr), hrun, hended, _, _, rfl, ?_, ?_, hRW.1, hRW.2.1, hRW.2.2.1, hRW.2.2.2.mono (by decide) (by decide)⟩
    ·
      show Q_law Z p0 p1 p2 p3 i_COMPACT_STRINGS v_SIOOBE_FORMATTER h0 n0 _ T230.heap _
      exact ⟨rfl, N230⟩
    ·
      rw [hh]
      show CHr Z consts_1 s.vm h0 T230.vm T230.heap
      exact R234.trans (CHv.at X230 hZ (own_EW hw) R234.1)
  ·
    subst c103
    have g238 : Go p e below s₁ (mkF m 6 #[iv p0, iv p1, iv p2, iv p3, iv (2 : Int32), .unset, .unset, .unset, .unset, .unset, .unset] [(.int p1)]) A0 := by
      intro t kont
      refine g102 t ?_
      refine XS.istore X0.here hx rfl (hb hby at_3) rfl (l' := #[iv p0, iv p1, iv p2, iv p3, iv (2 : Int32), .unset, .unset, .unset, .unset, .unset, .unset]) rfl ?_
      refine XS.iloadN X0.here hx rfl (hb hby at_5) rfl ?_
      exact kont
    obtain ⟨_, _, ⟨T239, L239, k239, n239⟩, -, X239, ⟨Lc239, hQ239, l239, y239, z239⟩, st239⟩ := Jvm.LawKit.callS X0 hx (y := (⟨"com/example/rolegate/rolegate/MethodSetIsMethodNamePinLaw", "pick", "(I)C"⟩ : MethodName)) hown (mvT hZ (hw _ (List.mem_of_getElem? (i := 0) rfl))) (mvT hZ (hw _ (List.mem_of_getElem? (i := 1) rfl))) (mvT hZ (hw _ (List.mem_of_getElem? (i := 2) rfl))) (mvT hZ (hw _ (List.mem_of_getElem? (i := 3) rfl))) (by decide) (backOf (W := 0) (rm_pick l Z a0 hw [] p1 h0 n0 O0 ) hZ (hw _ (List.mem_of_getElem? (i := 3) rfl)) (hw _ (List.mem_of_getElem? (i := 2) rfl)) (by decide) (by decide)) (g := (mkF m 6 #[iv p0, iv p1, iv p2, iv p3, iv (2 : Int32), .unset, .unset, .unset, .unset, .unset, .unset] [(.int p1)])) rfl (by rw [hml]; rfl) (argsL := [(.int p1)]) (rest := []) (lenOf pd_18 rfl) rfl (by show 2 * 0 + _ ≤ _; exact Nat.le_of_eq rfl) (hb hby at_6) (fun _ _ => ⟨rfl, e0, (by decide : 0 + 0 ≤ _), (by decide : 0 + 0 ≤ _)⟩)
    dsimp only [Pt.U, Pt.locs, Pt.cells, Pt.slots] at X239 l239 y239 z239 st239 hQ239
    subst l239 y239 z239
    obtain ⟨r240, rfl, M239, e239, y241, y242⟩ := hQ239
    have N239 := Fr.app N0 M239
    have g243 : Go p e below T239 (mkF m 9 #[iv p0, iv p1, iv p2, iv p3, iv (2 : Int32), .unset, .unset, .unset, .unset, .unset, .unset] [(.int r240)]) A0 := fun t kont => g238 t (st239 t kont)
    have nr244 : nar .char r240 = r240 := own_narid y241 y242
    have g245 : Go p e below T239 (mkF m 12 #[iv p0, iv p1, iv p2, iv p3, iv (2 : Int32), iv r240, .unset, .unset, .unset, .unset, .unset] [(.int p2)]) A0 := by
      intro t kont
      refine g243 t ?_
      refine XS.istore X239.here hx rfl (hb hby at_9) rfl (l' := #[iv p0, iv p1, iv p2, iv p3, iv (2 : Int32), iv r240, .unset, .unset, .unset, .unset, .unset]) rfl ?_
      refine XS.iloadN X239.here hx rfl (hb hby at_11) rfl ?_
      exact kont
    obtain ⟨_, _, ⟨T246, L246, k246, n246⟩, -, X246, ⟨Lc246, hQ246, l246, y246, z246⟩, st246⟩ := Jvm.LawKit.callS X239 hx (y := (⟨"com/example/rolegate/rolegate/MethodSetIsMethodNamePinLaw", "pick", "(I)C"⟩ : MethodName)) hown (mvT hZ (hw _ (List.mem_of_getElem? (i := 0) rfl))) (mvT hZ (hw _ (List.mem_of_getElem? (i := 1) rfl))) (mvT hZ (hw _ (List.mem_of_getElem? (i := 2) rfl))) (mvT hZ (hw _ (List.mem_of_getElem? (i := 3) rfl))) (by decide) (backOf (W := 0) (rm_pick l Z a0 hw [] p2 h0 n0 O0 ) hZ (hw _ (List.mem_of_getElem? (i := 3) rfl)) (hw _ (List.mem_of_getElem? (i := 2) rfl)) (by decide) (by decide)) (g := (mkF m 12 #[iv p0, iv p1, iv p2, iv p3, iv (2 : Int32), iv r240, .unset, .unset, .unset, .unset, .unset] [(.int p2)])) rfl (by rw [hml]; rfl) (argsL := [(.int p2)]) (rest := []) (lenOf pd_18 rfl) rfl (by show 2 * 0 + _ ≤ _; exact Nat.le_of_eq rfl) (hb hby at_12) (fun _ _ => ⟨rfl, e239, (by decide : 0 + 0 ≤ _), (by decide : 0 + 0 ≤ _)⟩)
    dsimp only [Pt.U, Pt.locs, Pt.cells, Pt.slots] at X246 l246 y246 z246 st246 hQ246
    subst l246 y246 z246
    obtain ⟨r247, rfl, M246, e246, y248, y249⟩ := hQ246
    have N246 := Fr.app N239 M246
    have g250 : Go p e below T246 (mkF m 15 #[iv p0, iv p1, iv p2, iv p3, iv (2 : Int32), iv r240, .unset, .unset, .unset, .unset, .unset] [(.int r247)]) A0 := fun t kont => g245 t (st246 t kont)
    have nr251 : nar .char r247 = r247 := own_narid y248 y249
    have g252 : Go p e below T246 (mkF m 18 #[iv p0, iv p1, iv p2, iv p3, iv (2 : Int32), iv r240, iv r247, .unset, .unset, .unset, .unset] [(.int p3)]) A0 := by
      intro t kont
      refine g250 t ?_
      refine XS.istore X246.here hx rfl (hb hby at_15) rfl (l' := #[iv p0, iv p1, iv p2, iv p3, iv (2 : Int32), iv r240, iv r247, .unset, .unset, .unset, .unset]) rfl ?_
      refine XS.iloadN X246.here hx rfl (hb hby at_17) rfl ?_
      exact kont
    obtain ⟨_, _, ⟨T253, L253, k253, n253⟩, -, X253, ⟨Lc253, hQ253, l253, y253, z253⟩, st253⟩ := Jvm.LawKit.callS X246 hx (y := (⟨"com/example/rolegate/rolegate/MethodSetIsMethodNamePinLaw", "pick", "(I)C"⟩ : MethodName)) hown (mvT hZ (hw _ (List.mem_of_getElem? (i := 0) rfl))) (mvT hZ (hw _ (List.mem_of_getElem? (i := 1) rfl))) (mvT hZ (hw _ (List.mem_of_getElem? (i := 2) rfl))) (mvT hZ (hw _ (List.mem_of_getElem? (i := 3) rfl))) (by decide) (backOf (W := 0) (rm_pick l Z a0 hw [] p3 h0 n0 O0 ) hZ (hw _ (List.mem_of_getElem? (i := 3) rfl)) (hw _ (List.mem_of_getElem? (i := 2) rfl)) (by decide) (by decide)) (g := (mkF m 18 #[iv p0, iv p1, iv p2, iv p3, iv (2 : Int32), iv r240, iv r247, .unset, .unset, .unset, .unset] [(.int p3)])) rfl (by rw [hml]; rfl) (argsL := [(.int p3)]) (rest := []) (lenOf pd_18 rfl) rfl (by show 2 * 0 + _ ≤ _; exact Nat.le_of_eq rfl) (hb hby at_18) (fun _ _ => ⟨rfl, e246, (by decide : 0 + 0 ≤ _), (by decide : 0 + 0 ≤ _)⟩)
    dsimp only [Pt.U, Pt.locs, Pt.cells, Pt.slots] at X253 l253 y253 z253 st253 hQ253
    subst l253 y253 z253
    obtain ⟨r254, rfl, M253, e253, y255, y256⟩ := hQ253
    have N253 := Fr.app N246 M253
    have g257 : Go p e below T253 (mkF m 21 #[iv p0, iv p1, iv p2, iv p3, iv (2 : Int32), iv r240, iv r247, .unset, .unset, .unset, .unset] [(.int r254)]) A0 := fun t kont => g252 t (st253 t kont)
    have nr258 : nar .char r254 = r254 := own_narid y255 y256
    have g259 : Go p e below T253 (mkF m 25 #[iv p0, iv p1, iv p2, iv p3, iv (2 : Int32), iv r240, iv r247, iv r254, .unset, .unset, .unset] [(.int (2 : Int32))]) A0 := by
      intro t kont
      refine g257 t ?_
      refine XS.istore X253.here hx rfl (hb hby at_21) rfl (l' := #[iv p0, iv p1, iv p2, iv p3, iv (2 : Int32), iv r240, iv r247, iv r254, .unset, .unset, .unset]) rfl ?_
      refine XS.iload X253.here hx rfl (hb hby at_23) rfl ?_
      exact kont
    obtain ⟨T260, h260, k260, X260, e260, E260, A260, F260, st260⟩ := newPE X253 hx hZ (hw _ (List.mem_of_getElem? (i := 5) rfl)) e253 (g := (mkF m 25 #[iv p0, iv p1, iv p2, iv p3, iv (2 : Int32), iv r240, iv r247, iv r254, .unset, .unset, .unset] [(.int (2 : Int32))])) rfl (hb hby at_25) rfl (by decide) (cap := 2) (by decide) (by decide) (by decide) (by decide) (ad := "[C") (by decide)
    obtain ⟨b260, gb260⟩ : ∃ z, z = h0.size := ⟨_, rfl⟩
    rw [← gb260] at A260 F260 st260
    have R261 : CHr Z consts_1 s.vm h0 s.vm h260 := R0.trans (CHr.ext E260 R0.1)
    have O262 := O0.ext E260
    have y263 : Arv Z h260 b260 k260 .char (2 : Int32) [(.int (0 : Int32)), (.int (0 : Int32))] (.int (0 : Int32)) := (Arv.new A260 (by decide)).pad (pad_rep [] (.int (0 : Int32)) 2)
    have g264 : Go p e below T260 (mkF m 27 #[iv p0, iv p1, iv p2, iv p3, iv (2 : Int32), iv r240, iv r247, iv r254, .unset, .unset, .unset] [(.ref b260)]) A0 := fun t kont => g259 t (st260 t kont)
    have g265 : Go p e below T260 (mkF m 39 #[iv p0, iv p1, iv p2, iv p3, iv (2 : Int32), iv r240, iv r247, iv r254, rv b260, .unset, .unset] [(.int r240), (.int (0 : Int32)), (.ref b260)]) A0 := by
      intro t kont
      refine g264 t ?_
      refine XS.astore X260.here hx rfl (hb hby at_27) rfl rfl (l' := #[iv p0, iv p1, iv p2, iv p3, iv (2 : Int32), iv r240, iv r247, iv r254, rv b260, .unset, .unset]) rfl ?_
      refine XS.iload X260.here hx rfl (hb hby at_29) rfl ?_
      refine XS.ifNo X260.here hx rfl (hb hby at_31) rfl ((if0 _ _).trans (tlt (by decide : (0 : Int32) < (2 : Int32))).2.2.2) ?_
      refine XS.aload X260.here hx rfl (hb hby at_34) rfl rfl ?_
      refine XS.iconst X260.here hx rfl (hb hby at_36) ?_
      refine XS.iload X260.here hx rfl (hb hby at_37) rfl ?_
      exact kont
    have ge267 : n0 ≤ b260 := Nat.le_trans (own_old_le O0) (Nat.le_of_eq gb260.symm)
    have zz266 := y263
    obtain ⟨cl266, Ar266, q266, S266, M266, H266, G266⟩ := zz266
    have in266 : ¬ ((0 : Int32) < 0 ∨ cl266.slots.size ≤ ((0 : Int32)).toNatClampNeg) := inb_of S266 ⟨by decide, by decide⟩
    obtain ⟨T266, h266, X266, e266, W266, st266⟩ := stC X260 hx hZ e260 Ar266 (j := (0 : Int32)) in266 (g := (mkF m 39 #[iv p0, iv p1, iv p2, iv p3, iv (2 : Int32), iv r240, iv r247, iv r254, rv b260, .unset, .unset] [(.int r240), (.int (0 : Int32)), (.ref b260)])) rfl rfl (hb hby at_39)
    rw [show nar .char r240 = r240 from nr244] at W266
    have R268 : CHr Z consts_1 s.vm h0 s.vm h266 := R261.trans (CHr.wr W266 (Safe.ext E260 R0.1 (Safe.new (Nat.le_of_eq gb260.symm))) R261.1)
    have O269 := O262.wr W266 ge267
    have y270 : Arv Z h266 b260 k260 .char (2 : Int32) [(.int r240), (.int (0 : Int32))] (.int (0 : Int32)) := Arv.set Ar266 q266 S266 M266 H266 G266 (own_ft_char (z := r240) nr244) W266 0 rfl (Nat.le_of_ble_eq_true rfl)
    have N266 := Fr.snoc X266 N253 ge267
    have g271 : Go p e below T266 (mkF m 40 #[iv p0, iv p1, iv p2, iv p3, iv (2 : Int32), iv r240, iv r247, iv r254, rv b260, .unset, .unset] []) A0 := fun t kont => g265 t (st266 t kont)
    have g272 : Go p e below T266 (mkF m 51 #[iv p0, iv p1, iv p2, iv p3, iv (2 : Int32), iv r240, iv r247, iv r254, rv b260, .unset, .unset] [(.int r247), (.int (1 : Int32)), (.ref b260)]) A0 := by
      intro t kont
      refine g271 t ?_
      refine XS.iload X266.here hx rfl (hb hby at_40) rfl ?_
      refine XS.iconst X266.here hx rfl (hb hby at_42) ?_
      refine XS.icmpNo X266.here hx rfl (hb hby at_43) rfl (tlt (by decide : (1 : Int32) < (2 : Int32))).2.2.2 ?_
      refine XS.aload X266.here hx rfl (hb hby at_46) rfl rfl ?_
      refine XS.iconst X266.here hx rfl (hb hby at_48) ?_
      refine XS.iload X266.here hx rfl (hb hby at_49) rfl ?_
      exact kont
    have zz273 := y270
    obtain ⟨cl273, Ar273, q273, S273, M273, H273, G273⟩ := zz273
    have in273 : ¬ ((1 : Int32) < 0 ∨ cl273.slots.size ≤ ((1 : Int32)).toNatClampNeg) := inb_of S273 ⟨by decide, by decide⟩
    obtain ⟨T273, h273, X273, e273, W273, st273⟩ := stC X266 hx hZ e266 Ar273 (j := (1 : Int32)) in273 (g := (mkF m 51 #[iv p0, iv p1, iv p2, iv p3, iv (2 : Int32), iv r240, iv r247, iv r254, rv b260, .unset, .unset] [(.int r247), (.int (1 : Int32)), (.ref b260)])) rfl rfl (hb hby at_51)
    rw [show nar .char r247 = r247 from nr251] at W273
    have sf275 : Safe Z consts_1 s.vm h266 b260 := (Safe.wr W266 (Safe.ext E260 R0.1 (Safe.new (Nat.le_of_eq gb260.symm))) R261.1 (Safe.ext E260 R0.1 (Safe.new (Nat.le_of_eq gb260.symm))))
    have R274 : CHr Z consts_1 s.vm h0 s.vm h273 := R268.trans (CHr.wr W273 sf275 R268.1)
    have O276 := O269.wr W273 ge267
    have y277 : Arv Z h273 b260 k260 .char (2 : Int32) [(.int r240), (.int r247)] (.int (0 : Int32)) := Arv.set Ar273 q273 S273 M273 H273 G273 (own_ft_char (z := r247) nr251) W273 1 rfl (Nat.le_of_ble_eq_true rfl)
    have N273 := Fr.snoc X273 N266 ge267
    have g278 : Go p e below T273 (mkF m 52 #[iv p0, iv p1, iv p2, iv p3, iv (2 : Int32), iv r240, iv r247, iv r254, rv b260, .unset, .unset] []) A0 := fun t kont => g272 t (st273 t kont)
    have g279 : Go p e below T273 (mkF m 64 #[iv p0, iv p1, iv p2, iv p3, iv (2 : Int32), iv r240, iv r247, iv r254, rv b260, .unset, .unset] []) A0 := by
      intro t kont
      refine g278 t ?_
      refine XS.iload X273.here hx rfl (hb hby at_52) rfl ?_
      refine XS.iconst X273.here hx rfl (hb hby at_54) ?_
      refine XS.icmpYes X273.here hx rfl (pc0 := 55) (pc' := 64) rfl (hb hby at_55) rfl (flt (by decide : ¬ ((2 : Int32) < (2 : Int32)))).2.2.2 (by decide) (by decide) ?_
      exact kont
    obtain ⟨T280, h280, X280, e280, E280, A280, D280, -, st280⟩ := newO X273 hx hZ hown (hw _ (List.mem_of_getElem? (i := 6) rfl)) (hw _ (List.mem_of_getElem? (i := 7) rfl)) (hw _ (List.mem_of_getElem? (i := 8) rfl)) e273 (g := (mkF m 64 #[iv p0, iv p1, iv p2, iv p3, iv (2 : Int32), iv r240, iv r247, iv r254, rv b260, .unset, .unset] [])) rfl (hb hby at_64) (by decide) (by decide)
    obtain ⟨b280, gb280⟩ : ∃ z, z = h273.size := ⟨_, rfl⟩
    rw [← gb280] at A280 D280 st280
    have R281 : CHr Z consts_1 s.vm h0 s.vm h280 := R274.trans (CHr.ext E280 R274.1)
    have O282 := O276.ext E280
    have y283 : Fld Z h280 b280 "java/lang/String" "value" "[B" .null := D280 (Or.inr (hw _ (List.mem_of_getElem? (i := 21) rfl))) (ty := (.array .byte)) (by decide)
    have y284 : Fld Z h280 b280 "java/lang/String" "coder" "B" (.int (0 : Int32)) := D280 (Or.inr (hw _ (List.mem_of_getElem? (i := 22) rfl))) (ty := .byte) (by decide)
    have g285 : Go p e below T280 (mkF m 67 #[iv p0, iv p1, iv p2, iv p3, iv (2 : Int32), iv r240, iv r247, iv r254, rv b260, .unset, .unset] [(.ref b280)]) A0 := fun t kont => g279 t (st280 t kont)
    have g286 : Go p e below T280 (mkF m 70 #[iv p0, iv p1, iv p2, iv p3, iv (2 : Int32), iv r240, iv r247, iv r254, rv b260, .unset, .unset] [(.ref b260), (.ref b280), (.ref b280)]) A0 := by
      intro t kont
      refine g285 t ?_
      refine XS.dup X280.here hx rfl (hb hby at_67) rfl rfl ?_
      refine XS.aload X280.here hx rfl (hb hby at_68) rfl rfl ?_
      exact kont
    have y288 : Arv Z h280 b260 k260 .char (2 : Int32) [(.int r240), (.int r247)] (.int (0 : Int32)) := (y277.ext E280)
    have ge289 : n0 ≤ b280 := Nat.le_trans (own_old_le O276) (Nat.le_of_eq gb280.symm)
    obtain ⟨_, _, ⟨T287, L287, k287, n287⟩, -, X287, ⟨Lc287, hQ287, l287, y287, z287⟩, st287⟩ := X280.specialBack hx (y := (⟨"java/lang/String", "<init>", "([C)V"⟩ : MethodName)) rfl hown (mvT hZ (hw _ (List.mem_of_getElem? (i := 9) rfl))) (mvT hZ (hw _ (List.mem_of_getElem? (i := 10) rfl))) (mvT hZ (hw _ (List.mem_of_getElem? (i := 11) rfl))) (by decide) (backOf (W := 1) (rm_sIniG l Z a0 hw [] b280 b260 k260 [r240, r247] i_COMPACT_STRINGS h280 n0 O282 y283 y284 A280 ge289 y288 (by simp) (by simp) ((own_ccons ⟨y241, y242⟩ (own_ccons ⟨y248, y249⟩ own_cnil))) S0_ hcs S4_ S5_ S6_) hZ (hw _ (List.mem_of_getElem? (i := 11) rfl)) (hw _ (List.mem_of_getElem? (i := 8) rfl)) (by decide) (by decide)) (g := (mkF m 70 #[iv p0, iv p1, iv p2, iv p3, iv (2 : Int32), iv r240, iv r247, iv r254, rv b260, .unset, .unset] [(.ref b260), (.ref b280), (.ref b280)])) rfl (by rw [hml]; rfl) (Steps.refl _) (a := b280) (argsL := [(.ref b260)]) (rest := [(.ref b280)]) (lenOf pd_19 rfl) rfl (by show 2 * 0 + _ ≤ _; exact Nat.le_of_eq rfl) (hb hby at_70) (fun _ _ => ⟨rfl, e280, (by decide : 2 + 2 ≤ _), (by decide : 6 + 9 ≤ _)⟩)
    dsimp only [Pt.U, Pt.locs, Pt.cells, Pt.slots] at X287 l287 y287 z287 st287 hQ287
    subst l287 y287 z287
    obtain ⟨r290, r291, r292, r293, r294, rfl, M287, K287, y295, y296, y297, y298, y299, y300⟩ := hQ287
    have N287 := Fr.app N273 M287
    have R301 : CHr Z consts_1 s.vm h0 s.vm T287.heap := R281.trans (CHr.keep K287 (sfS (Safe.ext E280 R274.1 (Safe.new (Nat.le_of_eq gb280.symm))) sf0) R281.1)
    have O302 := O282.keep K287 (allS ge289 all0)
    have g303 : Go p e below T287 (mkF m 73 #[iv p0, iv p1, iv p2, iv p3, iv (2 : Int32), iv r240, iv r247, iv r254, rv b260, .unset, .unset] [(.ref b280)]) A0 := fun t kont => g286 t (st287.trans kont)
    have g304 : Go p e below T287 (mkF m 75 #[iv p0, iv p1, iv p2, iv p3, iv (2 : Int32), iv r240, iv r247, iv r254, rv b260, rv b280, .unset] []) A0 := by
      intro t kont
      refine g303 t ?_
      refine XS.astore X287.here hx rfl (hb hby at_73) rfl rfl (l' := #[iv p0, iv p1, iv p2, iv p3, iv (2 : Int32), iv r240, iv r247, iv r254, rv b260, rv b280, .unset]) rfl ?_
      exact kont
    obtain ⟨ex, T305, lc305, X305, e305, N305, g305, j323, j324⟩ : ∃ ex : Int32, ∃ (T305 : State) (lc305 : List Loc), Stand p l e room_1 (s.setVm s.vm) m #[(.int p0), (.int p1), (.int p2), (.int p3)] below meth c T305 lc305 4 15 ∧ T305.heap = T287.heap ∧ Fr n0 lc305 ∧ Go p e below T305 (mkF m 127 #[iv p0, iv p1, iv p2, iv p3, iv (2 : Int32), iv r240, iv r247, iv r254, rv b260, rv b280, .unset] [(.int ex)]) A0 ∧ (ex = (0 : Int32) ∨ ex = (1 : Int32)) ∧ (ex = (1 : Int32) ↔ (own_tok r240 ∧ own_tok r247)) := by
      have g306 : Go p e below T287 (mkF m 88 #[iv p0, iv p1, iv p2, iv p3, iv (2 : Int32), iv r240, iv r247, iv r254, rv b260, rv b280, .unset] [(.int r240)]) A0 := by
        intro t kont
        refine g304 t ?_
        refine XS.iload X287.here hx rfl (hb hby at_75) rfl ?_
        refine XS.ifNo X287.here hx rfl (hb hby at_77) rfl ((if0 _ _).trans (tlt (by decide : (0 : Int32) < (2 : Int32))).2.2.2) ?_
        refine XS.iload X287.here hx rfl (hb hby at_80) rfl ?_
        refine XS.iconst X287.here hx rfl (hb hby at_82) ?_
        refine XS.icmpNo X287.here hx rfl (hb hby at_83) rfl (flt (by decide : ¬ ((2 : Int32) < (1 : Int32)))).1 ?_
        refine XS.iload X287.here hx rfl (hb hby at_86) rfl ?_
        exact kont
      obtain ⟨_, _, ⟨T307, L307, k307, n307⟩, -, X307, ⟨Lc307, hQ307, l307, y307, z307⟩, st307⟩ := Jvm.LawKit.callS X287 hx (y := (⟨"com/example/rolegate/rolegate/MethodSetIsMethodNamePinLaw", "tchar", "(C)Z"⟩ : MethodName)) hown (mvT hZ (hw _ (List.mem_of_getElem? (i := 47) rfl))) (mvT hZ (hw _ (List.mem_of_getElem? (i := 48) rfl))) (mvT hZ (hw _ (List.mem_of_getElem? (i := 2) rfl))) (mvT hZ (hw _ (List.mem_of_getElem? (i := 49) rfl))) (by decide) (backOf (W := 0) (rm_tch l Z a0 hw [] r240 T287.heap n0 O302 ) hZ (hw _ (List.mem_of_getElem? (i := 49) rfl)) (hw _ (List.mem_of_getElem? (i := 2) rfl)) (by decide) (by decide)) (g := (mkF m 88 #[iv p0, iv p1, iv p2, iv p3, iv (2 : Int32), iv r240, iv r247, iv r254, rv b260, rv b280, .unset] [(.int r240)])) rfl (by rw [hml]; rfl) (argsL := [(.int r240)]) (rest := []) (lenOf pd_21 rfl) rfl (by show 2 * 0 + _ ≤ _; exact Nat.le_of_eq rfl) (hb hby at_88) (fun _ _ => ⟨rfl, rfl, (by decide : 4 + 0 ≤ _), (by decide : 15 + 0 ≤ _)⟩)
      dsimp only [Pt.U, Pt.locs, Pt.cells, Pt.slots] at X307 l307 y307 z307 st307 hQ307
      subst l307 y307 z307
      obtain ⟨r308, rfl, M307, e307, y309, y310⟩ := hQ307
      have N307 := Fr.app N287 M307
      have g311 : Go p e below T307 (mkF m 91 #[iv p0, iv p1, iv p2, iv p3, iv (2 : Int32), iv r240, iv r247, iv r254, rv b260, rv b280, .unset] [(.int r308)]) A0 := fun t kont => g306 t (st307 t kont)
      by_cases c312 : r308 = (0 : Int32)
      ·
        have g313 : Go p e below T307 (mkF m 127 #[iv p0, iv p1, iv p2, iv p3, iv (2 : Int32), iv r240, iv r247, iv r254, rv b260, rv b280, .unset] [(.int (0 : Int32))]) A0 := by
          intro t kont
          refine g311 t ?_
          refine XS.ifYes X307.here hx rfl (pc0 := 91) (pc' := 126) rfl (hb hby at_91) rfl ((if0 _ _).trans (teq c312).1) (by decide) (by decide) ?_
          refine XS.iconst X307.here hx rfl (hb hby at_126) ?_
          exact kont
        exact ⟨(0 : Int32), _, _, X307, e307, N307, g313, (Or.inl rfl), (iff_of_false (by decide) (fun q => own_b0 y310 c312 q.1))⟩
      have g314 : Go p e below T307 (mkF m 102 #[iv p0, iv p1, iv p2, iv p3, iv (2 : Int32), iv r240, iv r247, iv r254, rv b260, rv b280, .unset] [(.int r247)]) A0 := by
        intro t kont
        refine g311 t ?_
        refine XS.ifNo X307.here hx rfl (hb hby at_91) rfl ((if0 _ _).trans (feq c312).1) ?_
        refine XS.iload X307.here hx rfl (hb hby at_94) rfl ?_
        refine XS.iconst X307.here hx rfl (hb hby at_96) ?_
        refine XS.icmpNo X307.here hx rfl (hb hby at_97) rfl (flt (by decide : ¬ ((2 : Int32) < (2 : Int32)))).1 ?_
        refine XS.iload X307.here hx rfl (hb hby at_100) rfl ?_
        exact kont
      obtain ⟨_, _, ⟨T315, L315, k315, n315⟩, -, X315, ⟨Lc315, hQ315, l315, y315, z315⟩, st315⟩ := Jvm.LawKit.callS X307 hx (y := (⟨"com/example/rolegate/rolegate/MethodSetIsMethodNamePinLaw", "tchar", "(C)Z"⟩ : MethodName)) hown (mvT hZ (hw _ (List.mem_of_getElem? (i := 47) rfl))) (mvT hZ (hw _ (List.mem_of_getElem? (i := 48) rfl))) (mvT hZ (hw _ (List.mem_of_getElem? (i := 2) rfl))) (mvT hZ (hw _ (List.mem_of_getElem? (i := 49) rfl))) (by decide) (backOf (W := 0) (rm_tch l Z a0 hw [] r247 T287.heap n0 O302 ) hZ (hw _ (List.mem_of_getElem? (i := 49) rfl)) (hw _ (List.mem_of_getElem? (i := 2) rfl)) (by decide) (by decide)) (g := (mkF m 102 #[iv p0, iv p1, iv p2, iv p3, iv (2 : Int32), iv r240, iv r247, iv r254, rv b260, rv b280, .unset] [(.int r247)])) rfl (by rw [hml]; rfl) (argsL := [(.int r247)]) (rest := []) (lenOf pd_21 rfl) rfl (by show 2 * 0 + _ ≤ _; exact Nat.le_of_eq rfl) (hb hby at_102) (fun _ _ => ⟨rfl, e307, (by decide : 4 + 0 ≤ _), (by decide : 15 + 0 ≤ _)⟩)
      dsimp only [Pt.U, Pt.locs, Pt.cells, Pt.slots] at X315 l315 y315 z315 st315 hQ315
      subst l315 y315 z315
      obtain ⟨r316, rfl, M315, e315, y317, y318⟩ := hQ315
      have N315 := Fr.app N307 M315
      have g319 : Go p e below T315 (mkF m 105 #[iv p0, iv p1, iv p2, iv p3, iv (2 : Int32), iv r240, iv r247, iv r254, rv b260, rv b280, .unset] [(.int r316)]) A0 := fun t kont => g314 t (st315 t kont)
      by_cases c320 : r316 = (0 : Int32)
      ·
        have g321 : Go p e below T315 (mkF m 127 #[iv p0, iv p1, iv p2, iv p3, iv (2 : Int32), iv r240, iv r247, iv r254, rv b260, rv b280, .unset] [(.int (0 : Int32))]) A0 := by
          intro t kont
          refine g319 t ?_
          refine XS.ifYes X315.here hx rfl (pc0 := 105) (pc' := 126) rfl (hb hby at_105) rfl ((if0 _ _).trans (teq c320).1) (by decide) (by decide) ?_
          refine XS.iconst X315.here hx rfl (hb hby at_126) ?_
          exact kont
        exact ⟨(0 : Int32), _, _, X315, e315, N315, g321, (Or.inl rfl), (iff_of_false (by decide) (fun q => own_b0 y318 c320 q.2))⟩
      have g322 : Go p e below T315 (mkF m 127 #[iv p0, iv p1, iv p2, iv p3, iv (2 : Int32), iv r240, iv r247, iv r254, rv b260, rv b280, .unset] [(.int (1 : Int32))]) A0 := by
        intro t kont
        refine g319 t ?_
        refine XS.ifNo X315.here hx rfl (hb hby at_105) rfl ((if0 _ _).trans (feq c320).1) ?_
        refine XS.iload X315.here hx rfl (hb hby at_108) rfl ?_
        refine XS.iconst X315.here hx rfl (hb hby at_110) ?_
        refine XS.icmpYes X315.here hx rfl (pc0 := 111) (pc' := 122) rfl (hb hby at_111) rfl (tlt (by decide : (2 : Int32) < (3 : Int32))).1 (by decide) (by decide) ?_
        refine XS.iconst X315.here hx rfl (hb hby at_122) ?_
        refine XS.goto X315.here hx rfl (pc0 := 123) (pc' := 127) rfl (hb hby at_123) (by decide) (by decide) ?_
        exact kont
      exact ⟨(1 : Int32), _, _, X315, e315, N315, g322, (Or.inr rfl), (iff_of_true rfl ⟨own_b1 y309 y310 c312, own_b1 y317 y318 c320⟩)⟩
    have g325 : Go p e below T305 (mkF m 131 #[iv p0, iv p1, iv p2, iv p3, iv (2 : Int32), iv r240, iv r247, iv r254, rv b260, rv b280, iv ex] [(.ref b280)]) A0 := by
      intro t kont
      refine g305 t ?_
      refine XS.istore X305.here hx rfl (hb hby at_127) rfl (l' := #[iv p0, iv p1, iv p2, iv p3, iv (2 : Int32), iv r240, iv r247, iv r254, rv b260, rv b280, iv ex]) rfl ?_
      refine XS.aload X305.here hx rfl (hb hby at_129) rfl rfl ?_
      exact kont
    obtain ⟨_, _, ⟨T326, L326, k326, n326⟩, -, X326, hS326, hg326, ⟨Lc326, hQ326, l326, y326, z326, C326⟩, st326⟩ := callSS X305 hx (y := (⟨"com/example/rolegate/rolegate/MethodSet", "isMethodName", "(Ljava/lang/String;)Z"⟩ : MethodName)) hown (mvT hZ (hw _ (List.mem_of_getElem? (i := 27) rfl))) (mvT hZ (hw _ (List.mem_of_getElem? (i := 28) rfl))) (mvT hZ (hw _ (List.mem_of_getElem? (i := 29) rfl))) (mvT hZ (hw _ (List.mem_of_getElem? (i := 30) rfl))) (by decide) (backOfSH (W := 0) (rm_isM2 l Z a0 hw [] b280 r290 r291 i_COMPACT_STRINGS v_SIOOBE_FORMATTER r292 r293 r294 r240 r247 T287.heap n0 O302 S0_ hcs y295 y297 y296 y299 y300 ((own_ccons ⟨y241, y242⟩ (own_ccons ⟨y248, y249⟩ own_cnil))) S2_ hfm S4_ S5_ S6_) hZ (hw _ (List.mem_of_getElem? (i := 30) rfl)) (hw _ (List.mem_of_getElem? (i := 29) rfl)) (by decide) (by decide) (own_EW hw) R301.1) (g := (mkF m 131 #[iv p0, iv p1, iv p2, iv p3, iv (2 : Int32), iv r240, iv r247, iv r254, rv b260, rv b280, iv ex] [(.ref b280)])) rfl (by rw [hml]; rfl) (argsL := [(.ref b280)]) (rest := []) (lenOf pd_20 rfl) rfl (by show 2 * 0 + _ ≤ _; exact Nat.le_of_eq rfl) (hb hby at_131) (fun _ _ => ⟨rfl, e305, (by decide : 4 + 4 ≤ _), (by decide : 15 + 128 ≤ _)⟩)
    dsimp only [Pt.U, Pt.locs, Pt.cells, Pt.slots] at X326 l326 y326 z326 st326 hQ326 hS326 hg326 C326
    subst l326 y326 z326
    obtain ⟨X326, hS, hZ, hown⟩ := rebS hS (n1 := T305.heap.size) (by rw [e305]; exact (Nat.le_trans hk (Nat.le_trans (Nat.le_trans (Nat.le_trans (Nat.le_trans E260.1 (Keep.of_wr W266).1) (Keep.of_wr W273).1) E280.1) K287.1))) X326 hS326 hg326 hZ hown
    obtain ⟨r327, rfl, M326, K326, y328, y329⟩ := hQ326
    have N326 := Fr.app N305 M326
    have R330 : CHr Z consts_1 s.vm h0 T326.vm T326.heap := R301.trans C326
    have O331 := O302.keep K326 all0
    have g332 : Go p e below T326 (mkF m 134 #[iv p0, iv p1, iv p2, iv p3, iv (2 : Int32), iv r240, iv r247, iv r254, rv b260, rv b280, iv ex] [(.int r327)]) A0 := fun t kont => g325 t (st326.trans kont)
    have g333 : Go p e below T326 (mkF m 144 #[iv p0, iv p1, iv p2, iv p3, iv (2 : Int32), iv r240, iv r247, iv r254, rv b260, rv b280, iv ex] [(.int (1 : Int32))]) A0 := by
      intro t kont
      refine g332 t ?_
      refine XS.iload X326.here hx rfl (hb hby at_134) rfl ?_
      refine XS.icmpNo X326.here hx rfl (hb hby at_136) rfl (teq (own_eqb y328 y329 j323 j324 : r327 = ex)).2 ?_
      refine XS.iconst X326.here hx rfl (hb hby at_139) ?_
      refine XS.goto X326.here hx rfl (pc0 := 140) (pc' := 144) rfl (hb hby at_140) (by decide) (by decide) ?_
      exact kont
    obtain ⟨fs, hr, hrun, hended, hRW⟩ := X326.leaveW hS (Nat.le_refl _) (v := some (.int (1 : Int32))) (fun h => by rw [Bd.returns] at h; cases h)
    refine ⟨_, _, g333 _ (retN X326 hx (t := .boolean) Bd.returns (by simp) (hb hby at_144) hr), hrun, hended, _, _, rfl, ?_, ?_, hRW.1, hRW.2.1, hRW.2.2.1, hRW.2.2.2.mono (by decide) (by decide)⟩
    ·
      show Q_law Z p0 p1 p2 p3 i_COMPACT_STRINGS v_SIOOBE_FORMATTER h0 n0 _ T326.heap _
      exact ⟨rfl, N326⟩
    ·
      rw [hh]
      show CHr Z consts_1 s.vm h0 T326.vm T326.heap
      exact R330.trans (CHv.at X326 hZ (own_EW hw) R330.1)
  subst c103
  have g334 : Go p e below s₁ (mkF m 6 #[iv p0, iv p1, iv p2, iv p3, iv (3 : Int32), .unset, .unset, .unset, .unset, .unset, .unset] [(.int p1)]) A0 := by
    intro t kont
    refine g102 t ?_
    refine XS.istore X0.here hx rfl (hb hby at_3) rfl (l' := #[iv p0, iv p1, iv p2, iv p3, iv (3 : Int32), .unset, .unset, .unset, .unset, .unset, .unset]) rfl ?_
    refine XS.iloadN X0.here hx rfl (hb hby at_5) rfl ?_
    exact kont
  obtain ⟨_, _, ⟨T335, L335, k335, n335⟩, -, X335, ⟨Lc335, hQ335, l335, y335, z335⟩, st335⟩ := Jvm.LawKit.callS X0 hx (y := (⟨"com/example/rolegate/rolegate/MethodSetIsMethodNamePinLaw", "pick", "(I)C"⟩ : MethodName)) hown (mvT hZ (hw _ (List.mem_of_getElem? (i := 0) rfl))) (mvT hZ (hw _ (List.mem_of_getElem? (i := 1) rfl))) (mvT hZ (hw _ (List.mem_of_getElem? (i := 2) rfl))) (mvT hZ (hw _ (List.mem_of_getElem? (i := 3) rfl))) (by decide) (backOf (W := 0) (rm_pick l Z a0 hw [] p1 h0 n0 O0 ) hZ (hw _ (List.mem_of_getElem? (i := 3) rfl)) (hw _ (List.mem_of_getElem? (i := 2) rfl)) (by decide) (by decide)) (g := (mkF m 6 #[iv p0, iv p1, iv p2, iv p3, iv (3 : Int32), .unset, .unset, .unset, .unset, .unset, .unset] [(.int p1)])) rfl (by rw [hml]; rfl) (argsL := [(.int p1)]) (rest := []) (lenOf pd_18 rfl) rfl (by show 2 * 0 + _ ≤ _; exact Nat.le_of_eq rfl) (hb hby at_6) (fun _ _ => ⟨rfl, e0, (by decide : 0 + 0 ≤ _), (by decide : 0 + 0 ≤ _)⟩)
  dsimp only [Pt.U, Pt.locs, Pt.cells, Pt.slots] at X335 l335 y335 z335 st335 hQ335
  subst l335 y335 z335
  obtain ⟨r336, rfl, M335, e335, y337, y338⟩ := hQ335
  have N335 := Fr.app N0 M335
  have g339 : Go p e below T335 (mkF m 9 #[iv p0, iv p1, iv p2, iv p3, iv (3 : Int32), .unset, .unset, .unset, .unset, .unset, .unset] [(.int r336)]) A0 := fun t kont => g334 t (st335 t kont)
  have nr340 : nar .char r336 = r336 := own_narid y337 y338
  have g341 : Go p e below T335 (mkF m 12 #[iv p0, iv p1, iv p2, iv p3, iv (3 : Int32), iv r336, .unset, .unset, .unset, .unset, .unset] [(.int p2)]) A0 := by
    intro t kont
    refine g339 t ?_
    refine XS.istore X335.here hx rfl (hb hby at_9) rfl (l' := #[iv p0, iv p1, iv p2, iv p3, iv (3 : Int32), iv r336, .unset, .unset, .unset, .unset, .unset]) rfl ?_
    refine XS.iloadN X335.here hx rfl (hb hby at_11) rfl ?_
    exact kont
  obtain ⟨_, _, ⟨T342, L342, k342, n342⟩, -, X342, ⟨Lc342, hQ342, l342, y342, z342⟩, st342⟩ := Jvm.LawKit.callS X335 hx (y := (⟨"com/example/rolegate/rolegate/MethodSetIsMethodNamePinLaw", "pick", "(I)C"⟩ : MethodName)) hown (mvT hZ (hw _ (List.mem_of_getElem? (i := 0) rfl))) (mvT hZ (hw _ (List.mem_of_getElem? (i := 1) rfl))) (mvT hZ (hw _ (List.mem_of_getElem? (i := 2) rfl))) (mvT hZ (hw _ (List.mem_of_getElem? (i := 3) rfl))) (by decide) (backOf (W := 0) (rm_pick l Z a0 hw [] p2 h0 n0 O0 ) hZ (hw _ (List.mem_of_getElem? (i := 3) rfl)) (hw _ (List.mem_of_getElem? (i := 2) rfl)) (by decide) (by decide)) (g := (mkF m 12 #[iv p0, iv p1, iv p2, iv p3, iv (3 : Int32), iv r336, .unset, .unset, .unset, .unset, .unset] [(.int p2)])) rfl (by rw [hml]; rfl) (argsL := [(.int p2)]) (rest := []) (lenOf pd_18 rfl) rfl (by show 2 * 0 + _ ≤ _; exact Nat.le_of_eq rfl) (hb hby at_12) (fun _ _ => ⟨rfl, e335, (by decide : 0 + 0 ≤ _), (by decide : 0 + 0 ≤ _)⟩)
  dsimp only [Pt.U, Pt.locs, Pt.cells, Pt.slots] at X342 l342 y342 z342 st342 hQ342
  subst l342 y342 z342
  obtain ⟨r343, rfl, M342, e342, y344, y345⟩ := hQ342
  have N342 := Fr.app N335 M342
  have g346 : Go p e below T342 (mkF m 15 #[iv p0, iv p1, iv p2, iv p3, iv (3 : Int32), iv r336, .unset, .unset, .unset, .unset, .unset] [(.int r343)]) A0 := fun t kont => g341 t (st342 t kont)
  have nr347 : nar .char r343 = r343 := own_narid y344 y345
  have g348 : Go p e below T342 (mkF m 18 #[iv p0, iv p1, iv p2, iv p3, iv (3 : Int32), iv r336, iv r343, .unset, .unset, .unset, .unset] [(.int p3)]) A0 := by
    intro t kont
    refine g346 t ?_
    refine XS.istore X342.here hx rfl (hb hby at_15) rfl (l' := #[iv p0, iv p1, iv p2, iv p3, iv (3 : Int32), iv r336, iv r343, .unset, .unset, .unset, .unset]) rfl ?_
    refine XS.iloadN X342.here hx rfl (hb hby at_17) rfl ?_
    exact kont
  obtain ⟨_, _, ⟨T349, L349, k349, n349⟩, -, X349, ⟨Lc349, hQ349, l349, y349, z349⟩, st349⟩ := Jvm.LawKit.callS X342 hx (y := (⟨"com/example/rolegate/rolegate/MethodSetIsMethodNamePinLaw", "pick", "(I)C"⟩ : MethodName)) hown (mvT hZ (hw _ (List.mem_of_getElem? (i := 0) rfl))) (mvT hZ (hw _ (List.mem_of_getElem? (i := 1) rfl))) (mvT hZ (hw _ (List.mem_of_getElem? (i := 2) rfl))) (mvT hZ (hw _ (List.mem_of_getElem? (i := 3) rfl))) (by decide) (backOf (W := 0) (rm_pick l Z a0 hw [] p3 h0 n0 O0 ) hZ (hw _ (List.mem_of_getElem? (i := 3) rfl)) (hw _ (List.mem_of_getElem? (i := 2) rfl)) (by decide) (by decide)) (g := (mkF m 18 #[iv p0, iv p1, iv p2, iv p3, iv (3 : Int32), iv r336, iv r343, .unset, .unset, .unset, .unset] [(.int p3)])) rfl (by rw [hml]; rfl) (argsL := [(.int p3)]) (rest := []) (lenOf pd_18 rfl) rfl (by show 2 * 0 + _ ≤ _; exact Nat.le_of_eq rfl) (hb hby at_18) (fun _ _ => ⟨rfl, e342, (by decide : 0 + 0 ≤ _), (by decide : 0 + 0 ≤ _)⟩)
  dsimp only [Pt.U, Pt.locs, Pt.cells, Pt.slots] at X349 l349 y349 z349 st349 hQ349
  subst l349 y349 z349
  obtain ⟨r350, rfl, M349, e349, y351, y352⟩ := hQ349
  have N349 := Fr.app N342 M349
  have g353 : Go p e below T349 (mkF m 21 #[iv p0, iv p1, iv p2, iv p3, iv (3 : Int32), iv r336, iv r343, .unset, .unset, .unset, .unset] [(.int r350)]) A0 := fun t kont => g348 t (st349 t kont)
  have nr354 : nar .char r350 = r350 := own_narid y351 y352
  have g355 : Go p e below T349 (mkF m 25 #[iv p0, iv p1, iv p2, iv p3, iv (3 : Int32), iv r336, iv r343, iv r350, .unset, .unset, .unset] [(.int (3 : Int32))]) A0 := by
    intro t kont
    refine g353 t ?_
    refine XS.istore X349.here hx rfl (hb hby at_21) rfl (l' := #[iv p0, iv p1, iv p2, iv p3, iv (3 : Int32), iv r336, iv r343, iv r350, .unset, .unset, .unset]) rfl ?_
    refine XS.iload X349.here hx rfl (hb hby at_23) rfl ?_
    exact kont
  obtain ⟨T356, h356, k356, X356, e356, E356, A356, F356, st356⟩ := newPE X349 hx hZ (hw _ (List.mem_of_getElem? (i := 5) rfl)) e349 (g := (mkF m 25 #[iv p0, iv p1, iv p2, iv p3, iv (3 : Int32), iv r336, iv r343, iv r350, .unset, .unset, .unset] [(.int (3 : Int32))])) rfl (hb hby at_25) rfl (by decide) (cap := 3) (by decide) (by decide) (by decide) (by decide) (ad := "[C") (by decide)
  obtain ⟨b356, gb356⟩ : ∃ z, z = h0.size := ⟨_, rfl⟩
  rw [← gb356] at A356 F356 st356
  have R357 : CHr Z consts_1 s.vm h0 s.vm h356 := R0.trans (CHr.ext E356 R0.1)
  have O358 := O0.ext E356
  have y359 : Arv Z h356 b356 k356 .char (3 : Int32) [(.int (0 : Int32)), (.int (0 : Int32)), (.int (0 : Int32))] (.int (0 : Int32)) := (Arv.new A356 (by decide)).pad (pad_rep [] (.int (0 : Int32)) 3)
  have g360 : Go p e below T356 (mkF m 27 #[iv p0, iv p1, iv p2, iv p3, iv (3 : Int32), iv r336, iv r343, iv r350, .unset, .unset, .unset] [(.ref b356)]) A0 := fun t kont => g355 t (st356 t kont)
  have g361 : Go p e below T356 (mkF m 39 #[iv p0, iv p1, iv p2, iv p3, iv (3 : Int32), iv r336, iv r343, iv r350, rv b356, .unset, .unset] [(.int r336), (.int (0 : Int32)), (.ref b356)]) A0 := by
    intro t kont
    refine g360 t ?_
    refine XS.astore X356.here hx rfl (hb hby at_27) rfl rfl (l' := #[iv p0, iv p1, iv p2, iv p3, iv (3 : Int32), iv r336, iv r343, iv r350, rv b356, .unset, .unset]) rfl ?_
    refine XS.iload X356.here hx rfl (hb hby at_29) rfl ?_
    refine XS.ifNo X356.here hx rfl (hb hby at_31) rfl ((if0 _ _).trans (tlt (by decide : (0 : Int32) < (3 : Int32))).2.2.2) ?_
    refine XS.aload X356.here hx rfl (hb hby at_34) rfl rfl ?_
    refine XS.iconst X356.here hx rfl (hb hby at_36) ?_
    refine XS.iload X356.here hx rfl (hb hby at_37) rfl ?_
    exact kont
  have ge363 : n0 ≤ b356 := Nat.le_trans (own_old_le O0) (Nat.le_of_eq gb356.symm)
  have zz362 := y359
  obtain ⟨cl362, Ar362, q362, S362, M362, H362, G362⟩ := zz362
  have in362 : ¬ ((0 : Int32) < 0 ∨ cl362.slots.size ≤ ((0 : Int32)).toNatClampNeg) := inb_of S362 ⟨by decide, by decide⟩
  obtain ⟨T362, h362, X362, e362, W362, st362⟩ := stC X356 hx hZ e356 Ar362 (j := (0 : Int32)) in362 (g := (mkF m 39 #[iv p0, iv p1, iv p2, iv p3, iv (3 : Int32), iv r336, iv r343, iv r350, rv b356, .unset, .unset] [(.int r336), (.int (0 : Int32)), (.ref b356)])) rfl rfl (hb hby at_39)
  rw [show nar .char r336 = r336 from nr340] at W362
  have R364 : CHr Z consts_1 s.vm h0 s.vm h362 := R357.trans (CHr.wr W362 (Safe.ext E356 R0.1 (Safe.new (Nat.le_of_eq gb356.symm))) R357.1)
  have O365 := O358.wr W362 ge363
  have y366 : Arv Z h362 b356 k356 .char (3 : Int32) [(.int r336), (.int (0 : Int32)), (.int (0 : Int32))] (.int (0 : Int32)) := Arv.set Ar362 q362 S362 M362 H362 G362 (own_ft_char (z := r336) nr340) W362 0 rfl (Nat.le_of_ble_eq_true rfl)
  have N362 := Fr.snoc X362 N349 ge363
  have g367 : Go p e below T362 (mkF m 40 #[iv p0, iv p1, iv p2, iv p3, iv (3 : Int32), iv r336, iv r343, iv r350, rv b356, .unset, .unset] []) A0 := fun t kont => g361 t (st362 t kont)
  have g368 : Go p e below T362 (mkF m 51 #[iv p0, iv p1, iv p2, iv p3, iv (3 : Int32), iv r336, iv r343, iv r350, rv b356, .unset, .unset] [(.int r343), (.int (1 : Int32)), (.ref b356)]) A0 := by
    intro t kont
    refine g367 t ?_
    refine XS.iload X362.here hx rfl (hb hby at_40) rfl ?_
    refine XS.iconst X362.here hx rfl (hb hby at_42) ?_
    refine XS.icmpNo X362.here hx rfl (hb hby at_43) rfl (tlt (by decide : (1 : Int32) < (3 : Int32))).2.2.2 ?_
    refine XS.aload X362.here hx rfl (hb hby at_46) rfl rfl ?_
    refine XS.iconst X362.here hx rfl (hb hby at_48) ?_
    refine XS.iload X362.here hx rfl (hb hby at_49) rfl ?_
    exact kont
  have zz369 := y366
  obtain ⟨cl369, Ar369, q369, S369, M369, H369, G369⟩ := zz369
  have in369 : ¬ ((1 : Int32) < 0 ∨ cl369.slots.size ≤ ((1 : Int32)).toNatClampNeg) := inb_of S369 ⟨by decide, by decide⟩
  obtain ⟨T369, h369, X369, e369, W369, st369⟩ := stC X362 hx hZ e362 Ar369 (j := (1 : Int32)) in369 (g := (mkF m 51 #[iv p0, iv p1, iv p2, iv p3, iv (3 : Int32), iv r336, iv r343, iv r350, rv b356, .unset, .unset] [(.int r343), (.int (1 : Int32)), (.ref b356)])) rfl rfl (hb hby at_51)
  rw [show nar .char r343 = r343 from nr347] at W369
  have sf371 : Safe Z consts_1 s.vm h362 b356 := (Safe.wr W362 (Safe.ext E356 R0.1 (Safe.new (Nat.le_of_eq gb356.symm))) R357.1 (Safe.ext E356 R0.1 (Safe.new (Nat.le_of_eq gb356.symm))))
  have R370 : CHr Z consts_1 s.vm h0 s.vm h369 := R364.trans (CHr.wr W369 sf371 R364.1)
  have O372 := O365.wr W369 ge363
  have y373 : Arv Z h369 b356 k356 .char (3 : Int32) [(.int r336), (.int r343), (.int (0 : Int32))] (.int (0 : Int32)) := Arv.set Ar369 q369 S369 M369 H369 G369 (own_ft_char (z := r343) nr347) W369 1 rfl (Nat.le_of_ble_eq_true rfl)
  have N369 := Fr.snoc X369 N362 ge363
  have g374 : Go p e below T369 (mkF m 52 #[iv p0, iv p1, iv p2, iv p3, iv (3 : Int32), iv r336, iv r343, iv r350, rv b356, .unset, .unset] []) A0 := fun t kont => g368 t (st369 t kont)
  have g375 : Go p e below T369 (mkF m 63 #[iv p0, iv p1, iv p2, iv p3, iv (3 : Int32), iv r336, iv r343, iv r350, rv b356, .unset, .unset] [(.int r350), (.int (2 : Int32)), (.ref b356)]) A0 := by
    intro t kont
    refine g374 t ?_
    refine XS.iload X369.here hx rfl (hb hby at_52) rfl ?_
    refine XS.iconst X369.here hx rfl (hb hby at_54) ?_
    refine XS.icmpNo X369.here hx rfl (hb hby at_55) rfl (tlt (by decide : (2 : Int32) < (3 : Int32))).2.2.2 ?_
    refine XS.aload X369.here hx rfl (hb hby at_58) rfl rfl ?_
    refine XS.iconst X369.here hx rfl (hb hby at_60) ?_
    refine XS.iload X369.here hx rfl (hb hby at_61) rfl ?_
    exact kont
  have zz376 := y373
  obtain ⟨cl376, Ar376, q376, S376, M376, H376, G376⟩ := zz376
  have in376 : ¬ ((2 : Int32) < 0 ∨ cl376.slots.size ≤ ((2 : Int32)).toNatClampNeg) := inb_of S376 ⟨by decide, by decide⟩
  obtain ⟨T376, h376, X376, e376, W376, st376⟩ := stC X369 hx hZ e369 Ar376 (j := (2 : Int32)) in376 (g := (mkF m 63 #[iv p0, iv p1, iv p2, iv p3, iv (3 : Int32), iv r336, iv r343, iv r350, rv b356, .unset, .unset] [(.int r350), (.int (2 : Int32)), (.ref b356)])) rfl rfl (hb hby at_63)
  rw [show nar .char r350 = r350 from nr354] at W376
  have sf378 : Safe Z consts_1 s.vm h369 b356 := (Safe.wr W369 sf371 R364.1 sf371)
  have R377 : CHr Z consts_1 s.vm h0 s.vm h376 := R370.trans (CHr.wr W376 sf378 R370.1)
  have O379 := O372.wr W376 ge363
  have y380 : Arv Z h376 b356 k356 .char (3 : Int32) [(.int r336), (.int r343), (.int r350)] (.int (0 : Int32)) := Arv.set Ar376 q376 S376 M376 H376 G376 (own_ft_char (z := r350) nr354) W376 2 rfl (Nat.le_of_ble_eq_true rfl)
  have N376 := Fr.snoc X376 N369 ge363
  have g381 : Go p e below T376 (mkF m 64 #[iv p0, iv p1, iv p2, iv p3, iv (3 : Int32), iv r336, iv r343, iv r350, rv b356, .unset, .unset] []) A0 := fun t kont => g375 t (st376 t kont)
  obtain ⟨T382, h382, X382, e382, E382, A382, D382, -, st382⟩ := newO X376 hx hZ hown (hw _ (List.mem_of_getElem? (i := 6) rfl)) (hw _ (List.mem_of_getElem? (i := 7) rfl)) (hw _ (List.mem_of_getElem? (i := 8) rfl)) e376 (g := (mkF m 64 #[iv p0, iv p1, iv p2, iv p3, iv (3 : Int32), iv r336, iv r343, iv r350, rv b356, .unset, .unset] [])) rfl (hb hby at_64) (by decide) (by decide)
  obtain ⟨b382, gb382⟩ : ∃ z, z = h376.size := ⟨_, rfl⟩
  rw [← gb382] at A382 D382 st382
  have R383 : CHr Z consts_1 s.vm h0 s.vm h382 := R377.trans (CHr.ext E382 R377.1)
  have O384 := O379.ext E382
  have y385 : Fld Z h382 b382 "java/lang/String" "value" "[B" .null := D382 (Or.inr (hw _ (List.mem_of_getElem? (i := 21) rfl))) (ty := (.array .byte)) (by decide)
  have y386 : Fld Z h382 b382 "java/lang/String" "coder" "B" (.int (0 : Int32)) := D382 (Or.inr (hw _ (List.mem_of_getElem? (i := 22) rfl))) (ty := .byte) (by decide)
  have g387 : Go p e below T382 (mkF m 67 #[iv p0, iv p1, iv p2, iv p3, iv (3 : Int32), iv r336, iv r343, iv r350, rv b356, .unset, .unset] [(.ref b382)]) A0 := fun t kont => g381 t (st382 t kont)
  have g388 : Go p e below T382 (mkF m 70 #[iv p0, iv p1, iv p2, iv p3, iv (3 : Int32), iv r336, iv r343, iv r350, rv b356, .unset, .unset] [(.ref b356), (.ref b382), (.ref b382)]) A0 := by
    intro t kont
    refine g387 t ?_
    refine XS.dup X382.here hx rfl (hb hby at_67) rfl rfl ?_
    refine XS.aload X382.here hx rfl (hb hby at_68) rfl rfl ?_
    exact kont
  have y390 : Arv Z h382 b356 k356 .char (3 : Int32) [(.int r336), (.int r343), (.int r350)] (.int (0 : Int32)) := (y380.ext E382)
  have ge391 : n0 ≤ b382 := Nat.le_trans (own_old_le O379) (Nat.le_of_eq gb382.symm)
  obtain ⟨_, _, ⟨T389, L389, k389, n389⟩, -, X389, ⟨Lc389, hQ389, l389, y389, z389⟩, st389⟩ := X382.specialBack hx (y := (⟨"java/lang/String", "<init>", "([C)V"⟩ : MethodName)) rfl hown (mvT hZ (hw _ (List.mem_of_getElem? (i := 9) rfl))) (mvT hZ (hw _ (List.mem_of_getElem? (i := 10) rfl))) (mvT hZ (hw _ (List.mem_of_getElem? (i := 11) rfl))) (by decide) (backOf (W := 1) (rm_sIniG l Z a0 hw [] b382 b356 k356 [r336, r343, r350] i_COMPACT_STRINGS h382 n0 O384 y385 y386 A382 ge391 y390 (by simp) (by simp) ((own_ccons ⟨y337, y338⟩ (own_ccons ⟨y344, y345⟩ (own_ccons ⟨y351, y352⟩ own_cnil)))) S0_ hcs S4_ S5_ S6_) hZ (hw _ (List.mem_of_getElem? (i := 11) rfl)) (hw _ (List.mem_of_getElem? (i := 8) rfl)) (by decide) (by decide)) (g := (mkF m 70 #[iv p0, iv p1, iv p2, iv p3, iv (3 : Int32), iv r336, iv r343, iv r350, rv b356, .unset, .unset] [(.ref b356), (.ref b382), (.ref b382)])) rfl (by rw [hml]; rfl) (Steps.refl _) (a := b382) (argsL := [(.ref b356)]) (rest := [(.ref b382)]) (lenOf pd_19 rfl) rfl (by show 2 * 0 + _ ≤ _; exact Nat.le_of_eq rfl) (hb hby at_70) (fun _ _ => ⟨rfl, e382, (by decide : 2 + 2 ≤ _), (by decide : 7 + 9 ≤ _)⟩)
  dsimp only [Pt.U, Pt.locs, Pt.cells, Pt.slots] at X389 l389 y389 z389 st389 hQ389
  subst l389 y389 z389
  obtain ⟨r392, r393, r394, r395, r396, rfl, M389, K389, y397, y398, y399, y400, y401, y402⟩ := hQ389
  have N389 := Fr.app N376 M389
  have R403 : CHr Z consts_1 s.vm h0 s.vm T389.heap := R383.trans (CHr.keep K389 (sfS (Safe.ext E382 R377.1 (Safe.new (Nat.le_of_eq gb382.symm))) sf0) R383.1)
  have O404 := O384.keep K389 (allS ge391 all0)
  have g405 : Go p e below T389 (mkF m 73 #[iv p0, iv p1, iv p2, iv p3, iv (3 : Int32), iv r336, iv r343, iv r350, rv b356, .unset, .unset] [(.ref b382)]) A0 := fun t kont => g388 t (st389.trans kont)
  have g406 : Go p e below T389 (mkF m 75 #[iv p0, iv p1, iv p2, iv p3, iv (3 : Int32), iv r336, iv r343, iv r350, rv b356, rv b382, .unset] []) A0 := by
    intro t kont
    refine g405 t ?_
    refine XS.astore X389.here hx rfl (hb hby at_73) rfl rfl (l' := #[iv p0, iv p1, iv p2, iv p3, iv (3 : Int32), iv r336, iv r343, iv r350, rv b356, rv b382, .unset]) rfl ?_
    exact kont
  obtain ⟨ex, T407, lc407, X407, e407, N407, g407, j433, j434⟩ : ∃ ex : Int32, ∃ (T407 : State) (lc407 : List Loc), Stand p l e room_1 (s.setVm s.vm) m #[(.int p0), (.int p1), (.int p2), (.int p3)] below meth c T407 lc407 4 16 ∧ T407.heap = T389.heap ∧ Fr n0 lc407 ∧ Go p e below T407 (mkF m 127 #[iv p0, iv p1, iv p2, iv p3, iv (3 : Int32), iv r336, iv r343, iv r350, rv b356, rv b382, .unset] [(.int ex)]) A0 ∧ (ex = (0 : Int32) ∨ ex = (1 : Int32)) ∧ (ex = (1 : Int32) ↔ (own_tok r336 ∧ own_tok r343 ∧ own_tok r350)) := by
    have g408 : Go p e below T389 (mkF m 88 #[iv p0, iv p1, iv p2, iv p3, iv (3 : Int32), iv r336, iv r343, iv r350, rv b356, rv b382, .unset] [(.int r336)]) A0 := by
      intro t kont
      refine g406 t ?_
      refine XS.iload X389.here hx rfl (hb hby at_75) rfl ?_
      refine XS.ifNo X389.here hx rfl (hb hby at_77) rfl ((if0 _ _).trans (tlt (by decide : (0 : Int32) < (3 : Int32))).2.2.2) ?_
      refine XS.iload X389.here hx rfl (hb hby at_80) rfl ?_
      refine XS.iconst X389.here hx rfl (hb hby at_82) ?_
      refine XS.icmpNo X389.here hx rfl (hb hby at_83) rfl (flt (by decide : ¬ ((3 : Int32) < (1 : Int32)))).1 ?_
      refine XS.iload X389.here hx rfl (hb hby at_86) rfl ?_
      exact kont
    obtain ⟨_, _, ⟨T409, L409, k409, n409⟩, -, X409, ⟨Lc409, hQ409, l409, y409, z409⟩, st409⟩ := Jvm.LawKit.callS X389 hx (y := (⟨"com/example/rolegate/rolegate/MethodSetIsMethodNamePinLaw", "tchar", "(C)Z"⟩ : MethodName)) hown (mvT hZ (hw _ (List.mem_of_getElem? (i := 47) rfl))) (mvT hZ (hw _ (List.mem_of_getElem? (i := 48) rfl))) (mvT hZ (hw _ (List.mem_of_getElem? (i := 2) rfl))) (mvT hZ (hw _ (List.mem_of_getElem? (i := 49) rfl))) (by decide) (backOf (W := 0) (rm_tch l Z a0 hw [] r336 T389.heap n0 O404 ) hZ (hw _ (List.mem_of_getElem? (i := 49) rfl)) (hw _ (List.mem_of_getElem? (i := 2) rfl)) (by decide) (by decide)) (g := (mkF m 88 #[iv p0, iv p1, iv p2, iv p3, iv (3 : Int32), iv r336, iv r343, iv r350, rv b356, rv b382, .unset] [(.int r336)])) rfl (by rw [hml]; rfl) (argsL := [(.int r336)]) (rest := []) (lenOf pd_21 rfl) rfl (by show 2 * 0 + _ ≤ _; exact Nat.le_of_eq rfl) (hb hby at_88) (fun _ _ => ⟨rfl, rfl, (by decide : 4 + 0 ≤ _), (by decide : 16 + 0 ≤ _)⟩)
    dsimp only [Pt.U, Pt.locs, Pt.cells, Pt.slots] at X409 l409 y409 z409 st409 hQ409
    subst l409 y409 z409
    obtain ⟨r410, rfl, M409, e409, y411, y412⟩ := hQ409
    have N409 := Fr.app N389 M409
    have g413 : Go p e below T409 (mkF m 91 #[iv p0, iv p1, iv p2, iv p3, iv (3 : Int32), iv r336, iv r343, iv r350, rv b356, rv b382, .unset] [(.int r410)]) A0 := fun t kont => g408 t (st409 t kont)
    by_cases c414 : r410 = (0 : Int32)
    ·
      have g415 : Go p e below T409 (mkF m 127 #[iv p0, iv p1, iv p2, iv p3, iv (3 : Int32), iv r336, iv r343, iv r350, rv b356, rv b382, .unset] [(.int (0 : Int32))]) A0 := by
        intro t kont
        refine g413 t ?_
        refine XS.ifYes X409.here hx rfl (pc0 := 91) (pc' := 126) rfl (hb hby at_91) rfl ((if0 _ _).trans (teq c414).1) (by decide) (by decide) ?_
        refine XS.iconst X409.here hx rfl (hb hby at_126) ?_
        exact kont
      exact ⟨(0 : Int32), _, _, X409, e409, N409, g415, (Or.inl rfl), (iff_of_false (by decide) (fun q => own_b0 y412 c414 q.1))⟩
    have g416 : Go p e below T409 (mkF m 102 #[iv p0, iv p1, iv p2, iv p3, iv (3 : Int32), iv r336, iv r343, iv r350, rv b356, rv b382, .unset] [(.int r343)]) A0 := by
      intro t kont
      refine g413 t ?_
      refine XS.ifNo X409.here hx rfl (hb hby at_91) rfl ((if0 _ _).trans (feq c414).1) ?_
      refine XS.iload X409.here hx rfl (hb hby at_94) rfl ?_
      refine XS.iconst X409.here hx rfl (hb hby at_96) ?_
      refine XS.icmpNo X409.here hx rfl (hb hby at_97) rfl (flt (by decide : ¬ ((3 : Int32) < (2 : Int32)))).1 ?_
      refine XS.iload X409.here hx rfl (hb hby at_100) rfl ?_
      exact kont
    obtain ⟨_, _, ⟨T417, L417, k417, n417⟩, -, X417, ⟨Lc417, hQ417, l417, y417, z417⟩, st417⟩ := Jvm.LawKit.callS X409 hx (y := (⟨"com/example/rolegate/rolegate/MethodSetIsMethodNamePinLaw", "tchar", "(C)Z"⟩ : MethodName)) hown (mvT hZ (hw _ (List.mem_of_getElem? (i := 47) rfl))) (mvT hZ (hw _ (List.mem_of_getElem? (i := 48) rfl))) (mvT hZ (hw _ (List.mem_of_getElem? (i := 2) rfl))) (mvT hZ (hw _ (List.mem_of_getElem? (i := 49) rfl))) (by decide) (backOf (W := 0) (rm_tch l Z a0 hw [] r343 T389.heap n0 O404 ) hZ (hw _ (List.mem_of_getElem? (i := 49) rfl)) (hw _ (List.mem_of_getElem? (i := 2) rfl)) (by decide) (by decide)) (g := (mkF m 102 #[iv p0, iv p1, iv p2, iv p3, iv (3 : Int32), iv r336, iv r343, iv r350, rv b356, rv b382, .unset] [(.int r343)])) rfl (by rw [hml]; rfl) (argsL := [(.int r343)]) (rest := []) (lenOf pd_21 rfl) rfl (by show 2 * 0 + _ ≤ _; exact Nat.le_of_eq rfl) (hb hby at_102) (fun _ _ => ⟨rfl, e409, (by decide : 4 + 0 ≤ _), (by decide : 16 + 0 ≤ _)⟩)
    dsimp only [Pt.U, Pt.locs, Pt.cells, Pt.slots] at X417 l417 y417 z417 st417 hQ417
    subst l417 y417 z417
    obtain ⟨r418, rfl, M417, e417, y419, y420⟩ := hQ417
    have N417 := Fr.app N409 M417
    have g421 : Go p e below T417 (mkF m 105 #[iv p0, iv p1, iv p2, iv p3, iv (3 : Int32), iv r336, iv r343, iv r350, rv b356, rv b382, .unset] [(.int r418)]) A0 := fun t kont => g416 t (st417 t kont)
    by_cases c422 : r418 = (0 : Int32)
    ·
      have g423 : Go p e below T417 (mkF m 127 #[iv p0, iv p1, iv p2, iv p3, iv (3 : Int32), iv r336, iv r343, iv r350, rv b356, rv b382, .unset] [(.int (0 : Int32))]) A0 := by
        intro t kont
        refine g421 t ?_
        refine XS.ifYes X417.here hx rfl (pc0 := 105) (pc' := 126) rfl (hb hby at_105) rfl ((if0 _ _).trans (teq c422).1) (by decide) (by decide) ?_
        refine XS.iconst X417.here hx rfl (hb hby at_126) ?_
        exact kont
      exact ⟨(0 : Int32), _, _, X417, e417, N417, g423, (Or.inl rfl), (iff_of_false (by decide) (fun q => own_b0 y420 c422 q.2.1))⟩
    have g424 : Go p e below T417 (mkF m 116 #[iv p0, iv p1, iv p2, iv p3, iv (3 : Int32), iv r336, iv r343, iv r350, rv b356, rv b382, .unset] [(.int r350)]) A0 := by
      intro t kont
      refine g421 t ?_
      refine XS.ifNo X417.here hx rfl (hb hby at_105) rfl ((if0 _ _).trans (feq c422).1) ?_
      refine XS.iload X417.here hx rfl (hb hby at_108) rfl ?_
      refine XS.iconst X417.here hx rfl (hb hby at_110) ?_
      refine XS.icmpNo X417.here hx rfl (hb hby at_111) rfl (flt (by decide : ¬ ((3 : Int32) < (3 : Int32)))).1 ?_
      refine XS.iload X417.here hx rfl (hb hby at_114) rfl ?_
      exact kont
    obtain ⟨_, _, ⟨T425, L425, k425, n425⟩, -, X425, ⟨Lc425, hQ425, l425, y425, z425⟩, st425⟩ := Jvm.LawKit.callS X417 hx (y := (⟨"com/example/rolegate/rolegate/MethodSetIsMethodNamePinLaw", "tchar", "(C)Z"⟩ : MethodName)) hown (mvT hZ (hw _ (List.mem_of_getElem? (i := 47) rfl))) (mvT hZ (hw _ (List.mem_of_getElem? (i := 48) rfl))) (mvT hZ (hw _ (List.mem_of_getElem? (i := 2) rfl))) (mvT hZ (hw _ (List.mem_of_getElem? (i := 49) rfl))) (by decide) (backOf (W := 0) (rm_tch l Z a0 hw [] r350 T389.heap n0 O404 ) hZ (hw _ (List.mem_of_getElem? (i := 49) rfl)) (hw _ (List.mem_of_getElem? (i := 2) rfl)) (by decide) (by decide)) (g := (mkF m 116 #[iv p0, iv p1, iv p2, iv p3, iv (3 : Int32), iv r336, iv r343, iv r350, rv b356, rv b382, .unset] [(.int r350)])) rfl (by rw [hml]; rfl) (argsL := [(.int r350)]) (rest := []) (lenOf pd_21 rfl) rfl (by show 2 * 0 + _ ≤ _; exact Nat.le_of_eq rfl) (hb hby at_116) (fun _ _ => ⟨rfl, e417, (by decide : 4 + 0 ≤ _), (by decide : 16 + 0 ≤ _)⟩)
    dsimp only [Pt.U, Pt.locs, Pt.cells, Pt.slots] at X425 l425 y425 z425 st425 hQ425
    subst l425 y425 z425
    obtain ⟨r426, rfl, M425, e425, y427, y428⟩ := hQ425
    have N425 := Fr.app N417 M425
    have g429 : Go p e below T425 (mkF m 119 #[iv p0, iv p1, iv p2, iv p3, iv (3 : Int32), iv r336, iv r343, iv r350, rv b356, rv b382, .unset] [(.int r426)]) A0 := fun t kont => g424 t (st425 t kont)
    by_cases c430 : r426 = (0 : Int32)
    ·
      have g431 : Go p e below T425 (mkF m 127 #[iv p0, iv p1, iv p2, iv p3, iv (3 : Int32), iv r336, iv r343, iv r350, rv b356, rv b382, .unset] [(.int (0 : Int32))]) A0 := by
        intro t kont
        refine g429 t ?_
        refine XS.ifYes X425.here hx rfl (pc0 := 119) (pc' := 126) rfl (hb hby at_119) rfl ((if0 _ _).trans (teq c430).1) (by decide) (by decide) ?_
        refine XS.iconst X425.here hx rfl (hb hby at_126) ?_
        exact kont
      exact ⟨(0 : Int32), _, _, X425, e425, N425, g431, (Or.inl rfl), (iff_of_false (by decide) (fun q => own_b0 y428 c430 q.2.2))⟩
    have g432 : Go p e below T425 (mkF m 127 #[iv p0, iv p1, iv p2, iv p3, iv (3 : Int32), iv r336, iv r343, iv r350, rv b356, rv b382, .unset] [(.int (1 : Int32))]) A0 := by
      intro t kont
      refine g429 t ?_
      refine XS.ifNo X425.here hx rfl (hb hby at_119) rfl ((if0 _ _).trans (feq c430).1) ?_
      refine XS.iconst X425.here hx rfl (hb hby at_122) ?_
      refine XS.goto X425.here hx rfl (pc0 := 123) (pc' := 127) rfl (hb hby at_123) (by decide) (by decide) ?_
      exact kont
    exact ⟨(1 : Int32), _, _, X425, e425, N425, g432, (Or.inr rfl), (iff_of_true rfl ⟨own_b1 y411 y412 c414, own_b1 y419 y420 c422, own_b1 y427 y428 c430⟩)⟩
  have g435 : Go p e below T407 (mkF m 131 #[iv p0, iv p1, iv p2, iv p3, iv (3 : Int32), iv r336, iv r343, iv r350, rv b356, rv b382, iv ex] [(.ref b382)]) A0 := by
    intro t kont
    refine g407 t ?_
    refine XS.istore X407.here hx rfl (hb hby at_127) rfl (l' := #[iv p0, iv p1, iv p2, iv p3, iv (3 : Int32), iv r336, iv r343, iv r350, rv b356, rv b382, iv ex]) rfl ?_
    refine XS.aload X407.here hx rfl (hb hby at_129) rfl rfl ?_
    exact kont
  obtain ⟨_, _, ⟨T436, L436, k436, n436⟩, -, X436, hS436, hg436, ⟨Lc436, hQ436, l436, y436, z436, C436⟩, st436⟩ := callSS X407 hx (y := (⟨"com/example/rolegate/rolegate/MethodSet", "isMethodName", "(Ljava/lang/String;)Z"⟩ : MethodName)) hown (mvT hZ (hw _ (List.mem_of_getElem? (i := 27) rfl))) (mvT hZ (hw _ (List.mem_of_getElem? (i := 28) rfl))) (mvT hZ (hw _ (List.mem_of_getElem? (i := 29) rfl))) (mvT hZ (hw _ (List.mem_of_getElem? (i := 30) rfl))) (by decide) (backOfSH (W := 0) (rm_isM3 l Z a0 hw [] b382 r392 r393 i_COMPACT_STRINGS v_SIOOBE_FORMATTER r394 r395 r396 r336 r343 r350 T389.heap n0 O404 S0_ hcs y397 y399 y398 y401 y402 ((own_ccons ⟨y337, y338⟩ (own_ccons ⟨y344, y345⟩ (own_ccons ⟨y351, y352⟩ own_cnil)))) S2_ hfm S4_ S5_ S6_) hZ (hw _ (List.mem_of_getElem? (i := 30) rfl)) (hw _ (List.mem_of_getElem? (i := 29) rfl)) (by decide) (by decide) (own_EW hw) R403.1) (g := (mkF m 131 #[iv p0, iv p1, iv p2, iv p3, iv (3 : Int32), iv r336, iv r343, iv r350, rv b356, rv b382, iv ex] [(.ref b382)])) rfl (by rw [hml]; rfl) (argsL := [(.ref b382)]) (rest := []) (lenOf pd_20 rfl) rfl (by show 2 * 0 + _ ≤ _; exact Nat.le_of_eq rfl) (hb hby at_131) (fun _ _ => ⟨rfl, e407, (by decide : 4 + 6 ≤ _), (by decide : 16 + 192 ≤ _)⟩)
  dsimp only [Pt.U, Pt.locs, Pt.cells, Pt.slots] at X436 l436 y436 z436 st436 hQ436 hS436 hg436 C436
  subst l436 y436 z436
  obtain ⟨X436, hS, hZ, hown⟩ := rebS hS (n1 := T407.heap.size) (by rw [e407]; exact (Nat.le_trans hk (Nat.le_trans (Nat.le_trans (Nat.le_trans (Nat.le_trans (Nat.le_trans E356.1 (Keep.of_wr W362).1) (Keep.of_wr W369).1) (Keep.of_wr W376).1) E382.1) K389.1))) X436 hS436 hg436 hZ hown
  obtain ⟨r437, rfl, M436, K436, y438, y439⟩ := hQ436
  have N436 := Fr.app N407 M436
  have R440 : CHr Z consts_1 s.vm h0 T436.vm T436.heap := R403.trans C436
  have O441 := O404.keep K436 all0
  have g442 : Go p e below T436 (mkF m 134 #[iv p0, iv p1, iv p2, iv p3, iv (3 : Int32), iv r336, iv r343, iv r350, rv b356, rv b382, iv ex] [(.int r437)]) A0 := fun t kont => g435 t (st436.trans kont)
  have g443 : Go p e below T436 (mkF m 144 #[iv p0, iv p1, iv p2, iv p3, iv (3 : Int32), iv r336, iv r343, iv r350, rv b356, rv b382, iv ex] [(.int (1 : Int32))]) A0 := by
    intro t kont
    refine g442 t ?_
    refine XS.iload X436.here hx rfl (hb hby at_134) rfl ?_
    refine XS.icmpNo X436.here hx rfl (hb hby at_136) rfl (teq (own_eqb y438 y439 j433 j434 : r437 = ex)).2 ?_
    refine XS.iconst X436.here hx rfl (hb hby at_139) ?_
    refine XS.goto X436.here hx rfl (pc0 := 140) (pc' := 144) rfl (hb hby at_140) (by decide) (by decide) ?_
    exact kont
  obtain ⟨fs, hr, hrun, hended, hRW⟩ := X436.leaveW hS (Nat.le_refl _) (v := some (.int (1 : Int32))) (fun h => by rw [Bd.returns] at h; cases h)
  refine ⟨_, _, g443 _ (retN X436 hx (t := .boolean) Bd.returns (by simp) (hb hby at_144) hr), hrun, hended, _, _, rfl, ?_, ?_, hRW.1, hRW.2.1, hRW.2.2.1, hRW.2.2.2.mono (by decide) (by decide)⟩
  ·
    show Q_law Z p0 p1 p2 p3 i_COMPACT_STRINGS v_SIOOBE_FORMATTER h0 n0 _ T436.heap _
    exact ⟨rfl, N436⟩
  ·
    rw [hh]
    show CHr Z consts_1 s.vm h0 T436.vm T436.heap
    exact R440.trans (CHv.at X436 hZ (own_EW hw) R440.1)
set_option maxRecDepth 65536 in
set_option maxHeartbeats 40000000 in
theorem comes_1 {Post : Tables → Env → Array Value → State → Outcome → State → Prop} (hpost : ∀ tb e args s v u, (limb_1_1.after args s (.returned v) u = true ∧ limb_1_2.after args s (.returned v) u = true ∧ True) → ReturnedEndW s (.returned v) u (Jvm.fieldLocs frame_1_writes args s ++ Jvm.arrayLocs frame_1_arrays args s ++ Jvm.staticLocs frame_1_statics s) 24 2176 → Post tb e args s (.returned v) u) :
    ArmFor flags0 classFile x code maxLocals ret World_1 tables_1 room_1 Calls_1 rest_1 Pre_1 Post := by
  intro l hfl _ _ p e ha hc hk s m args below hf hA hF happ hP
  obtain ⟨hcalls, hrest, hpre⟩ := hP
  obtain ⟨-, -, -, hnamed, -, -, -, hat⟩ := (Spec.applies_iff hf).mp happ
  obtain ⟨hg, hn⟩ := and_e (Cond.before_iff.mp (show (Jvm.Cond.and given_1 narrow_1).before args s = true from hpre))
  obtain ⟨hcount, hg⟩ := and_e hg
  obtain ⟨ha0, hg⟩ := and_e hg
  obtain ⟨ha1, hg⟩ := and_e hg
  obtain ⟨ha2, hg⟩ := and_e hg
  have ha3 := hg
  obtain ⟨w0, w1, w2, w3, rfl⟩ : ∃ w0 w1 w2 w3 : Value, args = #[w0, w1, w2, w3] := by
    have hs : args.size = 4 := by simpa [Cond.value, given_1] using hcount
    obtain ⟨L⟩ := args
    match L, hs with
    | [w0, w1, w2, w3], _ => exact ⟨w0, w1, w2, w3, rfl⟩
  have hw := fun d (hd : d ∈ tables_1) => atoms_spec (ws := Jvm.Cond.code x code maxLocals ret :: tables_1) hat d (List.mem_cons_of_mem _ hd)
  obtain ⟨hsets, hown0⟩ := atoms_of _ (rest_1_c_eq ▸ (show rest_1_c.before _ s = true from hrest))
  have hfit : Fit s := fun {y c} hc i hi => by
    obtain ⟨ha, rfl⟩ := Array.getElem?_eq_some_iff.mp hc
    have q := List.all_eq_true.mp ((Array.all_eq_true_iff_forall_mem.mp hF) _ (Array.getElem_mem ha)) i (List.mem_range.mpr hi)
    simpa [Array.getElem?_eq_getElem hi] using q
  obtain ⟨p0, ea0⟩ := is_v ha0
  obtain rfl : w0 = (.int p0) := Option.some.inj ea0
  obtain ⟨p1, ea1⟩ := is_v ha1
  obtain rfl : w1 = (.int p1) := Option.some.inj ea1
  obtain ⟨p2, ea2⟩ := is_v ha2
  obtain rfl : w2 = (.int p2) := Option.some.inj ea2
  obtain ⟨p3, ea3⟩ := is_v ha3
  obtain rfl : w3 = (.int p3) := Option.some.inj ea3
  obtain ⟨i_COMPACT_STRINGS, ev_COMPACT_STRINGS⟩ := is_v (Cond.before_iff.mp (hsets _ (List.mem_of_getElem? (i := 1) rfl)))
  obtain ⟨v_SIOOBE_FORMATTER, ev_SIOOBE_FORMATTER, r_SIOOBE_FORMATTER⟩ := isR_v (Cond.before_iff.mp (hsets _ (List.mem_of_getElem? (i := 8) rfl)))
  have ev_StringUTF16__assertionsDisabled := own_eqint (Cond.before_iff.mp (hsets _ (List.mem_of_getElem? (i := 12) rfl)))
  have ev_StringUTF16_HI_BYTE_SHIFT := own_eqint (Cond.before_iff.mp (hsets _ (List.mem_of_getElem? (i := 15) rfl)))
  have ev_StringUTF16_LO_BYTE_SHIFT := own_eqint (Cond.before_iff.mp (hsets _ (List.mem_of_getElem? (i := 18) rfl)))
  have S_COMPACT_STRINGS : Sta s s.heap "java/lang/String" "COMPACT_STRINGS" "Z" (.int i_COMPACT_STRINGS) := Sta.start ev_COMPACT_STRINGS (Or.inl (hsets _ (List.mem_of_getElem? (i := 0) rfl)))
  have S_SIOOBE_FORMATTER : Sta s s.heap "jdk/internal/util/Preconditions" "SIOOBE_FORMATTER" "Ljava/util/function/BiFunction;" v_SIOOBE_FORMATTER := Sta.start ev_SIOOBE_FORMATTER (Or.inl (hsets _ (List.mem_of_getElem? (i := 7) rfl)))
  have S_StringUTF16__assertionsDisabled : Sta s s.heap "java/lang/StringUTF16" "$assertionsDisabled" "Z" (.int (1 : Int32)) := Sta.start ev_StringUTF16__assertionsDisabled (Or.inl (hsets _ (List.mem_of_getElem? (i := 11) rfl)))
  have S_StringUTF16_HI_BYTE_SHIFT : Sta s s.heap "java/lang/StringUTF16" "HI_BYTE_SHIFT" "I" (.int (0 : Int32)) := Sta.start ev_StringUTF16_HI_BYTE_SHIFT (Or.inl (hsets _ (List.mem_of_getElem? (i := 14) rfl)))
  have S_StringUTF16_LO_BYTE_SHIFT : Sta s s.heap "java/lang/StringUTF16" "LO_BYTE_SHIFT" "I" (.int (8 : Int32)) := Sta.start ev_StringUTF16_LO_BYTE_SHIFT (Or.inl (hsets _ (List.mem_of_getElem? (i := 17) rfl)))
  have c_COMPACT_STRINGS : ¬ (i_COMPACT_STRINGS = (0 : Int32)) := gotF (Cond.eq_ints ev_COMPACT_STRINGS (Term.int_eval (0))) (not_v (Cond.before_iff.mp (hsets _ (List.mem_of_getElem? (i := 2) rfl))))
  have hch : CHv s consts_1 s.vm s.heap := CHv.start (own_EW hw) (fun p hp => hcalls.1 p hp) (own_compact hsets) (hw _ (List.mem_of_getElem? (i := 20) rfl)) (hw _ (List.mem_of_getElem? (i := 7) rfl))
  obtain ⟨n, o, h1, h2, h3, _, L, rfl, ⟨rfl, N⟩, -, hq⟩ := rm_law l s _ hw tables_1 p0 p1 p2 p3 i_COMPACT_STRINGS v_SIOOBE_FORMATTER s.heap s.heap.size (Old.start s) S_COMPACT_STRINGS c_COMPACT_STRINGS S_SIOOBE_FORMATTER r_SIOOBE_FORMATTER S_StringUTF16__assertionsDisabled S_StringUTF16_HI_BYTE_SHIFT S_StringUTF16_LO_BYTE_SHIFT p e ha hc hk s m _ below hf ((Spec.applies_iff_loose hf).mp happ).1 ⟨rfl, State.Warmed39.refl s, rfl, hch⟩ trivial
  refine ⟨n, _, h1, h2, h3, hpost _ _ _ _ _ _ ⟨Cond.after_iff.mpr rfl, Cond.after_iff.mpr (eq_i res_at (Term.int_eval (1)) rfl), trivial⟩ ⟨hq.1, hq.2.1, hq.2.2.1, (hq.2.2.2.sift fun y hy => Or.inr (N y hy)).mono (by decide) (by decide)⟩⟩
theorem main_1_1 : Claimed_1_1 := comes_1 fun _ _ _ _ _ _ h hF => ⟨h.1, hF⟩
theorem main_1_2 : Claimed_1_2 := comes_1 fun _ _ _ _ _ _ h hF => ⟨h.2.1, hF⟩
end Jvm.Pilot.@@N@@
namespace Jvm.Pilot.@@N@@
open Jvm Jvm.ClassFile Sem Op Lib Jvm.Free Jvm.Stand Jvm.Pilot.@@N@@.Jvm.D
/-! MADE BY PROGRAM (witnessworld.py) out of the Statement's table words and the real class files: 21 classes; the members and pool entries that the words name. The judged class is class 1, her method 3. -/
namespace start1
open Jvm.ClassFile
def u (s : String) : CpInfo := .utf8 (stringToUtf16 s)
/-- a pool by its gaps: so many unusable entries, then the entry; so many at the end -/
def gap : Nat → List CpInfo → List CpInfo
  | 0, r => r
  | n + 1, r => .unusable :: gap n r
def poolList (es : List (Nat × CpInfo)) (last : Nat) : List CpInfo := es.foldr (fun e r => gap e.1 (e.2 :: r)) (gap last [])
def pool (es : List (Nat × CpInfo)) (last : Nat) : Array CpInfo := ⟨poolList es last⟩
def fileOf (pool : Array CpInfo) (this : Nat) (attrs : Array Attribute := #[]) (ms : Array MethodInfo := #[]) (fl : Nat := 33) (sup : Nat := 0) (ifs : Array Nat := #[]) (fds : Array FieldInfo := #[]) : ClassFile where
  minorVersion := 0
  majorVersion := 65
  constantPool := pool
  accessFlags := fl
  thisClass := this
  superClass := sup
  interfaces := ifs
  fields := fds
  methods := ms
  attributes := attrs
def plain (name : String) (sup : Option ClassId) : Class where
  name := name
  kind := .ordinary
  loader := none
  accessFlags := 33
  super := sup
  interfaces := #[]
  cf := none
  fields := #[]
  methods := #[]
  instanceTypes := #[]
  staticTypes := #[]
  resolved := #[]
  callSites := []
  init := .initialized
  statics := none
  mirror := none

def pool0 : Array CpInfo := pool [(5, u "<init>"), (0, u "()V"), (1, .class_ 10), (1, u "java/lang/Object")] 113

def k0c0 : Code := { maxStack := 0, maxLocals := 1, code := object_method_1_code, exceptionTable := #[], attributes := #[] }
def k0m0 : Method := { name := "<init>", desc := "()V", sig := { parameters := [], returnType := none }, accessFlags := 1, code := some k0c0 }
/-- java/lang/Object -/
def k0 : Class := { plain "java/lang/Object" none with
  accessFlags := 33
  interfaces := #[]
  cf := some (fileOf pool0 8 #[] #[{ accessFlags := 1, nameIndex := 5, descriptorIndex := 6, attributes := #[] }] 33 0 #[] #[])
  fields := #[]
  methods := #[k0m0]
  instanceTypes := #[]
  staticTypes := #[]
  resolved := Array.replicate 124 none
  statics := none }

def pool1 : Array CpInfo := pool [(2, .class_ 4), (1, u "java/lang/Object"), (0, u "<init>"), (0, u "()V"), (0, .integer 65536), (0, .methodref 9 10), (0, .class_ 11), (0, .nameAndType 12 13), (0, u "com/example/rolegate/rolegate/MethodSetIsMethodNamePinLaw"), (0, u "pick"), (0, u "(I)C"), (0, .class_ 15), (0, u "java/lang/String"), (0, .methodref 14 17), (0, .nameAndType 5 18), (0, u "([C)V"), (0, .methodref 9 20), (0, .nameAndType 21 22), (0, u "tchar"), (0, u "(C)Z"), (0, .methodref 24 25), (0, .class_ 26), (0, .nameAndType 27 28), (0, u "com/example/rolegate/rolegate/MethodSet"), (0, u "isMethodName"), (0, u "(Ljava/lang/String;)Z"), (3, u "law"), (0, u "(IIII)Z")] 4

def k1m0 : Method := { name := "<init>", desc := "()V", sig := { parameters := [], returnType := none }, accessFlags := 2, code := none }
def k1c1 : Code := { maxStack := 2, maxLocals := 1, code := method_2_code, exceptionTable := #[], attributes := #[] }
def k1m1 : Method := { name := "pick", desc := "(I)C", sig := { parameters := [.int], returnType := some .char }, accessFlags := 10, code := some k1c1 }
def k1c2 : Code := { maxStack := 2, maxLocals := 1, code := method_3_code, exceptionTable := #[], attributes := #[] }
def k1m2 : Method := { name := "tchar", desc := "(C)Z", sig := { parameters := [.char], returnType := some .boolean }, accessFlags := 10, code := some k1c2 }
def k1c3 : Code := { maxStack := 3, maxLocals := 11, code := code, exceptionTable := #[], attributes := #[] }
def k1m3 : Method := { name := "law", desc := "(IIII)Z", sig := { parameters := [.int, .int, .int, .int], returnType := some .boolean }, accessFlags := 9, code := some k1c3 }
/-- com/example/rolegate/rolegate/MethodSetIsMethodNamePinLaw -/
def k1 : Class := { plain "com/example/rolegate/rolegate/MethodSetIsMethodNamePinLaw" (some 0) with
  accessFlags := 49
  interfaces := #[]
  cf := some (fileOf pool1 9 #[] #[{ accessFlags := 2, nameIndex := 5, descriptorIndex := 6, attributes := #[] }, { accessFlags := 10, nameIndex := 12, descriptorIndex := 13, attributes := #[] }, { accessFlags := 10, nameIndex := 21, descriptorIndex := 22, attributes := #[] }, { accessFlags := 9, nameIndex := 32, descriptorIndex := 33, attributes := #[] }] 49 2 #[] #[])
  fields := #[]
  methods := #[k1m0, k1m1, k1m2, k1m3]
  instanceTypes := #[]
  staticTypes := #[]
  resolved := Array.replicate 38 none
  statics := none }

def pool2 : Array CpInfo := pool [(1, .class_ 2), (0, u "java/io/Serializable"), (0, .class_ 4), (0, u "java/lang/Object")] 2

/-- java/io/Serializable -/
def k2 : Class := { plain "java/io/Serializable" (some 0) with
  accessFlags := 1537
  interfaces := #[]
  cf := some (fileOf pool2 1 #[] #[] 1537 3 #[] #[])
  fields := #[]
  methods := #[]
  instanceTypes := #[]
  staticTypes := #[]
  resolved := Array.replicate 7 none
  statics := none }

def pool3 : Array CpInfo := pool [(1, .class_ 2), (0, u "java/lang/Comparable"), (0, .class_ 4), (0, u "java/lang/Object")] 7

/-- java/lang/Comparable -/
def k3 : Class := { plain "java/lang/Comparable" (some 0) with
  accessFlags := 1537
  interfaces := #[]
  cf := some (fileOf pool3 1 #[] #[] 1537 3 #[] #[])
  fields := #[]
  methods := #[]
  instanceTypes := #[]
  staticTypes := #[]
  resolved := Array.replicate 12 none
  statics := none }

def pool4 : Array CpInfo := pool [(2, .class_ 4), (1, u "java/lang/CharSequence"), (42, .class_ 48), (0, u "java/lang/CharSequence$1CodePointIterator"), (10, .class_ 60), (0, u "java/lang/CharSequence$1CharIterator"), (5, .class_ 67), (0, u "java/lang/Object")] 63

/-- java/lang/CharSequence -/
def k4 : Class := { plain "java/lang/CharSequence" (some 0) with
  accessFlags := 1537
  interfaces := #[]
  cf := some (fileOf pool4 2 #[.nestMembers #[47, 59]] #[] 1537 66 #[] #[])
  fields := #[]
  methods := #[]
  instanceTypes := #[]
  staticTypes := #[]
  resolved := Array.replicate 131 none
  statics := none }

def pool5 : Array CpInfo := pool [(1, .class_ 2), (0, u "java/lang/constant/Constable"), (0, .class_ 4), (0, u "java/lang/Object")] 6

/-- java/lang/constant/Constable -/
def k5 : Class := { plain "java/lang/constant/Constable" (some 0) with
  accessFlags := 1537
  interfaces := #[]
  cf := some (fileOf pool5 1 #[] #[] 1537 3 #[] #[])
  fields := #[]
  methods := #[]
  instanceTypes := #[]
  staticTypes := #[]
  resolved := Array.replicate 11 none
  statics := none }

def pool6 : Array CpInfo := pool [(1, .class_ 2), (0, u "java/lang/constant/ConstantDesc"), (0, .class_ 4), (0, u "java/lang/Object")] 32

/-- java/lang/constant/ConstantDesc -/
def k6 : Class := { plain "java/lang/constant/ConstantDesc" (some 0) with
  accessFlags := 1537
  interfaces := #[]
  cf := some (fileOf pool6 1 #[] #[] 1537 3 #[] #[])
  fields := #[]
  methods := #[]
  instanceTypes := #[]
  staticTypes := #[]
  resolved := Array.replicate 37 none
  statics := none }

def pool7 : Array CpInfo := pool [(1, .methodref 2 3), (0, .class_ 4), (0, .nameAndType 5 6), (0, u "java/lang/Object"), (0, u "<init>"), (0, u "()V"), (0, .string 8), (0, u ""), (0, .fieldref 10 11), (0, .class_ 12), (0, .nameAndType 13 14), (0, u "java/lang/String"), (0, u "value"), (0, u "[B"), (0, .fieldref 10 16), (0, .nameAndType 17 18), (0, u "coder"), (0, u "B"), (2, u "hash"), (0, u "I"), (2, u "hashIsZero"), (0, u "Z"), (0, .methodref 10 28), (0, .nameAndType 5 29), (0, u "([CIILjava/lang/Void;)V"), (8, .fieldref 10 39), (0, .nameAndType 40 26), (0, u "COMPACT_STRINGS"), (1, .class_ 44), (1, u "java/lang/StringUTF16"), (0, u "compress"), (1, .methodref 42 48), (0, .nameAndType 49 50), (0, u "coderFromArrayLen"), (0, u "([BI)B"), (56, .class_ 109), (1, u "java/lang/StringLatin1"), (32, u "()Z"), (34, .methodref 42 178), (0, .nameAndType 45 179), (0, u "([CII)[B"), (154, u "()I"), (0, .methodref 10 336), (0, .nameAndType 17 337), (0, u "()B"), (25, u "([BI)C"), (27, u "(II)V"), (35, u "(I)C"), (64, .methodref 10 493), (0, .nameAndType 494 142), (0, u "isLatin1"), (0, .methodref 107 496), (0, .nameAndType 497 363), (0, u "charAt"), (0, .methodref 42 496), (2, u "checkIndex"), (3, .methodref 10 506), (0, .nameAndType 507 334), (0, u "length"), (67, .class_ 576), (0, u "java/lang/CharSequence"), (22, u "CASE_INSENSITIVE_ORDER"), (0, u "Ljava/util/Comparator;"), (32, .methodref 10 634), (0, .nameAndType 635 636), (0, u "indexOf"), (0, u "(II)I"), (0, .methodref 107 638), (0, .nameAndType 635 639), (0, u "([BIII)I"), (52, u "isEmpty"), (72, u "(I)I"), (244, u "([C)V"), (42, .fieldref 1054 1055), (0, .class_ 1056), (0, .nameAndType 1057 1058), (0, u "jdk/internal/util/Preconditions"), (0, u "SIOOBE_FORMATTER"), (0, u "Ljava/util/function/BiFunction;"), (0, .methodref 1054 1060), (0, .nameAndType 501 1061), (0, u "(IILjava/util/function/BiFunction;)I"), (39, u "serialPersistentFields"), (0, u "[Ljava/io/ObjectStreamField;"), (0, .class_ 1104), (0, u "java/lang/String$CaseInsensitiveComparator"), (1, .class_ 1107), (0, u "java/io/Serializable"), (0, .class_ 1109), (0, u "java/lang/Comparable"), (0, .class_ 1111), (0, u "java/lang/constant/Constable"), (0, .class_ 1113), (0, u "java/lang/constant/ConstantDesc"), (2, u "serialVersionUID"), (0, u "J"), (3, u "REPL"), (0, u "C"), (2, u "LATIN1"), (1, u "UTF16")] 323

def k7m0 : Method := { name := "<init>", desc := "()V", sig := { parameters := [], returnType := none }, accessFlags := 1, code := none }
def k7c1 : Code := { maxStack := 5, maxLocals := 2, code := jdk_42_method_3_code, exceptionTable := #[], attributes := #[] }
def k7m1 : Method := { name := "<init>", desc := "([C)V", sig := { parameters := [(.array .char)], returnType := none }, accessFlags := 1, code := some k7c1 }
def k7c2 : Code := { maxStack := 2, maxLocals := 1, code := jdk_42_method_54_code, exceptionTable := #[], attributes := #[] }
def k7m2 : Method := { name := "length", desc := "()I", sig := { parameters := [], returnType := some .int }, accessFlags := 1, code := some k7c2 }
def k7c3 : Code := { maxStack := 1, maxLocals := 1, code := jdk_42_method_55_code, exceptionTable := #[], attributes := #[] }
def k7m3 : Method := { name := "isEmpty", desc := "()Z", sig := { parameters := [], returnType := some .boolean }, accessFlags := 1, code := some k7c3 }
def k7c4 : Code := { maxStack := 2, maxLocals := 2, code := jdk_42_method_56_code, exceptionTable := #[], attributes := #[] }
def k7m4 : Method := { name := "charAt", desc := "(I)C", sig := { parameters := [.int], returnType := some .char }, accessFlags := 1, code := some k7c4 }
def k7c5 : Code := { maxStack := 3, maxLocals := 2, code := jdk_42_method_79_code, exceptionTable := #[], attributes := #[] }
def k7m5 : Method := { name := "indexOf", desc := "(I)I", sig := { parameters := [.int], returnType := some .int }, accessFlags := 1, code := some k7c5 }
def k7c6 : Code := { maxStack := 4, maxLocals := 3, code := jdk_42_method_80_code, exceptionTable := #[], attributes := #[] }
def k7m6 : Method := { name := "indexOf", desc := "(II)I", sig := { parameters := [.int, .int], returnType := some .int }, accessFlags := 1, code := some k7c6 }
def k7c7 : Code := { maxStack := 4, maxLocals := 6, code := jdk_42_method_149_code, exceptionTable := #[], attributes := #[] }
def k7m7 : Method := { name := "<init>", desc := "([CIILjava/lang/Void;)V", sig := { parameters := [(.array .char), .int, .int, (.object "java/lang/Void")], returnType := none }, accessFlags := 2, code := some k7c7 }
def k7c8 : Code := { maxStack := 1, maxLocals := 1, code := jdk_42_method_152_code, exceptionTable := #[], attributes := #[] }
def k7m8 : Method := { name := "coder", desc := "()B", sig := { parameters := [], returnType := some .byte }, accessFlags := 0, code := some k7c8 }
def k7c9 : Code := { maxStack := 1, maxLocals := 1, code := jdk_42_method_154_code, exceptionTable := #[], attributes := #[] }
def k7m9 : Method := { name := "isLatin1", desc := "()Z", sig := { parameters := [], returnType := some .boolean }, accessFlags := 0, code := some k7c9 }
def k7c10 : Code := { maxStack := 3, maxLocals := 2, code := jdk_42_method_155_code, exceptionTable := #[], attributes := #[] }
def k7m10 : Method := { name := "checkIndex", desc := "(II)V", sig := { parameters := [.int, .int], returnType := none }, accessFlags := 8, code := some k7c10 }
/-- java/lang/String -/
def k7 : Class := { plain "java/lang/String" (some 0) with
  accessFlags := 49
  interfaces := #[2, 3, 4, 5, 6]
  cf := some (fileOf pool7 10 #[.nestMembers #[1103]] #[{ accessFlags := 1, nameIndex := 5, descriptorIndex := 6, attributes := #[] }, { accessFlags := 1, nameIndex := 5, descriptorIndex := 1010, attributes := #[] }, { accessFlags := 1, nameIndex := 507, descriptorIndex := 334, attributes := #[] }, { accessFlags := 1, nameIndex := 692, descriptorIndex := 142, attributes := #[] }, { accessFlags := 1, nameIndex := 497, descriptorIndex := 427, attributes := #[] }, { accessFlags := 1, nameIndex := 635, descriptorIndex := 765, attributes := #[] }, { accessFlags := 1, nameIndex := 635, descriptorIndex := 636, attributes := #[] }, { accessFlags := 2, nameIndex := 5, descriptorIndex := 29, attributes := #[] }, { accessFlags := 0, nameIndex := 17, descriptorIndex := 337, attributes := #[] }, { accessFlags := 0, nameIndex := 494, descriptorIndex := 142, attributes := #[] }, { accessFlags := 8, nameIndex := 501, descriptorIndex := 391, attributes := #[] }] 49 2 #[1106, 1108, 575, 1110, 1112] #[{ accessFlags := 18, nameIndex := 13, descriptorIndex := 14, attributes := #[] }, { accessFlags := 18, nameIndex := 17, descriptorIndex := 18, attributes := #[] }, { accessFlags := 2, nameIndex := 21, descriptorIndex := 22, attributes := #[] }, { accessFlags := 2, nameIndex := 25, descriptorIndex := 26, attributes := #[] }, { accessFlags := 26, nameIndex := 1116, descriptorIndex := 1117, attributes := #[] }, { accessFlags := 24, nameIndex := 40, descriptorIndex := 26, attributes := #[] }, { accessFlags := 26, nameIndex := 1101, descriptorIndex := 1102, attributes := #[] }, { accessFlags := 26, nameIndex := 1121, descriptorIndex := 1122, attributes := #[] }, { accessFlags := 25, nameIndex := 599, descriptorIndex := 600, attributes := #[] }, { accessFlags := 24, nameIndex := 1125, descriptorIndex := 18, attributes := #[] }, { accessFlags := 24, nameIndex := 1127, descriptorIndex := 18, attributes := #[] }])
  fields := #[{ name := "value", type := (.array .byte), accessFlags := 18, slot := 0, constantValue := 0 }, { name := "coder", type := .byte, accessFlags := 18, slot := 1, constantValue := 0 }, { name := "hash", type := .int, accessFlags := 2, slot := 2, constantValue := 0 }, { name := "hashIsZero", type := .boolean, accessFlags := 2, slot := 3, constantValue := 0 }, { name := "serialVersionUID", type := .long, accessFlags := 26, slot := 0, constantValue := 0 }, { name := "COMPACT_STRINGS", type := .boolean, accessFlags := 24, slot := 1, constantValue := 0 }, { name := "serialPersistentFields", type := (.array (.object "java/io/ObjectStreamField")), accessFlags := 26, slot := 2, constantValue := 0 }, { name := "REPL", type := .char, accessFlags := 26, slot := 3, constantValue := 0 }, { name := "CASE_INSENSITIVE_ORDER", type := (.object "java/util/Comparator"), accessFlags := 25, slot := 4, constantValue := 0 }, { name := "LATIN1", type := .byte, accessFlags := 24, slot := 5, constantValue := 0 }, { name := "UTF16", type := .byte, accessFlags := 24, slot := 6, constantValue := 0 }]
  methods := #[k7m0, k7m1, k7m2, k7m3, k7m4, k7m5, k7m6, k7m7, k7m8, k7m9, k7m10]
  instanceTypes := #[(.array .byte), .byte, .int, .boolean]
  staticTypes := #[.long, .boolean, (.array (.object "java/io/ObjectStreamField")), .char, (.object "java/util/Comparator"), .byte, .byte]
  resolved := Array.replicate 1451 none
  statics := some 0 }

def pool8 : Array CpInfo := pool [(2, .class_ 4), (1, u "java/lang/Object"), (3, .class_ 10), (1, u "com/example/rolegate/rolegate/MethodSet"), (0, u "omission"), (0, u "Z"), (13, u "methods"), (0, u "Ljava/util/SortedSet;"), (6, .class_ 36), (1, u "java/lang/String"), (4, u "ALL"), (0, u "Lcom/example/rolegate/rolegate/MethodSet;"), (5, u "(Ljava/lang/String;)Z"), (35, u "()Z"), (6, u "isMethodName"), (9, .methodref 34 102), (0, .nameAndType 103 84), (0, u "isEmpty"), (0, .methodref 34 105), (0, .nameAndType 106 107), (0, u "length"), (0, u "()I"), (0, .methodref 34 109), (0, .nameAndType 110 111), (0, u "charAt"), (0, u "(I)C"), (0, .string 113), (0, u "!#$%&'*+-.^_`|~"), (0, .methodref 34 115), (0, .nameAndType 116 117), (0, u "indexOf"), (0, u "(I)I"), (40, u "NONE"), (0, u "TOKEN_SYMBOLS"), (0, u "Ljava/lang/String;")] 36

def k8c0 : Code := { maxStack := 2, maxLocals := 4, code := prog_16_method_6_code, exceptionTable := #[], attributes := #[] }
def k8m0 : Method := { name := "isMethodName", desc := "(Ljava/lang/String;)Z", sig := { parameters := [(.object "java/lang/String")], returnType := some .boolean }, accessFlags := 8, code := some k8c0 }
/-- com/example/rolegate/rolegate/MethodSet -/
def k8 : Class := { plain "com/example/rolegate/rolegate/MethodSet" (some 0) with
  accessFlags := 48
  interfaces := #[]
  cf := some (fileOf pool8 8 #[] #[{ accessFlags := 8, nameIndex := 91, descriptorIndex := 48, attributes := #[] }] 48 2 #[] #[{ accessFlags := 24, nameIndex := 41, descriptorIndex := 42, attributes := #[] }, { accessFlags := 24, nameIndex := 158, descriptorIndex := 42, attributes := #[] }, { accessFlags := 26, nameIndex := 159, descriptorIndex := 160, attributes := #[] }, { accessFlags := 18, nameIndex := 11, descriptorIndex := 12, attributes := #[] }, { accessFlags := 18, nameIndex := 26, descriptorIndex := 27, attributes := #[] }])
  fields := #[{ name := "ALL", type := (.object "com/example/rolegate/rolegate/MethodSet"), accessFlags := 24, slot := 0, constantValue := 0 }, { name := "NONE", type := (.object "com/example/rolegate/rolegate/MethodSet"), accessFlags := 24, slot := 1, constantValue := 0 }, { name := "TOKEN_SYMBOLS", type := (.object "java/lang/String"), accessFlags := 26, slot := 2, constantValue := 0 }, { name := "omission", type := .boolean, accessFlags := 18, slot := 0, constantValue := 0 }, { name := "methods", type := (.object "java/util/SortedSet"), accessFlags := 18, slot := 1, constantValue := 0 }]
  methods := #[k8m0]
  instanceTypes := #[.boolean, (.object "java/util/SortedSet")]
  staticTypes := #[(.object "com/example/rolegate/rolegate/MethodSet"), (.object "com/example/rolegate/rolegate/MethodSet"), (.object "java/lang/String")]
  resolved := Array.replicate 197 none
  statics := none }

def pool9 : Array CpInfo := pool [(3, .class_ 4), (0, u "java/lang/String"), (1, .class_ 8), (1, u "java/lang/Object"), (0, u "<init>"), (0, u "()V"), (0, .methodref 12 13), (0, .class_ 14), (0, .nameAndType 15 16), (0, u "java/lang/StringUTF16"), (0, u "newBytesLength"), (0, u "(I)I"), (3, .integer 1073741823), (23, .fieldref 12 45), (0, .nameAndType 46 47), (0, u "$assertionsDisabled"), (0, u "Z"), (0, .methodref 12 49), (0, .nameAndType 50 51), (0, u "length"), (0, u "([B)I"), (7, .fieldref 12 60), (0, .nameAndType 61 62), (0, u "HI_BYTE_SHIFT"), (0, u "I"), (0, .fieldref 12 64), (0, .nameAndType 65 62), (0, u "LO_BYTE_SHIFT"), (1, .methodref 12 68), (0, .nameAndType 69 70), (0, u "checkIndex"), (0, u "(I[B)V"), (0, .methodref 12 72), (0, .nameAndType 73 74), (0, u "getChar"), (0, u "([BI)C"), (32, .methodref 12 108), (0, .nameAndType 109 110), (0, u "newBytesFor"), (0, u "(I)[B"), (0, .methodref 12 112), (0, .nameAndType 113 114), (0, u "putChar"), (0, u "([BII)V"), (0, .methodref 12 116), (0, .nameAndType 117 118), (0, u "compress"), (0, u "([CI[BII)I"), (0, .methodref 12 120), (0, .nameAndType 121 122), (0, u "toBytes"), (0, u "([CII)[B"), (138, u "coderFromArrayLen"), (0, u "([BI)B"), (106, .class_ 371), (1, u "java/lang/StringUTF16$LinesSpliterator"), (20, u "charAt"), (21, .methodref 3 415), (0, .nameAndType 69 416), (0, u "(II)V"), (13, u "MAX_LENGTH"), (196, .class_ 628), (0, u "java/lang/StringUTF16$CodePointsSpliterator"), (0, .class_ 630), (0, u "java/lang/StringUTF16$CharsSpliterator")] 4

def k9m0 : Method := { name := "<init>", desc := "()V", sig := { parameters := [], returnType := none }, accessFlags := 0, code := none }
def k9c1 : Code := { maxStack := 1, maxLocals := 1, code := jdk_52_method_2_code, exceptionTable := #[], attributes := #[] }
def k9m1 : Method := { name := "newBytesFor", desc := "(I)[B", sig := { parameters := [.int], returnType := some (.array .byte) }, accessFlags := 9, code := some k9c1 }
def k9c2 : Code := { maxStack := 4, maxLocals := 1, code := jdk_52_method_3_code, exceptionTable := #[], attributes := #[] }
def k9m2 : Method := { name := "newBytesLength", desc := "(I)I", sig := { parameters := [.int], returnType := some .int }, accessFlags := 9, code := some k9c2 }
def k9c3 : Code := { maxStack := 4, maxLocals := 3, code := jdk_52_method_4_code, exceptionTable := #[], attributes := #[] }
def k9m3 : Method := { name := "putChar", desc := "([BII)V", sig := { parameters := [(.array .byte), .int, .int], returnType := none }, accessFlags := 8, code := some k9c3 }
def k9c4 : Code := { maxStack := 3, maxLocals := 2, code := jdk_52_method_5_code, exceptionTable := #[], attributes := #[] }
def k9m4 : Method := { name := "getChar", desc := "([BI)C", sig := { parameters := [(.array .byte), .int], returnType := some .char }, accessFlags := 8, code := some k9c4 }
def k9c5 : Code := { maxStack := 2, maxLocals := 1, code := jdk_52_method_6_code, exceptionTable := #[], attributes := #[] }
def k9m5 : Method := { name := "length", desc := "([B)I", sig := { parameters := [(.array .byte)], returnType := some .int }, accessFlags := 9, code := some k9c5 }
def k9c6 : Code := { maxStack := 4, maxLocals := 5, code := jdk_52_method_14_code, exceptionTable := #[], attributes := #[] }
def k9m6 : Method := { name := "toBytes", desc := "([CII)[B", sig := { parameters := [(.array .char), .int, .int], returnType := some (.array .byte) }, accessFlags := 9, code := some k9c6 }
def k9c7 : Code := { maxStack := 2, maxLocals := 2, code := jdk_52_method_15_code, exceptionTable := #[], attributes := #[] }
def k9m7 : Method := { name := "coderFromArrayLen", desc := "([BI)B", sig := { parameters := [(.array .byte), .int], returnType := some .byte }, accessFlags := 8, code := some k9c7 }
def k9c8 : Code := { maxStack := 5, maxLocals := 6, code := jdk_52_method_16_code, exceptionTable := #[], attributes := #[] }
def k9m8 : Method := { name := "compress", desc := "([CII)[B", sig := { parameters := [(.array .char), .int, .int], returnType := some (.array .byte) }, accessFlags := 9, code := some k9c8 }
def k9c9 : Code := { maxStack := 3, maxLocals := 7, code := jdk_52_method_21_code, exceptionTable := #[], attributes := #[] }
def k9m9 : Method := { name := "compress", desc := "([CI[BII)I", sig := { parameters := [(.array .char), .int, (.array .byte), .int, .int], returnType := some .int }, accessFlags := 9, code := some k9c9 }
def k9c10 : Code := { maxStack := 2, maxLocals := 2, code := jdk_52_method_83_code, exceptionTable := #[], attributes := #[] }
def k9m10 : Method := { name := "charAt", desc := "([BI)C", sig := { parameters := [(.array .byte), .int], returnType := some .char }, accessFlags := 9, code := some k9c10 }
def k9c11 : Code := { maxStack := 2, maxLocals := 2, code := jdk_52_method_91_code, exceptionTable := #[], attributes := #[] }
def k9m11 : Method := { name := "checkIndex", desc := "(I[B)V", sig := { parameters := [.int, (.array .byte)], returnType := none }, accessFlags := 9, code := some k9c11 }
/-- java/lang/StringUTF16 -/
def k9 : Class := { plain "java/lang/StringUTF16" (some 0) with
  accessFlags := 48
  interfaces := #[]
  cf := some (fileOf pool9 12 #[.nestMembers #[627, 629, 369]] #[{ accessFlags := 0, nameIndex := 9, descriptorIndex := 10, attributes := #[] }, { accessFlags := 9, nameIndex := 109, descriptorIndex := 110, attributes := #[] }, { accessFlags := 9, nameIndex := 15, descriptorIndex := 16, attributes := #[] }, { accessFlags := 8, nameIndex := 113, descriptorIndex := 114, attributes := #[] }, { accessFlags := 8, nameIndex := 73, descriptorIndex := 74, attributes := #[] }, { accessFlags := 9, nameIndex := 50, descriptorIndex := 51, attributes := #[] }, { accessFlags := 9, nameIndex := 121, descriptorIndex := 122, attributes := #[] }, { accessFlags := 8, nameIndex := 261, descriptorIndex := 262, attributes := #[] }, { accessFlags := 9, nameIndex := 117, descriptorIndex := 122, attributes := #[] }, { accessFlags := 9, nameIndex := 117, descriptorIndex := 118, attributes := #[] }, { accessFlags := 9, nameIndex := 392, descriptorIndex := 74, attributes := #[] }, { accessFlags := 9, nameIndex := 69, descriptorIndex := 70, attributes := #[] }] 48 6 #[] #[{ accessFlags := 26, nameIndex := 61, descriptorIndex := 62, attributes := #[] }, { accessFlags := 26, nameIndex := 65, descriptorIndex := 62, attributes := #[] }, { accessFlags := 24, nameIndex := 430, descriptorIndex := 62, attributes := #[] }, { accessFlags := 4120, nameIndex := 46, descriptorIndex := 47, attributes := #[] }])
  fields := #[{ name := "HI_BYTE_SHIFT", type := .int, accessFlags := 26, slot := 0, constantValue := 0 }, { name := "LO_BYTE_SHIFT", type := .int, accessFlags := 26, slot := 1, constantValue := 0 }, { name := "MAX_LENGTH", type := .int, accessFlags := 24, slot := 2, constantValue := 0 }, { name := "$assertionsDisabled", type := .boolean, accessFlags := 4120, slot := 3, constantValue := 0 }]
  methods := #[k9m0, k9m1, k9m2, k9m3, k9m4, k9m5, k9m6, k9m7, k9m8, k9m9, k9m10, k9m11]
  instanceTypes := #[]
  staticTypes := #[.int, .int, .int, .boolean]
  resolved := Array.replicate 635 none
  statics := some 1 }

def pool10 : Array CpInfo := pool [(1, .class_ 2), (0, u "java/lang/String"), (1, .class_ 6), (1, u "java/lang/Object"), (0, u "<init>"), (0, u "()V"), (0, .methodref 1 10), (0, .nameAndType 11 12), (0, u "checkIndex"), (0, u "(II)V"), (1, .class_ 16), (1, u "java/lang/StringLatin1"), (21, .methodref 39 40), (0, .class_ 41), (0, .nameAndType 42 43), (0, u "java/lang/Math"), (0, u "min"), (0, u "(II)I"), (9, u "([BI)C"), (34, .methodref 14 89), (0, .nameAndType 90 91), (0, u "canEncode"), (0, u "(I)Z"), (0, .methodref 39 93), (0, .nameAndType 94 43), (0, u "max"), (0, .methodref 14 96), (0, .nameAndType 97 98), (0, u "indexOfChar"), (0, u "([BIII)I"), (2, u "indexOf"), (19, u "$assertionsDisabled"), (0, u "Z"), (98, .class_ 223), (1, u "java/lang/StringLatin1$LinesSpliterator"), (28, u "charAt"), (137, .class_ 391), (0, u "java/lang/StringLatin1$CharsSpliterator")] 3

def k10m0 : Method := { name := "<init>", desc := "()V", sig := { parameters := [], returnType := none }, accessFlags := 0, code := none }
def k10c1 : Code := { maxStack := 2, maxLocals := 2, code := jdk_43_method_2_code, exceptionTable := #[], attributes := #[] }
def k10m1 : Method := { name := "charAt", desc := "([BI)C", sig := { parameters := [(.array .byte), .int], returnType := some .char }, accessFlags := 9, code := some k10c1 }
def k10c2 : Code := { maxStack := 2, maxLocals := 1, code := jdk_43_method_4_code, exceptionTable := #[], attributes := #[] }
def k10m2 : Method := { name := "canEncode", desc := "(I)Z", sig := { parameters := [.int], returnType := some .boolean }, accessFlags := 9, code := some k10c2 }
def k10c3 : Code := { maxStack := 4, maxLocals := 4, code := jdk_43_method_22_code, exceptionTable := #[], attributes := #[] }
def k10m3 : Method := { name := "indexOf", desc := "([BIII)I", sig := { parameters := [(.array .byte), .int, .int, .int], returnType := some .int }, accessFlags := 9, code := some k10c3 }
def k10c4 : Code := { maxStack := 2, maxLocals := 6, code := jdk_43_method_23_code, exceptionTable := #[], attributes := #[] }
def k10m4 : Method := { name := "indexOfChar", desc := "([BIII)I", sig := { parameters := [(.array .byte), .int, .int, .int], returnType := some .int }, accessFlags := 10, code := some k10c4 }
/-- java/lang/StringLatin1 -/
def k10 : Class := { plain "java/lang/StringLatin1" (some 0) with
  accessFlags := 48
  interfaces := #[]
  cf := some (fileOf pool10 14 #[.nestMembers #[390, 221]] #[{ accessFlags := 0, nameIndex := 7, descriptorIndex := 8, attributes := #[] }, { accessFlags := 9, nameIndex := 252, descriptorIndex := 53, attributes := #[] }, { accessFlags := 9, nameIndex := 90, descriptorIndex := 91, attributes := #[] }, { accessFlags := 9, nameIndex := 101, descriptorIndex := 98, attributes := #[] }, { accessFlags := 10, nameIndex := 97, descriptorIndex := 98, attributes := #[] }] 48 4 #[] #[{ accessFlags := 4120, nameIndex := 121, descriptorIndex := 122, attributes := #[] }])
  fields := #[{ name := "$assertionsDisabled", type := .boolean, accessFlags := 4120, slot := 0, constantValue := 0 }]
  methods := #[k10m0, k10m1, k10m2, k10m3, k10m4]
  instanceTypes := #[]
  staticTypes := #[.boolean]
  resolved := Array.replicate 395 none
  statics := none }

def pool11 : Array CpInfo := pool [(2, .class_ 4), (1, u "java/lang/Object"), (0, u "<init>"), (0, u "()V"), (17, .class_ 26), (1, u "jdk/internal/util/Preconditions"), (6, u "checkIndex"), (21, .class_ 56), (0, u "jdk/internal/util/Preconditions$4"), (57, .class_ 115), (0, u "jdk/internal/util/Preconditions$1"), (7, u "SIOOBE_FORMATTER"), (0, u "Ljava/util/function/BiFunction;"), (0, .class_ 126), (0, u "jdk/internal/util/Preconditions$2"), (3, u "AIOOBE_FORMATTER"), (0, .class_ 132), (0, u "jdk/internal/util/Preconditions$3"), (3, u "IOOBE_FORMATTER"), (41, u "(IILjava/util/function/BiFunction;)I")] 15

def k11m0 : Method := { name := "<init>", desc := "()V", sig := { parameters := [], returnType := none }, accessFlags := 1, code := none }
def k11c1 : Code := { maxStack := 3, maxLocals := 3, code := jdk_41_method_11_code, exceptionTable := #[], attributes := #[] }
def k11m1 : Method := { name := "checkIndex", desc := "(IILjava/util/function/BiFunction;)I", sig := { parameters := [.int, .int, (.object "java/util/function/BiFunction")], returnType := some .int }, accessFlags := 9, code := some k11c1 }
/-- jdk/internal/util/Preconditions -/
def k11 : Class := { plain "jdk/internal/util/Preconditions" (some 0) with
  accessFlags := 33
  interfaces := #[]
  cf := some (fileOf pool11 24 #[.nestMembers #[55, 131, 125, 114]] #[{ accessFlags := 1, nameIndex := 5, descriptorIndex := 6, attributes := #[] }, { accessFlags := 9, nameIndex := 33, descriptorIndex := 178, attributes := #[] }] 33 2 #[] #[{ accessFlags := 25, nameIndex := 123, descriptorIndex := 124, attributes := #[] }, { accessFlags := 25, nameIndex := 130, descriptorIndex := 124, attributes := #[] }, { accessFlags := 25, nameIndex := 136, descriptorIndex := 124, attributes := #[] }])
  fields := #[{ name := "SIOOBE_FORMATTER", type := (.object "java/util/function/BiFunction"), accessFlags := 25, slot := 0, constantValue := 0 }, { name := "AIOOBE_FORMATTER", type := (.object "java/util/function/BiFunction"), accessFlags := 25, slot := 1, constantValue := 0 }, { name := "IOOBE_FORMATTER", type := (.object "java/util/function/BiFunction"), accessFlags := 25, slot := 2, constantValue := 0 }]
  methods := #[k11m0, k11m1]
  instanceTypes := #[]
  staticTypes := #[(.object "java/util/function/BiFunction"), (.object "java/util/function/BiFunction"), (.object "java/util/function/BiFunction")]
  resolved := Array.replicate 194 none
  statics := some 2 }

def pool12 : Array CpInfo := pool [(1, .class_ 2), (0, u "java/lang/Math"), (1, .class_ 6), (1, u "java/lang/Object"), (0, u "<init>"), (0, u "()V"), (89, .class_ 100), (1, u "java/lang/Math$RandomNumberGeneratorHolder"), (71, u "negativeZeroFloatBits"), (0, u "J"), (2, u "negativeZeroDoubleBits"), (21, u "max"), (2, u "min"), (43, u "$assertionsDisabled"), (0, u "Z"), (88, u "(II)I"), (2, u "twoToTheDoubleScaleDown"), (0, u "D"), (4, u "twoToTheDoubleScaleUp"), (9, u "E"), (3, u "PI"), (2, u "TAU"), (2, u "DEGREES_TO_RADIANS"), (0, u "RADIANS_TO_DEGREES")] 94

def k12m0 : Method := { name := "<init>", desc := "()V", sig := { parameters := [], returnType := none }, accessFlags := 2, code := none }
def k12c1 : Code := { maxStack := 2, maxLocals := 2, code := jdk_29_method_65_code, exceptionTable := #[], attributes := #[] }
def k12m1 : Method := { name := "max", desc := "(II)I", sig := { parameters := [.int, .int], returnType := some .int }, accessFlags := 9, code := some k12c1 }
def k12c2 : Code := { maxStack := 2, maxLocals := 2, code := jdk_29_method_69_code, exceptionTable := #[], attributes := #[] }
def k12m2 : Method := { name := "min", desc := "(II)I", sig := { parameters := [.int, .int], returnType := some .int }, accessFlags := 9, code := some k12c2 }
/-- java/lang/Math -/
def k12 : Class := { plain "java/lang/Math" (some 0) with
  accessFlags := 49
  interfaces := #[]
  cf := some (fileOf pool12 1 #[.nestMembers #[98]] #[{ accessFlags := 2, nameIndex := 7, descriptorIndex := 8, attributes := #[] }, { accessFlags := 9, nameIndex := 198, descriptorIndex := 335, attributes := #[] }, { accessFlags := 9, nameIndex := 201, descriptorIndex := 335, attributes := #[] }] 49 4 #[] #[{ accessFlags := 25, nameIndex := 354, descriptorIndex := 339, attributes := #[] }, { accessFlags := 25, nameIndex := 358, descriptorIndex := 339, attributes := #[] }, { accessFlags := 25, nameIndex := 361, descriptorIndex := 339, attributes := #[] }, { accessFlags := 26, nameIndex := 364, descriptorIndex := 339, attributes := #[] }, { accessFlags := 26, nameIndex := 365, descriptorIndex := 339, attributes := #[] }, { accessFlags := 26, nameIndex := 172, descriptorIndex := 173, attributes := #[] }, { accessFlags := 26, nameIndex := 176, descriptorIndex := 173, attributes := #[] }, { accessFlags := 8, nameIndex := 344, descriptorIndex := 339, attributes := #[] }, { accessFlags := 8, nameIndex := 338, descriptorIndex := 339, attributes := #[] }, { accessFlags := 4120, nameIndex := 245, descriptorIndex := 246, attributes := #[] }])
  fields := #[{ name := "E", type := .double, accessFlags := 25, slot := 0, constantValue := 0 }, { name := "PI", type := .double, accessFlags := 25, slot := 1, constantValue := 0 }, { name := "TAU", type := .double, accessFlags := 25, slot := 2, constantValue := 0 }, { name := "DEGREES_TO_RADIANS", type := .double, accessFlags := 26, slot := 3, constantValue := 0 }, { name := "RADIANS_TO_DEGREES", type := .double, accessFlags := 26, slot := 4, constantValue := 0 }, { name := "negativeZeroFloatBits", type := .long, accessFlags := 26, slot := 5, constantValue := 0 }, { name := "negativeZeroDoubleBits", type := .long, accessFlags := 26, slot := 6, constantValue := 0 }, { name := "twoToTheDoubleScaleUp", type := .double, accessFlags := 8, slot := 7, constantValue := 0 }, { name := "twoToTheDoubleScaleDown", type := .double, accessFlags := 8, slot := 8, constantValue := 0 }, { name := "$assertionsDisabled", type := .boolean, accessFlags := 4120, slot := 9, constantValue := 0 }]
  methods := #[k12m0, k12m1, k12m2]
  instanceTypes := #[]
  staticTypes := #[.double, .double, .double, .double, .double, .long, .long, .double, .double, .boolean]
  resolved := Array.replicate 460 none
  statics := none }

def pool13 : Array CpInfo := pool [(9, u "<init>"), (6, .class_ 18), (1, u "java/lang/Object"), (0, u "()V"), (1, .class_ 23), (1, u "jdk/internal/util/ArraysSupport"), (0, u "LOG2_ARRAY_LONG_INDEX_SCALE"), (0, u "I"), (2, u "U"), (0, u "Ljdk/internal/misc/Unsafe;"), (8, u "BIG_ENDIAN"), (0, u "Z"), (8, u "LOG2_BYTE_BIT_SIZE"), (4, u "LOG2_ARRAY_INT_INDEX_SCALE"), (54, u "JLA"), (0, u "Ljdk/internal/access/JavaLangAccess;"), (11, u "LOG2_ARRAY_BOOLEAN_INDEX_SCALE"), (9, u "LOG2_ARRAY_BYTE_INDEX_SCALE"), (5, u "LOG2_ARRAY_CHAR_INDEX_SCALE"), (5, u "LOG2_ARRAY_SHORT_INDEX_SCALE"), (18, u "LOG2_ARRAY_FLOAT_INDEX_SCALE"), (24, u "LOG2_ARRAY_DOUBLE_INDEX_SCALE"), (89, u "T_BOOLEAN"), (2, u "T_CHAR"), (1, u "T_FLOAT"), (1, u "T_DOUBLE"), (1, u "T_BYTE"), (1, u "T_SHORT"), (1, u "T_INT"), (1, u "T_LONG"), (1, u "SOFT_MAX_ARRAY_LENGTH")] 83

def k13m0 : Method := { name := "<init>", desc := "()V", sig := { parameters := [], returnType := none }, accessFlags := 2, code := none }
/-- jdk/internal/util/ArraysSupport -/
def k13 : Class := { plain "jdk/internal/util/ArraysSupport" (some 0) with
  accessFlags := 33
  interfaces := #[]
  cf := some (fileOf pool13 21 #[] #[{ accessFlags := 2, nameIndex := 9, descriptorIndex := 19, attributes := #[] }] 33 16 #[] #[{ accessFlags := 24, nameIndex := 28, descriptorIndex := 29, attributes := #[] }, { accessFlags := 26, nameIndex := 38, descriptorIndex := 39, attributes := #[] }, { accessFlags := 25, nameIndex := 121, descriptorIndex := 25, attributes := #[] }, { accessFlags := 25, nameIndex := 131, descriptorIndex := 25, attributes := #[] }, { accessFlags := 25, nameIndex := 137, descriptorIndex := 25, attributes := #[] }, { accessFlags := 25, nameIndex := 143, descriptorIndex := 25, attributes := #[] }, { accessFlags := 25, nameIndex := 53, descriptorIndex := 25, attributes := #[] }, { accessFlags := 25, nameIndex := 24, descriptorIndex := 25, attributes := #[] }, { accessFlags := 25, nameIndex := 162, descriptorIndex := 25, attributes := #[] }, { accessFlags := 25, nameIndex := 187, descriptorIndex := 25, attributes := #[] }, { accessFlags := 26, nameIndex := 48, descriptorIndex := 25, attributes := #[] }, { accessFlags := 25, nameIndex := 277, descriptorIndex := 25, attributes := #[] }, { accessFlags := 25, nameIndex := 280, descriptorIndex := 25, attributes := #[] }, { accessFlags := 25, nameIndex := 282, descriptorIndex := 25, attributes := #[] }, { accessFlags := 25, nameIndex := 284, descriptorIndex := 25, attributes := #[] }, { accessFlags := 25, nameIndex := 286, descriptorIndex := 25, attributes := #[] }, { accessFlags := 25, nameIndex := 288, descriptorIndex := 25, attributes := #[] }, { accessFlags := 25, nameIndex := 290, descriptorIndex := 25, attributes := #[] }, { accessFlags := 25, nameIndex := 292, descriptorIndex := 25, attributes := #[] }, { accessFlags := 26, nameIndex := 108, descriptorIndex := 109, attributes := #[] }, { accessFlags := 25, nameIndex := 294, descriptorIndex := 25, attributes := #[] }])
  fields := #[{ name := "U", type := (.object "jdk/internal/misc/Unsafe"), accessFlags := 24, slot := 0, constantValue := 0 }, { name := "BIG_ENDIAN", type := .boolean, accessFlags := 26, slot := 1, constantValue := 0 }, { name := "LOG2_ARRAY_BOOLEAN_INDEX_SCALE", type := .int, accessFlags := 25, slot := 2, constantValue := 0 }, { name := "LOG2_ARRAY_BYTE_INDEX_SCALE", type := .int, accessFlags := 25, slot := 3, constantValue := 0 }, { name := "LOG2_ARRAY_CHAR_INDEX_SCALE", type := .int, accessFlags := 25, slot := 4, constantValue := 0 }, { name := "LOG2_ARRAY_SHORT_INDEX_SCALE", type := .int, accessFlags := 25, slot := 5, constantValue := 0 }, { name := "LOG2_ARRAY_INT_INDEX_SCALE", type := .int, accessFlags := 25, slot := 6, constantValue := 0 }, { name := "LOG2_ARRAY_LONG_INDEX_SCALE", type := .int, accessFlags := 25, slot := 7, constantValue := 0 }, { name := "LOG2_ARRAY_FLOAT_INDEX_SCALE", type := .int, accessFlags := 25, slot := 8, constantValue := 0 }, { name := "LOG2_ARRAY_DOUBLE_INDEX_SCALE", type := .int, accessFlags := 25, slot := 9, constantValue := 0 }, { name := "LOG2_BYTE_BIT_SIZE", type := .int, accessFlags := 26, slot := 10, constantValue := 0 }, { name := "T_BOOLEAN", type := .int, accessFlags := 25, slot := 11, constantValue := 0 }, { name := "T_CHAR", type := .int, accessFlags := 25, slot := 12, constantValue := 0 }, { name := "T_FLOAT", type := .int, accessFlags := 25, slot := 13, constantValue := 0 }, { name := "T_DOUBLE", type := .int, accessFlags := 25, slot := 14, constantValue := 0 }, { name := "T_BYTE", type := .int, accessFlags := 25, slot := 15, constantValue := 0 }, { name := "T_SHORT", type := .int, accessFlags := 25, slot := 16, constantValue := 0 }, { name := "T_INT", type := .int, accessFlags := 25, slot := 17, constantValue := 0 }, { name := "T_LONG", type := .int, accessFlags := 25, slot := 18, constantValue := 0 }, { name := "JLA", type := (.object "jdk/internal/access/JavaLangAccess"), accessFlags := 26, slot := 19, constantValue := 0 }, { name := "SOFT_MAX_ARRAY_LENGTH", type := .int, accessFlags := 25, slot := 20, constantValue := 0 }]
  methods := #[k13m0]
  instanceTypes := #[]
  staticTypes := #[(.object "jdk/internal/misc/Unsafe"), .boolean, .int, .int, .int, .int, .int, .int, .int, .int, .int, .int, .int, .int, .int, .int, .int, .int, .int, (.object "jdk/internal/access/JavaLangAccess"), .int]
  resolved := Array.replicate 378 none
  statics := none }

def pool14 : Array CpInfo := pool [(1, u "java/lang/Cloneable"), (0, .class_ 1), (0, u "java/lang/Object"), (0, .class_ 3)] 3

/-- java/lang/Cloneable -/
def k14 : Class := { plain "java/lang/Cloneable" (some 0) with
  accessFlags := 1537
  interfaces := #[]
  cf := some (fileOf pool14 2 #[] #[] 1537 4 #[] #[])
  fields := #[]
  methods := #[]
  instanceTypes := #[]
  staticTypes := #[]
  resolved := Array.replicate 8 none
  statics := none }

/-- the primitive byte -/
def k15 : Class := { plain "byte" none with kind := .primitive 'B', accessFlags := 0x411 }
/-- [B -/
def k16 : Class := { plain "[B" (some 0) with kind := .array 15 .byte, interfaces := #[14, 2], accessFlags := 1041 }

/-- the primitive char -/
def k17 : Class := { plain "char" none with kind := .primitive 'C', accessFlags := 0x411 }
/-- [C -/
def k18 : Class := { plain "[C" (some 0) with kind := .array 17 .char, interfaces := #[14, 2], accessFlags := 1041 }

/-- the primitive int -/
def k19 : Class := { plain "int" none with kind := .primitive 'I', accessFlags := 0x411 }
/-- [I -/
def k20 : Class := { plain "[I" (some 0) with kind := .array 19 .int, interfaces := #[14, 2], accessFlags := 1041 }

def heap : Heap := #[{ cls := 7, slots := #[.long 0, .int 1, .null, .int 0, .null, .int 0, .int 0], vm := .statics 7 },
  { cls := 9, slots := #[.int 0, .int 8, .int 0, .int 1], vm := .statics 9 },
  { cls := 11, slots := #[.null, .null, .null], vm := .statics 11 }]
def classes : Array Class := #[k0, k1, k2, k3, k4, k5, k6, k7, k8, k9, k10, k11, k12, k13, k14, k15, k16, k17, k18, k19, k20]
def interned : List (Array UInt16 × Addr) := []
def slotsUsed : Nat := 14
def theMethod : MethodId := ⟨1, 3⟩
def args0 : Array Value := #[.int 2, .int 65, .int 66, .int 67]
def aboutOver (below : List Frame) : State where
  vm := { classes := classes, interned := interned.toArray }
  heap := heap
  slotsUsed := slotsUsed
  threads := #[{ frames := .invoking theMethod args0 :: below }]
def below0 : List Frame := [.native { method := ⟨0, 0⟩, args := #[] }]
def about1 : State := aboutOver below0
def p0 : Program := .bare "" "" ""
def e0 : Env := launch0.env 0 0 0
theorem w_frames : about1.frames = Frame.invoking theMethod args0 :: below0 := rfl
set_option maxRecDepth 65536 in
theorem w_args : argsFit about1.vm theMethod args0 = true := by decide +kernel
set_option maxRecDepth 65536 in
theorem w_heap : heapFits about1 = true := by decide +kernel
set_option maxRecDepth 65536 in
theorem w_runnable : about1.curStatus? = some .runnable := by decide +kernel
set_option maxRecDepth 65536 in
theorem w_alone : about1.alone = true := by decide +kernel
set_option maxRecDepth 65536 in
theorem w_named : about1.methodNamed? x = some theMethod := by decide +kernel
set_option maxRecDepth 65536 in
theorem w_hears : about1.hears theMethod below0 = true := by decide +kernel
set_option maxRecDepth 65536 in
theorem w_ripe : about1.ripe theMethod args0 below0 = true := by decide +kernel
theorem w_running : about1.status = .running := rfl
set_option maxRecDepth 65536 in
theorem w_room : about1.hasRoom e0.platform room_1 = true :=
  launch0.hasRoom_least _ room_1 (by decide +kernel) (by decide +kernel) (by decide +kernel) (by decide +kernel) (by decide +kernel) (by decide +kernel)
theorem allAtoms_all (ts : List Jvm.Cond) (a : Array Jvm.Value) (st : Jvm.State) : (allAtoms ts).before a st = ts.all (fun c => c.before a st) := by
  induction ts with
  | nil => rfl
  | cons c t ih =>
    show (Jvm.Cond.and c (allAtoms t)).before a st = _
    rw [Jvm.Cond.before_and, ih, List.all_cons]
def words1 : List Jvm.Cond := Jvm.Cond.code x code maxLocals ret :: tables_1
/-- a 'code' word, met by the world's own term for the bytes: nothing is compared byte by byte -/
theorem code_word {y : MethodName} {bytes : ByteArray} {mx : Nat} {rt : Option FieldType} {a : Array Value} {s : State} {m : MethodId} {meth : Method} {c : Code} (h1 : s.methodNamed? y = some m) (h2 : s.vm.method? m = some meth) (h3 : meth.code = some c) (h4 : c.code = bytes)
    (h5 : (c.maxLocals == mx && c.exceptionTable.isEmpty && decide (c.maxStack ≤ mostOperands) && decide (meth.sig.returnType = rt) && !meth.locks && decide (parseMethodDescriptor y.desc = some meth.sig)) = true) : (Jvm.Cond.code y bytes mx rt).before a s = true := by
  simp only [Bool.and_eq_true, beq_iff_eq, Bool.not_eq_true', decide_eq_true_eq] at h5
  obtain ⟨⟨⟨⟨⟨g1, g2⟩, g3⟩, g4⟩, g5⟩, g6⟩ := h5
  simp [Cond.before, Cond.holds, Cond.value, h1, h2, h3, h4, g1, g2, g3, g4, g5, g6]
def isCode : Jvm.Cond → Bool
  | .code _ _ _ _ => true
  | _ => false
theorem all_split {L : List Jvm.Cond} {P : Jvm.Cond → Bool} (h1 : L.all (fun c => isCode c || P c) = true) (h2 : ∀ c ∈ L.filter isCode, P c = true) : L.all P = true := by
  refine List.all_eq_true.mpr fun c hc => ?_
  have h := List.all_eq_true.mp h1 c hc
  rcases Bool.eq_false_or_eq_true (isCode c) with hi | hi
  · exact h2 c (List.mem_filter.mpr ⟨hc, hi⟩)
  · simpa [hi] using h
set_option maxRecDepth 65536 in
theorem w_c0 : (Jvm.Cond.code x code maxLocals ret).before args0 about1 = true := code_word (m := ⟨1, 3⟩) (meth := k1m3) (c := k1c3) (by decide +kernel) rfl rfl rfl (by decide +kernel)
set_option maxRecDepth 65536 in
theorem w_c1 : (Jvm.Cond.code ({ cls := "com/example/rolegate/rolegate/MethodSetIsMethodNamePinLaw", name := "pick", desc := "(I)C" } : Jvm.MethodName) method_2_code (1 : Nat) (Option.some Jvm.ClassFile.FieldType.char)).before args0 about1 = true := code_word (m := ⟨1, 1⟩) (meth := k1m1) (c := k1c1) (by decide +kernel) rfl rfl rfl (by decide +kernel)
set_option maxRecDepth 65536 in
theorem w_c2 : (Jvm.Cond.code ({ cls := "java/lang/String", name := "<init>", desc := "([C)V" } : Jvm.MethodName) jdk_42_method_3_code (2 : Nat) (Option.none : Option Jvm.ClassFile.FieldType)).before args0 about1 = true := code_word (m := ⟨7, 1⟩) (meth := k7m1) (c := k7c1) (by decide +kernel) rfl rfl rfl (by decide +kernel)
set_option maxRecDepth 65536 in
theorem w_c3 : (Jvm.Cond.code ({ cls := "java/lang/String", name := "<init>", desc := "([CIILjava/lang/Void;)V" } : Jvm.MethodName) jdk_42_method_149_code (6 : Nat) (Option.none : Option Jvm.ClassFile.FieldType)).before args0 about1 = true := code_word (m := ⟨7, 7⟩) (meth := k7m7) (c := k7c7) (by decide +kernel) rfl rfl rfl (by decide +kernel)
set_option maxRecDepth 65536 in
theorem w_c4 : (Jvm.Cond.code ({ cls := "java/lang/Object", name := "<init>", desc := "()V" } : Jvm.MethodName) object_method_1_code (1 : Nat) (Option.none : Option Jvm.ClassFile.FieldType)).before args0 about1 = true := code_word (m := ⟨0, 0⟩) (meth := k0m0) (c := k0c0) (by decide +kernel) rfl rfl rfl (by decide +kernel)
set_option maxRecDepth 65536 in
theorem w_c5 : (Jvm.Cond.code ({ cls := "com/example/rolegate/rolegate/MethodSet", name := "isMethodName", desc := "(Ljava/lang/String;)Z" } : Jvm.MethodName) prog_16_method_6_code (4 : Nat) (Option.some Jvm.ClassFile.FieldType.boolean)).before args0 about1 = true := code_word (m := ⟨8, 0⟩) (meth := k8m0) (c := k8c0) (by decide +kernel) rfl rfl rfl (by decide +kernel)
set_option maxRecDepth 65536 in
theorem w_c6 : (Jvm.Cond.code ({ cls := "java/lang/String", name := "isEmpty", desc := "()Z" } : Jvm.MethodName) jdk_42_method_55_code (1 : Nat) (Option.some Jvm.ClassFile.FieldType.boolean)).before args0 about1 = true := code_word (m := ⟨7, 3⟩) (meth := k7m3) (c := k7c3) (by decide +kernel) rfl rfl rfl (by decide +kernel)
set_option maxRecDepth 65536 in
theorem w_c7 : (Jvm.Cond.code ({ cls := "java/lang/StringUTF16", name := "compress", desc := "([CII)[B" } : Jvm.MethodName) jdk_52_method_16_code (6 : Nat) (Option.some (Jvm.ClassFile.FieldType.array Jvm.ClassFile.FieldType.byte))).before args0 about1 = true := code_word (m := ⟨9, 8⟩) (meth := k9m8) (c := k9c8) (by decide +kernel) rfl rfl rfl (by decide +kernel)
set_option maxRecDepth 65536 in
theorem w_c8 : (Jvm.Cond.code ({ cls := "java/lang/StringUTF16", name := "compress", desc := "([CI[BII)I" } : Jvm.MethodName) jdk_52_method_21_code (7 : Nat) (Option.some Jvm.ClassFile.FieldType.int)).before args0 about1 = true := code_word (m := ⟨9, 9⟩) (meth := k9m9) (c := k9c9) (by decide +kernel) rfl rfl rfl (by decide +kernel)
set_option maxRecDepth 65536 in
theorem w_c9 : (Jvm.Cond.code ({ cls := "java/lang/StringUTF16", name := "coderFromArrayLen", desc := "([BI)B" } : Jvm.MethodName) jdk_52_method_15_code (2 : Nat) (Option.some Jvm.ClassFile.FieldType.byte)).before args0 about1 = true := code_word (m := ⟨9, 7⟩) (meth := k9m7) (c := k9c7) (by decide +kernel) rfl rfl rfl (by decide +kernel)
set_option maxRecDepth 65536 in
theorem w_c10 : (Jvm.Cond.code ({ cls := "com/example/rolegate/rolegate/MethodSetIsMethodNamePinLaw", name := "tchar", desc := "(C)Z" } : Jvm.MethodName) method_3_code (1 : Nat) (Option.some Jvm.ClassFile.FieldType.boolean)).before args0 about1 = true := code_word (m := ⟨1, 2⟩) (meth := k1m2) (c := k1c2) (by decide +kernel) rfl rfl rfl (by decide +kernel)
set_option maxRecDepth 65536 in
theorem w_c11 : (Jvm.Cond.code ({ cls := "java/lang/String", name := "length", desc := "()I" } : Jvm.MethodName) jdk_42_method_54_code (1 : Nat) (Option.some Jvm.ClassFile.FieldType.int)).before args0 about1 = true := code_word (m := ⟨7, 2⟩) (meth := k7m2) (c := k7c2) (by decide +kernel) rfl rfl rfl (by decide +kernel)
set_option maxRecDepth 65536 in
theorem w_c12 : (Jvm.Cond.code ({ cls := "java/lang/String", name := "coder", desc := "()B" } : Jvm.MethodName) jdk_42_method_152_code (1 : Nat) (Option.some Jvm.ClassFile.FieldType.byte)).before args0 about1 = true := code_word (m := ⟨7, 8⟩) (meth := k7m8) (c := k7c8) (by decide +kernel) rfl rfl rfl (by decide +kernel)
set_option maxRecDepth 65536 in
theorem w_c13 : (Jvm.Cond.code ({ cls := "java/lang/String", name := "charAt", desc := "(I)C" } : Jvm.MethodName) jdk_42_method_56_code (2 : Nat) (Option.some Jvm.ClassFile.FieldType.char)).before args0 about1 = true := code_word (m := ⟨7, 4⟩) (meth := k7m4) (c := k7c4) (by decide +kernel) rfl rfl rfl (by decide +kernel)
set_option maxRecDepth 65536 in
theorem w_c14 : (Jvm.Cond.code ({ cls := "java/lang/String", name := "isLatin1", desc := "()Z" } : Jvm.MethodName) jdk_42_method_154_code (1 : Nat) (Option.some Jvm.ClassFile.FieldType.boolean)).before args0 about1 = true := code_word (m := ⟨7, 9⟩) (meth := k7m9) (c := k7c9) (by decide +kernel) rfl rfl rfl (by decide +kernel)
set_option maxRecDepth 65536 in
theorem w_c15 : (Jvm.Cond.code ({ cls := "java/lang/StringLatin1", name := "charAt", desc := "([BI)C" } : Jvm.MethodName) jdk_43_method_2_code (2 : Nat) (Option.some Jvm.ClassFile.FieldType.char)).before args0 about1 = true := code_word (m := ⟨10, 1⟩) (meth := k10m1) (c := k10c1) (by decide +kernel) rfl rfl rfl (by decide +kernel)
set_option maxRecDepth 65536 in
theorem w_c16 : (Jvm.Cond.code ({ cls := "java/lang/String", name := "checkIndex", desc := "(II)V" } : Jvm.MethodName) jdk_42_method_155_code (2 : Nat) (Option.none : Option Jvm.ClassFile.FieldType)).before args0 about1 = true := code_word (m := ⟨7, 10⟩) (meth := k7m10) (c := k7c10) (by decide +kernel) rfl rfl rfl (by decide +kernel)
set_option maxRecDepth 65536 in
theorem w_c17 : (Jvm.Cond.code ({ cls := "jdk/internal/util/Preconditions", name := "checkIndex", desc := "(IILjava/util/function/BiFunction;)I" } : Jvm.MethodName) jdk_41_method_11_code (3 : Nat) (Option.some Jvm.ClassFile.FieldType.int)).before args0 about1 = true := code_word (m := ⟨11, 1⟩) (meth := k11m1) (c := k11c1) (by decide +kernel) rfl rfl rfl (by decide +kernel)
set_option maxRecDepth 65536 in
theorem w_c18 : (Jvm.Cond.code ({ cls := "java/lang/String", name := "indexOf", desc := "(I)I" } : Jvm.MethodName) jdk_42_method_79_code (2 : Nat) (Option.some Jvm.ClassFile.FieldType.int)).before args0 about1 = true := code_word (m := ⟨7, 5⟩) (meth := k7m5) (c := k7c5) (by decide +kernel) rfl rfl rfl (by decide +kernel)
set_option maxRecDepth 65536 in
theorem w_c19 : (Jvm.Cond.code ({ cls := "java/lang/String", name := "indexOf", desc := "(II)I" } : Jvm.MethodName) jdk_42_method_80_code (3 : Nat) (Option.some Jvm.ClassFile.FieldType.int)).before args0 about1 = true := code_word (m := ⟨7, 6⟩) (meth := k7m6) (c := k7c6) (by decide +kernel) rfl rfl rfl (by decide +kernel)
set_option maxRecDepth 65536 in
theorem w_c20 : (Jvm.Cond.code ({ cls := "java/lang/StringLatin1", name := "indexOf", desc := "([BIII)I" } : Jvm.MethodName) jdk_43_method_22_code (4 : Nat) (Option.some Jvm.ClassFile.FieldType.int)).before args0 about1 = true := code_word (m := ⟨10, 3⟩) (meth := k10m3) (c := k10c3) (by decide +kernel) rfl rfl rfl (by decide +kernel)
set_option maxRecDepth 65536 in
theorem w_c21 : (Jvm.Cond.code ({ cls := "java/lang/StringLatin1", name := "canEncode", desc := "(I)Z" } : Jvm.MethodName) jdk_43_method_4_code (1 : Nat) (Option.some Jvm.ClassFile.FieldType.boolean)).before args0 about1 = true := code_word (m := ⟨10, 2⟩) (meth := k10m2) (c := k10c2) (by decide +kernel) rfl rfl rfl (by decide +kernel)
set_option maxRecDepth 65536 in
theorem w_c22 : (Jvm.Cond.code ({ cls := "java/lang/Math", name := "max", desc := "(II)I" } : Jvm.MethodName) jdk_29_method_65_code (2 : Nat) (Option.some Jvm.ClassFile.FieldType.int)).before args0 about1 = true := code_word (m := ⟨12, 1⟩) (meth := k12m1) (c := k12c1) (by decide +kernel) rfl rfl rfl (by decide +kernel)
set_option maxRecDepth 65536 in
theorem w_c23 : (Jvm.Cond.code ({ cls := "java/lang/Math", name := "min", desc := "(II)I" } : Jvm.MethodName) jdk_29_method_69_code (2 : Nat) (Option.some Jvm.ClassFile.FieldType.int)).before args0 about1 = true := code_word (m := ⟨12, 2⟩) (meth := k12m2) (c := k12c2) (by decide +kernel) rfl rfl rfl (by decide +kernel)
set_option maxRecDepth 65536 in
theorem w_c24 : (Jvm.Cond.code ({ cls := "java/lang/StringLatin1", name := "indexOfChar", desc := "([BIII)I" } : Jvm.MethodName) jdk_43_method_23_code (6 : Nat) (Option.some Jvm.ClassFile.FieldType.int)).before args0 about1 = true := code_word (m := ⟨10, 4⟩) (meth := k10m4) (c := k10c4) (by decide +kernel) rfl rfl rfl (by decide +kernel)
set_option maxRecDepth 65536 in
theorem w_c25 : (Jvm.Cond.code ({ cls := "java/lang/StringUTF16", name := "toBytes", desc := "([CII)[B" } : Jvm.MethodName) jdk_52_method_14_code (5 : Nat) (Option.some (Jvm.ClassFile.FieldType.array Jvm.ClassFile.FieldType.byte))).before args0 about1 = true := code_word (m := ⟨9, 6⟩) (meth := k9m6) (c := k9c6) (by decide +kernel) rfl rfl rfl (by decide +kernel)
set_option maxRecDepth 65536 in
theorem w_c26 : (Jvm.Cond.code ({ cls := "java/lang/StringUTF16", name := "newBytesFor", desc := "(I)[B" } : Jvm.MethodName) jdk_52_method_2_code (1 : Nat) (Option.some (Jvm.ClassFile.FieldType.array Jvm.ClassFile.FieldType.byte))).before args0 about1 = true := code_word (m := ⟨9, 1⟩) (meth := k9m1) (c := k9c1) (by decide +kernel) rfl rfl rfl (by decide +kernel)
set_option maxRecDepth 65536 in
theorem w_c27 : (Jvm.Cond.code ({ cls := "java/lang/StringUTF16", name := "newBytesLength", desc := "(I)I" } : Jvm.MethodName) jdk_52_method_3_code (1 : Nat) (Option.some Jvm.ClassFile.FieldType.int)).before args0 about1 = true := code_word (m := ⟨9, 2⟩) (meth := k9m2) (c := k9c2) (by decide +kernel) rfl rfl rfl (by decide +kernel)
set_option maxRecDepth 65536 in
theorem w_c28 : (Jvm.Cond.code ({ cls := "java/lang/StringUTF16", name := "putChar", desc := "([BII)V" } : Jvm.MethodName) jdk_52_method_4_code (3 : Nat) (Option.none : Option Jvm.ClassFile.FieldType)).before args0 about1 = true := code_word (m := ⟨9, 3⟩) (meth := k9m3) (c := k9c3) (by decide +kernel) rfl rfl rfl (by decide +kernel)
set_option maxRecDepth 65536 in
theorem w_c29 : (Jvm.Cond.code ({ cls := "java/lang/StringUTF16", name := "getChar", desc := "([BI)C" } : Jvm.MethodName) jdk_52_method_5_code (2 : Nat) (Option.some Jvm.ClassFile.FieldType.char)).before args0 about1 = true := code_word (m := ⟨9, 4⟩) (meth := k9m4) (c := k9c4) (by decide +kernel) rfl rfl rfl (by decide +kernel)
set_option maxRecDepth 65536 in
theorem w_c30 : (Jvm.Cond.code ({ cls := "java/lang/StringUTF16", name := "charAt", desc := "([BI)C" } : Jvm.MethodName) jdk_52_method_83_code (2 : Nat) (Option.some Jvm.ClassFile.FieldType.char)).before args0 about1 = true := code_word (m := ⟨9, 10⟩) (meth := k9m10) (c := k9c10) (by decide +kernel) rfl rfl rfl (by decide +kernel)
set_option maxRecDepth 65536 in
theorem w_c31 : (Jvm.Cond.code ({ cls := "java/lang/StringUTF16", name := "checkIndex", desc := "(I[B)V" } : Jvm.MethodName) jdk_52_method_91_code (2 : Nat) (Option.none : Option Jvm.ClassFile.FieldType)).before args0 about1 = true := code_word (m := ⟨9, 11⟩) (meth := k9m11) (c := k9c11) (by decide +kernel) rfl rfl rfl (by decide +kernel)
set_option maxRecDepth 65536 in
theorem w_c32 : (Jvm.Cond.code ({ cls := "java/lang/StringUTF16", name := "length", desc := "([B)I" } : Jvm.MethodName) jdk_52_method_6_code (1 : Nat) (Option.some Jvm.ClassFile.FieldType.int)).before args0 about1 = true := code_word (m := ⟨9, 5⟩) (meth := k9m5) (c := k9c5) (by decide +kernel) rfl rfl rfl (by decide +kernel)
def codes1 : List Jvm.Cond := [Jvm.Cond.code x code maxLocals ret, Jvm.Cond.code ({ cls := "com/example/rolegate/rolegate/MethodSetIsMethodNamePinLaw", name := "pick", desc := "(I)C" } : Jvm.MethodName) method_2_code (1 : Nat) (Option.some Jvm.ClassFile.FieldType.char), Jvm.Cond.code ({ cls := "java/lang/String", name := "<init>", desc := "([C)V" } : Jvm.MethodName) jdk_42_method_3_code (2 : Nat) (Option.none : Option Jvm.ClassFile.FieldType), Jvm.Cond.code ({ cls := "java/lang/String", name := "<init>", desc := "([CIILjava/lang/Void;)V" } : Jvm.MethodName) jdk_42_method_149_code (6 : Nat) (Option.none : Option Jvm.ClassFile.FieldType), Jvm.Cond.code ({ cls := "java/lang/Object", name := "<init>", desc := "()V" } : Jvm.MethodName) object_method_1_code (1 : Nat) (Option.none : Option Jvm.ClassFile.FieldType), Jvm.Cond.code ({ cls := "com/example/rolegate/rolegate/MethodSet", name := "isMethodName", desc := "(Ljava/lang/String;)Z" } : Jvm.MethodName) prog_16_method_6_code (4 : Nat) (Option.some Jvm.ClassFile.FieldType.boolean), Jvm.Cond.code ({ cls := "java/lang/String", name := "isEmpty", desc := "()Z" } : Jvm.MethodName) jdk_42_method_55_code (1 : Nat) (Option.some Jvm.ClassFile.FieldType.boolean), Jvm.Cond.code ({ cls := "java/lang/StringUTF16", name := "compress", desc := "([CII)[B" } : Jvm.MethodName) jdk_52_method_16_code (6 : Nat) (Option.some (Jvm.ClassFile.FieldType.array Jvm.ClassFile.FieldType.byte)), Jvm.Cond.code ({ cls := "java/lang/StringUTF16", name := "compress", desc := "([CI[BII)I" } : Jvm.MethodName) jdk_52_method_21_code (7 : Nat) (Option.some Jvm.ClassFile.FieldType.int), Jvm.Cond.code ({ cls := "java/lang/StringUTF16", name := "coderFromArrayLen", desc := "([BI)B" } : Jvm.MethodName) jdk_52_method_15_code (2 : Nat) (Option.some Jvm.ClassFile.FieldType.byte), Jvm.Cond.code ({ cls := "com/example/rolegate/rolegate/MethodSetIsMethodNamePinLaw", name := "tchar", desc := "(C)Z" } : Jvm.MethodName) method_3_code (1 : Nat) (Option.some Jvm.ClassFile.FieldType.boolean), Jvm.Cond.code ({ cls := "java/lang/String", name := "length", desc := "()I" } : Jvm.MethodName) jdk_42_method_54_code (1 : Nat) (Option.some Jvm.ClassFile.FieldType.int), Jvm.Cond.code ({ cls := "java/lang/String", name := "coder", desc := "()B" } : Jvm.MethodName) jdk_42_method_152_code (1 : Nat) (Option.some Jvm.ClassFile.FieldType.byte), Jvm.Cond.code ({ cls := "java/lang/String", name := "charAt", desc := "(I)C" } : Jvm.MethodName) jdk_42_method_56_code (2 : Nat) (Option.some Jvm.ClassFile.FieldType.char), Jvm.Cond.code ({ cls := "java/lang/String", name := "isLatin1", desc := "()Z" } : Jvm.MethodName) jdk_42_method_154_code (1 : Nat) (Option.some Jvm.ClassFile.FieldType.boolean), Jvm.Cond.code ({ cls := "java/lang/StringLatin1", name := "charAt", desc := "([BI)C" } : Jvm.MethodName) jdk_43_method_2_code (2 : Nat) (Option.some Jvm.ClassFile.FieldType.char), Jvm.Cond.code ({ cls := "java/lang/String", name := "checkIndex", desc := "(II)V" } : Jvm.MethodName) jdk_42_method_155_code (2 : Nat) (Option.none : Option Jvm.ClassFile.FieldType), Jvm.Cond.code ({ cls := "jdk/internal/util/Preconditions", name := "checkIndex", desc := "(IILjava/util/function/BiFunction;)I" } : Jvm.MethodName) jdk_41_method_11_code (3 : Nat) (Option.some Jvm.ClassFile.FieldType.int), Jvm.Cond.code ({ cls := "java/lang/String", name := "indexOf", desc := "(I)I" } : Jvm.MethodName) jdk_42_method_79_code (2 : Nat) (Option.some Jvm.ClassFile.FieldType.int), Jvm.Cond.code ({ cls := "java/lang/String", name := "indexOf", desc := "(II)I" } : Jvm.MethodName) jdk_42_method_80_code (3 : Nat) (Option.some Jvm.ClassFile.FieldType.int), Jvm.Cond.code ({ cls := "java/lang/StringLatin1", name := "indexOf", desc := "([BIII)I" } : Jvm.MethodName) jdk_43_method_22_code (4 : Nat) (Option.some Jvm.ClassFile.FieldType.int), Jvm.Cond.code ({ cls := "java/lang/StringLatin1", name := "canEncode", desc := "(I)Z" } : Jvm.MethodName) jdk_43_method_4_code (1 : Nat) (Option.some Jvm.ClassFile.FieldType.boolean), Jvm.Cond.code ({ cls := "java/lang/Math", name := "max", desc := "(II)I" } : Jvm.MethodName) jdk_29_method_65_code (2 : Nat) (Option.some Jvm.ClassFile.FieldType.int), Jvm.Cond.code ({ cls := "java/lang/Math", name := "min", desc := "(II)I" } : Jvm.MethodName) jdk_29_method_69_code (2 : Nat) (Option.some Jvm.ClassFile.FieldType.int), Jvm.Cond.code ({ cls := "java/lang/StringLatin1", name := "indexOfChar", desc := "([BIII)I" } : Jvm.MethodName) jdk_43_method_23_code (6 : Nat) (Option.some Jvm.ClassFile.FieldType.int), Jvm.Cond.code ({ cls := "java/lang/StringUTF16", name := "toBytes", desc := "([CII)[B" } : Jvm.MethodName) jdk_52_method_14_code (5 : Nat) (Option.some (Jvm.ClassFile.FieldType.array Jvm.ClassFile.FieldType.byte)), Jvm.Cond.code ({ cls := "java/lang/StringUTF16", name := "newBytesFor", desc := "(I)[B" } : Jvm.MethodName) jdk_52_method_2_code (1 : Nat) (Option.some (Jvm.ClassFile.FieldType.array Jvm.ClassFile.FieldType.byte)), Jvm.Cond.code ({ cls := "java/lang/StringUTF16", name := "newBytesLength", desc := "(I)I" } : Jvm.MethodName) jdk_52_method_3_code (1 : Nat) (Option.some Jvm.ClassFile.FieldType.int), Jvm.Cond.code ({ cls := "java/lang/StringUTF16", name := "putChar", desc := "([BII)V" } : Jvm.MethodName) jdk_52_method_4_code (3 : Nat) (Option.none : Option Jvm.ClassFile.FieldType), Jvm.Cond.code ({ cls := "java/lang/StringUTF16", name := "getChar", desc := "([BI)C" } : Jvm.MethodName) jdk_52_method_5_code (2 : Nat) (Option.some Jvm.ClassFile.FieldType.char), Jvm.Cond.code ({ cls := "java/lang/StringUTF16", name := "charAt", desc := "([BI)C" } : Jvm.MethodName) jdk_52_method_83_code (2 : Nat) (Option.some Jvm.ClassFile.FieldType.char), Jvm.Cond.code ({ cls := "java/lang/StringUTF16", name := "checkIndex", desc := "(I[B)V" } : Jvm.MethodName) jdk_52_method_91_code (2 : Nat) (Option.none : Option Jvm.ClassFile.FieldType), Jvm.Cond.code ({ cls := "java/lang/StringUTF16", name := "length", desc := "([B)I" } : Jvm.MethodName) jdk_52_method_6_code (1 : Nat) (Option.some Jvm.ClassFile.FieldType.int)]
set_option maxRecDepth 65536 in
theorem codes_eq : words1.filter isCode = codes1 := rfl
theorem w_codes : ∀ c ∈ words1.filter isCode, c.before args0 about1 = true := by
  rw [codes_eq]
  intro c hc
  simp only [codes1, List.mem_cons, List.not_mem_nil, or_false] at hc
  rcases hc with rfl | rfl | rfl | rfl | rfl | rfl | rfl | rfl | rfl | rfl | rfl | rfl | rfl | rfl | rfl | rfl | rfl | rfl | rfl | rfl | rfl | rfl | rfl | rfl | rfl | rfl | rfl | rfl | rfl | rfl | rfl | rfl | rfl
  · exact w_c0
  · exact w_c1
  · exact w_c2
  · exact w_c3
  · exact w_c4
  · exact w_c5
  · exact w_c6
  · exact w_c7
  · exact w_c8
  · exact w_c9
  · exact w_c10
  · exact w_c11
  · exact w_c12
  · exact w_c13
  · exact w_c14
  · exact w_c15
  · exact w_c16
  · exact w_c17
  · exact w_c18
  · exact w_c19
  · exact w_c20
  · exact w_c21
  · exact w_c22
  · exact w_c23
  · exact w_c24
  · exact w_c25
  · exact w_c26
  · exact w_c27
  · exact w_c28
  · exact w_c29
  · exact w_c30
  · exact w_c31
  · exact w_c32
set_option maxRecDepth 65536 in
theorem w_t1 : (words1.take 24).all (fun c => isCode c || c.before args0 about1) = true := by decide +kernel
set_option maxRecDepth 65536 in
theorem w_t2 : ((words1.drop 24).take 24).all (fun c => isCode c || c.before args0 about1) = true := by decide +kernel
set_option maxRecDepth 65536 in
theorem w_t3 : (((words1.drop 24).drop 24).take 24).all (fun c => isCode c || c.before args0 about1) = true := by decide +kernel
set_option maxRecDepth 65536 in
theorem w_t4 : ((((words1.drop 24).drop 24).drop 24).take 24).all (fun c => isCode c || c.before args0 about1) = true := by decide +kernel
set_option maxRecDepth 65536 in
theorem w_t5 : (((((words1.drop 24).drop 24).drop 24).drop 24).take 24).all (fun c => isCode c || c.before args0 about1) = true := by decide +kernel
set_option maxRecDepth 65536 in
theorem w_t6 : (((((words1.drop 24).drop 24).drop 24).drop 24).drop 24).all (fun c => isCode c || c.before args0 about1) = true := by decide +kernel
theorem w_tables : (allAtoms (Jvm.Cond.code x code maxLocals ret :: tables_1)).before args0 about1 = true := by
  rw [allAtoms_all]
  show words1.all (fun c => c.before args0 about1) = true
  refine all_split ?_ w_codes
  rw [← List.take_append_drop 24 words1, List.all_append, w_t1, ← List.take_append_drop 24 (words1.drop 24), List.all_append, w_t2, ← List.take_append_drop 24 ((words1.drop 24).drop 24), List.all_append, w_t3, ← List.take_append_drop 24 (((words1.drop 24).drop 24).drop 24), List.all_append, w_t4, ← List.take_append_drop 24 ((((words1.drop 24).drop 24).drop 24).drop 24), List.all_append, w_t5, w_t6]
  rfl
set_option maxRecDepth 65536 in
theorem w_rest : rest_1_c.before args0 about1 = true := by decide +kernel
set_option maxRecDepth 65536 in
theorem w_case : (Jvm.Cond.and given_1 narrow_1).before args0 about1 = true := by decide +kernel
set_option maxRecDepth 65536 in
theorem w_consts : constsHeld consts_1 about1 := Jvm.Lit.constsHeldB_iff.mp (by decide +kernel)
theorem w_applies : (headSpec (Jvm.Cond.code x code maxLocals ret :: tables_1) room_1).applies x e0.platform about1 = true :=
  (Spec.applies_iff w_frames).mpr ⟨w_running, w_runnable, w_alone, w_named, w_hears, w_ripe, w_room, w_tables⟩
theorem atStart : AtStart classFile x code maxLocals ret World_1 tables_1 room_1 Calls_1 rest_1 Pre_1 launch0 p0 e0 about1 theMethod args0 below0 :=
  ⟨lists_1, trivial, launch0.admits_env _ _ _, launch0.least_env, fairChoices_fair.cas, fairChoices_fair.clock, w_frames, w_args, w_heap, w_applies, ⟨w_consts, trivial⟩, w_rest, w_case⟩
end start1
theorem witness_1 : WitnessClaimed_1 := ⟨start1.p0, start1.e0, start1.about1, start1.theMethod, start1.args0, start1.below0, start1.atStart⟩
end Jvm.Pilot.@@N@@
