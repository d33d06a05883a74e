import JvmDerived
import JvmDerived.Pilot.@@N@@Statement
import JvmDerived.Pilot.@@N@@Code
set_option linter.unusedVariables false
set_option linter.unusedSimpArgs false
namespace Jvm.RoadKit
open Sem ClassFile Op Lib Jvm.Stand Jvm.Free Jvm.LawKit
section New
variable {p : Program} {l : Launch} {e : Env} {R : Room} {s : State} {m : MethodId} {args : Array Value} {below : List Frame} {meth : Method} {c : Code} {T : State} {locs : List Loc} {cells slots : Nat}
theorem retI (X : Stand p l e R s m args below meth c T locs cells slots) (hx : p.tables.exec = Jvm.exec) {pc : Nat} {Ls : Array Slot} {z : Int32} {rest : List Value} (hret : meth.sig.returnType = some .int) (hd : decode c.code pc = .ok (.ireturn, 1)) {fs : List Frame}
    (hl : ∀ (f : JFrame) (acts : List Action), f.method = m → f.locked = none → f.entered = [] → (doReturn e (T.setTop f) acts (some (.int z))).1 = T.setFrames fs) : Steps p.tables e below (T.setTop (mkF m pc Ls (.int z :: rest))) (T.setFrames fs) := by
  have hm' : T.vm.method? m = some meth := X.method'
  have hn : narrow .int (.int z) = .int z := rfl
  show Steps p.tables e below (T.setTop { method := m, pc := pc, locals := Ls, stack := _ :: rest, locked := none }) _
  jvm_step X.here [X.here.top, hx, hd, hm', hret, hn]
  first | (intro acts; rw [hl _ acts rfl rfl rfl]) | rw [hl _ _ rfl rfl rfl]
  exact Steps.refl _
end New
abbrev Go (p : Program) (e : Env) (below : List Frame) (T : State) (f : JFrame) (A : State) : Prop := ∀ t, Steps p.tables e below (T.setTop f) t → Steps p.tables e below A t
theorem own_retA (w : Value) (h : w.isRef = true) (t : FieldType) (ht : t.isReference = true) : narrow t w = w := by
  cases w <;> simp [Value.isRef] at h <;> cases t <;> simp [FieldType.isReference] at ht <;> rfl
theorem own_fitA (w : Value) (h : w.isRef = true) (t : FieldType) (ht : t.isReference = true) : fits t w = true := by
  cases w <;> simp [Value.isRef] at h <;> cases t <;> simp [FieldType.isReference] at ht <;> rfl
theorem own_narb (x : Int32) : nar .byte (x.toInt8.toInt32) = x.toInt8.toInt32 := by
  show x.toInt8.toInt32.toInt8.toInt32 = _
  simp
theorem own_ft_byte {z y : Int32} (e : nar .byte z = y) : fits .byte (.int y) = true := by rw [← e]; exact fits_nar_byte z
theorem own_ft_char {z y : Int32} (e : nar .char z = y) : fits .char (.int y) = true := by rw [← e]; exact fits_nar_char z
theorem own_ft_short {z y : Int32} (e : nar .short z = y) : fits .short (.int y) = true := by rw [← e]; exact fits_nar_short z
theorem own_ft_boolean {z y : Int32} (e : nar .boolean z = y) : fits .boolean (.int y) = true := by rw [← e]; exact fits_nar_bool z
theorem own_nw_byte {z y : Int32} (e : nar .byte z = y) : narrow .byte (.int z) = .int y := by rw [← e]; rfl
theorem own_nw_char {z y : Int32} (e : nar .char z = y) : narrow .char (.int z) = .int y := by rw [← e]; rfl
theorem own_nw_short {z y : Int32} (e : nar .short z = y) : narrow .short (.int z) = .int y := by rw [← e]; rfl
theorem own_nw_boolean {z y : Int32} (e : nar .boolean z = y) : narrow .boolean (.int z) = .int y := by rw [← e]; rfl
theorem own_narc (x : Int32) : nar .char (x.toUInt32.toUInt16.toUInt32.toInt32) = x.toUInt32.toUInt16.toUInt32.toInt32 := by
  show x.toUInt32.toUInt16.toUInt32.toInt32.toUInt32.toUInt16.toUInt32.toInt32 = _
  have q := c_i2c x
  have r := c_i2c x.toUInt32.toUInt16.toUInt32.toInt32
  apply Int32.toInt_inj.mp
  omega
theorem own_ext_refl {h : Heap} : Ext h h := ⟨Nat.le_refl _, fun _ _ q => q⟩
theorem own_ext_trans {h h' h2 : Heap} (A : Ext h h') (B : Ext h' h2) : Ext h h2 := ⟨Nat.le_trans A.1 B.1, fun a c q => B.2 a c (A.2 a c q)⟩
theorem own_ext_keep {h h' : Heap} (K : Keep h h' []) : Ext h h' := ⟨K.1, fun a c q => K.2.1 a c q nin0⟩
theorem own_lcmp_self (x : Int64) : lcmpW x x = (0 : Int32) := by rw [lcW]; exact (lc_eq x x).mpr rfl
theorem own_catV {v : Value} (h : v.isRef = true) : v.category = 1 := by cases v <;> simp [Value.isRef] at h <;> rfl
end Jvm.RoadKit
namespace Jvm.RoadKit
open Sem ClassFile Op Lib Jvm.Stand Jvm.Free Jvm.LawKit
theorem own_old_le {Z : State} {n0 : Nat} {h : Heap} (O : Old Z n0 h) : n0 ≤ h.size := O.1 ▸ O.2.1
theorem own_fld_int {args : Array Value} {s : State} {t : Term} {C n d : String} {k : Int32} {a : Addr} (h : (Cond.eq (.field t C n d) (.int k)).value args s none s [] = some true) (ev : t.eval args s none [] s = some (.ref a)) : Fld s s.heap a C n d (.int k) := by
  obtain ⟨x, y, h1, h2, -, k2⟩ := cmp_v (Or.inl h)
  cases h2.symm.trans (Term.int_eval k)
  obtain ⟨z, rfl⟩ := k2
  have e : z = k := gotT (Cond.eq_ints h1 h2) h
  subst e
  exact Fld.start ((fld_at ev).symm.trans h1)
theorem own_eqint {args : Array Value} {s : State} {t : Term} {k : Int32} (h : (Cond.eq t (.int k)).value args s none s [] = some true) : t.eval args s none [] s = some (.int k) := by
  obtain ⟨x, y, h1, h2, -, k2⟩ := cmp_v (Or.inl h)
  cases h2.symm.trans (Term.int_eval k)
  obtain ⟨z, rfl⟩ := k2
  have e : z = k := gotT (Cond.eq_ints h1 h2) h
  subst e
  exact h1
end Jvm.RoadKit
namespace Jvm.RoadKit
open Sem ClassFile Op Lib Jvm.Stand Jvm.Free Jvm.LawKit Jvm.FP Jvm.Free.Fl
theorem own_ratio {v m : Int32} (h0 : 0 ≤ v.toInt) (h2 : 1 ≤ m.toInt) : Core.val64 (FP.ddiv (FP.i2d v) (FP.i2d m)) = Core.roundRatio Core.b64 false v.toInt.natAbs m.toInt.natAbs 0 := by
  have e1 : Core.val64 (Core.i2d v) = Core.roundRatio Core.b64 (decide (v.toInt < 0)) v.toInt.natAbs 1 0 := Core.val64_i2d v
  have e2 : Core.val64 (Core.i2d m) = Core.roundRatio Core.b64 (decide (m.toInt < 0)) m.toInt.natAbs 1 0 := Core.val64_i2d m
  rw [decide_eq_false (by omega)] at e1 e2
  have w1 : Core.Whole v.toInt (Core.val64 (Core.i2d v)) := Core.i2d_int v
  have w2 : Core.Whole m.toInt (Core.val64 (Core.i2d m)) := Core.i2d_int m
  show Core.val64 (Core.ddiv (Core.i2d v) (Core.i2d m)) = _
  rw [Core.val64_ddiv]
  rcases Core.roundRatio_cases Core.b64 false v.toInt.natAbs 1 0 with ⟨a, q, ha⟩ | ha
  · rcases Core.roundRatio_cases Core.b64 false m.toInt.natAbs 1 0 with ⟨b, r, hb⟩ | hb
    · rw [e1, ha] at w1 ⊢
      rw [e2, hb] at w2 ⊢
      have n1 := Core.whole_natAbs w1
      have n2 := Core.whole_natAbs w2
      have hb0 : b ≠ 0 := fun z => by have := (Core.whole_zero w2).mp z; omega
      show (if b = 0 then _ else Core.roundRatio Core.b64 (false != false) a b (q - r)) = _
      rw [if_neg hb0]
      show Core.roundRatio Core.b64 false a b (q - r) = _
      refine Core.roundRatio_congr (by omega) (by omega) ?_
      generalize v.toInt.natAbs = V at *
      generalize m.toInt.natAbs = M at *
      have p1 := Nat.two_pow_pos q.toNat
      have p2 := Nat.two_pow_pos (-q).toNat
      have p3 := Nat.two_pow_pos r.toNat
      have p4 := Nat.two_pow_pos (-r).toNat
      have k1 : q.toNat + (-r).toNat + (0 - (q - r)).toNat = (-q).toNat + r.toNat + (q - r - 0).toNat := by omega
      refine Nat.eq_of_mul_eq_mul_right (Nat.mul_pos (Nat.mul_pos p1 p4) (Nat.mul_pos p2 p3)) ?_
      have c1 : a * M * 2 ^ (q - r - 0).toNat * (2 ^ q.toNat * 2 ^ (-r).toNat * (2 ^ (-q).toNat * 2 ^ r.toNat)) = (a * 2 ^ q.toNat) * (M * 2 ^ (-r).toNat) * 2 ^ ((-q).toNat + r.toNat + (q - r - 0).toNat) := by
        rw [Nat.pow_add, Nat.pow_add]; ac_rfl
      have c2 : V * b * 2 ^ (0 - (q - r)).toNat * (2 ^ q.toNat * 2 ^ (-r).toNat * (2 ^ (-q).toNat * 2 ^ r.toNat)) = (V * 2 ^ (-q).toNat) * (b * 2 ^ r.toNat) * 2 ^ (q.toNat + (-r).toNat + (0 - (q - r)).toNat) := by
        rw [Nat.pow_add, Nat.pow_add]; ac_rfl
      rw [c1, c2, n1, n2, k1]
    · rw [e2, hb] at w2; exact w2.elim
  · rw [e1, ha] at w1; exact w1.elim
theorem own_one : Core.val64 4607182418800017408 = .fin false (2 ^ 52) (-52) := by decide +kernel
theorem own_zval1 : Core.zval Core.b64 (.fin false (2 ^ 52) (-52)) = (Core.zmag Core.b64 (.fin false (2 ^ 52) (-52)) : Int) := rfl
theorem own_fits1 : Core.fits Core.b64 (.fin false (2 ^ 52) (-52)) := own_one ▸ Core.val64_fits _
theorem own_share {v m : Int32} (h0 : 0 ≤ v.toInt) (h1 : v.toInt ≤ m.toInt) (h2 : 1 ≤ m.toInt) : Core.val64 (FP.ddiv (FP.i2d v) (FP.i2d m)) ≠ .nan ∧ 0 ≤ Core.zval Core.b64 (Core.val64 (FP.ddiv (FP.i2d v) (FP.i2d m))) ∧ Core.zval Core.b64 (Core.val64 (FP.ddiv (FP.i2d v) (FP.i2d m))) ≤ Core.zval Core.b64 (Core.val64 4607182418800017408) := by
  have e := own_ratio h0 h2
  rw [e, own_one]
  refine ⟨Core.roundRatio_ne_nan _ _ _ _ _, ?_, ?_⟩
  · unfold Core.zval; rw [Core.sgn_roundRatio]; exact Int.natCast_nonneg _
  · unfold Core.zval; rw [Core.sgn_roundRatio]
    refine Int.ofNat_le.mpr ?_
    refine Core.zmag_roundRatio_le Core.good_b64 (e0 := Core.b64.qmin) (by omega) own_fits1 (by intro z; cases z) (Int.le_refl _) (by decide) ?_
    have k : Core.zmag Core.b64 (.fin false (2 ^ 52) (-52)) = 2 ^ (0 - Core.b64.qmin).toNat := by decide +kernel
    rw [k, Int.sub_self]
    unfold Core.inUnits
    generalize 2 ^ (0 - Core.b64.qmin).toNat = K
    rw [show (0 : Int).toNat = 0 from rfl, Nat.pow_zero, Nat.mul_one, Nat.mul_comm]
    exact Nat.mul_le_mul_left _ (by omega)
theorem own_top {m : Int32} (h2 : 1 ≤ m.toInt) : FP.ddiv (FP.i2d m) (FP.i2d m) = 4607182418800017408 := by
  have e := own_ratio (v := m) (m := m) (by omega) h2
  refine Core.val64_inj ?_ ?_
  · rw [e]; exact Core.roundRatio_ne_nan _ _ _ _ _
  · rw [e, own_one]
    refine Core.roundRatio_exact Core.good_b64 (by omega) own_fits1 ?_
    show m.toInt.natAbs * 2 ^ 52 = 2 ^ 52 * m.toInt.natAbs * 1
    rw [Nat.mul_one, Nat.mul_comm]
theorem own_nn {v m : Int32} (h0 : 0 ≤ v.toInt) (h1 : v.toInt ≤ m.toInt) (h2 : 1 ≤ m.toInt) : NoNaN64 (FP.ddiv (FP.i2d v) (FP.i2d m)) := (dcmp_some (Core.dcmp_self (own_share h0 h1 h2).1)).1
theorem own_notgt {o : Option Ordering} (h : o = some .lt ∨ o = some .eq) : ¬ (cmpValue o .g > (0 : Int32)) := by
  rcases h with h | h <;> subst h <;> decide
theorem own_lo {v m : Int32} (h0 : 0 ≤ v.toInt) (h1 : v.toInt ≤ m.toInt) (h2 : 1 ≤ m.toInt) : ¬ (cmpValue (FP.dcmp (0 : UInt64) (FP.ddiv (FP.i2d v) (FP.i2d m))) .g > (0 : Int32)) :=
  own_notgt (Core.dcmp_le.mpr ⟨by decide +kernel, (own_share h0 h1 h2).1, by rw [Core.zval64_zero]; exact (own_share h0 h1 h2).2.1⟩)
theorem own_hi {v m : Int32} (h0 : 0 ≤ v.toInt) (h1 : v.toInt ≤ m.toInt) (h2 : 1 ≤ m.toInt) : ¬ (cmpValue (FP.dcmp (FP.ddiv (FP.i2d v) (FP.i2d m)) (4607182418800017408 : UInt64)) .g > (0 : Int32)) :=
  own_notgt (Core.dcmp_le.mpr ⟨(own_share h0 h1 h2).1, by decide +kernel, (own_share h0 h1 h2).2.2⟩)
end Jvm.RoadKit
namespace Jvm.RoadKit
open Sem ClassFile Op Lib Jvm.Stand Jvm.Free Jvm.LawKit Jvm.FP Jvm.Free.Fl
theorem own_topc {v m : Int32} (h : v = m) (h2 : 1 ≤ m.toInt) : cmpValue (FP.dcmp (FP.ddiv (FP.i2d v) (FP.i2d m)) (4607182418800017408 : UInt64)) .l = (0 : Int32) := by
  subst h; rw [own_top h2]; decide +kernel
theorem own_le {x : Int32} (h : (1 : Int32) < x) : 1 ≤ x.toInt := by
  have q : (1 : Int32).toInt < x.toInt := Int32.lt_iff_toInt_lt.mp h
  have k : (1 : Int32).toInt = 1 := rfl
  omega
theorem own_n1 (p : Int32) : 1 ≤ ((((p.toUInt32 >>> ((1 : Int32) &&& 31).toUInt32).toInt32) &&& (7 : Int32)) + (1 : Int32)).toInt := by
  generalize ((p.toUInt32 >>> ((1 : Int32) &&& 31).toUInt32).toInt32) = z
  have a := c_and z 7 (by decide)
  have b := c_iadd (z &&& 7) 1
  have r := rng32 ((z &&& 7) + 1)
  have k : (7 : Int32).toInt = 7 := rfl
  have k1 : (1 : Int32).toInt = 1 := rfl
  omega
theorem own_back (n : Int32) : (n - (1 : Int32)) + (1 : Int32) = n := Int32.sub_add_cancel n 1
theorem own_nz {n : Int32} (h : 1 ≤ n.toInt) : n ≠ 0 := fun z => by subst z; exact absurd h (by decide)
theorem own_sub {n : Int32} (h : 1 ≤ n.toInt) : (n - (1 : Int32)).toInt = n.toInt - 1 := by
  have b := c_isub n 1
  have r := rng32 (n - 1)
  have r2 := rng32 n
  have k1 : (1 : Int32).toInt = 1 := rfl
  omega
theorem own_m1 {n : Int32} (h : 1 ≤ n.toInt) (z : ¬ (n - (1 : Int32) = (0 : Int32))) : 1 ≤ (n - (1 : Int32)).toInt := by
  have e := own_sub h
  have q : ¬ ((n - (1 : Int32)).toInt = 0) := fun q => z (Int32.toInt_inj.mp q)
  omega
theorem own_v0 {p v n : Int32} (e : v = (p &&& (2147483647 : Int32)) % n) (h : 1 ≤ n.toInt) : 0 ≤ v.toInt := by
  have a := c_and p 2147483647 (by decide)
  have b := (c_irem (p &&& 2147483647) n n.toInt rfl).1 a.1
  rw [e, b]
  exact Int.emod_nonneg _ (by omega)
theorem own_vm {p v n : Int32} (e : v = (p &&& (2147483647 : Int32)) % n) (h : 1 ≤ n.toInt) : v.toInt ≤ (n - (1 : Int32)).toInt := by
  have a := c_and p 2147483647 (by decide)
  have b := (c_irem (p &&& 2147483647) n n.toInt rfl).1 a.1
  have q := Int.emod_lt_of_pos (p &&& 2147483647).toInt (show 0 < n.toInt by omega)
  rw [own_sub h, e, b]
  omega
theorem own_v9 {p v : Int32} (e : v = (p &&& (2147483647 : Int32)) % (10 : Int32)) : v.toInt ≤ (9 : Int32).toInt := by
  have a := c_and p 2147483647 (by decide)
  have b := (c_irem (p &&& 2147483647) 10 10 rfl).1 a.1
  have k : (9 : Int32).toInt = 9 := rfl
  rw [k, e, b]
  omega
end Jvm.RoadKit
namespace Jvm.Pilot.@@N@@
open Jvm Jvm.ClassFile Sem Op Lib Jvm.Free Jvm.Stand Jvm.LawKit Jvm.RoadKit Bundle Jvm.Pilot.@@N@@.Jvm.D
theorem d1_0 : decode jdk_29_method_65_code 0 = .ok (.iload_n 0, 1) := by decide +kernel
theorem d1_1 : decode jdk_29_method_65_code 1 = .ok (.iload_n 1, 1) := by decide +kernel
theorem d1_2 : decode jdk_29_method_65_code 2 = .ok (.if_icmp .lt 7, 3) := by decide +kernel
theorem d1_9 : decode jdk_29_method_65_code 9 = .ok (.iload_n 1, 1) := by decide +kernel
theorem d1_10 : decode jdk_29_method_65_code 10 = .ok (.ireturn, 1) := by decide +kernel
theorem d1_5 : decode jdk_29_method_65_code 5 = .ok (.iload_n 0, 1) := by decide +kernel
theorem d1_6 : decode jdk_29_method_65_code 6 = .ok (.goto 4, 3) := by decide +kernel
theorem pf_1 : plainFor (⟨"java/lang/Math", "max", "(II)I"⟩ : MethodName) = true := by decide +kernel
theorem ef_mx (m : MethodId) (x0 : Int32) (x1 : Int32)  : entryFrame m #[(.int x0), (.int x1)] 2 = mkF m 0 #[.val (.int x0), .val (.int x1)] [] := by first | (simp [entryFrame, mkF, argsToLocals, Value.category]; done) | rfl
def Q_mx (Z : State) (i2 : Int32) (h0 : Heap) (n0 : Nat) (v : Option Value) (h : Heap) (L : List Loc) : Prop := ∃ (rr : Int32), v = some (.int rr) ∧ Fr n0 L ∧ h = h0 ∧ (1 ≤ rr.toInt)
set_option maxRecDepth 65536 in
set_option maxHeartbeats 40000000 in
theorem rm_mx (l : Launch) (Z : State) (a0 : Array Value) (hw : ∀ d ∈ tables_1, d.before a0 Z = true) (ws : List Jvm.Cond) (i2 : Int32) (h0 : Heap) (n0 : Nat) (O0 : Old Z n0 h0)  :
    MetFree l (⟨"java/lang/Math", "max", "(II)I"⟩ : MethodName) (head1 (Jvm.Cond.code (⟨"java/lang/Math", "max", "(II)I"⟩ : MethodName) jdk_29_method_65_code 2 (some .int) :: ws) ({ frames := 0, cells := 0, slots := 0, locals := 0 } : Room)) (fun a U => a = #[(.int (1 : Int32)), (.int i2)] ∧ Z.Warmed39 U.vm ∧ U.heap = h0) (fun _ _ _ _ _ => True) (fun _ U o U' => ∃ v L, o = .returned v ∧ Q_mx Z i2 h0 n0 v U'.heap L ∧ FrameEnd U o U' L ({ frames := 0, cells := 0, slots := 0, locals := 0 } : Room).cells ({ frames := 0, cells := 0, slots := 0, locals := 0 } : Room).slots) := by
  refine MetFree.of_bodySF pf_1 hisR ?_
  intro p e s m args below meth c s₁ Bd hml0 hP hK
  obtain ⟨rfl, hZ, hh⟩ := hP
  have hx := Bd.exec
  have hby := Bd.bytes
  have hml : c.maxLocals = 2 := hml0
  have hown : s.vm.findClass "java/lang/Math" = some m.cls := findClass_of_methodNamed Bd.named
  have hnm := (name_of_methodNamed Bd.named Bd.method).1
  have X0 : Stand p l e ({ frames := 0, cells := 0, slots := 0, locals := 0 } : Room) s m #[(.int (1 : Int32)), (.int i2)] below meth c s₁ [] 0 0 := Stand.of_body Bd
  have e0 : s₁.heap = h0 := by rw [← hh, Bd.state]; rfl
  have N0 := Fr.nil n0
  have g0 : Go p e below s₁ (mkF m 0 #[iv (1 : Int32), iv i2] []) (s₁.setTop (entryFrame m #[(.int (1 : Int32)), (.int i2)] 2)) := fun t kont => castTop (ef_mx m (1 : Int32) i2 ) kont
  generalize s₁.setTop (entryFrame m #[(.int (1 : Int32)), (.int i2)] 2) = A0 at g0 ⊢
  have g102 : Go p e below s₁ (mkF m 2 #[iv (1 : Int32), iv i2] [(.int i2), (.int (1 : Int32))]) A0 := by
    intro t kont
    refine g0 t ?_
    refine XS.iloadN X0.here hx rfl (hb hby d1_0) rfl ?_
    show Steps p.tables e below (s₁.setTop (mkF m 1 #[iv (1 : Int32), iv i2] [(.int (1 : Int32))])) _
    refine XS.iloadN X0.here hx rfl (hb hby d1_1) rfl ?_
    show Steps p.tables e below (s₁.setTop (mkF m 2 #[iv (1 : Int32), iv i2] [(.int i2), (.int (1 : Int32))])) _
    exact kont
  by_cases c101 : (1 : Int32) < i2
  ·
    have g103 : Go p e below s₁ (mkF m 10 #[iv (1 : Int32), iv i2] [(.int i2)]) A0 := by
      intro t kont
      refine g102 t ?_
      refine XS.icmpYes X0.here hx rfl (pc0 := 2) (pc' := 9) rfl (hb hby d1_2) rfl (tlt c101).1 (by decide) (by decide) ?_
      show Steps p.tables e below (s₁.setTop (mkF m 9 #[iv (1 : Int32), iv i2] [])) _
      refine XS.iloadN X0.here hx rfl (hb hby d1_9) rfl ?_
      show Steps p.tables e below (s₁.setTop (mkF m 10 #[iv (1 : Int32), iv i2] [(.int i2)])) _
      exact kont
    obtain ⟨fs, hr, hrun, hended, hW, hsame⟩ := X0.leave (v := some (.int i2)) (fun h => by rw [Bd.returns] at h; cases h)
    refine ⟨_, _, g103 _ (retI X0 hx Bd.returns (hb hby d1_10) hr), hrun, hended, _, _, rfl, ?_, ⟨_, rfl⟩, hW, hsame.mono (by decide) (by decide)⟩
    show Q_mx Z i2 h0 n0 _ s₁.heap _
    rw [e0]
    exact ⟨i2, rfl, N0, rfl, own_le c101⟩
  have g104 : Go p e below s₁ (mkF m 10 #[iv (1 : Int32), iv i2] [(.int (1 : Int32))]) A0 := by
    intro t kont
    refine g102 t ?_
    refine XS.icmpNo X0.here hx rfl (hb hby d1_2) rfl (flt c101).1 ?_
    show Steps p.tables e below (s₁.setTop (mkF m 5 #[iv (1 : Int32), iv i2] [])) _
    refine XS.iloadN X0.here hx rfl (hb hby d1_5) rfl ?_
    show Steps p.tables e below (s₁.setTop (mkF m 6 #[iv (1 : Int32), iv i2] [(.int (1 : Int32))])) _
    refine XS.goto X0.here hx rfl (pc0 := 6) (pc' := 10) rfl (hb hby d1_6) (by decide) (by decide) ?_
    show Steps p.tables e below (s₁.setTop (mkF m 10 #[iv (1 : Int32), iv i2] [(.int (1 : Int32))])) _
    exact kont
  obtain ⟨fs, hr, hrun, hended, hW, hsame⟩ := X0.leave (v := some (.int (1 : Int32))) (fun h => by rw [Bd.returns] at h; cases h)
  refine ⟨_, _, g104 _ (retI X0 hx Bd.returns (hb hby d1_10) hr), hrun, hended, _, _, rfl, ?_, ⟨_, rfl⟩, hW, hsame.mono (by decide) (by decide)⟩
  show Q_mx Z i2 h0 n0 _ s₁.heap _
  rw [e0]
  exact ⟨(1 : Int32), rfl, N0, rfl, (by decide)⟩
theorem d3_0 : decode prog_6_method_5_code 0 = .ok (.aload_n 0, 1) := by decide +kernel
theorem d3_1 : decode prog_6_method_5_code 1 = .ok (.getstatic 7, 3) := by decide +kernel
theorem d3_4 : decode prog_6_method_5_code 4 = .ok (.if_acmp .ne 9, 3) := by decide +kernel
theorem d3_7 : decode prog_6_method_5_code 7 = .ok (.iload_n 1, 1) := by decide +kernel
theorem d3_8 : decode prog_6_method_5_code 8 = .ok (.iconst 1, 1) := by decide +kernel
theorem d3_9 : decode prog_6_method_5_code 9 = .ok (.isub, 1) := by decide +kernel
theorem d3_10 : decode prog_6_method_5_code 10 = .ok (.goto 5, 3) := by decide +kernel
theorem d3_15 : decode prog_6_method_5_code 15 = .ok (.ireturn, 1) := by decide +kernel
theorem pn_com_example_evenhand_evenhand_Characteristic : plainName "com/example/evenhand/evenhand/Characteristic" = true := by first | (simp [plainName, overriddenIn]; done) | decide +kernel
theorem ef_maxD (m : MethodId) (x0 : Addr) (x1 : Int32)  : entryFrame m #[(.ref x0), (.int x1)] 2 = mkF m 0 #[.val (.ref x0), .val (.int x1)] [] := by first | (simp [entryFrame, mkF, argsToLocals, Value.category]; done) | rfl
def Q_maxD (Z : State) (w : Addr) (i1 : Int32) (h0 : Heap) (n0 : Nat) (v : Option Value) (h : Heap) (L : List Loc) : Prop := v = some (.int (i1 - (1 : Int32))) ∧ Fr n0 L ∧ h = h0
set_option maxRecDepth 65536 in
set_option maxHeartbeats 40000000 in
theorem rm_maxD (l : Launch) (Z : State) (a0 : Array Value) (hw : ∀ d ∈ tables_1, d.before a0 Z = true) (ws : List Jvm.Cond) (w : Addr) (i1 : Int32) (h0 : Heap) (n0 : Nat) (O0 : Old Z n0 h0) (S0_ : Sta Z Z.heap "com/example/evenhand/evenhand/Characteristic" "DEPENDENCIES" "Lcom/example/evenhand/evenhand/Characteristic;" (.ref w)) :
    MetFree l (⟨"com/example/evenhand/evenhand/Characteristic", "max", "(I)I"⟩ : MethodName) (head1 (Jvm.Cond.code (⟨"com/example/evenhand/evenhand/Characteristic", "max", "(I)I"⟩ : MethodName) prog_6_method_5_code 2 (some .int) :: ws) ({ frames := 0, cells := 0, slots := 0, locals := 0 } : Room)) (fun a U => a = #[(.ref w), (.int i1)] ∧ Z.Warmed39 U.vm ∧ U.heap = h0) (fun _ _ _ _ _ => True) (fun _ U o U' => ∃ v L, o = .returned v ∧ Q_maxD Z w i1 h0 n0 v U'.heap L ∧ FrameEnd U o U' L ({ frames := 0, cells := 0, slots := 0, locals := 0 } : Room).cells ({ frames := 0, cells := 0, slots := 0, locals := 0 } : Room).slots) := by
  refine MetFree.of_bodySF (plainFor_of_name pn_com_example_evenhand_evenhand_Characteristic) hisR ?_
  intro p e s m args below meth c s₁ Bd hml0 hP hK
  obtain ⟨rfl, hZ, hh⟩ := hP
  have hx := Bd.exec
  have hby := Bd.bytes
  have hml : c.maxLocals = 2 := hml0
  have hown : s.vm.findClass "com/example/evenhand/evenhand/Characteristic" = some m.cls := findClass_of_methodNamed Bd.named
  have hnm := (name_of_methodNamed Bd.named Bd.method).1
  have X0 : Stand p l e ({ frames := 0, cells := 0, slots := 0, locals := 0 } : Room) s m #[(.ref w), (.int i1)] below meth c s₁ [] 0 0 := Stand.of_body Bd
  have e0 : s₁.heap = h0 := by rw [← hh, Bd.state]; rfl
  have N0 := Fr.nil n0
  have g0 : Go p e below s₁ (mkF m 0 #[rv w, iv i1] []) (s₁.setTop (entryFrame m #[(.ref w), (.int i1)] 2)) := fun t kont => castTop (ef_maxD m w i1 ) kont
  generalize s₁.setTop (entryFrame m #[(.ref w), (.int i1)] 2) = A0 at g0 ⊢
  have g101 : Go p e below s₁ (mkF m 1 #[rv w, iv i1] [(.ref w)]) A0 := by
    intro t kont
    refine g0 t ?_
    refine XS.aloadN X0.here hx rfl (hb hby d3_0) rfl rfl ?_
    show Steps p.tables e below (s₁.setTop (mkF m 1 #[rv w, iv i1] [(.ref w)])) _
    exact kont
  have y102 : Sta Z h0 "com/example/evenhand/evenhand/Characteristic" "DEPENDENCIES" "Lcom/example/evenhand/evenhand/Characteristic;" (.ref w) := S0_.ext O0.2
  obtain ⟨T103, X103, e103, st103⟩ := getS2 X0 hx hZ hown (host := "") (Or.inl (hw _ (List.mem_of_getElem? (i := 18) rfl))) Via.refl e0 y102 (g := (mkF m 1 #[rv w, iv i1] [(.ref w)])) rfl (hb hby d3_1)
  have g104 : Go p e below T103 (mkF m 4 #[rv w, iv i1] [(.ref w), (.ref w)]) A0 := fun t kont => g101 t (st103 t kont)
  have g105 : Go p e below T103 (mkF m 15 #[rv w, iv i1] [(.int (i1 - (1 : Int32)))]) A0 := by
    intro t kont
    refine g104 t ?_
    refine Jvm.RoadKit.acmp (g := (mkF m 4 #[rv w, iv i1] [(.ref w), (.ref w)])) X103 hx rfl rfl rfl (pc0 := 4) (pc' := 7) (same := true) rfl (hb hby d3_4) rfl (decide_eq_true rfl) (by decide) (by decide) ?_
    show Steps p.tables e below (T103.setTop (mkF m 7 #[rv w, iv i1] [])) _
    refine XS.iloadN X103.here hx rfl (hb hby d3_7) rfl ?_
    show Steps p.tables e below (T103.setTop (mkF m 8 #[rv w, iv i1] [(.int i1)])) _
    refine XS.iconst X103.here hx rfl (hb hby d3_8) ?_
    show Steps p.tables e below (T103.setTop (mkF m 9 #[rv w, iv i1] [(.int (1 : Int32)), (.int i1)])) _
    refine XS.isub X103.here hx rfl (hb hby d3_9) rfl ?_
    show Steps p.tables e below (T103.setTop (mkF m 10 #[rv w, iv i1] [(.int (i1 - (1 : Int32)))])) _
    refine XS.goto X103.here hx rfl (pc0 := 10) (pc' := 15) rfl (hb hby d3_10) (by decide) (by decide) ?_
    show Steps p.tables e below (T103.setTop (mkF m 15 #[rv w, iv i1] [(.int (i1 - (1 : Int32)))])) _
    exact kont
  obtain ⟨fs, hr, hrun, hended, hW, hsame⟩ := X103.leave (v := some (.int (i1 - (1 : Int32)))) (fun h => by rw [Bd.returns] at h; cases h)
  refine ⟨_, _, g105 _ (retI X103 hx Bd.returns (hb hby d3_15) hr), hrun, hended, _, _, rfl, ?_, ⟨_, rfl⟩, hW, hsame.mono (by decide) (by decide)⟩
  show Q_maxD Z w i1 h0 n0 _ T103.heap _
  rw [e103]
  exact ⟨rfl, N0, rfl⟩
theorem d3_13 : decode prog_6_method_5_code 13 = .ok (.bipush 9, 2) := by decide +kernel
theorem ef_maxN (m : MethodId) (x0 : Addr) (x1 : Int32)  : entryFrame m #[(.ref x0), (.int x1)] 2 = mkF m 0 #[.val (.ref x0), .val (.int x1)] [] := by first | (simp [entryFrame, mkF, argsToLocals, Value.category]; done) | rfl
def Q_maxN (Z : State) (a1 : Addr) (i1 : Int32) (w : Addr) (h0 : Heap) (n0 : Nat) (v : Option Value) (h : Heap) (L : List Loc) : Prop := v = some (.int (9 : Int32)) ∧ Fr n0 L ∧ h = h0
set_option maxRecDepth 65536 in
set_option maxHeartbeats 40000000 in
theorem rm_maxN (l : Launch) (Z : State) (a0 : Array Value) (hw : ∀ d ∈ tables_1, d.before a0 Z = true) (ws : List Jvm.Cond) (a1 : Addr) (i1 : Int32) (w : Addr) (h0 : Heap) (n0 : Nat) (O0 : Old Z n0 h0) (S0_ : Sta Z Z.heap "com/example/evenhand/evenhand/Characteristic" "DEPENDENCIES" "Lcom/example/evenhand/evenhand/Characteristic;" (.ref w)) (NE1_ : ¬ (a1 = w)) :
    MetFree l (⟨"com/example/evenhand/evenhand/Characteristic", "max", "(I)I"⟩ : MethodName) (head1 (Jvm.Cond.code (⟨"com/example/evenhand/evenhand/Characteristic", "max", "(I)I"⟩ : MethodName) prog_6_method_5_code 2 (some .int) :: ws) ({ frames := 0, cells := 0, slots := 0, locals := 0 } : Room)) (fun a U => a = #[(.ref a1), (.int i1)] ∧ Z.Warmed39 U.vm ∧ U.heap = h0) (fun _ _ _ _ _ => True) (fun _ U o U' => ∃ v L, o = .returned v ∧ Q_maxN Z a1 i1 w h0 n0 v U'.heap L ∧ FrameEnd U o U' L ({ frames := 0, cells := 0, slots := 0, locals := 0 } : Room).cells ({ frames := 0, cells := 0, slots := 0, locals := 0 } : Room).slots) := by
  refine MetFree.of_bodySF (plainFor_of_name pn_com_example_evenhand_evenhand_Characteristic) hisR ?_
  intro p e s m args below meth c s₁ Bd hml0 hP hK
  obtain ⟨rfl, hZ, hh⟩ := hP
  have hx := Bd.exec
  have hby := Bd.bytes
  have hml : c.maxLocals = 2 := hml0
  have hown : s.vm.findClass "com/example/evenhand/evenhand/Characteristic" = some m.cls := findClass_of_methodNamed Bd.named
  have hnm := (name_of_methodNamed Bd.named Bd.method).1
  have X0 : Stand p l e ({ frames := 0, cells := 0, slots := 0, locals := 0 } : Room) s m #[(.ref a1), (.int i1)] below meth c s₁ [] 0 0 := Stand.of_body Bd
  have e0 : s₁.heap = h0 := by rw [← hh, Bd.state]; rfl
  have N0 := Fr.nil n0
  have g0 : Go p e below s₁ (mkF m 0 #[rv a1, iv i1] []) (s₁.setTop (entryFrame m #[(.ref a1), (.int i1)] 2)) := fun t kont => castTop (ef_maxN m a1 i1 ) kont
  generalize s₁.setTop (entryFrame m #[(.ref a1), (.int i1)] 2) = A0 at g0 ⊢
  have g101 : Go p e below s₁ (mkF m 1 #[rv a1, iv i1] [(.ref a1)]) A0 := by
    intro t kont
    refine g0 t ?_
    refine XS.aloadN X0.here hx rfl (hb hby d3_0) rfl rfl ?_
    show Steps p.tables e below (s₁.setTop (mkF m 1 #[rv a1, iv i1] [(.ref a1)])) _
    exact kont
  have y102 : Sta Z h0 "com/example/evenhand/evenhand/Characteristic" "DEPENDENCIES" "Lcom/example/evenhand/evenhand/Characteristic;" (.ref w) := S0_.ext O0.2
  obtain ⟨T103, X103, e103, st103⟩ := getS2 X0 hx hZ hown (host := "") (Or.inl (hw _ (List.mem_of_getElem? (i := 18) rfl))) Via.refl e0 y102 (g := (mkF m 1 #[rv a1, iv i1] [(.ref a1)])) rfl (hb hby d3_1)
  have g104 : Go p e below T103 (mkF m 4 #[rv a1, iv i1] [(.ref w), (.ref a1)]) A0 := fun t kont => g101 t (st103 t kont)
  have g105 : Go p e below T103 (mkF m 15 #[rv a1, iv i1] [(.int (9 : Int32))]) A0 := by
    intro t kont
    refine g104 t ?_
    refine Jvm.RoadKit.acmp (g := (mkF m 4 #[rv a1, iv i1] [(.ref w), (.ref a1)])) X103 hx rfl rfl rfl (pc0 := 4) (pc' := 13) (same := false) rfl (hb hby d3_4) rfl (decide_eq_false fun q => NE1_ (Value.ref.inj q)) (by decide) (by decide) ?_
    show Steps p.tables e below (T103.setTop (mkF m 13 #[rv a1, iv i1] [])) _
    refine XS.bipush X103.here hx rfl (hb hby d3_13) ?_
    show Steps p.tables e below (T103.setTop (mkF m 15 #[rv a1, iv i1] [(.int (9 : Int32))])) _
    exact kont
  obtain ⟨fs, hr, hrun, hended, hW, hsame⟩ := X103.leave (v := some (.int (9 : Int32))) (fun h => by rw [Bd.returns] at h; cases h)
  refine ⟨_, _, g105 _ (retI X103 hx Bd.returns (hb hby d3_15) hr), hrun, hended, _, _, rfl, ?_, ⟨_, rfl⟩, hW, hsame.mono (by decide) (by decide)⟩
  show Q_maxN Z a1 i1 w h0 n0 _ T103.heap _
  rw [e103]
  exact ⟨rfl, N0, rfl⟩
theorem d2_0 : decode prog_6_method_6_code 0 = .ok (.aload_n 0, 1) := by decide +kernel
theorem d2_1 : decode prog_6_method_6_code 1 = .ok (.iload_n 2, 1) := by decide +kernel
theorem d2_2 : decode prog_6_method_6_code 2 = .ok (.invokevirtual 36, 3) := by decide +kernel
theorem pd_0 : parseMethodDescriptor "(I)I" = some ⟨[.int], some .int⟩ := by decide +kernel
theorem d2_5 : decode prog_6_method_6_code 5 = .ok (.istore_n 3, 1) := by decide +kernel
theorem d2_6 : decode prog_6_method_6_code 6 = .ok (.iload_n 3, 1) := by decide +kernel
theorem d2_7 : decode prog_6_method_6_code 7 = .ok (.ifCond .ne 7, 3) := by decide +kernel
theorem d2_10 : decode prog_6_method_6_code 10 = .ok (.dconst 0, 1) := by decide +kernel
theorem d2_11 : decode prog_6_method_6_code 11 = .ok (.goto 8, 3) := by decide +kernel
theorem d2_19 : decode prog_6_method_6_code 19 = .ok (.dreturn, 1) := by decide +kernel
theorem ef_shD0 (m : MethodId) (x0 : Addr) (x1 : Int32) (x2 : Int32)  : entryFrame m #[(.ref x0), (.int x1), (.int x2)] 4 = mkF m 0 #[.val (.ref x0), .val (.int x1), .val (.int x2), .unset] [] := by first | (simp [entryFrame, mkF, argsToLocals, Value.category]; done) | rfl
def Q_shD0 (Z : State) (w : Addr) (v1 : Int32) (i1 : Int32) (h0 : Heap) (n0 : Nat) (v : Option Value) (h : Heap) (L : List Loc) : Prop := v = some (.double (0 : UInt64)) ∧ Fr n0 L ∧ h = h0
set_option maxRecDepth 65536 in
set_option maxHeartbeats 40000000 in
theorem rm_shD0 (l : Launch) (Z : State) (a0 : Array Value) (hw : ∀ d ∈ tables_1, d.before a0 Z = true) (ws : List Jvm.Cond) (w : Addr) (v1 : Int32) (i1 : Int32) (h0 : Heap) (n0 : Nat) (O0 : Old Z n0 h0) (E0_ : Exa Z h0 w "com/example/evenhand/evenhand/Characteristic") (S1_ : Sta Z Z.heap "com/example/evenhand/evenhand/Characteristic" "DEPENDENCIES" "Lcom/example/evenhand/evenhand/Characteristic;" (.ref w)) (hm0 : (i1 - (1 : Int32)) = (0 : Int32)) :
    MetFree l (⟨"com/example/evenhand/evenhand/Characteristic", "share", "(II)D"⟩ : MethodName) (head1 (Jvm.Cond.code (⟨"com/example/evenhand/evenhand/Characteristic", "share", "(II)D"⟩ : MethodName) prog_6_method_6_code 4 (some .double) :: ws) ({ frames := 1, cells := 0, slots := 0, locals := 13 } : Room)) (fun a U => a = #[(.ref w), (.int v1), (.int i1)] ∧ Z.Warmed39 U.vm ∧ U.heap = h0) (fun _ _ _ _ _ => True) (fun _ U o U' => ∃ v L, o = .returned v ∧ Q_shD0 Z w v1 i1 h0 n0 v U'.heap L ∧ FrameEnd U o U' L ({ frames := 1, cells := 0, slots := 0, locals := 13 } : Room).cells ({ frames := 1, cells := 0, slots := 0, locals := 13 } : Room).slots) := by
  refine MetFree.of_bodySF (plainFor_of_name pn_com_example_evenhand_evenhand_Characteristic) hisR ?_
  intro p e s m args below meth c s₁ Bd hml0 hP hK
  obtain ⟨rfl, hZ, hh⟩ := hP
  have hx := Bd.exec
  have hby := Bd.bytes
  have hml : c.maxLocals = 4 := hml0
  have hown : s.vm.findClass "com/example/evenhand/evenhand/Characteristic" = some m.cls := findClass_of_methodNamed Bd.named
  have hnm := (name_of_methodNamed Bd.named Bd.method).1
  have X0 : Stand p l e ({ frames := 1, cells := 0, slots := 0, locals := 13 } : Room) s m #[(.ref w), (.int v1), (.int i1)] below meth c s₁ [] 0 0 := Stand.of_body Bd
  have e0 : s₁.heap = h0 := by rw [← hh, Bd.state]; rfl
  have N0 := Fr.nil n0
  have g0 : Go p e below s₁ (mkF m 0 #[rv w, iv v1, iv i1, .unset] []) (s₁.setTop (entryFrame m #[(.ref w), (.int v1), (.int i1)] 4)) := fun t kont => castTop (ef_shD0 m w v1 i1 ) kont
  generalize s₁.setTop (entryFrame m #[(.ref w), (.int v1), (.int i1)] 4) = A0 at g0 ⊢
  have g101 : Go p e below s₁ (mkF m 2 #[rv w, iv v1, iv i1, .unset] [(.int i1), (.ref w)]) A0 := by
    intro t kont
    refine g0 t ?_
    refine XS.aloadN X0.here hx rfl (hb hby d2_0) rfl rfl ?_
    show Steps p.tables e below (s₁.setTop (mkF m 1 #[rv w, iv v1, iv i1, .unset] [(.ref w)])) _
    refine XS.iloadN X0.here hx rfl (hb hby d2_1) rfl ?_
    show Steps p.tables e below (s₁.setTop (mkF m 2 #[rv w, iv v1, iv i1, .unset] [(.int i1), (.ref w)])) _
    exact kont
  obtain ⟨cq102, kq102, q102a, q102b, q102c⟩ := isOf hZ e0 E0_
  obtain ⟨_, _, ⟨T102, L102, k102, n102⟩, -, X102, ⟨Lc102, hQ102, l102, y102, z102⟩, st102⟩ := X0.virtualBack hx (y := (⟨"com/example/evenhand/evenhand/Characteristic", "max", "(I)I"⟩ : MethodName)) (z := (⟨"com/example/evenhand/evenhand/Characteristic", "max", "(I)I"⟩ : MethodName)) hown (mvT hZ (hw _ (List.mem_of_getElem? (i := 13) rfl))) (mvT hZ (hw _ (List.mem_of_getElem? (i := 14) rfl))) (notFace_of_selects (args := #[]) (mvT hZ (hw _ (List.mem_of_getElem? (i := 16) rfl)))) (mvT hZ (hw _ (List.mem_of_getElem? (i := 16) rfl))) (mvT hZ (hw _ (List.mem_of_getElem? (i := 15) rfl))) (by decide) (backOf (W := 0) (rm_maxD l Z a0 hw [] w i1 h0 n0 O0 S1_) hZ (hw _ (List.mem_of_getElem? (i := 17) rfl)) (hw _ (List.mem_of_getElem? (i := 2) rfl)) (by decide) (by decide)) q102a q102c (g := (mkF m 2 #[rv w, iv v1, iv i1, .unset] [(.int i1), (.ref w)])) rfl (by rw [hml]; rfl) (Steps.refl _) (argsL := [(.int i1)]) (rest := []) (lenOf pd_0 rfl) rfl (by show 2 * 0 + _ ≤ _; exact Nat.le_of_eq rfl) (hb hby d2_2) (fun _ _ => ⟨rfl, e0, (by decide : 0 + 0 ≤ _), (by decide : 0 + 0 ≤ _)⟩)
  dsimp only [Pt.U, Pt.locs, Pt.cells, Pt.slots] at X102 l102 y102 z102 st102 hQ102
  subst l102 y102 z102
  obtain ⟨rfl, M102, e102⟩ := hQ102
  have N102 := Fr.app N0 M102
  have g103 : Go p e below T102 (mkF m 5 #[rv w, iv v1, iv i1, .unset] [(.int (i1 - (1 : Int32)))]) A0 := fun t kont => g101 t (st102.trans kont)
  have g104 : Go p e below T102 (mkF m 19 #[rv w, iv v1, iv i1, iv (i1 - (1 : Int32))] [(.double (0 : UInt64))]) A0 := by
    intro t kont
    refine g103 t ?_
    refine XS.istoreN X102.here hx rfl (hb hby d2_5) rfl (l' := #[rv w, iv v1, iv i1, iv (i1 - (1 : Int32))]) rfl ?_
    show Steps p.tables e below (T102.setTop (mkF m 6 #[rv w, iv v1, iv i1, iv (i1 - (1 : Int32))] [])) _
    refine XS.iloadN X102.here hx rfl (hb hby d2_6) rfl ?_
    show Steps p.tables e below (T102.setTop (mkF m 7 #[rv w, iv v1, iv i1, iv (i1 - (1 : Int32))] [(.int (i1 - (1 : Int32)))])) _
    refine XS.ifNo X102.here hx rfl (hb hby d2_7) rfl ((if0 _ _).trans (teq hm0).2) ?_
    show Steps p.tables e below (T102.setTop (mkF m 10 #[rv w, iv v1, iv i1, iv (i1 - (1 : Int32))] [])) _
    refine XS.dconst0 X102.here hx rfl (hb hby d2_10) (v := (0 : UInt64)) (by decide) ?_
    show Steps p.tables e below (T102.setTop (mkF m 11 #[rv w, iv v1, iv i1, iv (i1 - (1 : Int32))] [(.double (0 : UInt64))])) _
    refine XS.goto X102.here hx rfl (pc0 := 11) (pc' := 19) rfl (hb hby d2_11) (by decide) (by decide) ?_
    show Steps p.tables e below (T102.setTop (mkF m 19 #[rv w, iv v1, iv i1, iv (i1 - (1 : Int32))] [(.double (0 : UInt64))])) _
    exact kont
  obtain ⟨fs, hr, hrun, hended, hW, hsame⟩ := X102.leave (v := some (.double (0 : UInt64))) (fun h => by rw [Bd.returns] at h; cases h)
  refine ⟨_, _, g104 _ (retOut X102 hx Bd.returns rfl (Or.inr (Or.inr (Or.inl ⟨rfl, rfl, _, rfl⟩))) (hb hby d2_19) hr), hrun, hended, _, _, rfl, ?_, ⟨_, rfl⟩, hW, hsame.mono (by decide) (by decide)⟩
  show Q_shD0 Z w v1 i1 h0 n0 _ T102.heap _
  rw [e102]
  exact ⟨rfl, N102, rfl⟩
theorem d2_14 : decode prog_6_method_6_code 14 = .ok (.iload_n 1, 1) := by decide +kernel
theorem d2_15 : decode prog_6_method_6_code 15 = .ok (.i2d, 1) := by decide +kernel
theorem d2_16 : decode prog_6_method_6_code 16 = .ok (.iload_n 3, 1) := by decide +kernel
theorem d2_17 : decode prog_6_method_6_code 17 = .ok (.i2d, 1) := by decide +kernel
theorem d2_18 : decode prog_6_method_6_code 18 = .ok (.ddiv, 1) := by decide +kernel
theorem ef_shD1 (m : MethodId) (x0 : Addr) (x1 : Int32) (x2 : Int32)  : entryFrame m #[(.ref x0), (.int x1), (.int x2)] 4 = mkF m 0 #[.val (.ref x0), .val (.int x1), .val (.int x2), .unset] [] := by first | (simp [entryFrame, mkF, argsToLocals, Value.category]; done) | rfl
def Q_shD1 (Z : State) (w : Addr) (v1 : Int32) (i1 : Int32) (h0 : Heap) (n0 : Nat) (v : Option Value) (h : Heap) (L : List Loc) : Prop := v = some (.double (FP.ddiv (FP.i2d v1) (FP.i2d (i1 - (1 : Int32))))) ∧ Fr n0 L ∧ h = h0
set_option maxRecDepth 65536 in
set_option maxHeartbeats 40000000 in
theorem rm_shD1 (l : Launch) (Z : State) (a0 : Array Value) (hw : ∀ d ∈ tables_1, d.before a0 Z = true) (ws : List Jvm.Cond) (w : Addr) (v1 : Int32) (i1 : Int32) (h0 : Heap) (n0 : Nat) (O0 : Old Z n0 h0) (E0_ : Exa Z h0 w "com/example/evenhand/evenhand/Characteristic") (S1_ : Sta Z Z.heap "com/example/evenhand/evenhand/Characteristic" "DEPENDENCIES" "Lcom/example/evenhand/evenhand/Characteristic;" (.ref w)) (hmz : ¬ ((i1 - (1 : Int32)) = (0 : Int32))) (hv0 : 0 ≤ v1.toInt) (hv1 : v1.toInt ≤ (i1 - (1 : Int32)).toInt) (hm1 : 1 ≤ (i1 - (1 : Int32)).toInt) :
    MetFree l (⟨"com/example/evenhand/evenhand/Characteristic", "share", "(II)D"⟩ : MethodName) (head1 (Jvm.Cond.code (⟨"com/example/evenhand/evenhand/Characteristic", "share", "(II)D"⟩ : MethodName) prog_6_method_6_code 4 (some .double) :: ws) ({ frames := 1, cells := 0, slots := 0, locals := 13 } : Room)) (fun a U => a = #[(.ref w), (.int v1), (.int i1)] ∧ Z.Warmed39 U.vm ∧ U.heap = h0) (fun _ _ _ _ _ => True) (fun _ U o U' => ∃ v L, o = .returned v ∧ Q_shD1 Z w v1 i1 h0 n0 v U'.heap L ∧ FrameEnd U o U' L ({ frames := 1, cells := 0, slots := 0, locals := 13 } : Room).cells ({ frames := 1, cells := 0, slots := 0, locals := 13 } : Room).slots) := by
  refine MetFree.of_bodySF (plainFor_of_name pn_com_example_evenhand_evenhand_Characteristic) hisR ?_
  intro p e s m args below meth c s₁ Bd hml0 hP hK
  obtain ⟨rfl, hZ, hh⟩ := hP
  have hx := Bd.exec
  have hby := Bd.bytes
  have hml : c.maxLocals = 4 := hml0
  have hown : s.vm.findClass "com/example/evenhand/evenhand/Characteristic" = some m.cls := findClass_of_methodNamed Bd.named
  have hnm := (name_of_methodNamed Bd.named Bd.method).1
  have X0 : Stand p l e ({ frames := 1, cells := 0, slots := 0, locals := 13 } : Room) s m #[(.ref w), (.int v1), (.int i1)] below meth c s₁ [] 0 0 := Stand.of_body Bd
  have e0 : s₁.heap = h0 := by rw [← hh, Bd.state]; rfl
  have N0 := Fr.nil n0
  have g0 : Go p e below s₁ (mkF m 0 #[rv w, iv v1, iv i1, .unset] []) (s₁.setTop (entryFrame m #[(.ref w), (.int v1), (.int i1)] 4)) := fun t kont => castTop (ef_shD1 m w v1 i1 ) kont
  generalize s₁.setTop (entryFrame m #[(.ref w), (.int v1), (.int i1)] 4) = A0 at g0 ⊢
  have g101 : Go p e below s₁ (mkF m 2 #[rv w, iv v1, iv i1, .unset] [(.int i1), (.ref w)]) A0 := by
    intro t kont
    refine g0 t ?_
    refine XS.aloadN X0.here hx rfl (hb hby d2_0) rfl rfl ?_
    show Steps p.tables e below (s₁.setTop (mkF m 1 #[rv w, iv v1, iv i1, .unset] [(.ref w)])) _
    refine XS.iloadN X0.here hx rfl (hb hby d2_1) rfl ?_
    show Steps p.tables e below (s₁.setTop (mkF m 2 #[rv w, iv v1, iv i1, .unset] [(.int i1), (.ref w)])) _
    exact kont
  obtain ⟨cq102, kq102, q102a, q102b, q102c⟩ := isOf hZ e0 E0_
  obtain ⟨_, _, ⟨T102, L102, k102, n102⟩, -, X102, ⟨Lc102, hQ102, l102, y102, z102⟩, st102⟩ := X0.virtualBack hx (y := (⟨"com/example/evenhand/evenhand/Characteristic", "max", "(I)I"⟩ : MethodName)) (z := (⟨"com/example/evenhand/evenhand/Characteristic", "max", "(I)I"⟩ : MethodName)) hown (mvT hZ (hw _ (List.mem_of_getElem? (i := 13) rfl))) (mvT hZ (hw _ (List.mem_of_getElem? (i := 14) rfl))) (notFace_of_selects (args := #[]) (mvT hZ (hw _ (List.mem_of_getElem? (i := 16) rfl)))) (mvT hZ (hw _ (List.mem_of_getElem? (i := 16) rfl))) (mvT hZ (hw _ (List.mem_of_getElem? (i := 15) rfl))) (by decide) (backOf (W := 0) (rm_maxD l Z a0 hw [] w i1 h0 n0 O0 S1_) hZ (hw _ (List.mem_of_getElem? (i := 17) rfl)) (hw _ (List.mem_of_getElem? (i := 2) rfl)) (by decide) (by decide)) q102a q102c (g := (mkF m 2 #[rv w, iv v1, iv i1, .unset] [(.int i1), (.ref w)])) rfl (by rw [hml]; rfl) (Steps.refl _) (argsL := [(.int i1)]) (rest := []) (lenOf pd_0 rfl) rfl (by show 2 * 0 + _ ≤ _; exact Nat.le_of_eq rfl) (hb hby d2_2) (fun _ _ => ⟨rfl, e0, (by decide : 0 + 0 ≤ _), (by decide : 0 + 0 ≤ _)⟩)
  dsimp only [Pt.U, Pt.locs, Pt.cells, Pt.slots] at X102 l102 y102 z102 st102 hQ102
  subst l102 y102 z102
  obtain ⟨rfl, M102, e102⟩ := hQ102
  have N102 := Fr.app N0 M102
  have g103 : Go p e below T102 (mkF m 5 #[rv w, iv v1, iv i1, .unset] [(.int (i1 - (1 : Int32)))]) A0 := fun t kont => g101 t (st102.trans kont)
  have g104 : Go p e below T102 (mkF m 19 #[rv w, iv v1, iv i1, iv (i1 - (1 : Int32))] [(.double (FP.ddiv (FP.i2d v1) (FP.i2d (i1 - (1 : Int32)))))]) A0 := by
    intro t kont
    refine g103 t ?_
    refine XS.istoreN X102.here hx rfl (hb hby d2_5) rfl (l' := #[rv w, iv v1, iv i1, iv (i1 - (1 : Int32))]) rfl ?_
    show Steps p.tables e below (T102.setTop (mkF m 6 #[rv w, iv v1, iv i1, iv (i1 - (1 : Int32))] [])) _
    refine XS.iloadN X102.here hx rfl (hb hby d2_6) rfl ?_
    show Steps p.tables e below (T102.setTop (mkF m 7 #[rv w, iv v1, iv i1, iv (i1 - (1 : Int32))] [(.int (i1 - (1 : Int32)))])) _
    refine XS.ifYes X102.here hx rfl (pc0 := 7) (pc' := 14) rfl (hb hby d2_7) rfl ((if0 _ _).trans (feq hmz).2) (by decide) (by decide) ?_
    show Steps p.tables e below (T102.setTop (mkF m 14 #[rv w, iv v1, iv i1, iv (i1 - (1 : Int32))] [])) _
    refine XS.iloadN X102.here hx rfl (hb hby d2_14) rfl ?_
    show Steps p.tables e below (T102.setTop (mkF m 15 #[rv w, iv v1, iv i1, iv (i1 - (1 : Int32))] [(.int v1)])) _
    refine XS.i2dS X102.here hx rfl (hb hby d2_15) rfl rfl ?_
    show Steps p.tables e below (T102.setTop (mkF m 16 #[rv w, iv v1, iv i1, iv (i1 - (1 : Int32))] [(.double (FP.i2d v1))])) _
    refine XS.iloadN X102.here hx rfl (hb hby d2_16) rfl ?_
    show Steps p.tables e below (T102.setTop (mkF m 17 #[rv w, iv v1, iv i1, iv (i1 - (1 : Int32))] [(.int (i1 - (1 : Int32))), (.double (FP.i2d v1))])) _
    refine XS.i2dS X102.here hx rfl (hb hby d2_17) rfl rfl ?_
    show Steps p.tables e below (T102.setTop (mkF m 18 #[rv w, iv v1, iv i1, iv (i1 - (1 : Int32))] [(.double (FP.i2d (i1 - (1 : Int32)))), (.double (FP.i2d v1))])) _
    refine XS.ddivS X102.here hx rfl (hb hby d2_18) rfl (own_nn hv0 hv1 hm1) rfl ?_
    show Steps p.tables e below (T102.setTop (mkF m 19 #[rv w, iv v1, iv i1, iv (i1 - (1 : Int32))] [(.double (FP.ddiv (FP.i2d v1) (FP.i2d (i1 - (1 : Int32)))))])) _
    exact kont
  obtain ⟨fs, hr, hrun, hended, hW, hsame⟩ := X102.leave (v := some (.double (FP.ddiv (FP.i2d v1) (FP.i2d (i1 - (1 : Int32)))))) (fun h => by rw [Bd.returns] at h; cases h)
  refine ⟨_, _, g104 _ (retOut X102 hx Bd.returns rfl (Or.inr (Or.inr (Or.inl ⟨rfl, rfl, _, rfl⟩))) (hb hby d2_19) hr), hrun, hended, _, _, rfl, ?_, ⟨_, rfl⟩, hW, hsame.mono (by decide) (by decide)⟩
  show Q_shD1 Z w v1 i1 h0 n0 _ T102.heap _
  rw [e102]
  exact ⟨rfl, N102, rfl⟩
theorem ef_shN (m : MethodId) (x0 : Addr) (x1 : Int32) (x2 : Int32)  : entryFrame m #[(.ref x0), (.int x1), (.int x2)] 4 = mkF m 0 #[.val (.ref x0), .val (.int x1), .val (.int x2), .unset] [] := by first | (simp [entryFrame, mkF, argsToLocals, Value.category]; done) | rfl
def Q_shN (Z : State) (a1 : Addr) (v1 : Int32) (i1 : Int32) (w : Addr) (h0 : Heap) (n0 : Nat) (v : Option Value) (h : Heap) (L : List Loc) : Prop := v = some (.double (FP.ddiv (FP.i2d v1) (FP.i2d (9 : Int32)))) ∧ Fr n0 L ∧ h = h0
set_option maxRecDepth 65536 in
set_option maxHeartbeats 40000000 in
theorem rm_shN (l : Launch) (Z : State) (a0 : Array Value) (hw : ∀ d ∈ tables_1, d.before a0 Z = true) (ws : List Jvm.Cond) (a1 : Addr) (v1 : Int32) (i1 : Int32) (w : Addr) (h0 : Heap) (n0 : Nat) (O0 : Old Z n0 h0) (E0_ : Exa Z h0 a1 "com/example/evenhand/evenhand/Characteristic") (S1_ : Sta Z Z.heap "com/example/evenhand/evenhand/Characteristic" "DEPENDENCIES" "Lcom/example/evenhand/evenhand/Characteristic;" (.ref w)) (NE2_ : ¬ (a1 = w)) (hv0 : 0 ≤ v1.toInt) (hv1 : v1.toInt ≤ (9 : Int32).toInt) (hm1 : 1 ≤ (9 : Int32).toInt) :
    MetFree l (⟨"com/example/evenhand/evenhand/Characteristic", "share", "(II)D"⟩ : MethodName) (head1 (Jvm.Cond.code (⟨"com/example/evenhand/evenhand/Characteristic", "share", "(II)D"⟩ : MethodName) prog_6_method_6_code 4 (some .double) :: ws) ({ frames := 1, cells := 0, slots := 0, locals := 13 } : Room)) (fun a U => a = #[(.ref a1), (.int v1), (.int i1)] ∧ Z.Warmed39 U.vm ∧ U.heap = h0) (fun _ _ _ _ _ => True) (fun _ U o U' => ∃ v L, o = .returned v ∧ Q_shN Z a1 v1 i1 w h0 n0 v U'.heap L ∧ FrameEnd U o U' L ({ frames := 1, cells := 0, slots := 0, locals := 13 } : Room).cells ({ frames := 1, cells := 0, slots := 0, locals := 13 } : Room).slots) := by
  refine MetFree.of_bodySF (plainFor_of_name pn_com_example_evenhand_evenhand_Characteristic) hisR ?_
  intro p e s m args below meth c s₁ Bd hml0 hP hK
  obtain ⟨rfl, hZ, hh⟩ := hP
  have hx := Bd.exec
  have hby := Bd.bytes
  have hml : c.maxLocals = 4 := hml0
  have hown : s.vm.findClass "com/example/evenhand/evenhand/Characteristic" = some m.cls := findClass_of_methodNamed Bd.named
  have hnm := (name_of_methodNamed Bd.named Bd.method).1
  have X0 : Stand p l e ({ frames := 1, cells := 0, slots := 0, locals := 13 } : Room) s m #[(.ref a1), (.int v1), (.int i1)] below meth c s₁ [] 0 0 := Stand.of_body Bd
  have e0 : s₁.heap = h0 := by rw [← hh, Bd.state]; rfl
  have N0 := Fr.nil n0
  have g0 : Go p e below s₁ (mkF m 0 #[rv a1, iv v1, iv i1, .unset] []) (s₁.setTop (entryFrame m #[(.ref a1), (.int v1), (.int i1)] 4)) := fun t kont => castTop (ef_shN m a1 v1 i1 ) kont
  generalize s₁.setTop (entryFrame m #[(.ref a1), (.int v1), (.int i1)] 4) = A0 at g0 ⊢
  have g101 : Go p e below s₁ (mkF m 2 #[rv a1, iv v1, iv i1, .unset] [(.int i1), (.ref a1)]) A0 := by
    intro t kont
    refine g0 t ?_
    refine XS.aloadN X0.here hx rfl (hb hby d2_0) rfl rfl ?_
    show Steps p.tables e below (s₁.setTop (mkF m 1 #[rv a1, iv v1, iv i1, .unset] [(.ref a1)])) _
    refine XS.iloadN X0.here hx rfl (hb hby d2_1) rfl ?_
    show Steps p.tables e below (s₁.setTop (mkF m 2 #[rv a1, iv v1, iv i1, .unset] [(.int i1), (.ref a1)])) _
    exact kont
  obtain ⟨cq102, kq102, q102a, q102b, q102c⟩ := isOf hZ e0 E0_
  obtain ⟨_, _, ⟨T102, L102, k102, n102⟩, -, X102, ⟨Lc102, hQ102, l102, y102, z102⟩, st102⟩ := X0.virtualBack hx (y := (⟨"com/example/evenhand/evenhand/Characteristic", "max", "(I)I"⟩ : MethodName)) (z := (⟨"com/example/evenhand/evenhand/Characteristic", "max", "(I)I"⟩ : MethodName)) hown (mvT hZ (hw _ (List.mem_of_getElem? (i := 13) rfl))) (mvT hZ (hw _ (List.mem_of_getElem? (i := 14) rfl))) (notFace_of_selects (args := #[]) (mvT hZ (hw _ (List.mem_of_getElem? (i := 16) rfl)))) (mvT hZ (hw _ (List.mem_of_getElem? (i := 16) rfl))) (mvT hZ (hw _ (List.mem_of_getElem? (i := 15) rfl))) (by decide) (backOf (W := 0) (rm_maxN l Z a0 hw [] a1 i1 w h0 n0 O0 S1_ NE2_) hZ (hw _ (List.mem_of_getElem? (i := 17) rfl)) (hw _ (List.mem_of_getElem? (i := 2) rfl)) (by decide) (by decide)) q102a q102c (g := (mkF m 2 #[rv a1, iv v1, iv i1, .unset] [(.int i1), (.ref a1)])) rfl (by rw [hml]; rfl) (Steps.refl _) (argsL := [(.int i1)]) (rest := []) (lenOf pd_0 rfl) rfl (by show 2 * 0 + _ ≤ _; exact Nat.le_of_eq rfl) (hb hby d2_2) (fun _ _ => ⟨rfl, e0, (by decide : 0 + 0 ≤ _), (by decide : 0 + 0 ≤ _)⟩)
  dsimp only [Pt.U, Pt.locs, Pt.cells, Pt.slots] at X102 l102 y102 z102 st102 hQ102
  subst l102 y102 z102
  obtain ⟨rfl, M102, e102⟩ := hQ102
  have N102 := Fr.app N0 M102
  have g103 : Go p e below T102 (mkF m 5 #[rv a1, iv v1, iv i1, .unset] [(.int (9 : Int32))]) A0 := fun t kont => g101 t (st102.trans kont)
  have g104 : Go p e below T102 (mkF m 19 #[rv a1, iv v1, iv i1, iv (9 : Int32)] [(.double (FP.ddiv (FP.i2d v1) (FP.i2d (9 : Int32))))]) A0 := by
    intro t kont
    refine g103 t ?_
    refine XS.istoreN X102.here hx rfl (hb hby d2_5) rfl (l' := #[rv a1, iv v1, iv i1, iv (9 : Int32)]) rfl ?_
    show Steps p.tables e below (T102.setTop (mkF m 6 #[rv a1, iv v1, iv i1, iv (9 : Int32)] [])) _
    refine XS.iloadN X102.here hx rfl (hb hby d2_6) rfl ?_
    show Steps p.tables e below (T102.setTop (mkF m 7 #[rv a1, iv v1, iv i1, iv (9 : Int32)] [(.int (9 : Int32))])) _
    refine XS.ifYes X102.here hx rfl (pc0 := 7) (pc' := 14) rfl (hb hby d2_7) rfl ((if0 _ _).trans (feq (by decide : ¬ ((9 : Int32) = (0 : Int32)))).2) (by decide) (by decide) ?_
    show Steps p.tables e below (T102.setTop (mkF m 14 #[rv a1, iv v1, iv i1, iv (9 : Int32)] [])) _
    refine XS.iloadN X102.here hx rfl (hb hby d2_14) rfl ?_
    show Steps p.tables e below (T102.setTop (mkF m 15 #[rv a1, iv v1, iv i1, iv (9 : Int32)] [(.int v1)])) _
    refine XS.i2dS X102.here hx rfl (hb hby d2_15) rfl rfl ?_
    show Steps p.tables e below (T102.setTop (mkF m 16 #[rv a1, iv v1, iv i1, iv (9 : Int32)] [(.double (FP.i2d v1))])) _
    refine XS.iloadN X102.here hx rfl (hb hby d2_16) rfl ?_
    show Steps p.tables e below (T102.setTop (mkF m 17 #[rv a1, iv v1, iv i1, iv (9 : Int32)] [(.int (9 : Int32)), (.double (FP.i2d v1))])) _
    refine XS.i2dS X102.here hx rfl (hb hby d2_17) rfl rfl ?_
    show Steps p.tables e below (T102.setTop (mkF m 18 #[rv a1, iv v1, iv i1, iv (9 : Int32)] [(.double (FP.i2d (9 : Int32))), (.double (FP.i2d v1))])) _
    refine XS.ddivS X102.here hx rfl (hb hby d2_18) rfl (own_nn hv0 hv1 hm1) rfl ?_
    show Steps p.tables e below (T102.setTop (mkF m 19 #[rv a1, iv v1, iv i1, iv (9 : Int32)] [(.double (FP.ddiv (FP.i2d v1) (FP.i2d (9 : Int32))))])) _
    exact kont
  obtain ⟨fs, hr, hrun, hended, hW, hsame⟩ := X102.leave (v := some (.double (FP.ddiv (FP.i2d v1) (FP.i2d (9 : Int32))))) (fun h => by rw [Bd.returns] at h; cases h)
  refine ⟨_, _, g104 _ (retOut X102 hx Bd.returns rfl (Or.inr (Or.inr (Or.inl ⟨rfl, rfl, _, rfl⟩))) (hb hby d2_19) hr), hrun, hended, _, _, rfl, ?_, ⟨_, rfl⟩, hW, hsame.mono (by decide) (by decide)⟩
  show Q_shN Z a1 v1 i1 w h0 n0 _ T102.heap _
  rw [e102]
  exact ⟨rfl, N102, rfl⟩
theorem pd_1 : parseMethodDescriptor "(II)I" = some ⟨[.int, .int], some .int⟩ := by decide +kernel
theorem pd_2 : parseMethodDescriptor "(II)D" = some ⟨[.int, .int], some .double⟩ := by decide +kernel
theorem pn_com_example_evenhand_evenhand_CharacteristicSharePinLaw : plainName "com/example/evenhand/evenhand/CharacteristicSharePinLaw" = true := by first | (simp [plainName, overriddenIn]; done) | decide +kernel
theorem ef_law (m : MethodId) (x0 : Int32) (x1 : Int32) (x2 : Int32)  : entryFrame m #[(.int x0), (.int x1), (.int x2)] maxLocals = mkF m 0 #[.val (.int x0), .val (.int x1), .val (.int x2), .unset, .unset, .unset, .unset, .unset, .unset, .unset, .unset, .unset, .unset, .unset] [] := by first | (simp [entryFrame, mkF, argsToLocals, Value.category, maxLocals]; done) | rfl
def Q_law (Z : State) (p0 : Int32) (p1 : Int32) (p2 : Int32) (w_COMPLEXITY : Addr) (w_DEPENDENCIES : Addr) (w_IMPORTANCE : Addr) (h0 : Heap) (n0 : Nat) (v : Option Value) (h : Heap) (L : List Loc) : Prop := v = some (.int (1 : Int32)) ∧ Fr n0 L
set_option maxRecDepth 65536 in
set_option maxHeartbeats 40000000 in
theorem rm_law (l : Launch) (Z : State) (a0 : Array Value) (hw : ∀ d ∈ tables_1, d.before a0 Z = true) (ws : List Jvm.Cond) (p0 : Int32) (p1 : Int32) (p2 : Int32) (w_COMPLEXITY : Addr) (w_DEPENDENCIES : Addr) (w_IMPORTANCE : Addr) (h0 : Heap) (n0 : Nat) (O0 : Old Z n0 h0) (S0_ : Sta Z Z.heap "com/example/evenhand/evenhand/Characteristic" "COMPLEXITY" "Lcom/example/evenhand/evenhand/Characteristic;" (.ref w_COMPLEXITY)) (S1_ : Sta Z Z.heap "com/example/evenhand/evenhand/Characteristic" "DEPENDENCIES" "Lcom/example/evenhand/evenhand/Characteristic;" (.ref w_DEPENDENCIES)) (S2_ : Sta Z Z.heap "com/example/evenhand/evenhand/Characteristic" "IMPORTANCE" "Lcom/example/evenhand/evenhand/Characteristic;" (.ref w_IMPORTANCE)) (ZE3_ : Exa Z Z.heap w_COMPLEXITY "com/example/evenhand/evenhand/Characteristic") (ZE4_ : Exa Z Z.heap w_DEPENDENCIES "com/example/evenhand/evenhand/Characteristic") (ZE5_ : Exa Z Z.heap w_IMPORTANCE "com/example/evenhand/evenhand/Characteristic") (NE6_ : ¬ (w_COMPLEXITY = w_DEPENDENCIES)) (NE7_ : ¬ (w_IMPORTANCE = w_DEPENDENCIES)) :
    MetFree l x (head1 (Jvm.Cond.code x code maxLocals ret :: ws) room_1) (fun a U => a = #[(.int p0), (.int p1), (.int p2)] ∧ Z.Warmed39 U.vm ∧ U.heap = h0) (fun _ _ _ _ _ => True) (fun _ U o U' => ∃ v L, o = .returned v ∧ Q_law Z p0 p1 p2 w_COMPLEXITY w_DEPENDENCIES w_IMPORTANCE h0 n0 v U'.heap L ∧ FrameEnd U o U' L room_1.cells room_1.slots) := by
  refine MetFree.of_bodySF (plainFor_of_name pn_com_example_evenhand_evenhand_CharacteristicSharePinLaw) hisR ?_
  intro p e s m args below meth c s₁ Bd hml0 hP hK
  obtain ⟨rfl, hZ, hh⟩ := hP
  have hx := Bd.exec
  have hby := Bd.bytes
  have hml : c.maxLocals = 14 := hml0
  have hown : s.vm.findClass "com/example/evenhand/evenhand/CharacteristicSharePinLaw" = some m.cls := findClass_of_methodNamed Bd.named
  have hnm := (name_of_methodNamed Bd.named Bd.method).1
  have X0 : Stand p l e room_1 s m #[(.int p0), (.int p1), (.int p2)] below meth c s₁ [] 0 0 := Stand.of_body Bd
  have e0 : s₁.heap = h0 := by rw [← hh, Bd.state]; rfl
  have N0 := Fr.nil n0
  have g0 : Go p e below s₁ (mkF m 0 #[iv p0, iv p1, iv p2, .unset, .unset, .unset, .unset, .unset, .unset, .unset, .unset, .unset, .unset, .unset] []) (s₁.setTop (entryFrame m #[(.int p0), (.int p1), (.int p2)] maxLocals)) := fun t kont => castTop (ef_law m p0 p1 p2 ) kont
  generalize s₁.setTop (entryFrame m #[(.int p0), (.int p1), (.int p2)] maxLocals) = A0 at g0 ⊢
  have g101 : Go p e below s₁ (mkF m 6 #[iv p0, iv p1, iv p2, .unset, .unset, .unset, .unset, .unset, .unset, .unset, .unset, .unset, .unset, .unset] [(.int ((p0 &&& (2147483647 : Int32)) % (3 : Int32)))]) A0 := by
    intro t kont
    refine g0 t ?_
    refine XS.iloadN X0.here hx rfl (hb hby at_0) rfl ?_
    show Steps p.tables e below (s₁.setTop (mkF m 1 #[iv p0, iv p1, iv p2, .unset, .unset, .unset, .unset, .unset, .unset, .unset, .unset, .unset, .unset, .unset] [(.int p0)])) _
    refine X0.ldcInt hx hown (mvT hZ (hw _ (List.mem_of_getElem? (i := 0) rfl))) (g := (mkF m 1 #[iv p0, iv p1, iv p2, .unset, .unset, .unset, .unset, .unset, .unset, .unset, .unset, .unset, .unset, .unset] [(.int p0)])) rfl (hb hby at_1) _ ?_
    show Steps p.tables e below (s₁.setTop (mkF m 3 #[iv p0, iv p1, iv p2, .unset, .unset, .unset, .unset, .unset, .unset, .unset, .unset, .unset, .unset, .unset] [(.int (2147483647 : Int32)), (.int p0)])) _
    refine XS.iand X0.here hx rfl (hb hby at_3) rfl ?_
    show Steps p.tables e below (s₁.setTop (mkF m 4 #[iv p0, iv p1, iv p2, .unset, .unset, .unset, .unset, .unset, .unset, .unset, .unset, .unset, .unset, .unset] [(.int (p0 &&& (2147483647 : Int32)))])) _
    refine XS.iconst X0.here hx rfl (hb hby at_4) ?_
    show Steps p.tables e below (s₁.setTop (mkF m 5 #[iv p0, iv p1, iv p2, .unset, .unset, .unset, .unset, .unset, .unset, .unset, .unset, .unset, .unset, .unset] [(.int (3 : Int32)), (.int (p0 &&& (2147483647 : Int32)))])) _
    refine iremM X0 hx rfl (hb hby at_5) rfl (by decide) ?_
    show Steps p.tables e below (s₁.setTop (mkF m 6 #[iv p0, iv p1, iv p2, .unset, .unset, .unset, .unset, .unset, .unset, .unset, .unset, .unset, .unset, .unset] [(.int ((p0 &&& (2147483647 : Int32)) % (3 : Int32)))])) _
    exact kont
  obtain ⟨k, e_k⟩ : ∃ z, z = ((p0 &&& (2147483647 : Int32)) % (3 : Int32)) := ⟨_, rfl⟩
  have g102 : Go p e below s₁ (mkF m 6 #[iv p0, iv p1, iv p2, .unset, .unset, .unset, .unset, .unset, .unset, .unset, .unset, .unset, .unset, .unset] [(.int k)]) A0 := by rw [e_k]; exact g101
  have g104 : Go p e below s₁ (mkF m 8 #[iv p0, iv p1, iv p2, iv k, .unset, .unset, .unset, .unset, .unset, .unset, .unset, .unset, .unset, .unset] [(.int k)]) A0 := by
    intro t kont
    refine g102 t ?_
    refine XS.istoreN X0.here hx rfl (hb hby at_6) rfl (l' := #[iv p0, iv p1, iv p2, iv k, .unset, .unset, .unset, .unset, .unset, .unset, .unset, .unset, .unset, .unset]) rfl ?_
    show Steps p.tables e below (s₁.setTop (mkF m 7 #[iv p0, iv p1, iv p2, iv k, .unset, .unset, .unset, .unset, .unset, .unset, .unset, .unset, .unset, .unset] [])) _
    refine XS.iloadN X0.here hx rfl (hb hby at_7) rfl ?_
    show Steps p.tables e below (s₁.setTop (mkF m 8 #[iv p0, iv p1, iv p2, iv k, .unset, .unset, .unset, .unset, .unset, .unset, .unset, .unset, .unset, .unset] [(.int k)])) _
    exact kont
  by_cases c103 : k = (0 : Int32)
  ·
    subst c103
    have g105 : Go p e below s₁ (mkF m 11 #[iv p0, iv p1, iv p2, iv (0 : Int32), .unset, .unset, .unset, .unset, .unset, .unset, .unset, .unset, .unset, .unset] []) A0 := by
      intro t kont
      refine g104 t ?_
      refine XS.ifNo X0.here hx rfl (hb hby at_8) rfl ((if0 _ _).trans (teq (rfl : (0 : Int32) = (0 : Int32))).2) ?_
      show Steps p.tables e below (s₁.setTop (mkF m 11 #[iv p0, iv p1, iv p2, iv (0 : Int32), .unset, .unset, .unset, .unset, .unset, .unset, .unset, .unset, .unset, .unset] [])) _
      exact kont
    have y106 : Sta Z h0 "com/example/evenhand/evenhand/Characteristic" "COMPLEXITY" "Lcom/example/evenhand/evenhand/Characteristic;" (.ref w_COMPLEXITY) := S0_.ext O0.2
    obtain ⟨T107, X107, e107, st107⟩ := getS2 X0 hx hZ hown (host := "") (Or.inl (hw _ (List.mem_of_getElem? (i := 1) rfl))) Via.refl e0 y106 (g := (mkF m 11 #[iv p0, iv p1, iv p2, iv (0 : Int32), .unset, .unset, .unset, .unset, .unset, .unset, .unset, .unset, .unset, .unset] [])) rfl (hb hby at_11)
    have g108 : Go p e below T107 (mkF m 14 #[iv p0, iv p1, iv p2, iv (0 : Int32), .unset, .unset, .unset, .unset, .unset, .unset, .unset, .unset, .unset, .unset] [(.ref w_COMPLEXITY)]) A0 := fun t kont => g105 t (st107 t kont)
    have g109 : Go p e below T107 (mkF m 33 #[iv p0, iv p1, iv p2, iv (0 : Int32), rv w_COMPLEXITY, .unset, .unset, .unset, .unset, .unset, .unset, .unset, .unset, .unset] []) A0 := by
      intro t kont
      refine g108 t ?_
      refine XS.goto X107.here hx rfl (pc0 := 14) (pc' := 31) rfl (hb hby at_14) (by decide) (by decide) ?_
      show Steps p.tables e below (T107.setTop (mkF m 31 #[iv p0, iv p1, iv p2, iv (0 : Int32), .unset, .unset, .unset, .unset, .unset, .unset, .unset, .unset, .unset, .unset] [(.ref w_COMPLEXITY)])) _
      refine XS.astore X107.here hx rfl (hb hby at_31) rfl rfl (l' := #[iv p0, iv p1, iv p2, iv (0 : Int32), rv w_COMPLEXITY, .unset, .unset, .unset, .unset, .unset, .unset, .unset, .unset, .unset]) rfl ?_
      show Steps p.tables e below (T107.setTop (mkF m 33 #[iv p0, iv p1, iv p2, iv (0 : Int32), rv w_COMPLEXITY, .unset, .unset, .unset, .unset, .unset, .unset, .unset, .unset, .unset] [])) _
      exact kont
    obtain ⟨nn, T110, lc110, X110, e110, N110, g110, j119⟩ : ∃ nn : Int32, ∃ (T110 : State) (lc110 : List Loc), Stand p l e room_1 s m #[(.int p0), (.int p1), (.int p2)] below meth c T110 lc110 0 0 ∧ T110.heap = h0 ∧ Fr n0 lc110 ∧ Go p e below T110 (mkF m 57 #[iv p0, iv p1, iv p2, iv (0 : Int32), rv w_COMPLEXITY, .unset, .unset, .unset, .unset, .unset, .unset, .unset, .unset, .unset] [(.int nn)]) A0 ∧ (1 ≤ nn.toInt) := by
      have g112 : Go p e below T107 (mkF m 36 #[iv p0, iv p1, iv p2, iv (0 : Int32), rv w_COMPLEXITY, .unset, .unset, .unset, .unset, .unset, .unset, .unset, .unset, .unset] [(.int (p1 &&& (1 : Int32)))]) A0 := by
        intro t kont
        refine g109 t ?_
        refine XS.iloadN X107.here hx rfl (hb hby at_33) rfl ?_
        show Steps p.tables e below (T107.setTop (mkF m 34 #[iv p0, iv p1, iv p2, iv (0 : Int32), rv w_COMPLEXITY, .unset, .unset, .unset, .unset, .unset, .unset, .unset, .unset, .unset] [(.int p1)])) _
        refine XS.iconst X107.here hx rfl (hb hby at_34) ?_
        show Steps p.tables e below (T107.setTop (mkF m 35 #[iv p0, iv p1, iv p2, iv (0 : Int32), rv w_COMPLEXITY, .unset, .unset, .unset, .unset, .unset, .unset, .unset, .unset, .unset] [(.int (1 : Int32)), (.int p1)])) _
        refine XS.iand X107.here hx rfl (hb hby at_35) rfl ?_
        show Steps p.tables e below (T107.setTop (mkF m 36 #[iv p0, iv p1, iv p2, iv (0 : Int32), rv w_COMPLEXITY, .unset, .unset, .unset, .unset, .unset, .unset, .unset, .unset, .unset] [(.int (p1 &&& (1 : Int32)))])) _
        exact kont
      by_cases c111 : (p1 &&& (1 : Int32)) = (0 : Int32)
      ·
        have g113 : Go p e below T107 (mkF m 57 #[iv p0, iv p1, iv p2, iv (0 : Int32), rv w_COMPLEXITY, .unset, .unset, .unset, .unset, .unset, .unset, .unset, .unset, .unset] [(.int ((((p1.toUInt32 >>> ((1 : Int32) &&& 31).toUInt32).toInt32) &&& (7 : Int32)) + (1 : Int32)))]) A0 := by
          intro t kont
          refine g112 t ?_
          refine XS.ifNo X107.here hx rfl (hb hby at_36) rfl ((if0 _ _).trans (teq c111).2) ?_
          show Steps p.tables e below (T107.setTop (mkF m 39 #[iv p0, iv p1, iv p2, iv (0 : Int32), rv w_COMPLEXITY, .unset, .unset, .unset, .unset, .unset, .unset, .unset, .unset, .unset] [])) _
          refine XS.iloadN X107.here hx rfl (hb hby at_39) rfl ?_
          show Steps p.tables e below (T107.setTop (mkF m 40 #[iv p0, iv p1, iv p2, iv (0 : Int32), rv w_COMPLEXITY, .unset, .unset, .unset, .unset, .unset, .unset, .unset, .unset, .unset] [(.int p1)])) _
          refine XS.iconst X107.here hx rfl (hb hby at_40) ?_
          show Steps p.tables e below (T107.setTop (mkF m 41 #[iv p0, iv p1, iv p2, iv (0 : Int32), rv w_COMPLEXITY, .unset, .unset, .unset, .unset, .unset, .unset, .unset, .unset, .unset] [(.int (1 : Int32)), (.int p1)])) _
          refine XS.iushr X107.here hx rfl (hb hby at_41) rfl ?_
          show Steps p.tables e below (T107.setTop (mkF m 42 #[iv p0, iv p1, iv p2, iv (0 : Int32), rv w_COMPLEXITY, .unset, .unset, .unset, .unset, .unset, .unset, .unset, .unset, .unset] [(.int ((p1.toUInt32 >>> ((1 : Int32) &&& 31).toUInt32).toInt32))])) _
          refine XS.bipush X107.here hx rfl (hb hby at_42) ?_
          show Steps p.tables e below (T107.setTop (mkF m 44 #[iv p0, iv p1, iv p2, iv (0 : Int32), rv w_COMPLEXITY, .unset, .unset, .unset, .unset, .unset, .unset, .unset, .unset, .unset] [(.int (7 : Int32)), (.int ((p1.toUInt32 >>> ((1 : Int32) &&& 31).toUInt32).toInt32))])) _
          refine XS.iand X107.here hx rfl (hb hby at_44) rfl ?_
          show Steps p.tables e below (T107.setTop (mkF m 45 #[iv p0, iv p1, iv p2, iv (0 : Int32), rv w_COMPLEXITY, .unset, .unset, .unset, .unset, .unset, .unset, .unset, .unset, .unset] [(.int (((p1.toUInt32 >>> ((1 : Int32) &&& 31).toUInt32).toInt32) &&& (7 : Int32)))])) _
          refine XS.iconst X107.here hx rfl (hb hby at_45) ?_
          show Steps p.tables e below (T107.setTop (mkF m 46 #[iv p0, iv p1, iv p2, iv (0 : Int32), rv w_COMPLEXITY, .unset, .unset, .unset, .unset, .unset, .unset, .unset, .unset, .unset] [(.int (1 : Int32)), (.int (((p1.toUInt32 >>> ((1 : Int32) &&& 31).toUInt32).toInt32) &&& (7 : Int32)))])) _
          refine XS.iadd X107.here hx rfl (hb hby at_46) rfl ?_
          show Steps p.tables e below (T107.setTop (mkF m 47 #[iv p0, iv p1, iv p2, iv (0 : Int32), rv w_COMPLEXITY, .unset, .unset, .unset, .unset, .unset, .unset, .unset, .unset, .unset] [(.int ((((p1.toUInt32 >>> ((1 : Int32) &&& 31).toUInt32).toInt32) &&& (7 : Int32)) + (1 : Int32)))])) _
          refine XS.goto X107.here hx rfl (pc0 := 47) (pc' := 57) rfl (hb hby at_47) (by decide) (by decide) ?_
          show Steps p.tables e below (T107.setTop (mkF m 57 #[iv p0, iv p1, iv p2, iv (0 : Int32), rv w_COMPLEXITY, .unset, .unset, .unset, .unset, .unset, .unset, .unset, .unset, .unset] [(.int ((((p1.toUInt32 >>> ((1 : Int32) &&& 31).toUInt32).toInt32) &&& (7 : Int32)) + (1 : Int32)))])) _
          exact kont
        exact ⟨((((p1.toUInt32 >>> ((1 : Int32) &&& 31).toUInt32).toInt32) &&& (7 : Int32)) + (1 : Int32)), _, _, X107, e107, N0, g113, (own_n1 p1)⟩
      have g114 : Go p e below T107 (mkF m 54 #[iv p0, iv p1, iv p2, iv (0 : Int32), rv w_COMPLEXITY, .unset, .unset, .unset, .unset, .unset, .unset, .unset, .unset, .unset] [(.int ((p1.toUInt32 >>> ((1 : Int32) &&& 31).toUInt32).toInt32)), (.int (1 : Int32))]) A0 := by
        intro t kont
        refine g112 t ?_
        refine XS.ifYes X107.here hx rfl (pc0 := 36) (pc' := 50) rfl (hb hby at_36) rfl ((if0 _ _).trans (feq c111).2) (by decide) (by decide) ?_
        show Steps p.tables e below (T107.setTop (mkF m 50 #[iv p0, iv p1, iv p2, iv (0 : Int32), rv w_COMPLEXITY, .unset, .unset, .unset, .unset, .unset, .unset, .unset, .unset, .unset] [])) _
        refine XS.iconst X107.here hx rfl (hb hby at_50) ?_
        show Steps p.tables e below (T107.setTop (mkF m 51 #[iv p0, iv p1, iv p2, iv (0 : Int32), rv w_COMPLEXITY, .unset, .unset, .unset, .unset, .unset, .unset, .unset, .unset, .unset] [(.int (1 : Int32))])) _
        refine XS.iloadN X107.here hx rfl (hb hby at_51) rfl ?_
        show Steps p.tables e below (T107.setTop (mkF m 52 #[iv p0, iv p1, iv p2, iv (0 : Int32), rv w_COMPLEXITY, .unset, .unset, .unset, .unset, .unset, .unset, .unset, .unset, .unset] [(.int p1), (.int (1 : Int32))])) _
        refine XS.iconst X107.here hx rfl (hb hby at_52) ?_
        show Steps p.tables e below (T107.setTop (mkF m 53 #[iv p0, iv p1, iv p2, iv (0 : Int32), rv w_COMPLEXITY, .unset, .unset, .unset, .unset, .unset, .unset, .unset, .unset, .unset] [(.int (1 : Int32)), (.int p1), (.int (1 : Int32))])) _
        refine XS.iushr X107.here hx rfl (hb hby at_53) rfl ?_
        show Steps p.tables e below (T107.setTop (mkF m 54 #[iv p0, iv p1, iv p2, iv (0 : Int32), rv w_COMPLEXITY, .unset, .unset, .unset, .unset, .unset, .unset, .unset, .unset, .unset] [(.int ((p1.toUInt32 >>> ((1 : Int32) &&& 31).toUInt32).toInt32)), (.int (1 : Int32))])) _
        exact kont
      obtain ⟨_, _, ⟨T115, L115, k115, n115⟩, -, X115, ⟨Lc115, hQ115, l115, y115, z115⟩, st115⟩ := Jvm.LawKit.callS X107 hx (y := (⟨"java/lang/Math", "max", "(II)I"⟩ : MethodName)) hown (mvT hZ (hw _ (List.mem_of_getElem? (i := 4) rfl))) (mvT hZ (hw _ (List.mem_of_getElem? (i := 5) rfl))) (mvT hZ (hw _ (List.mem_of_getElem? (i := 6) rfl))) (mvT hZ (hw _ (List.mem_of_getElem? (i := 7) rfl))) (by decide) (backOf (W := 0) (rm_mx l Z a0 hw [] ((p1.toUInt32 >>> ((1 : Int32) &&& 31).toUInt32).toInt32) h0 n0 O0 ) hZ (hw _ (List.mem_of_getElem? (i := 7) rfl)) (hw _ (List.mem_of_getElem? (i := 6) rfl)) (by decide) (by decide)) (g := (mkF m 54 #[iv p0, iv p1, iv p2, iv (0 : Int32), rv w_COMPLEXITY, .unset, .unset, .unset, .unset, .unset, .unset, .unset, .unset, .unset] [(.int ((p1.toUInt32 >>> ((1 : Int32) &&& 31).toUInt32).toInt32)), (.int (1 : Int32))])) rfl (by rw [hml]; rfl) (argsL := [(.int (1 : Int32)), (.int ((p1.toUInt32 >>> ((1 : Int32) &&& 31).toUInt32).toInt32))]) (rest := []) (lenOf pd_1 rfl) rfl (by show 2 * 0 + _ ≤ _; exact Nat.le_of_eq rfl) (hb hby at_54) (fun _ _ => ⟨rfl, e107, (by decide : 0 + 0 ≤ _), (by decide : 0 + 0 ≤ _)⟩)
      dsimp only [Pt.U, Pt.locs, Pt.cells, Pt.slots] at X115 l115 y115 z115 st115 hQ115
      subst l115 y115 z115
      obtain ⟨r116, rfl, M115, e115, y117⟩ := hQ115
      have N115 := Fr.app N0 M115
      have g118 : Go p e below T115 (mkF m 57 #[iv p0, iv p1, iv p2, iv (0 : Int32), rv w_COMPLEXITY, .unset, .unset, .unset, .unset, .unset, .unset, .unset, .unset, .unset] [(.int r116)]) A0 := fun t kont => g114 t (st115 t kont)
      exact ⟨r116, _, _, X115, e115, N115, g118, (y117)⟩
    have g120 : Go p e below T110 (mkF m 84 #[iv p0, iv p1, iv p2, iv (0 : Int32), rv w_COMPLEXITY, iv nn, iv (9 : Int32), .unset, .unset, .unset, .unset, .unset, .unset, .unset] [(.int ((p2 &&& (2147483647 : Int32)) % (10 : Int32)))]) A0 := by
      intro t kont
      refine g110 t ?_
      refine XS.istore X110.here hx rfl (hb hby at_57) rfl (l' := #[iv p0, iv p1, iv p2, iv (0 : Int32), rv w_COMPLEXITY, iv nn, .unset, .unset, .unset, .unset, .unset, .unset, .unset, .unset]) rfl ?_
      show Steps p.tables e below (T110.setTop (mkF m 59 #[iv p0, iv p1, iv p2, iv (0 : Int32), rv w_COMPLEXITY, iv nn, .unset, .unset, .unset, .unset, .unset, .unset, .unset, .unset] [])) _
      refine XS.iloadN X110.here hx rfl (hb hby at_59) rfl ?_
      show Steps p.tables e below (T110.setTop (mkF m 60 #[iv p0, iv p1, iv p2, iv (0 : Int32), rv w_COMPLEXITY, iv nn, .unset, .unset, .unset, .unset, .unset, .unset, .unset, .unset] [(.int (0 : Int32))])) _
      refine XS.iconst X110.here hx rfl (hb hby at_60) ?_
      show Steps p.tables e below (T110.setTop (mkF m 61 #[iv p0, iv p1, iv p2, iv (0 : Int32), rv w_COMPLEXITY, iv nn, .unset, .unset, .unset, .unset, .unset, .unset, .unset, .unset] [(.int (1 : Int32)), (.int (0 : Int32))])) _
      refine XS.icmpYes X110.here hx rfl (pc0 := 61) (pc' := 71) rfl (hb hby at_61) rfl (feq (by decide : ¬ ((0 : Int32) = (1 : Int32)))).2 (by decide) (by decide) ?_
      show Steps p.tables e below (T110.setTop (mkF m 71 #[iv p0, iv p1, iv p2, iv (0 : Int32), rv w_COMPLEXITY, iv nn, .unset, .unset, .unset, .unset, .unset, .unset, .unset, .unset] [])) _
      refine XS.bipush X110.here hx rfl (hb hby at_71) ?_
      show Steps p.tables e below (T110.setTop (mkF m 73 #[iv p0, iv p1, iv p2, iv (0 : Int32), rv w_COMPLEXITY, iv nn, .unset, .unset, .unset, .unset, .unset, .unset, .unset, .unset] [(.int (9 : Int32))])) _
      refine XS.istore X110.here hx rfl (hb hby at_73) rfl (l' := #[iv p0, iv p1, iv p2, iv (0 : Int32), rv w_COMPLEXITY, iv nn, iv (9 : Int32), .unset, .unset, .unset, .unset, .unset, .unset, .unset]) rfl ?_
      show Steps p.tables e below (T110.setTop (mkF m 75 #[iv p0, iv p1, iv p2, iv (0 : Int32), rv w_COMPLEXITY, iv nn, iv (9 : Int32), .unset, .unset, .unset, .unset, .unset, .unset, .unset] [])) _
      refine XS.iloadN X110.here hx rfl (hb hby at_75) rfl ?_
      show Steps p.tables e below (T110.setTop (mkF m 76 #[iv p0, iv p1, iv p2, iv (0 : Int32), rv w_COMPLEXITY, iv nn, iv (9 : Int32), .unset, .unset, .unset, .unset, .unset, .unset, .unset] [(.int p2)])) _
      refine X110.ldcInt hx hown (mvT hZ (hw _ (List.mem_of_getElem? (i := 0) rfl))) (g := (mkF m 76 #[iv p0, iv p1, iv p2, iv (0 : Int32), rv w_COMPLEXITY, iv nn, iv (9 : Int32), .unset, .unset, .unset, .unset, .unset, .unset, .unset] [(.int p2)])) rfl (hb hby at_76) _ ?_
      show Steps p.tables e below (T110.setTop (mkF m 78 #[iv p0, iv p1, iv p2, iv (0 : Int32), rv w_COMPLEXITY, iv nn, iv (9 : Int32), .unset, .unset, .unset, .unset, .unset, .unset, .unset] [(.int (2147483647 : Int32)), (.int p2)])) _
      refine XS.iand X110.here hx rfl (hb hby at_78) rfl ?_
      show Steps p.tables e below (T110.setTop (mkF m 79 #[iv p0, iv p1, iv p2, iv (0 : Int32), rv w_COMPLEXITY, iv nn, iv (9 : Int32), .unset, .unset, .unset, .unset, .unset, .unset, .unset] [(.int (p2 &&& (2147483647 : Int32)))])) _
      refine XS.iload X110.here hx rfl (hb hby at_79) rfl ?_
      show Steps p.tables e below (T110.setTop (mkF m 81 #[iv p0, iv p1, iv p2, iv (0 : Int32), rv w_COMPLEXITY, iv nn, iv (9 : Int32), .unset, .unset, .unset, .unset, .unset, .unset, .unset] [(.int (9 : Int32)), (.int (p2 &&& (2147483647 : Int32)))])) _
      refine XS.iconst X110.here hx rfl (hb hby at_81) ?_
      show Steps p.tables e below (T110.setTop (mkF m 82 #[iv p0, iv p1, iv p2, iv (0 : Int32), rv w_COMPLEXITY, iv nn, iv (9 : Int32), .unset, .unset, .unset, .unset, .unset, .unset, .unset] [(.int (1 : Int32)), (.int (9 : Int32)), (.int (p2 &&& (2147483647 : Int32)))])) _
      refine XS.iadd X110.here hx rfl (hb hby at_82) rfl ?_
      show Steps p.tables e below (T110.setTop (mkF m 83 #[iv p0, iv p1, iv p2, iv (0 : Int32), rv w_COMPLEXITY, iv nn, iv (9 : Int32), .unset, .unset, .unset, .unset, .unset, .unset, .unset] [(.int (10 : Int32)), (.int (p2 &&& (2147483647 : Int32)))])) _
      refine iremM X110 hx rfl (hb hby at_83) rfl (by decide) ?_
      show Steps p.tables e below (T110.setTop (mkF m 84 #[iv p0, iv p1, iv p2, iv (0 : Int32), rv w_COMPLEXITY, iv nn, iv (9 : Int32), .unset, .unset, .unset, .unset, .unset, .unset, .unset] [(.int ((p2 &&& (2147483647 : Int32)) % (10 : Int32)))])) _
      exact kont
    obtain ⟨vv, e_vv⟩ : ∃ z, z = ((p2 &&& (2147483647 : Int32)) % (10 : Int32)) := ⟨_, rfl⟩
    have g121 : Go p e below T110 (mkF m 84 #[iv p0, iv p1, iv p2, iv (0 : Int32), rv w_COMPLEXITY, iv nn, iv (9 : Int32), .unset, .unset, .unset, .unset, .unset, .unset, .unset] [(.int vv)]) A0 := by rw [e_vv]; exact g120
    have qv0 : 0 ≤ vv.toInt := own_v0 e_vv (by decide)
    have qv1 : vv.toInt ≤ (9 : Int32).toInt := own_v9 e_vv
    have qm1 : 1 ≤ (9 : Int32).toInt := by decide
    have g122 : Go p e below T110 (mkF m 92 #[iv p0, iv p1, iv p2, iv (0 : Int32), rv w_COMPLEXITY, iv nn, iv (9 : Int32), iv vv, .unset, .unset, .unset, .unset, .unset, .unset] [(.int nn), (.int vv), (.ref w_COMPLEXITY)]) A0 := by
      intro t kont
      refine g121 t ?_
      refine XS.istore X110.here hx rfl (hb hby at_84) rfl (l' := #[iv p0, iv p1, iv p2, iv (0 : Int32), rv w_COMPLEXITY, iv nn, iv (9 : Int32), iv vv, .unset, .unset, .unset, .unset, .unset, .unset]) rfl ?_
      show Steps p.tables e below (T110.setTop (mkF m 86 #[iv p0, iv p1, iv p2, iv (0 : Int32), rv w_COMPLEXITY, iv nn, iv (9 : Int32), iv vv, .unset, .unset, .unset, .unset, .unset, .unset] [])) _
      refine XS.aload X110.here hx rfl (hb hby at_86) rfl rfl ?_
      show Steps p.tables e below (T110.setTop (mkF m 88 #[iv p0, iv p1, iv p2, iv (0 : Int32), rv w_COMPLEXITY, iv nn, iv (9 : Int32), iv vv, .unset, .unset, .unset, .unset, .unset, .unset] [(.ref w_COMPLEXITY)])) _
      refine XS.iload X110.here hx rfl (hb hby at_88) rfl ?_
      show Steps p.tables e below (T110.setTop (mkF m 90 #[iv p0, iv p1, iv p2, iv (0 : Int32), rv w_COMPLEXITY, iv nn, iv (9 : Int32), iv vv, .unset, .unset, .unset, .unset, .unset, .unset] [(.int vv), (.ref w_COMPLEXITY)])) _
      refine XS.iload X110.here hx rfl (hb hby at_90) rfl ?_
      show Steps p.tables e below (T110.setTop (mkF m 92 #[iv p0, iv p1, iv p2, iv (0 : Int32), rv w_COMPLEXITY, iv nn, iv (9 : Int32), iv vv, .unset, .unset, .unset, .unset, .unset, .unset] [(.int nn), (.int vv), (.ref w_COMPLEXITY)])) _
      exact kont
    have y124 : Exa Z h0 w_COMPLEXITY "com/example/evenhand/evenhand/Characteristic" := ZE3_.ext O0.2
    have y125 : Exa Z h0 w_COMPLEXITY "com/example/evenhand/evenhand/Characteristic" := ZE3_.ext O0.2
    have y126 : Exa Z h0 w_COMPLEXITY "com/example/evenhand/evenhand/Characteristic" := ZE3_.ext O0.2
    obtain ⟨cq123, kq123, q123a, q123b, q123c⟩ := isOf hZ e110 y126
    obtain ⟨_, _, ⟨T123, L123, k123, n123⟩, -, X123, ⟨Lc123, hQ123, l123, y123, z123⟩, st123⟩ := X110.virtualBack hx (y := (⟨"com/example/evenhand/evenhand/Characteristic", "share", "(II)D"⟩ : MethodName)) (z := (⟨"com/example/evenhand/evenhand/Characteristic", "share", "(II)D"⟩ : MethodName)) hown (mvT hZ (hw _ (List.mem_of_getElem? (i := 8) rfl))) (mvT hZ (hw _ (List.mem_of_getElem? (i := 9) rfl))) (notFace_of_selects (args := #[]) (mvT hZ (hw _ (List.mem_of_getElem? (i := 11) rfl)))) (mvT hZ (hw _ (List.mem_of_getElem? (i := 11) rfl))) (mvT hZ (hw _ (List.mem_of_getElem? (i := 10) rfl))) (by decide) (backOf (W := 0) (rm_shN l Z a0 hw [] w_COMPLEXITY vv nn w_DEPENDENCIES h0 n0 O0 y125 S1_ NE6_ qv0 qv1 qm1) hZ (hw _ (List.mem_of_getElem? (i := 12) rfl)) (hw _ (List.mem_of_getElem? (i := 2) rfl)) (by decide) (by decide)) q123a q123c (g := (mkF m 92 #[iv p0, iv p1, iv p2, iv (0 : Int32), rv w_COMPLEXITY, iv nn, iv (9 : Int32), iv vv, .unset, .unset, .unset, .unset, .unset, .unset] [(.int nn), (.int vv), (.ref w_COMPLEXITY)])) rfl (by rw [hml]; rfl) (Steps.refl _) (argsL := [(.int vv), (.int nn)]) (rest := []) (lenOf pd_2 rfl) rfl (by show 2 * 0 + _ ≤ _; exact Nat.le_of_eq rfl) (hb hby at_92) (fun _ _ => ⟨rfl, e110, (by decide : 0 + 0 ≤ _), (by decide : 0 + 0 ≤ _)⟩)
    dsimp only [Pt.U, Pt.locs, Pt.cells, Pt.slots] at X123 l123 y123 z123 st123 hQ123
    subst l123 y123 z123
    obtain ⟨rfl, M123, e123⟩ := hQ123
    have N123 := Fr.app N110 M123
    have g127 : Go p e below T123 (mkF m 95 #[iv p0, iv p1, iv p2, iv (0 : Int32), rv w_COMPLEXITY, iv nn, iv (9 : Int32), iv vv, .unset, .unset, .unset, .unset, .unset, .unset] [(.double (FP.ddiv (FP.i2d vv) (FP.i2d (9 : Int32))))]) A0 := fun t kont => g122 t (st123.trans kont)
    have g129 : Go p e below T123 (mkF m 140 #[iv p0, iv p1, iv p2, iv (0 : Int32), rv w_COMPLEXITY, iv nn, iv (9 : Int32), iv vv, .val (.double (FP.ddiv (FP.i2d vv) (FP.i2d (9 : Int32)))), .second, .val (.double (FP.ddiv (FP.i2d vv) (FP.i2d (9 : Int32)))), .second, iv (1 : Int32), .unset] [(.int (9 : Int32)), (.int vv)]) A0 := by
      intro t kont
      refine g127 t ?_
      refine XS.dstore X123.here hx rfl (hb hby at_95) rfl (l' := #[iv p0, iv p1, iv p2, iv (0 : Int32), rv w_COMPLEXITY, iv nn, iv (9 : Int32), iv vv, .val (.double (FP.ddiv (FP.i2d vv) (FP.i2d (9 : Int32)))), .second, .unset, .unset, .unset, .unset]) rfl ?_
      show Steps p.tables e below (T123.setTop (mkF m 97 #[iv p0, iv p1, iv p2, iv (0 : Int32), rv w_COMPLEXITY, iv nn, iv (9 : Int32), iv vv, .val (.double (FP.ddiv (FP.i2d vv) (FP.i2d (9 : Int32)))), .second, .unset, .unset, .unset, .unset] [])) _
      refine XS.iload X123.here hx rfl (hb hby at_97) rfl ?_
      show Steps p.tables e below (T123.setTop (mkF m 99 #[iv p0, iv p1, iv p2, iv (0 : Int32), rv w_COMPLEXITY, iv nn, iv (9 : Int32), iv vv, .val (.double (FP.ddiv (FP.i2d vv) (FP.i2d (9 : Int32)))), .second, .unset, .unset, .unset, .unset] [(.int (9 : Int32))])) _
      refine XS.ifYes X123.here hx rfl (pc0 := 99) (pc' := 106) rfl (hb hby at_99) rfl ((if0 _ _).trans (feq (by decide : ¬ ((9 : Int32) = (0 : Int32)))).2) (by decide) (by decide) ?_
      show Steps p.tables e below (T123.setTop (mkF m 106 #[iv p0, iv p1, iv p2, iv (0 : Int32), rv w_COMPLEXITY, iv nn, iv (9 : Int32), iv vv, .val (.double (FP.ddiv (FP.i2d vv) (FP.i2d (9 : Int32)))), .second, .unset, .unset, .unset, .unset] [])) _
      refine XS.iload X123.here hx rfl (hb hby at_106) rfl ?_
      show Steps p.tables e below (T123.setTop (mkF m 108 #[iv p0, iv p1, iv p2, iv (0 : Int32), rv w_COMPLEXITY, iv nn, iv (9 : Int32), iv vv, .val (.double (FP.ddiv (FP.i2d vv) (FP.i2d (9 : Int32)))), .second, .unset, .unset, .unset, .unset] [(.int vv)])) _
      refine XS.i2dS X123.here hx rfl (hb hby at_108) rfl rfl ?_
      show Steps p.tables e below (T123.setTop (mkF m 109 #[iv p0, iv p1, iv p2, iv (0 : Int32), rv w_COMPLEXITY, iv nn, iv (9 : Int32), iv vv, .val (.double (FP.ddiv (FP.i2d vv) (FP.i2d (9 : Int32)))), .second, .unset, .unset, .unset, .unset] [(.double (FP.i2d vv))])) _
      refine XS.iload X123.here hx rfl (hb hby at_109) rfl ?_
      show Steps p.tables e below (T123.setTop (mkF m 111 #[iv p0, iv p1, iv p2, iv (0 : Int32), rv w_COMPLEXITY, iv nn, iv (9 : Int32), iv vv, .val (.double (FP.ddiv (FP.i2d vv) (FP.i2d (9 : Int32)))), .second, .unset, .unset, .unset, .unset] [(.int (9 : Int32)), (.double (FP.i2d vv))])) _
      refine XS.i2dS X123.here hx rfl (hb hby at_111) rfl rfl ?_
      show Steps p.tables e below (T123.setTop (mkF m 112 #[iv p0, iv p1, iv p2, iv (0 : Int32), rv w_COMPLEXITY, iv nn, iv (9 : Int32), iv vv, .val (.double (FP.ddiv (FP.i2d vv) (FP.i2d (9 : Int32)))), .second, .unset, .unset, .unset, .unset] [(.double (FP.i2d (9 : Int32))), (.double (FP.i2d vv))])) _
      refine XS.ddivS X123.here hx rfl (hb hby at_112) rfl (own_nn qv0 qv1 qm1) rfl ?_
      show Steps p.tables e below (T123.setTop (mkF m 113 #[iv p0, iv p1, iv p2, iv (0 : Int32), rv w_COMPLEXITY, iv nn, iv (9 : Int32), iv vv, .val (.double (FP.ddiv (FP.i2d vv) (FP.i2d (9 : Int32)))), .second, .unset, .unset, .unset, .unset] [(.double (FP.ddiv (FP.i2d vv) (FP.i2d (9 : Int32))))])) _
      refine XS.dstore X123.here hx rfl (hb hby at_113) rfl (l' := #[iv p0, iv p1, iv p2, iv (0 : Int32), rv w_COMPLEXITY, iv nn, iv (9 : Int32), iv vv, .val (.double (FP.ddiv (FP.i2d vv) (FP.i2d (9 : Int32)))), .second, .val (.double (FP.ddiv (FP.i2d vv) (FP.i2d (9 : Int32)))), .second, .unset, .unset]) rfl ?_
      show Steps p.tables e below (T123.setTop (mkF m 115 #[iv p0, iv p1, iv p2, iv (0 : Int32), rv w_COMPLEXITY, iv nn, iv (9 : Int32), iv vv, .val (.double (FP.ddiv (FP.i2d vv) (FP.i2d (9 : Int32)))), .second, .val (.double (FP.ddiv (FP.i2d vv) (FP.i2d (9 : Int32)))), .second, .unset, .unset] [])) _
      refine XS.dconst0 X123.here hx rfl (hb hby at_115) (v := (0 : UInt64)) (by decide) ?_
      show Steps p.tables e below (T123.setTop (mkF m 116 #[iv p0, iv p1, iv p2, iv (0 : Int32), rv w_COMPLEXITY, iv nn, iv (9 : Int32), iv vv, .val (.double (FP.ddiv (FP.i2d vv) (FP.i2d (9 : Int32)))), .second, .val (.double (FP.ddiv (FP.i2d vv) (FP.i2d (9 : Int32)))), .second, .unset, .unset] [(.double (0 : UInt64))])) _
      refine XS.dload X123.here hx rfl (hb hby at_116) rfl ?_
      show Steps p.tables e below (T123.setTop (mkF m 118 #[iv p0, iv p1, iv p2, iv (0 : Int32), rv w_COMPLEXITY, iv nn, iv (9 : Int32), iv vv, .val (.double (FP.ddiv (FP.i2d vv) (FP.i2d (9 : Int32)))), .second, .val (.double (FP.ddiv (FP.i2d vv) (FP.i2d (9 : Int32)))), .second, .unset, .unset] [(.double (FP.ddiv (FP.i2d vv) (FP.i2d (9 : Int32)))), (.double (0 : UInt64))])) _
      refine XS.dcmpS X123.here hx rfl (hb hby at_118) rfl (v := (cmpValue (FP.dcmp (0 : UInt64) (FP.ddiv (FP.i2d vv) (FP.i2d (9 : Int32)))) .g)) (rfl) ?_
      show Steps p.tables e below (T123.setTop (mkF m 119 #[iv p0, iv p1, iv p2, iv (0 : Int32), rv w_COMPLEXITY, iv nn, iv (9 : Int32), iv vv, .val (.double (FP.ddiv (FP.i2d vv) (FP.i2d (9 : Int32)))), .second, .val (.double (FP.ddiv (FP.i2d vv) (FP.i2d (9 : Int32)))), .second, .unset, .unset] [(.int (cmpValue (FP.dcmp (0 : UInt64) (FP.ddiv (FP.i2d vv) (FP.i2d (9 : Int32)))) .g))])) _
      refine XS.ifNo X123.here hx rfl (hb hby at_119) rfl ((if0 _ _).trans (flt (own_lo qv0 qv1 qm1 : ¬ ((0 : Int32) < (cmpValue (FP.dcmp (0 : UInt64) (FP.ddiv (FP.i2d vv) (FP.i2d (9 : Int32)))) .g)))).2.2.1) ?_
      show Steps p.tables e below (T123.setTop (mkF m 122 #[iv p0, iv p1, iv p2, iv (0 : Int32), rv w_COMPLEXITY, iv nn, iv (9 : Int32), iv vv, .val (.double (FP.ddiv (FP.i2d vv) (FP.i2d (9 : Int32)))), .second, .val (.double (FP.ddiv (FP.i2d vv) (FP.i2d (9 : Int32)))), .second, .unset, .unset] [])) _
      refine XS.dload X123.here hx rfl (hb hby at_122) rfl ?_
      show Steps p.tables e below (T123.setTop (mkF m 124 #[iv p0, iv p1, iv p2, iv (0 : Int32), rv w_COMPLEXITY, iv nn, iv (9 : Int32), iv vv, .val (.double (FP.ddiv (FP.i2d vv) (FP.i2d (9 : Int32)))), .second, .val (.double (FP.ddiv (FP.i2d vv) (FP.i2d (9 : Int32)))), .second, .unset, .unset] [(.double (FP.ddiv (FP.i2d vv) (FP.i2d (9 : Int32))))])) _
      refine XS.dconst1 X123.here hx rfl (hb hby at_124) (v := (4607182418800017408 : UInt64)) (by decide) ?_
      show Steps p.tables e below (T123.setTop (mkF m 125 #[iv p0, iv p1, iv p2, iv (0 : Int32), rv w_COMPLEXITY, iv nn, iv (9 : Int32), iv vv, .val (.double (FP.ddiv (FP.i2d vv) (FP.i2d (9 : Int32)))), .second, .val (.double (FP.ddiv (FP.i2d vv) (FP.i2d (9 : Int32)))), .second, .unset, .unset] [(.double (4607182418800017408 : UInt64)), (.double (FP.ddiv (FP.i2d vv) (FP.i2d (9 : Int32))))])) _
      refine XS.dcmpS X123.here hx rfl (hb hby at_125) rfl (v := (cmpValue (FP.dcmp (FP.ddiv (FP.i2d vv) (FP.i2d (9 : Int32))) (4607182418800017408 : UInt64)) .g)) (rfl) ?_
      show Steps p.tables e below (T123.setTop (mkF m 126 #[iv p0, iv p1, iv p2, iv (0 : Int32), rv w_COMPLEXITY, iv nn, iv (9 : Int32), iv vv, .val (.double (FP.ddiv (FP.i2d vv) (FP.i2d (9 : Int32)))), .second, .val (.double (FP.ddiv (FP.i2d vv) (FP.i2d (9 : Int32)))), .second, .unset, .unset] [(.int (cmpValue (FP.dcmp (FP.ddiv (FP.i2d vv) (FP.i2d (9 : Int32))) (4607182418800017408 : UInt64)) .g))])) _
      refine XS.ifNo X123.here hx rfl (hb hby at_126) rfl ((if0 _ _).trans (flt (own_hi qv0 qv1 qm1 : ¬ ((0 : Int32) < (cmpValue (FP.dcmp (FP.ddiv (FP.i2d vv) (FP.i2d (9 : Int32))) (4607182418800017408 : UInt64)) .g)))).2.2.1) ?_
      show Steps p.tables e below (T123.setTop (mkF m 129 #[iv p0, iv p1, iv p2, iv (0 : Int32), rv w_COMPLEXITY, iv nn, iv (9 : Int32), iv vv, .val (.double (FP.ddiv (FP.i2d vv) (FP.i2d (9 : Int32)))), .second, .val (.double (FP.ddiv (FP.i2d vv) (FP.i2d (9 : Int32)))), .second, .unset, .unset] [])) _
      refine XS.iconst X123.here hx rfl (hb hby at_129) ?_
      show Steps p.tables e below (T123.setTop (mkF m 130 #[iv p0, iv p1, iv p2, iv (0 : Int32), rv w_COMPLEXITY, iv nn, iv (9 : Int32), iv vv, .val (.double (FP.ddiv (FP.i2d vv) (FP.i2d (9 : Int32)))), .second, .val (.double (FP.ddiv (FP.i2d vv) (FP.i2d (9 : Int32)))), .second, .unset, .unset] [(.int (1 : Int32))])) _
      refine XS.goto X123.here hx rfl (pc0 := 130) (pc' := 134) rfl (hb hby at_130) (by decide) (by decide) ?_
      show Steps p.tables e below (T123.setTop (mkF m 134 #[iv p0, iv p1, iv p2, iv (0 : Int32), rv w_COMPLEXITY, iv nn, iv (9 : Int32), iv vv, .val (.double (FP.ddiv (FP.i2d vv) (FP.i2d (9 : Int32)))), .second, .val (.double (FP.ddiv (FP.i2d vv) (FP.i2d (9 : Int32)))), .second, .unset, .unset] [(.int (1 : Int32))])) _
      refine XS.istore X123.here hx rfl (hb hby at_134) rfl (l' := #[iv p0, iv p1, iv p2, iv (0 : Int32), rv w_COMPLEXITY, iv nn, iv (9 : Int32), iv vv, .val (.double (FP.ddiv (FP.i2d vv) (FP.i2d (9 : Int32)))), .second, .val (.double (FP.ddiv (FP.i2d vv) (FP.i2d (9 : Int32)))), .second, iv (1 : Int32), .unset]) rfl ?_
      show Steps p.tables e below (T123.setTop (mkF m 136 #[iv p0, iv p1, iv p2, iv (0 : Int32), rv w_COMPLEXITY, iv nn, iv (9 : Int32), iv vv, .val (.double (FP.ddiv (FP.i2d vv) (FP.i2d (9 : Int32)))), .second, .val (.double (FP.ddiv (FP.i2d vv) (FP.i2d (9 : Int32)))), .second, iv (1 : Int32), .unset] [])) _
      refine XS.iload X123.here hx rfl (hb hby at_136) rfl ?_
      show Steps p.tables e below (T123.setTop (mkF m 138 #[iv p0, iv p1, iv p2, iv (0 : Int32), rv w_COMPLEXITY, iv nn, iv (9 : Int32), iv vv, .val (.double (FP.ddiv (FP.i2d vv) (FP.i2d (9 : Int32)))), .second, .val (.double (FP.ddiv (FP.i2d vv) (FP.i2d (9 : Int32)))), .second, iv (1 : Int32), .unset] [(.int vv)])) _
      refine XS.iload X123.here hx rfl (hb hby at_138) rfl ?_
      show Steps p.tables e below (T123.setTop (mkF m 140 #[iv p0, iv p1, iv p2, iv (0 : Int32), rv w_COMPLEXITY, iv nn, iv (9 : Int32), iv vv, .val (.double (FP.ddiv (FP.i2d vv) (FP.i2d (9 : Int32)))), .second, .val (.double (FP.ddiv (FP.i2d vv) (FP.i2d (9 : Int32)))), .second, iv (1 : Int32), .unset] [(.int (9 : Int32)), (.int vv)])) _
      exact kont
    by_cases c128 : vv = (9 : Int32)
    ·
      have g130 : Go p e below T123 (mkF m 185 #[iv p0, iv p1, iv p2, iv (0 : Int32), rv w_COMPLEXITY, iv nn, iv (9 : Int32), iv vv, .val (.double (FP.ddiv (FP.i2d vv) (FP.i2d (9 : Int32)))), .second, .val (.double (FP.ddiv (FP.i2d vv) (FP.i2d (9 : Int32)))), .second, iv (1 : Int32), iv (1 : Int32)] [(.int (1 : Int32))]) A0 := by
        intro t kont
        refine g129 t ?_
        refine XS.icmpNo X123.here hx rfl (hb hby at_140) rfl (teq c128).2 ?_
        show Steps p.tables e below (T123.setTop (mkF m 143 #[iv p0, iv p1, iv p2, iv (0 : Int32), rv w_COMPLEXITY, iv nn, iv (9 : Int32), iv vv, .val (.double (FP.ddiv (FP.i2d vv) (FP.i2d (9 : Int32)))), .second, .val (.double (FP.ddiv (FP.i2d vv) (FP.i2d (9 : Int32)))), .second, iv (1 : Int32), .unset] [])) _
        refine XS.iload X123.here hx rfl (hb hby at_143) rfl ?_
        show Steps p.tables e below (T123.setTop (mkF m 145 #[iv p0, iv p1, iv p2, iv (0 : Int32), rv w_COMPLEXITY, iv nn, iv (9 : Int32), iv vv, .val (.double (FP.ddiv (FP.i2d vv) (FP.i2d (9 : Int32)))), .second, .val (.double (FP.ddiv (FP.i2d vv) (FP.i2d (9 : Int32)))), .second, iv (1 : Int32), .unset] [(.int (9 : Int32))])) _
        refine XS.ifNo X123.here hx rfl (hb hby at_145) rfl ((if0 _ _).trans (feq (by decide : ¬ ((9 : Int32) = (0 : Int32)))).1) ?_
        show Steps p.tables e below (T123.setTop (mkF m 148 #[iv p0, iv p1, iv p2, iv (0 : Int32), rv w_COMPLEXITY, iv nn, iv (9 : Int32), iv vv, .val (.double (FP.ddiv (FP.i2d vv) (FP.i2d (9 : Int32)))), .second, .val (.double (FP.ddiv (FP.i2d vv) (FP.i2d (9 : Int32)))), .second, iv (1 : Int32), .unset] [])) _
        refine XS.dload X123.here hx rfl (hb hby at_148) rfl ?_
        show Steps p.tables e below (T123.setTop (mkF m 150 #[iv p0, iv p1, iv p2, iv (0 : Int32), rv w_COMPLEXITY, iv nn, iv (9 : Int32), iv vv, .val (.double (FP.ddiv (FP.i2d vv) (FP.i2d (9 : Int32)))), .second, .val (.double (FP.ddiv (FP.i2d vv) (FP.i2d (9 : Int32)))), .second, iv (1 : Int32), .unset] [(.double (FP.ddiv (FP.i2d vv) (FP.i2d (9 : Int32))))])) _
        refine XS.dconst1 X123.here hx rfl (hb hby at_150) (v := (4607182418800017408 : UInt64)) (by decide) ?_
        show Steps p.tables e below (T123.setTop (mkF m 151 #[iv p0, iv p1, iv p2, iv (0 : Int32), rv w_COMPLEXITY, iv nn, iv (9 : Int32), iv vv, .val (.double (FP.ddiv (FP.i2d vv) (FP.i2d (9 : Int32)))), .second, .val (.double (FP.ddiv (FP.i2d vv) (FP.i2d (9 : Int32)))), .second, iv (1 : Int32), .unset] [(.double (4607182418800017408 : UInt64)), (.double (FP.ddiv (FP.i2d vv) (FP.i2d (9 : Int32))))])) _
        refine XS.dcmpS X123.here hx rfl (hb hby at_151) rfl (v := (0 : Int32)) (own_topc c128 qm1) ?_
        show Steps p.tables e below (T123.setTop (mkF m 152 #[iv p0, iv p1, iv p2, iv (0 : Int32), rv w_COMPLEXITY, iv nn, iv (9 : Int32), iv vv, .val (.double (FP.ddiv (FP.i2d vv) (FP.i2d (9 : Int32)))), .second, .val (.double (FP.ddiv (FP.i2d vv) (FP.i2d (9 : Int32)))), .second, iv (1 : Int32), .unset] [(.int (0 : Int32))])) _
        refine XS.ifNo X123.here hx rfl (hb hby at_152) rfl ((if0 _ _).trans (teq (by decide : (0 : Int32) = (0 : Int32))).2) ?_
        show Steps p.tables e below (T123.setTop (mkF m 155 #[iv p0, iv p1, iv p2, iv (0 : Int32), rv w_COMPLEXITY, iv nn, iv (9 : Int32), iv vv, .val (.double (FP.ddiv (FP.i2d vv) (FP.i2d (9 : Int32)))), .second, .val (.double (FP.ddiv (FP.i2d vv) (FP.i2d (9 : Int32)))), .second, iv (1 : Int32), .unset] [])) _
        refine XS.iconst X123.here hx rfl (hb hby at_155) ?_
        show Steps p.tables e below (T123.setTop (mkF m 156 #[iv p0, iv p1, iv p2, iv (0 : Int32), rv w_COMPLEXITY, iv nn, iv (9 : Int32), iv vv, .val (.double (FP.ddiv (FP.i2d vv) (FP.i2d (9 : Int32)))), .second, .val (.double (FP.ddiv (FP.i2d vv) (FP.i2d (9 : Int32)))), .second, iv (1 : Int32), .unset] [(.int (1 : Int32))])) _
        refine XS.goto X123.here hx rfl (pc0 := 156) (pc' := 160) rfl (hb hby at_156) (by decide) (by decide) ?_
        show Steps p.tables e below (T123.setTop (mkF m 160 #[iv p0, iv p1, iv p2, iv (0 : Int32), rv w_COMPLEXITY, iv nn, iv (9 : Int32), iv vv, .val (.double (FP.ddiv (FP.i2d vv) (FP.i2d (9 : Int32)))), .second, .val (.double (FP.ddiv (FP.i2d vv) (FP.i2d (9 : Int32)))), .second, iv (1 : Int32), .unset] [(.int (1 : Int32))])) _
        refine XS.istore X123.here hx rfl (hb hby at_160) rfl (l' := #[iv p0, iv p1, iv p2, iv (0 : Int32), rv w_COMPLEXITY, iv nn, iv (9 : Int32), iv vv, .val (.double (FP.ddiv (FP.i2d vv) (FP.i2d (9 : Int32)))), .second, .val (.double (FP.ddiv (FP.i2d vv) (FP.i2d (9 : Int32)))), .second, iv (1 : Int32), iv (1 : Int32)]) rfl ?_
        show Steps p.tables e below (T123.setTop (mkF m 162 #[iv p0, iv p1, iv p2, iv (0 : Int32), rv w_COMPLEXITY, iv nn, iv (9 : Int32), iv vv, .val (.double (FP.ddiv (FP.i2d vv) (FP.i2d (9 : Int32)))), .second, .val (.double (FP.ddiv (FP.i2d vv) (FP.i2d (9 : Int32)))), .second, iv (1 : Int32), iv (1 : Int32)] [])) _
        refine XS.dload X123.here hx rfl (hb hby at_162) rfl ?_
        show Steps p.tables e below (T123.setTop (mkF m 164 #[iv p0, iv p1, iv p2, iv (0 : Int32), rv w_COMPLEXITY, iv nn, iv (9 : Int32), iv vv, .val (.double (FP.ddiv (FP.i2d vv) (FP.i2d (9 : Int32)))), .second, .val (.double (FP.ddiv (FP.i2d vv) (FP.i2d (9 : Int32)))), .second, iv (1 : Int32), iv (1 : Int32)] [(.double (FP.ddiv (FP.i2d vv) (FP.i2d (9 : Int32))))])) _
        refine XS.dload X123.here hx rfl (hb hby at_164) rfl ?_
        show Steps p.tables e below (T123.setTop (mkF m 166 #[iv p0, iv p1, iv p2, iv (0 : Int32), rv w_COMPLEXITY, iv nn, iv (9 : Int32), iv vv, .val (.double (FP.ddiv (FP.i2d vv) (FP.i2d (9 : Int32)))), .second, .val (.double (FP.ddiv (FP.i2d vv) (FP.i2d (9 : Int32)))), .second, iv (1 : Int32), iv (1 : Int32)] [(.double (FP.ddiv (FP.i2d vv) (FP.i2d (9 : Int32)))), (.double (FP.ddiv (FP.i2d vv) (FP.i2d (9 : Int32))))])) _
        refine XS.dcmpS X123.here hx rfl (hb hby at_166) rfl (v := (0 : Int32)) (dcmpV_self (own_nn qv0 qv1 qm1) _) ?_
        show Steps p.tables e below (T123.setTop (mkF m 167 #[iv p0, iv p1, iv p2, iv (0 : Int32), rv w_COMPLEXITY, iv nn, iv (9 : Int32), iv vv, .val (.double (FP.ddiv (FP.i2d vv) (FP.i2d (9 : Int32)))), .second, .val (.double (FP.ddiv (FP.i2d vv) (FP.i2d (9 : Int32)))), .second, iv (1 : Int32), iv (1 : Int32)] [(.int (0 : Int32))])) _
        refine XS.ifNo X123.here hx rfl (hb hby at_167) rfl ((if0 _ _).trans (teq (by decide : (0 : Int32) = (0 : Int32))).2) ?_
        show Steps p.tables e below (T123.setTop (mkF m 170 #[iv p0, iv p1, iv p2, iv (0 : Int32), rv w_COMPLEXITY, iv nn, iv (9 : Int32), iv vv, .val (.double (FP.ddiv (FP.i2d vv) (FP.i2d (9 : Int32)))), .second, .val (.double (FP.ddiv (FP.i2d vv) (FP.i2d (9 : Int32)))), .second, iv (1 : Int32), iv (1 : Int32)] [])) _
        refine XS.iload X123.here hx rfl (hb hby at_170) rfl ?_
        show Steps p.tables e below (T123.setTop (mkF m 172 #[iv p0, iv p1, iv p2, iv (0 : Int32), rv w_COMPLEXITY, iv nn, iv (9 : Int32), iv vv, .val (.double (FP.ddiv (FP.i2d vv) (FP.i2d (9 : Int32)))), .second, .val (.double (FP.ddiv (FP.i2d vv) (FP.i2d (9 : Int32)))), .second, iv (1 : Int32), iv (1 : Int32)] [(.int (1 : Int32))])) _
        refine XS.ifNo X123.here hx rfl (hb hby at_172) rfl ((if0 _ _).trans (feq (by decide : ¬ ((1 : Int32) = (0 : Int32)))).1) ?_
        show Steps p.tables e below (T123.setTop (mkF m 175 #[iv p0, iv p1, iv p2, iv (0 : Int32), rv w_COMPLEXITY, iv nn, iv (9 : Int32), iv vv, .val (.double (FP.ddiv (FP.i2d vv) (FP.i2d (9 : Int32)))), .second, .val (.double (FP.ddiv (FP.i2d vv) (FP.i2d (9 : Int32)))), .second, iv (1 : Int32), iv (1 : Int32)] [])) _
        refine XS.iload X123.here hx rfl (hb hby at_175) rfl ?_
        show Steps p.tables e below (T123.setTop (mkF m 177 #[iv p0, iv p1, iv p2, iv (0 : Int32), rv w_COMPLEXITY, iv nn, iv (9 : Int32), iv vv, .val (.double (FP.ddiv (FP.i2d vv) (FP.i2d (9 : Int32)))), .second, .val (.double (FP.ddiv (FP.i2d vv) (FP.i2d (9 : Int32)))), .second, iv (1 : Int32), iv (1 : Int32)] [(.int (1 : Int32))])) _
        refine XS.ifNo X123.here hx rfl (hb hby at_177) rfl ((if0 _ _).trans (feq (by decide : ¬ ((1 : Int32) = (0 : Int32)))).1) ?_
        show Steps p.tables e below (T123.setTop (mkF m 180 #[iv p0, iv p1, iv p2, iv (0 : Int32), rv w_COMPLEXITY, iv nn, iv (9 : Int32), iv vv, .val (.double (FP.ddiv (FP.i2d vv) (FP.i2d (9 : Int32)))), .second, .val (.double (FP.ddiv (FP.i2d vv) (FP.i2d (9 : Int32)))), .second, iv (1 : Int32), iv (1 : Int32)] [])) _
        refine XS.iconst X123.here hx rfl (hb hby at_180) ?_
        show Steps p.tables e below (T123.setTop (mkF m 181 #[iv p0, iv p1, iv p2, iv (0 : Int32), rv w_COMPLEXITY, iv nn, iv (9 : Int32), iv vv, .val (.double (FP.ddiv (FP.i2d vv) (FP.i2d (9 : Int32)))), .second, .val (.double (FP.ddiv (FP.i2d vv) (FP.i2d (9 : Int32)))), .second, iv (1 : Int32), iv (1 : Int32)] [(.int (1 : Int32))])) _
        refine XS.goto X123.here hx rfl (pc0 := 181) (pc' := 185) rfl (hb hby at_181) (by decide) (by decide) ?_
        show Steps p.tables e below (T123.setTop (mkF m 185 #[iv p0, iv p1, iv p2, iv (0 : Int32), rv w_COMPLEXITY, iv nn, iv (9 : Int32), iv vv, .val (.double (FP.ddiv (FP.i2d vv) (FP.i2d (9 : Int32)))), .second, .val (.double (FP.ddiv (FP.i2d vv) (FP.i2d (9 : Int32)))), .second, iv (1 : Int32), iv (1 : Int32)] [(.int (1 : Int32))])) _
        exact kont
      obtain ⟨fs, hr, hrun, hended, hW, hsame⟩ := X123.leave (v := some (.int (1 : Int32))) (fun h => by rw [Bd.returns] at h; cases h)
      refine ⟨_, _, g130 _ (retN X123 hx (t := .boolean) Bd.returns (by simp) (hb hby at_185) hr), hrun, hended, _, _, rfl, ?_, ⟨_, rfl⟩, hW, hsame.mono (by decide) (by decide)⟩
      show Q_law Z p0 p1 p2 w_COMPLEXITY w_DEPENDENCIES w_IMPORTANCE h0 n0 _ T123.heap _
      rw [e123]
      exact ⟨rfl, N123⟩
    have g131 : Go p e below T123 (mkF m 185 #[iv p0, iv p1, iv p2, iv (0 : Int32), rv w_COMPLEXITY, iv nn, iv (9 : Int32), iv vv, .val (.double (FP.ddiv (FP.i2d vv) (FP.i2d (9 : Int32)))), .second, .val (.double (FP.ddiv (FP.i2d vv) (FP.i2d (9 : Int32)))), .second, iv (1 : Int32), iv (1 : Int32)] [(.int (1 : Int32))]) A0 := by
      intro t kont
      refine g129 t ?_
      refine XS.icmpYes X123.here hx rfl (pc0 := 140) (pc' := 155) rfl (hb hby at_140) rfl (feq c128).2 (by decide) (by decide) ?_
      show Steps p.tables e below (T123.setTop (mkF m 155 #[iv p0, iv p1, iv p2, iv (0 : Int32), rv w_COMPLEXITY, iv nn, iv (9 : Int32), iv vv, .val (.double (FP.ddiv (FP.i2d vv) (FP.i2d (9 : Int32)))), .second, .val (.double (FP.ddiv (FP.i2d vv) (FP.i2d (9 : Int32)))), .second, iv (1 : Int32), .unset] [])) _
      refine XS.iconst X123.here hx rfl (hb hby at_155) ?_
      show Steps p.tables e below (T123.setTop (mkF m 156 #[iv p0, iv p1, iv p2, iv (0 : Int32), rv w_COMPLEXITY, iv nn, iv (9 : Int32), iv vv, .val (.double (FP.ddiv (FP.i2d vv) (FP.i2d (9 : Int32)))), .second, .val (.double (FP.ddiv (FP.i2d vv) (FP.i2d (9 : Int32)))), .second, iv (1 : Int32), .unset] [(.int (1 : Int32))])) _
      refine XS.goto X123.here hx rfl (pc0 := 156) (pc' := 160) rfl (hb hby at_156) (by decide) (by decide) ?_
      show Steps p.tables e below (T123.setTop (mkF m 160 #[iv p0, iv p1, iv p2, iv (0 : Int32), rv w_COMPLEXITY, iv nn, iv (9 : Int32), iv vv, .val (.double (FP.ddiv (FP.i2d vv) (FP.i2d (9 : Int32)))), .second, .val (.double (FP.ddiv (FP.i2d vv) (FP.i2d (9 : Int32)))), .second, iv (1 : Int32), .unset] [(.int (1 : Int32))])) _
      refine XS.istore X123.here hx rfl (hb hby at_160) rfl (l' := #[iv p0, iv p1, iv p2, iv (0 : Int32), rv w_COMPLEXITY, iv nn, iv (9 : Int32), iv vv, .val (.double (FP.ddiv (FP.i2d vv) (FP.i2d (9 : Int32)))), .second, .val (.double (FP.ddiv (FP.i2d vv) (FP.i2d (9 : Int32)))), .second, iv (1 : Int32), iv (1 : Int32)]) rfl ?_
      show Steps p.tables e below (T123.setTop (mkF m 162 #[iv p0, iv p1, iv p2, iv (0 : Int32), rv w_COMPLEXITY, iv nn, iv (9 : Int32), iv vv, .val (.double (FP.ddiv (FP.i2d vv) (FP.i2d (9 : Int32)))), .second, .val (.double (FP.ddiv (FP.i2d vv) (FP.i2d (9 : Int32)))), .second, iv (1 : Int32), iv (1 : Int32)] [])) _
      refine XS.dload X123.here hx rfl (hb hby at_162) rfl ?_
      show Steps p.tables e below (T123.setTop (mkF m 164 #[iv p0, iv p1, iv p2, iv (0 : Int32), rv w_COMPLEXITY, iv nn, iv (9 : Int32), iv vv, .val (.double (FP.ddiv (FP.i2d vv) (FP.i2d (9 : Int32)))), .second, .val (.double (FP.ddiv (FP.i2d vv) (FP.i2d (9 : Int32)))), .second, iv (1 : Int32), iv (1 : Int32)] [(.double (FP.ddiv (FP.i2d vv) (FP.i2d (9 : Int32))))])) _
      refine XS.dload X123.here hx rfl (hb hby at_164) rfl ?_
      show Steps p.tables e below (T123.setTop (mkF m 166 #[iv p0, iv p1, iv p2, iv (0 : Int32), rv w_COMPLEXITY, iv nn, iv (9 : Int32), iv vv, .val (.double (FP.ddiv (FP.i2d vv) (FP.i2d (9 : Int32)))), .second, .val (.double (FP.ddiv (FP.i2d vv) (FP.i2d (9 : Int32)))), .second, iv (1 : Int32), iv (1 : Int32)] [(.double (FP.ddiv (FP.i2d vv) (FP.i2d (9 : Int32)))), (.double (FP.ddiv (FP.i2d vv) (FP.i2d (9 : Int32))))])) _
      refine XS.dcmpS X123.here hx rfl (hb hby at_166) rfl (v := (0 : Int32)) (dcmpV_self (own_nn qv0 qv1 qm1) _) ?_
      show Steps p.tables e below (T123.setTop (mkF m 167 #[iv p0, iv p1, iv p2, iv (0 : Int32), rv w_COMPLEXITY, iv nn, iv (9 : Int32), iv vv, .val (.double (FP.ddiv (FP.i2d vv) (FP.i2d (9 : Int32)))), .second, .val (.double (FP.ddiv (FP.i2d vv) (FP.i2d (9 : Int32)))), .second, iv (1 : Int32), iv (1 : Int32)] [(.int (0 : Int32))])) _
      refine XS.ifNo X123.here hx rfl (hb hby at_167) rfl ((if0 _ _).trans (teq (by decide : (0 : Int32) = (0 : Int32))).2) ?_
      show Steps p.tables e below (T123.setTop (mkF m 170 #[iv p0, iv p1, iv p2, iv (0 : Int32), rv w_COMPLEXITY, iv nn, iv (9 : Int32), iv vv, .val (.double (FP.ddiv (FP.i2d vv) (FP.i2d (9 : Int32)))), .second, .val (.double (FP.ddiv (FP.i2d vv) (FP.i2d (9 : Int32)))), .second, iv (1 : Int32), iv (1 : Int32)] [])) _
      refine XS.iload X123.here hx rfl (hb hby at_170) rfl ?_
      show Steps p.tables e below (T123.setTop (mkF m 172 #[iv p0, iv p1, iv p2, iv (0 : Int32), rv w_COMPLEXITY, iv nn, iv (9 : Int32), iv vv, .val (.double (FP.ddiv (FP.i2d vv) (FP.i2d (9 : Int32)))), .second, .val (.double (FP.ddiv (FP.i2d vv) (FP.i2d (9 : Int32)))), .second, iv (1 : Int32), iv (1 : Int32)] [(.int (1 : Int32))])) _
      refine XS.ifNo X123.here hx rfl (hb hby at_172) rfl ((if0 _ _).trans (feq (by decide : ¬ ((1 : Int32) = (0 : Int32)))).1) ?_
      show Steps p.tables e below (T123.setTop (mkF m 175 #[iv p0, iv p1, iv p2, iv (0 : Int32), rv w_COMPLEXITY, iv nn, iv (9 : Int32), iv vv, .val (.double (FP.ddiv (FP.i2d vv) (FP.i2d (9 : Int32)))), .second, .val (.double (FP.ddiv (FP.i2d vv) (FP.i2d (9 : Int32)))), .second, iv (1 : Int32), iv (1 : Int32)] [])) _
      refine XS.iload X123.here hx rfl (hb hby at_175) rfl ?_
      show Steps p.tables e below (T123.setTop (mkF m 177 #[iv p0, iv p1, iv p2, iv (0 : Int32), rv w_COMPLEXITY, iv nn, iv (9 : Int32), iv vv, .val (.double (FP.ddiv (FP.i2d vv) (FP.i2d (9 : Int32)))), .second, .val (.double (FP.ddiv (FP.i2d vv) (FP.i2d (9 : Int32)))), .second, iv (1 : Int32), iv (1 : Int32)] [(.int (1 : Int32))])) _
      refine XS.ifNo X123.here hx rfl (hb hby at_177) rfl ((if0 _ _).trans (feq (by decide : ¬ ((1 : Int32) = (0 : Int32)))).1) ?_
      show Steps p.tables e below (T123.setTop (mkF m 180 #[iv p0, iv p1, iv p2, iv (0 : Int32), rv w_COMPLEXITY, iv nn, iv (9 : Int32), iv vv, .val (.double (FP.ddiv (FP.i2d vv) (FP.i2d (9 : Int32)))), .second, .val (.double (FP.ddiv (FP.i2d vv) (FP.i2d (9 : Int32)))), .second, iv (1 : Int32), iv (1 : Int32)] [])) _
      refine XS.iconst X123.here hx rfl (hb hby at_180) ?_
      show Steps p.tables e below (T123.setTop (mkF m 181 #[iv p0, iv p1, iv p2, iv (0 : Int32), rv w_COMPLEXITY, iv nn, iv (9 : Int32), iv vv, .val (.double (FP.ddiv (FP.i2d vv) (FP.i2d (9 : Int32)))), .second, .val (.double (FP.ddiv (FP.i2d vv) (FP.i2d (9 : Int32)))), .second, iv (1 : Int32), iv (1 : Int32)] [(.int (1 : Int32))])) _
      refine XS.goto X123.here hx rfl (pc0 := 181) (pc' := 185) rfl (hb hby at_181) (by decide) (by decide) ?_
      show Steps p.tables e below (T123.setTop (mkF m 185 #[iv p0, iv p1, iv p2, iv (0 : Int32), rv w_COMPLEXITY, iv nn, iv (9 : Int32), iv vv, .val (.double (FP.ddiv (FP.i2d vv) (FP.i2d (9 : Int32)))), .second, .val (.double (FP.ddiv (FP.i2d vv) (FP.i2d (9 : Int32)))), .second, iv (1 : Int32), iv (1 : Int32)] [(.int (1 : Int32))])) _
      exact kont
    obtain ⟨fs, hr, hrun, hended, hW, hsame⟩ := X123.leave (v := some (.int (1 : Int32))) (fun h => by rw [Bd.returns] at h; cases h)
    refine ⟨_, _, g131 _ (retN X123 hx (t := .boolean) Bd.returns (by simp) (hb hby at_185) hr), hrun, hended, _, _, rfl, ?_, ⟨_, rfl⟩, hW, hsame.mono (by decide) (by decide)⟩
    show Q_law Z p0 p1 p2 w_COMPLEXITY w_DEPENDENCIES w_IMPORTANCE h0 n0 _ T123.heap _
    rw [e123]
    exact ⟨rfl, N123⟩
  have g133 : Go p e below s₁ (mkF m 19 #[iv p0, iv p1, iv p2, iv k, .unset, .unset, .unset, .unset, .unset, .unset, .unset, .unset, .unset, .unset] [(.int (1 : Int32)), (.int k)]) A0 := by
    intro t kont
    refine g104 t ?_
    refine XS.ifYes X0.here hx rfl (pc0 := 8) (pc' := 17) rfl (hb hby at_8) rfl ((if0 _ _).trans (feq c103).2) (by decide) (by decide) ?_
    show Steps p.tables e below (s₁.setTop (mkF m 17 #[iv p0, iv p1, iv p2, iv k, .unset, .unset, .unset, .unset, .unset, .unset, .unset, .unset, .unset, .unset] [])) _
    refine XS.iloadN X0.here hx rfl (hb hby at_17) rfl ?_
    show Steps p.tables e below (s₁.setTop (mkF m 18 #[iv p0, iv p1, iv p2, iv k, .unset, .unset, .unset, .unset, .unset, .unset, .unset, .unset, .unset, .unset] [(.int k)])) _
    refine XS.iconst X0.here hx rfl (hb hby at_18) ?_
    show Steps p.tables e below (s₁.setTop (mkF m 19 #[iv p0, iv p1, iv p2, iv k, .unset, .unset, .unset, .unset, .unset, .unset, .unset, .unset, .unset, .unset] [(.int (1 : Int32)), (.int k)])) _
    exact kont
  by_cases c132 : k = (1 : Int32)
  ·
    subst c132
    have g134 : Go p e below s₁ (mkF m 22 #[iv p0, iv p1, iv p2, iv (1 : Int32), .unset, .unset, .unset, .unset, .unset, .unset, .unset, .unset, .unset, .unset] []) A0 := by
      intro t kont
      refine g133 t ?_
      refine XS.icmpNo X0.here hx rfl (hb hby at_19) rfl (teq (rfl : (1 : Int32) = (1 : Int32))).2 ?_
      show Steps p.tables e below (s₁.setTop (mkF m 22 #[iv p0, iv p1, iv p2, iv (1 : Int32), .unset, .unset, .unset, .unset, .unset, .unset, .unset, .unset, .unset, .unset] [])) _
      exact kont
    have y135 : Sta Z h0 "com/example/evenhand/evenhand/Characteristic" "DEPENDENCIES" "Lcom/example/evenhand/evenhand/Characteristic;" (.ref w_DEPENDENCIES) := S1_.ext O0.2
    obtain ⟨T136, X136, e136, st136⟩ := getS2 X0 hx hZ hown (host := "") (Or.inl (hw _ (List.mem_of_getElem? (i := 20) rfl))) Via.refl e0 y135 (g := (mkF m 22 #[iv p0, iv p1, iv p2, iv (1 : Int32), .unset, .unset, .unset, .unset, .unset, .unset, .unset, .unset, .unset, .unset] [])) rfl (hb hby at_22)
    have g137 : Go p e below T136 (mkF m 25 #[iv p0, iv p1, iv p2, iv (1 : Int32), .unset, .unset, .unset, .unset, .unset, .unset, .unset, .unset, .unset, .unset] [(.ref w_DEPENDENCIES)]) A0 := fun t kont => g134 t (st136 t kont)
    have g138 : Go p e below T136 (mkF m 33 #[iv p0, iv p1, iv p2, iv (1 : Int32), rv w_DEPENDENCIES, .unset, .unset, .unset, .unset, .unset, .unset, .unset, .unset, .unset] []) A0 := by
      intro t kont
      refine g137 t ?_
      refine XS.goto X136.here hx rfl (pc0 := 25) (pc' := 31) rfl (hb hby at_25) (by decide) (by decide) ?_
      show Steps p.tables e below (T136.setTop (mkF m 31 #[iv p0, iv p1, iv p2, iv (1 : Int32), .unset, .unset, .unset, .unset, .unset, .unset, .unset, .unset, .unset, .unset] [(.ref w_DEPENDENCIES)])) _
      refine XS.astore X136.here hx rfl (hb hby at_31) rfl rfl (l' := #[iv p0, iv p1, iv p2, iv (1 : Int32), rv w_DEPENDENCIES, .unset, .unset, .unset, .unset, .unset, .unset, .unset, .unset, .unset]) rfl ?_
      show Steps p.tables e below (T136.setTop (mkF m 33 #[iv p0, iv p1, iv p2, iv (1 : Int32), rv w_DEPENDENCIES, .unset, .unset, .unset, .unset, .unset, .unset, .unset, .unset, .unset] [])) _
      exact kont
    obtain ⟨nn, T139, lc139, X139, e139, N139, g139, j148⟩ : ∃ nn : Int32, ∃ (T139 : State) (lc139 : List Loc), Stand p l e room_1 s m #[(.int p0), (.int p1), (.int p2)] below meth c T139 lc139 0 0 ∧ T139.heap = h0 ∧ Fr n0 lc139 ∧ Go p e below T139 (mkF m 57 #[iv p0, iv p1, iv p2, iv (1 : Int32), rv w_DEPENDENCIES, .unset, .unset, .unset, .unset, .unset, .unset, .unset, .unset, .unset] [(.int nn)]) A0 ∧ (1 ≤ nn.toInt) := by
      have g141 : Go p e below T136 (mkF m 36 #[iv p0, iv p1, iv p2, iv (1 : Int32), rv w_DEPENDENCIES, .unset, .unset, .unset, .unset, .unset, .unset, .unset, .unset, .unset] [(.int (p1 &&& (1 : Int32)))]) A0 := by
        intro t kont
        refine g138 t ?_
        refine XS.iloadN X136.here hx rfl (hb hby at_33) rfl ?_
        show Steps p.tables e below (T136.setTop (mkF m 34 #[iv p0, iv p1, iv p2, iv (1 : Int32), rv w_DEPENDENCIES, .unset, .unset, .unset, .unset, .unset, .unset, .unset, .unset, .unset] [(.int p1)])) _
        refine XS.iconst X136.here hx rfl (hb hby at_34) ?_
        show Steps p.tables e below (T136.setTop (mkF m 35 #[iv p0, iv p1, iv p2, iv (1 : Int32), rv w_DEPENDENCIES, .unset, .unset, .unset, .unset, .unset, .unset, .unset, .unset, .unset] [(.int (1 : Int32)), (.int p1)])) _
        refine XS.iand X136.here hx rfl (hb hby at_35) rfl ?_
        show Steps p.tables e below (T136.setTop (mkF m 36 #[iv p0, iv p1, iv p2, iv (1 : Int32), rv w_DEPENDENCIES, .unset, .unset, .unset, .unset, .unset, .unset, .unset, .unset, .unset] [(.int (p1 &&& (1 : Int32)))])) _
        exact kont
      by_cases c140 : (p1 &&& (1 : Int32)) = (0 : Int32)
      ·
        have g142 : Go p e below T136 (mkF m 57 #[iv p0, iv p1, iv p2, iv (1 : Int32), rv w_DEPENDENCIES, .unset, .unset, .unset, .unset, .unset, .unset, .unset, .unset, .unset] [(.int ((((p1.toUInt32 >>> ((1 : Int32) &&& 31).toUInt32).toInt32) &&& (7 : Int32)) + (1 : Int32)))]) A0 := by
          intro t kont
          refine g141 t ?_
          refine XS.ifNo X136.here hx rfl (hb hby at_36) rfl ((if0 _ _).trans (teq c140).2) ?_
          show Steps p.tables e below (T136.setTop (mkF m 39 #[iv p0, iv p1, iv p2, iv (1 : Int32), rv w_DEPENDENCIES, .unset, .unset, .unset, .unset, .unset, .unset, .unset, .unset, .unset] [])) _
          refine XS.iloadN X136.here hx rfl (hb hby at_39) rfl ?_
          show Steps p.tables e below (T136.setTop (mkF m 40 #[iv p0, iv p1, iv p2, iv (1 : Int32), rv w_DEPENDENCIES, .unset, .unset, .unset, .unset, .unset, .unset, .unset, .unset, .unset] [(.int p1)])) _
          refine XS.iconst X136.here hx rfl (hb hby at_40) ?_
          show Steps p.tables e below (T136.setTop (mkF m 41 #[iv p0, iv p1, iv p2, iv (1 : Int32), rv w_DEPENDENCIES, .unset, .unset, .unset, .unset, .unset, .unset, .unset, .unset, .unset] [(.int (1 : Int32)), (.int p1)])) _
          refine XS.iushr X136.here hx rfl (hb hby at_41) rfl ?_
          show Steps p.tables e below (T136.setTop (mkF m 42 #[iv p0, iv p1, iv p2, iv (1 : Int32), rv w_DEPENDENCIES, .unset, .unset, .unset, .unset, .unset, .unset, .unset, .unset, .unset] [(.int ((p1.toUInt32 >>> ((1 : Int32) &&& 31).toUInt32).toInt32))])) _
          refine XS.bipush X136.here hx rfl (hb hby at_42) ?_
          show Steps p.tables e below (T136.setTop (mkF m 44 #[iv p0, iv p1, iv p2, iv (1 : Int32), rv w_DEPENDENCIES, .unset, .unset, .unset, .unset, .unset, .unset, .unset, .unset, .unset] [(.int (7 : Int32)), (.int ((p1.toUInt32 >>> ((1 : Int32) &&& 31).toUInt32).toInt32))])) _
          refine XS.iand X136.here hx rfl (hb hby at_44) rfl ?_
          show Steps p.tables e below (T136.setTop (mkF m 45 #[iv p0, iv p1, iv p2, iv (1 : Int32), rv w_DEPENDENCIES, .unset, .unset, .unset, .unset, .unset, .unset, .unset, .unset, .unset] [(.int (((p1.toUInt32 >>> ((1 : Int32) &&& 31).toUInt32).toInt32) &&& (7 : Int32)))])) _
          refine XS.iconst X136.here hx rfl (hb hby at_45) ?_
          show Steps p.tables e below (T136.setTop (mkF m 46 #[iv p0, iv p1, iv p2, iv (1 : Int32), rv w_DEPENDENCIES, .unset, .unset, .unset, .unset, .unset, .unset, .unset, .unset, .unset] [(.int (1 : Int32)), (.int (((p1.toUInt32 >>> ((1 : Int32) &&& 31).toUInt32).toInt32) &&& (7 : Int32)))])) _
          refine XS.iadd X136.here hx rfl (hb hby at_46) rfl ?_
          show Steps p.tables e below (T136.setTop (mkF m 47 #[iv p0, iv p1, iv p2, iv (1 : Int32), rv w_DEPENDENCIES, .unset, .unset, .unset, .unset, .unset, .unset, .unset, .unset, .unset] [(.int ((((p1.toUInt32 >>> ((1 : Int32) &&& 31).toUInt32).toInt32) &&& (7 : Int32)) + (1 : Int32)))])) _
          refine XS.goto X136.here hx rfl (pc0 := 47) (pc' := 57) rfl (hb hby at_47) (by decide) (by decide) ?_
          show Steps p.tables e below (T136.setTop (mkF m 57 #[iv p0, iv p1, iv p2, iv (1 : Int32), rv w_DEPENDENCIES, .unset, .unset, .unset, .unset, .unset, .unset, .unset, .unset, .unset] [(.int ((((p1.toUInt32 >>> ((1 : Int32) &&& 31).toUInt32).toInt32) &&& (7 : Int32)) + (1 : Int32)))])) _
          exact kont
        exact ⟨((((p1.toUInt32 >>> ((1 : Int32) &&& 31).toUInt32).toInt32) &&& (7 : Int32)) + (1 : Int32)), _, _, X136, e136, N0, g142, (own_n1 p1)⟩
      have g143 : Go p e below T136 (mkF m 54 #[iv p0, iv p1, iv p2, iv (1 : Int32), rv w_DEPENDENCIES, .unset, .unset, .unset, .unset, .unset, .unset, .unset, .unset, .unset] [(.int ((p1.toUInt32 >>> ((1 : Int32) &&& 31).toUInt32).toInt32)), (.int (1 : Int32))]) A0 := by
        intro t kont
        refine g141 t ?_
        refine XS.ifYes X136.here hx rfl (pc0 := 36) (pc' := 50) rfl (hb hby at_36) rfl ((if0 _ _).trans (feq c140).2) (by decide) (by decide) ?_
        show Steps p.tables e below (T136.setTop (mkF m 50 #[iv p0, iv p1, iv p2, iv (1 : Int32), rv w_DEPENDENCIES, .unset, .unset, .unset, .unset, .unset, .unset, .unset, .unset, .unset] [])) _
        refine XS.iconst X136.here hx rfl (hb hby at_50) ?_
        show Steps p.tables e below (T136.setTop (mkF m 51 #[iv p0, iv p1, iv p2, iv (1 : Int32), rv w_DEPENDENCIES, .unset, .unset, .unset, .unset, .unset, .unset, .unset, .unset, .unset] [(.int (1 : Int32))])) _
        refine XS.iloadN X136.here hx rfl (hb hby at_51) rfl ?_
        show Steps p.tables e below (T136.setTop (mkF m 52 #[iv p0, iv p1, iv p2, iv (1 : Int32), rv w_DEPENDENCIES, .unset, .unset, .unset, .unset, .unset, .unset, .unset, .unset, .unset] [(.int p1), (.int (1 : Int32))])) _
        refine XS.iconst X136.here hx rfl (hb hby at_52) ?_
        show Steps p.tables e below (T136.setTop (mkF m 53 #[iv p0, iv p1, iv p2, iv (1 : Int32), rv w_DEPENDENCIES, .unset, .unset, .unset, .unset, .unset, .unset, .unset, .unset, .unset] [(.int (1 : Int32)), (.int p1), (.int (1 : Int32))])) _
        refine XS.iushr X136.here hx rfl (hb hby at_53) rfl ?_
        show Steps p.tables e below (T136.setTop (mkF m 54 #[iv p0, iv p1, iv p2, iv (1 : Int32), rv w_DEPENDENCIES, .unset, .unset, .unset, .unset, .unset, .unset, .unset, .unset, .unset] [(.int ((p1.toUInt32 >>> ((1 : Int32) &&& 31).toUInt32).toInt32)), (.int (1 : Int32))])) _
        exact kont
      obtain ⟨_, _, ⟨T144, L144, k144, n144⟩, -, X144, ⟨Lc144, hQ144, l144, y144, z144⟩, st144⟩ := Jvm.LawKit.callS X136 hx (y := (⟨"java/lang/Math", "max", "(II)I"⟩ : MethodName)) hown (mvT hZ (hw _ (List.mem_of_getElem? (i := 4) rfl))) (mvT hZ (hw _ (List.mem_of_getElem? (i := 5) rfl))) (mvT hZ (hw _ (List.mem_of_getElem? (i := 6) rfl))) (mvT hZ (hw _ (List.mem_of_getElem? (i := 7) rfl))) (by decide) (backOf (W := 0) (rm_mx l Z a0 hw [] ((p1.toUInt32 >>> ((1 : Int32) &&& 31).toUInt32).toInt32) h0 n0 O0 ) hZ (hw _ (List.mem_of_getElem? (i := 7) rfl)) (hw _ (List.mem_of_getElem? (i := 6) rfl)) (by decide) (by decide)) (g := (mkF m 54 #[iv p0, iv p1, iv p2, iv (1 : Int32), rv w_DEPENDENCIES, .unset, .unset, .unset, .unset, .unset, .unset, .unset, .unset, .unset] [(.int ((p1.toUInt32 >>> ((1 : Int32) &&& 31).toUInt32).toInt32)), (.int (1 : Int32))])) rfl (by rw [hml]; rfl) (argsL := [(.int (1 : Int32)), (.int ((p1.toUInt32 >>> ((1 : Int32) &&& 31).toUInt32).toInt32))]) (rest := []) (lenOf pd_1 rfl) rfl (by show 2 * 0 + _ ≤ _; exact Nat.le_of_eq rfl) (hb hby at_54) (fun _ _ => ⟨rfl, e136, (by decide : 0 + 0 ≤ _), (by decide : 0 + 0 ≤ _)⟩)
      dsimp only [Pt.U, Pt.locs, Pt.cells, Pt.slots] at X144 l144 y144 z144 st144 hQ144
      subst l144 y144 z144
      obtain ⟨r145, rfl, M144, e144, y146⟩ := hQ144
      have N144 := Fr.app N0 M144
      have g147 : Go p e below T144 (mkF m 57 #[iv p0, iv p1, iv p2, iv (1 : Int32), rv w_DEPENDENCIES, .unset, .unset, .unset, .unset, .unset, .unset, .unset, .unset, .unset] [(.int r145)]) A0 := fun t kont => g143 t (st144 t kont)
      exact ⟨r145, _, _, X144, e144, N144, g147, (y146)⟩
    have g149 : Go p e below T139 (mkF m 83 #[iv p0, iv p1, iv p2, iv (1 : Int32), rv w_DEPENDENCIES, iv nn, iv (nn - (1 : Int32)), .unset, .unset, .unset, .unset, .unset, .unset, .unset] [(.int ((nn - (1 : Int32)) + (1 : Int32))), (.int (p2 &&& (2147483647 : Int32)))]) A0 := by
      intro t kont
      refine g139 t ?_
      refine XS.istore X139.here hx rfl (hb hby at_57) rfl (l' := #[iv p0, iv p1, iv p2, iv (1 : Int32), rv w_DEPENDENCIES, iv nn, .unset, .unset, .unset, .unset, .unset, .unset, .unset, .unset]) rfl ?_
      show Steps p.tables e below (T139.setTop (mkF m 59 #[iv p0, iv p1, iv p2, iv (1 : Int32), rv w_DEPENDENCIES, iv nn, .unset, .unset, .unset, .unset, .unset, .unset, .unset, .unset] [])) _
      refine XS.iloadN X139.here hx rfl (hb hby at_59) rfl ?_
      show Steps p.tables e below (T139.setTop (mkF m 60 #[iv p0, iv p1, iv p2, iv (1 : Int32), rv w_DEPENDENCIES, iv nn, .unset, .unset, .unset, .unset, .unset, .unset, .unset, .unset] [(.int (1 : Int32))])) _
      refine XS.iconst X139.here hx rfl (hb hby at_60) ?_
      show Steps p.tables e below (T139.setTop (mkF m 61 #[iv p0, iv p1, iv p2, iv (1 : Int32), rv w_DEPENDENCIES, iv nn, .unset, .unset, .unset, .unset, .unset, .unset, .unset, .unset] [(.int (1 : Int32)), (.int (1 : Int32))])) _
      refine XS.icmpNo X139.here hx rfl (hb hby at_61) rfl (teq (by decide : (1 : Int32) = (1 : Int32))).2 ?_
      show Steps p.tables e below (T139.setTop (mkF m 64 #[iv p0, iv p1, iv p2, iv (1 : Int32), rv w_DEPENDENCIES, iv nn, .unset, .unset, .unset, .unset, .unset, .unset, .unset, .unset] [])) _
      refine XS.iload X139.here hx rfl (hb hby at_64) rfl ?_
      show Steps p.tables e below (T139.setTop (mkF m 66 #[iv p0, iv p1, iv p2, iv (1 : Int32), rv w_DEPENDENCIES, iv nn, .unset, .unset, .unset, .unset, .unset, .unset, .unset, .unset] [(.int nn)])) _
      refine XS.iconst X139.here hx rfl (hb hby at_66) ?_
      show Steps p.tables e below (T139.setTop (mkF m 67 #[iv p0, iv p1, iv p2, iv (1 : Int32), rv w_DEPENDENCIES, iv nn, .unset, .unset, .unset, .unset, .unset, .unset, .unset, .unset] [(.int (1 : Int32)), (.int nn)])) _
      refine XS.isub X139.here hx rfl (hb hby at_67) rfl ?_
      show Steps p.tables e below (T139.setTop (mkF m 68 #[iv p0, iv p1, iv p2, iv (1 : Int32), rv w_DEPENDENCIES, iv nn, .unset, .unset, .unset, .unset, .unset, .unset, .unset, .unset] [(.int (nn - (1 : Int32)))])) _
      refine XS.goto X139.here hx rfl (pc0 := 68) (pc' := 73) rfl (hb hby at_68) (by decide) (by decide) ?_
      show Steps p.tables e below (T139.setTop (mkF m 73 #[iv p0, iv p1, iv p2, iv (1 : Int32), rv w_DEPENDENCIES, iv nn, .unset, .unset, .unset, .unset, .unset, .unset, .unset, .unset] [(.int (nn - (1 : Int32)))])) _
      refine XS.istore X139.here hx rfl (hb hby at_73) rfl (l' := #[iv p0, iv p1, iv p2, iv (1 : Int32), rv w_DEPENDENCIES, iv nn, iv (nn - (1 : Int32)), .unset, .unset, .unset, .unset, .unset, .unset, .unset]) rfl ?_
      show Steps p.tables e below (T139.setTop (mkF m 75 #[iv p0, iv p1, iv p2, iv (1 : Int32), rv w_DEPENDENCIES, iv nn, iv (nn - (1 : Int32)), .unset, .unset, .unset, .unset, .unset, .unset, .unset] [])) _
      refine XS.iloadN X139.here hx rfl (hb hby at_75) rfl ?_
      show Steps p.tables e below (T139.setTop (mkF m 76 #[iv p0, iv p1, iv p2, iv (1 : Int32), rv w_DEPENDENCIES, iv nn, iv (nn - (1 : Int32)), .unset, .unset, .unset, .unset, .unset, .unset, .unset] [(.int p2)])) _
      refine X139.ldcInt hx hown (mvT hZ (hw _ (List.mem_of_getElem? (i := 0) rfl))) (g := (mkF m 76 #[iv p0, iv p1, iv p2, iv (1 : Int32), rv w_DEPENDENCIES, iv nn, iv (nn - (1 : Int32)), .unset, .unset, .unset, .unset, .unset, .unset, .unset] [(.int p2)])) rfl (hb hby at_76) _ ?_
      show Steps p.tables e below (T139.setTop (mkF m 78 #[iv p0, iv p1, iv p2, iv (1 : Int32), rv w_DEPENDENCIES, iv nn, iv (nn - (1 : Int32)), .unset, .unset, .unset, .unset, .unset, .unset, .unset] [(.int (2147483647 : Int32)), (.int p2)])) _
      refine XS.iand X139.here hx rfl (hb hby at_78) rfl ?_
      show Steps p.tables e below (T139.setTop (mkF m 79 #[iv p0, iv p1, iv p2, iv (1 : Int32), rv w_DEPENDENCIES, iv nn, iv (nn - (1 : Int32)), .unset, .unset, .unset, .unset, .unset, .unset, .unset] [(.int (p2 &&& (2147483647 : Int32)))])) _
      refine XS.iload X139.here hx rfl (hb hby at_79) rfl ?_
      show Steps p.tables e below (T139.setTop (mkF m 81 #[iv p0, iv p1, iv p2, iv (1 : Int32), rv w_DEPENDENCIES, iv nn, iv (nn - (1 : Int32)), .unset, .unset, .unset, .unset, .unset, .unset, .unset] [(.int (nn - (1 : Int32))), (.int (p2 &&& (2147483647 : Int32)))])) _
      refine XS.iconst X139.here hx rfl (hb hby at_81) ?_
      show Steps p.tables e below (T139.setTop (mkF m 82 #[iv p0, iv p1, iv p2, iv (1 : Int32), rv w_DEPENDENCIES, iv nn, iv (nn - (1 : Int32)), .unset, .unset, .unset, .unset, .unset, .unset, .unset] [(.int (1 : Int32)), (.int (nn - (1 : Int32))), (.int (p2 &&& (2147483647 : Int32)))])) _
      refine XS.iadd X139.here hx rfl (hb hby at_82) rfl ?_
      show Steps p.tables e below (T139.setTop (mkF m 83 #[iv p0, iv p1, iv p2, iv (1 : Int32), rv w_DEPENDENCIES, iv nn, iv (nn - (1 : Int32)), .unset, .unset, .unset, .unset, .unset, .unset, .unset] [(.int ((nn - (1 : Int32)) + (1 : Int32))), (.int (p2 &&& (2147483647 : Int32)))])) _
      exact kont
    have g150 : Go p e below T139 (mkF m 83 #[iv p0, iv p1, iv p2, iv (1 : Int32), rv w_DEPENDENCIES, iv nn, iv (nn - (1 : Int32)), .unset, .unset, .unset, .unset, .unset, .unset, .unset] [(.int nn), (.int (p2 &&& (2147483647 : Int32)))]) A0 := by have z := g149; rw [own_back nn] at z; exact z
    have g151 : Go p e below T139 (mkF m 84 #[iv p0, iv p1, iv p2, iv (1 : Int32), rv w_DEPENDENCIES, iv nn, iv (nn - (1 : Int32)), .unset, .unset, .unset, .unset, .unset, .unset, .unset] [(.int ((p2 &&& (2147483647 : Int32)) % nn))]) A0 := by
      intro t kont
      refine g150 t ?_
      refine iremM X139 hx rfl (hb hby at_83) rfl (own_nz j148) ?_
      show Steps p.tables e below (T139.setTop (mkF m 84 #[iv p0, iv p1, iv p2, iv (1 : Int32), rv w_DEPENDENCIES, iv nn, iv (nn - (1 : Int32)), .unset, .unset, .unset, .unset, .unset, .unset, .unset] [(.int ((p2 &&& (2147483647 : Int32)) % nn))])) _
      exact kont
    obtain ⟨vv, e_vv⟩ : ∃ z, z = ((p2 &&& (2147483647 : Int32)) % nn) := ⟨_, rfl⟩
    have g152 : Go p e below T139 (mkF m 84 #[iv p0, iv p1, iv p2, iv (1 : Int32), rv w_DEPENDENCIES, iv nn, iv (nn - (1 : Int32)), .unset, .unset, .unset, .unset, .unset, .unset, .unset] [(.int vv)]) A0 := by rw [e_vv]; exact g151
    have qv0 : 0 ≤ vv.toInt := own_v0 e_vv j148
    have qv1 : vv.toInt ≤ (nn - (1 : Int32)).toInt := own_vm e_vv j148
    have g154 : Go p e below T139 (mkF m 86 #[iv p0, iv p1, iv p2, iv (1 : Int32), rv w_DEPENDENCIES, iv nn, iv (nn - (1 : Int32)), iv vv, .unset, .unset, .unset, .unset, .unset, .unset] []) A0 := by
      intro t kont
      refine g152 t ?_
      refine XS.istore X139.here hx rfl (hb hby at_84) rfl (l' := #[iv p0, iv p1, iv p2, iv (1 : Int32), rv w_DEPENDENCIES, iv nn, iv (nn - (1 : Int32)), iv vv, .unset, .unset, .unset, .unset, .unset, .unset]) rfl ?_
      show Steps p.tables e below (T139.setTop (mkF m 86 #[iv p0, iv p1, iv p2, iv (1 : Int32), rv w_DEPENDENCIES, iv nn, iv (nn - (1 : Int32)), iv vv, .unset, .unset, .unset, .unset, .unset, .unset] [])) _
      exact kont
    by_cases c153 : (nn - (1 : Int32)) = (0 : Int32)
    ·
      have g155 : Go p e below T139 (mkF m 92 #[iv p0, iv p1, iv p2, iv (1 : Int32), rv w_DEPENDENCIES, iv nn, iv (nn - (1 : Int32)), iv vv, .unset, .unset, .unset, .unset, .unset, .unset] [(.int nn), (.int vv), (.ref w_DEPENDENCIES)]) A0 := by
        intro t kont
        refine g154 t ?_
        refine XS.aload X139.here hx rfl (hb hby at_86) rfl rfl ?_
        show Steps p.tables e below (T139.setTop (mkF m 88 #[iv p0, iv p1, iv p2, iv (1 : Int32), rv w_DEPENDENCIES, iv nn, iv (nn - (1 : Int32)), iv vv, .unset, .unset, .unset, .unset, .unset, .unset] [(.ref w_DEPENDENCIES)])) _
        refine XS.iload X139.here hx rfl (hb hby at_88) rfl ?_
        show Steps p.tables e below (T139.setTop (mkF m 90 #[iv p0, iv p1, iv p2, iv (1 : Int32), rv w_DEPENDENCIES, iv nn, iv (nn - (1 : Int32)), iv vv, .unset, .unset, .unset, .unset, .unset, .unset] [(.int vv), (.ref w_DEPENDENCIES)])) _
        refine XS.iload X139.here hx rfl (hb hby at_90) rfl ?_
        show Steps p.tables e below (T139.setTop (mkF m 92 #[iv p0, iv p1, iv p2, iv (1 : Int32), rv w_DEPENDENCIES, iv nn, iv (nn - (1 : Int32)), iv vv, .unset, .unset, .unset, .unset, .unset, .unset] [(.int nn), (.int vv), (.ref w_DEPENDENCIES)])) _
        exact kont
      have y157 : Exa Z h0 w_DEPENDENCIES "com/example/evenhand/evenhand/Characteristic" := ZE4_.ext O0.2
      have y158 : Exa Z h0 w_DEPENDENCIES "com/example/evenhand/evenhand/Characteristic" := ZE4_.ext O0.2
      have y159 : Exa Z h0 w_DEPENDENCIES "com/example/evenhand/evenhand/Characteristic" := ZE4_.ext O0.2
      obtain ⟨cq156, kq156, q156a, q156b, q156c⟩ := isOf hZ e139 y159
      obtain ⟨_, _, ⟨T156, L156, k156, n156⟩, -, X156, ⟨Lc156, hQ156, l156, y156, z156⟩, st156⟩ := X139.virtualBack hx (y := (⟨"com/example/evenhand/evenhand/Characteristic", "share", "(II)D"⟩ : MethodName)) (z := (⟨"com/example/evenhand/evenhand/Characteristic", "share", "(II)D"⟩ : MethodName)) hown (mvT hZ (hw _ (List.mem_of_getElem? (i := 8) rfl))) (mvT hZ (hw _ (List.mem_of_getElem? (i := 9) rfl))) (notFace_of_selects (args := #[]) (mvT hZ (hw _ (List.mem_of_getElem? (i := 11) rfl)))) (mvT hZ (hw _ (List.mem_of_getElem? (i := 11) rfl))) (mvT hZ (hw _ (List.mem_of_getElem? (i := 10) rfl))) (by decide) (backOf (W := 0) (rm_shD0 l Z a0 hw [] w_DEPENDENCIES vv nn h0 n0 O0 y158 S1_ c153) hZ (hw _ (List.mem_of_getElem? (i := 12) rfl)) (hw _ (List.mem_of_getElem? (i := 2) rfl)) (by decide) (by decide)) q156a q156c (g := (mkF m 92 #[iv p0, iv p1, iv p2, iv (1 : Int32), rv w_DEPENDENCIES, iv nn, iv (nn - (1 : Int32)), iv vv, .unset, .unset, .unset, .unset, .unset, .unset] [(.int nn), (.int vv), (.ref w_DEPENDENCIES)])) rfl (by rw [hml]; rfl) (Steps.refl _) (argsL := [(.int vv), (.int nn)]) (rest := []) (lenOf pd_2 rfl) rfl (by show 2 * 0 + _ ≤ _; exact Nat.le_of_eq rfl) (hb hby at_92) (fun _ _ => ⟨rfl, e139, (by decide : 0 + 0 ≤ _), (by decide : 0 + 0 ≤ _)⟩)
      dsimp only [Pt.U, Pt.locs, Pt.cells, Pt.slots] at X156 l156 y156 z156 st156 hQ156
      subst l156 y156 z156
      obtain ⟨rfl, M156, e156⟩ := hQ156
      have N156 := Fr.app N139 M156
      have g160 : Go p e below T156 (mkF m 95 #[iv p0, iv p1, iv p2, iv (1 : Int32), rv w_DEPENDENCIES, iv nn, iv (nn - (1 : Int32)), iv vv, .unset, .unset, .unset, .unset, .unset, .unset] [(.double (0 : UInt64))]) A0 := fun t kont => g155 t (st156.trans kont)
      have g162 : Go p e below T156 (mkF m 140 #[iv p0, iv p1, iv p2, iv (1 : Int32), rv w_DEPENDENCIES, iv nn, iv (nn - (1 : Int32)), iv vv, .val (.double (0 : UInt64)), .second, .val (.double (0 : UInt64)), .second, iv (1 : Int32), .unset] [(.int (nn - (1 : Int32))), (.int vv)]) A0 := by
        intro t kont
        refine g160 t ?_
        refine XS.dstore X156.here hx rfl (hb hby at_95) rfl (l' := #[iv p0, iv p1, iv p2, iv (1 : Int32), rv w_DEPENDENCIES, iv nn, iv (nn - (1 : Int32)), iv vv, .val (.double (0 : UInt64)), .second, .unset, .unset, .unset, .unset]) rfl ?_
        show Steps p.tables e below (T156.setTop (mkF m 97 #[iv p0, iv p1, iv p2, iv (1 : Int32), rv w_DEPENDENCIES, iv nn, iv (nn - (1 : Int32)), iv vv, .val (.double (0 : UInt64)), .second, .unset, .unset, .unset, .unset] [])) _
        refine XS.iload X156.here hx rfl (hb hby at_97) rfl ?_
        show Steps p.tables e below (T156.setTop (mkF m 99 #[iv p0, iv p1, iv p2, iv (1 : Int32), rv w_DEPENDENCIES, iv nn, iv (nn - (1 : Int32)), iv vv, .val (.double (0 : UInt64)), .second, .unset, .unset, .unset, .unset] [(.int (nn - (1 : Int32)))])) _
        refine XS.ifNo X156.here hx rfl (hb hby at_99) rfl ((if0 _ _).trans (teq c153).2) ?_
        show Steps p.tables e below (T156.setTop (mkF m 102 #[iv p0, iv p1, iv p2, iv (1 : Int32), rv w_DEPENDENCIES, iv nn, iv (nn - (1 : Int32)), iv vv, .val (.double (0 : UInt64)), .second, .unset, .unset, .unset, .unset] [])) _
        refine XS.dconst0 X156.here hx rfl (hb hby at_102) (v := (0 : UInt64)) (by decide) ?_
        show Steps p.tables e below (T156.setTop (mkF m 103 #[iv p0, iv p1, iv p2, iv (1 : Int32), rv w_DEPENDENCIES, iv nn, iv (nn - (1 : Int32)), iv vv, .val (.double (0 : UInt64)), .second, .unset, .unset, .unset, .unset] [(.double (0 : UInt64))])) _
        refine XS.goto X156.here hx rfl (pc0 := 103) (pc' := 113) rfl (hb hby at_103) (by decide) (by decide) ?_
        show Steps p.tables e below (T156.setTop (mkF m 113 #[iv p0, iv p1, iv p2, iv (1 : Int32), rv w_DEPENDENCIES, iv nn, iv (nn - (1 : Int32)), iv vv, .val (.double (0 : UInt64)), .second, .unset, .unset, .unset, .unset] [(.double (0 : UInt64))])) _
        refine XS.dstore X156.here hx rfl (hb hby at_113) rfl (l' := #[iv p0, iv p1, iv p2, iv (1 : Int32), rv w_DEPENDENCIES, iv nn, iv (nn - (1 : Int32)), iv vv, .val (.double (0 : UInt64)), .second, .val (.double (0 : UInt64)), .second, .unset, .unset]) rfl ?_
        show Steps p.tables e below (T156.setTop (mkF m 115 #[iv p0, iv p1, iv p2, iv (1 : Int32), rv w_DEPENDENCIES, iv nn, iv (nn - (1 : Int32)), iv vv, .val (.double (0 : UInt64)), .second, .val (.double (0 : UInt64)), .second, .unset, .unset] [])) _
        refine XS.dconst0 X156.here hx rfl (hb hby at_115) (v := (0 : UInt64)) (by decide) ?_
        show Steps p.tables e below (T156.setTop (mkF m 116 #[iv p0, iv p1, iv p2, iv (1 : Int32), rv w_DEPENDENCIES, iv nn, iv (nn - (1 : Int32)), iv vv, .val (.double (0 : UInt64)), .second, .val (.double (0 : UInt64)), .second, .unset, .unset] [(.double (0 : UInt64))])) _
        refine XS.dload X156.here hx rfl (hb hby at_116) rfl ?_
        show Steps p.tables e below (T156.setTop (mkF m 118 #[iv p0, iv p1, iv p2, iv (1 : Int32), rv w_DEPENDENCIES, iv nn, iv (nn - (1 : Int32)), iv vv, .val (.double (0 : UInt64)), .second, .val (.double (0 : UInt64)), .second, .unset, .unset] [(.double (0 : UInt64)), (.double (0 : UInt64))])) _
        refine XS.dcmpS X156.here hx rfl (hb hby at_118) rfl (v := (0 : Int32)) (by decide +kernel) ?_
        show Steps p.tables e below (T156.setTop (mkF m 119 #[iv p0, iv p1, iv p2, iv (1 : Int32), rv w_DEPENDENCIES, iv nn, iv (nn - (1 : Int32)), iv vv, .val (.double (0 : UInt64)), .second, .val (.double (0 : UInt64)), .second, .unset, .unset] [(.int (0 : Int32))])) _
        refine XS.ifNo X156.here hx rfl (hb hby at_119) rfl ((if0 _ _).trans (flt (by decide : ¬ ((0 : Int32) < (0 : Int32)))).2.2.1) ?_
        show Steps p.tables e below (T156.setTop (mkF m 122 #[iv p0, iv p1, iv p2, iv (1 : Int32), rv w_DEPENDENCIES, iv nn, iv (nn - (1 : Int32)), iv vv, .val (.double (0 : UInt64)), .second, .val (.double (0 : UInt64)), .second, .unset, .unset] [])) _
        refine XS.dload X156.here hx rfl (hb hby at_122) rfl ?_
        show Steps p.tables e below (T156.setTop (mkF m 124 #[iv p0, iv p1, iv p2, iv (1 : Int32), rv w_DEPENDENCIES, iv nn, iv (nn - (1 : Int32)), iv vv, .val (.double (0 : UInt64)), .second, .val (.double (0 : UInt64)), .second, .unset, .unset] [(.double (0 : UInt64))])) _
        refine XS.dconst1 X156.here hx rfl (hb hby at_124) (v := (4607182418800017408 : UInt64)) (by decide) ?_
        show Steps p.tables e below (T156.setTop (mkF m 125 #[iv p0, iv p1, iv p2, iv (1 : Int32), rv w_DEPENDENCIES, iv nn, iv (nn - (1 : Int32)), iv vv, .val (.double (0 : UInt64)), .second, .val (.double (0 : UInt64)), .second, .unset, .unset] [(.double (4607182418800017408 : UInt64)), (.double (0 : UInt64))])) _
        refine XS.dcmpS X156.here hx rfl (hb hby at_125) rfl (v := (-1 : Int32)) (by decide +kernel) ?_
        show Steps p.tables e below (T156.setTop (mkF m 126 #[iv p0, iv p1, iv p2, iv (1 : Int32), rv w_DEPENDENCIES, iv nn, iv (nn - (1 : Int32)), iv vv, .val (.double (0 : UInt64)), .second, .val (.double (0 : UInt64)), .second, .unset, .unset] [(.int (-1 : Int32))])) _
        refine XS.ifNo X156.here hx rfl (hb hby at_126) rfl ((if0 _ _).trans (flt (by decide : ¬ ((0 : Int32) < (-1 : Int32)))).2.2.1) ?_
        show Steps p.tables e below (T156.setTop (mkF m 129 #[iv p0, iv p1, iv p2, iv (1 : Int32), rv w_DEPENDENCIES, iv nn, iv (nn - (1 : Int32)), iv vv, .val (.double (0 : UInt64)), .second, .val (.double (0 : UInt64)), .second, .unset, .unset] [])) _
        refine XS.iconst X156.here hx rfl (hb hby at_129) ?_
        show Steps p.tables e below (T156.setTop (mkF m 130 #[iv p0, iv p1, iv p2, iv (1 : Int32), rv w_DEPENDENCIES, iv nn, iv (nn - (1 : Int32)), iv vv, .val (.double (0 : UInt64)), .second, .val (.double (0 : UInt64)), .second, .unset, .unset] [(.int (1 : Int32))])) _
        refine XS.goto X156.here hx rfl (pc0 := 130) (pc' := 134) rfl (hb hby at_130) (by decide) (by decide) ?_
        show Steps p.tables e below (T156.setTop (mkF m 134 #[iv p0, iv p1, iv p2, iv (1 : Int32), rv w_DEPENDENCIES, iv nn, iv (nn - (1 : Int32)), iv vv, .val (.double (0 : UInt64)), .second, .val (.double (0 : UInt64)), .second, .unset, .unset] [(.int (1 : Int32))])) _
        refine XS.istore X156.here hx rfl (hb hby at_134) rfl (l' := #[iv p0, iv p1, iv p2, iv (1 : Int32), rv w_DEPENDENCIES, iv nn, iv (nn - (1 : Int32)), iv vv, .val (.double (0 : UInt64)), .second, .val (.double (0 : UInt64)), .second, iv (1 : Int32), .unset]) rfl ?_
        show Steps p.tables e below (T156.setTop (mkF m 136 #[iv p0, iv p1, iv p2, iv (1 : Int32), rv w_DEPENDENCIES, iv nn, iv (nn - (1 : Int32)), iv vv, .val (.double (0 : UInt64)), .second, .val (.double (0 : UInt64)), .second, iv (1 : Int32), .unset] [])) _
        refine XS.iload X156.here hx rfl (hb hby at_136) rfl ?_
        show Steps p.tables e below (T156.setTop (mkF m 138 #[iv p0, iv p1, iv p2, iv (1 : Int32), rv w_DEPENDENCIES, iv nn, iv (nn - (1 : Int32)), iv vv, .val (.double (0 : UInt64)), .second, .val (.double (0 : UInt64)), .second, iv (1 : Int32), .unset] [(.int vv)])) _
        refine XS.iload X156.here hx rfl (hb hby at_138) rfl ?_
        show Steps p.tables e below (T156.setTop (mkF m 140 #[iv p0, iv p1, iv p2, iv (1 : Int32), rv w_DEPENDENCIES, iv nn, iv (nn - (1 : Int32)), iv vv, .val (.double (0 : UInt64)), .second, .val (.double (0 : UInt64)), .second, iv (1 : Int32), .unset] [(.int (nn - (1 : Int32))), (.int vv)])) _
        exact kont
      by_cases c161 : vv = (nn - (1 : Int32))
      ·
        have g163 : Go p e below T156 (mkF m 185 #[iv p0, iv p1, iv p2, iv (1 : Int32), rv w_DEPENDENCIES, iv nn, iv (nn - (1 : Int32)), iv vv, .val (.double (0 : UInt64)), .second, .val (.double (0 : UInt64)), .second, iv (1 : Int32), iv (1 : Int32)] [(.int (1 : Int32))]) A0 := by
          intro t kont
          refine g162 t ?_
          refine XS.icmpNo X156.here hx rfl (hb hby at_140) rfl (teq c161).2 ?_
          show Steps p.tables e below (T156.setTop (mkF m 143 #[iv p0, iv p1, iv p2, iv (1 : Int32), rv w_DEPENDENCIES, iv nn, iv (nn - (1 : Int32)), iv vv, .val (.double (0 : UInt64)), .second, .val (.double (0 : UInt64)), .second, iv (1 : Int32), .unset] [])) _
          refine XS.iload X156.here hx rfl (hb hby at_143) rfl ?_
          show Steps p.tables e below (T156.setTop (mkF m 145 #[iv p0, iv p1, iv p2, iv (1 : Int32), rv w_DEPENDENCIES, iv nn, iv (nn - (1 : Int32)), iv vv, .val (.double (0 : UInt64)), .second, .val (.double (0 : UInt64)), .second, iv (1 : Int32), .unset] [(.int (nn - (1 : Int32)))])) _
          refine XS.ifYes X156.here hx rfl (pc0 := 145) (pc' := 155) rfl (hb hby at_145) rfl ((if0 _ _).trans (teq c153).1) (by decide) (by decide) ?_
          show Steps p.tables e below (T156.setTop (mkF m 155 #[iv p0, iv p1, iv p2, iv (1 : Int32), rv w_DEPENDENCIES, iv nn, iv (nn - (1 : Int32)), iv vv, .val (.double (0 : UInt64)), .second, .val (.double (0 : UInt64)), .second, iv (1 : Int32), .unset] [])) _
          refine XS.iconst X156.here hx rfl (hb hby at_155) ?_
          show Steps p.tables e below (T156.setTop (mkF m 156 #[iv p0, iv p1, iv p2, iv (1 : Int32), rv w_DEPENDENCIES, iv nn, iv (nn - (1 : Int32)), iv vv, .val (.double (0 : UInt64)), .second, .val (.double (0 : UInt64)), .second, iv (1 : Int32), .unset] [(.int (1 : Int32))])) _
          refine XS.goto X156.here hx rfl (pc0 := 156) (pc' := 160) rfl (hb hby at_156) (by decide) (by decide) ?_
          show Steps p.tables e below (T156.setTop (mkF m 160 #[iv p0, iv p1, iv p2, iv (1 : Int32), rv w_DEPENDENCIES, iv nn, iv (nn - (1 : Int32)), iv vv, .val (.double (0 : UInt64)), .second, .val (.double (0 : UInt64)), .second, iv (1 : Int32), .unset] [(.int (1 : Int32))])) _
          refine XS.istore X156.here hx rfl (hb hby at_160) rfl (l' := #[iv p0, iv p1, iv p2, iv (1 : Int32), rv w_DEPENDENCIES, iv nn, iv (nn - (1 : Int32)), iv vv, .val (.double (0 : UInt64)), .second, .val (.double (0 : UInt64)), .second, iv (1 : Int32), iv (1 : Int32)]) rfl ?_
          show Steps p.tables e below (T156.setTop (mkF m 162 #[iv p0, iv p1, iv p2, iv (1 : Int32), rv w_DEPENDENCIES, iv nn, iv (nn - (1 : Int32)), iv vv, .val (.double (0 : UInt64)), .second, .val (.double (0 : UInt64)), .second, iv (1 : Int32), iv (1 : Int32)] [])) _
          refine XS.dload X156.here hx rfl (hb hby at_162) rfl ?_
          show Steps p.tables e below (T156.setTop (mkF m 164 #[iv p0, iv p1, iv p2, iv (1 : Int32), rv w_DEPENDENCIES, iv nn, iv (nn - (1 : Int32)), iv vv, .val (.double (0 : UInt64)), .second, .val (.double (0 : UInt64)), .second, iv (1 : Int32), iv (1 : Int32)] [(.double (0 : UInt64))])) _
          refine XS.dload X156.here hx rfl (hb hby at_164) rfl ?_
          show Steps p.tables e below (T156.setTop (mkF m 166 #[iv p0, iv p1, iv p2, iv (1 : Int32), rv w_DEPENDENCIES, iv nn, iv (nn - (1 : Int32)), iv vv, .val (.double (0 : UInt64)), .second, .val (.double (0 : UInt64)), .second, iv (1 : Int32), iv (1 : Int32)] [(.double (0 : UInt64)), (.double (0 : UInt64))])) _
          refine XS.dcmpS X156.here hx rfl (hb hby at_166) rfl (v := (0 : Int32)) (by decide +kernel) ?_
          show Steps p.tables e below (T156.setTop (mkF m 167 #[iv p0, iv p1, iv p2, iv (1 : Int32), rv w_DEPENDENCIES, iv nn, iv (nn - (1 : Int32)), iv vv, .val (.double (0 : UInt64)), .second, .val (.double (0 : UInt64)), .second, iv (1 : Int32), iv (1 : Int32)] [(.int (0 : Int32))])) _
          refine XS.ifNo X156.here hx rfl (hb hby at_167) rfl ((if0 _ _).trans (teq (by decide : (0 : Int32) = (0 : Int32))).2) ?_
          show Steps p.tables e below (T156.setTop (mkF m 170 #[iv p0, iv p1, iv p2, iv (1 : Int32), rv w_DEPENDENCIES, iv nn, iv (nn - (1 : Int32)), iv vv, .val (.double (0 : UInt64)), .second, .val (.double (0 : UInt64)), .second, iv (1 : Int32), iv (1 : Int32)] [])) _
          refine XS.iload X156.here hx rfl (hb hby at_170) rfl ?_
          show Steps p.tables e below (T156.setTop (mkF m 172 #[iv p0, iv p1, iv p2, iv (1 : Int32), rv w_DEPENDENCIES, iv nn, iv (nn - (1 : Int32)), iv vv, .val (.double (0 : UInt64)), .second, .val (.double (0 : UInt64)), .second, iv (1 : Int32), iv (1 : Int32)] [(.int (1 : Int32))])) _
          refine XS.ifNo X156.here hx rfl (hb hby at_172) rfl ((if0 _ _).trans (feq (by decide : ¬ ((1 : Int32) = (0 : Int32)))).1) ?_
          show Steps p.tables e below (T156.setTop (mkF m 175 #[iv p0, iv p1, iv p2, iv (1 : Int32), rv w_DEPENDENCIES, iv nn, iv (nn - (1 : Int32)), iv vv, .val (.double (0 : UInt64)), .second, .val (.double (0 : UInt64)), .second, iv (1 : Int32), iv (1 : Int32)] [])) _
          refine XS.iload X156.here hx rfl (hb hby at_175) rfl ?_
          show Steps p.tables e below (T156.setTop (mkF m 177 #[iv p0, iv p1, iv p2, iv (1 : Int32), rv w_DEPENDENCIES, iv nn, iv (nn - (1 : Int32)), iv vv, .val (.double (0 : UInt64)), .second, .val (.double (0 : UInt64)), .second, iv (1 : Int32), iv (1 : Int32)] [(.int (1 : Int32))])) _
          refine XS.ifNo X156.here hx rfl (hb hby at_177) rfl ((if0 _ _).trans (feq (by decide : ¬ ((1 : Int32) = (0 : Int32)))).1) ?_
          show Steps p.tables e below (T156.setTop (mkF m 180 #[iv p0, iv p1, iv p2, iv (1 : Int32), rv w_DEPENDENCIES, iv nn, iv (nn - (1 : Int32)), iv vv, .val (.double (0 : UInt64)), .second, .val (.double (0 : UInt64)), .second, iv (1 : Int32), iv (1 : Int32)] [])) _
          refine XS.iconst X156.here hx rfl (hb hby at_180) ?_
          show Steps p.tables e below (T156.setTop (mkF m 181 #[iv p0, iv p1, iv p2, iv (1 : Int32), rv w_DEPENDENCIES, iv nn, iv (nn - (1 : Int32)), iv vv, .val (.double (0 : UInt64)), .second, .val (.double (0 : UInt64)), .second, iv (1 : Int32), iv (1 : Int32)] [(.int (1 : Int32))])) _
          refine XS.goto X156.here hx rfl (pc0 := 181) (pc' := 185) rfl (hb hby at_181) (by decide) (by decide) ?_
          show Steps p.tables e below (T156.setTop (mkF m 185 #[iv p0, iv p1, iv p2, iv (1 : Int32), rv w_DEPENDENCIES, iv nn, iv (nn - (1 : Int32)), iv vv, .val (.double (0 : UInt64)), .second, .val (.double (0 : UInt64)), .second, iv (1 : Int32), iv (1 : Int32)] [(.int (1 : Int32))])) _
          exact kont
        obtain ⟨fs, hr, hrun, hended, hW, hsame⟩ := X156.leave (v := some (.int (1 : Int32))) (fun h => by rw [Bd.returns] at h; cases h)
        refine ⟨_, _, g163 _ (retN X156 hx (t := .boolean) Bd.returns (by simp) (hb hby at_185) hr), hrun, hended, _, _, rfl, ?_, ⟨_, rfl⟩, hW, hsame.mono (by decide) (by decide)⟩
        show Q_law Z p0 p1 p2 w_COMPLEXITY w_DEPENDENCIES w_IMPORTANCE h0 n0 _ T156.heap _
        rw [e156]
        exact ⟨rfl, N156⟩
      have g164 : Go p e below T156 (mkF m 185 #[iv p0, iv p1, iv p2, iv (1 : Int32), rv w_DEPENDENCIES, iv nn, iv (nn - (1 : Int32)), iv vv, .val (.double (0 : UInt64)), .second, .val (.double (0 : UInt64)), .second, iv (1 : Int32), iv (1 : Int32)] [(.int (1 : Int32))]) A0 := by
        intro t kont
        refine g162 t ?_
        refine XS.icmpYes X156.here hx rfl (pc0 := 140) (pc' := 155) rfl (hb hby at_140) rfl (feq c161).2 (by decide) (by decide) ?_
        show Steps p.tables e below (T156.setTop (mkF m 155 #[iv p0, iv p1, iv p2, iv (1 : Int32), rv w_DEPENDENCIES, iv nn, iv (nn - (1 : Int32)), iv vv, .val (.double (0 : UInt64)), .second, .val (.double (0 : UInt64)), .second, iv (1 : Int32), .unset] [])) _
        refine XS.iconst X156.here hx rfl (hb hby at_155) ?_
        show Steps p.tables e below (T156.setTop (mkF m 156 #[iv p0, iv p1, iv p2, iv (1 : Int32), rv w_DEPENDENCIES, iv nn, iv (nn - (1 : Int32)), iv vv, .val (.double (0 : UInt64)), .second, .val (.double (0 : UInt64)), .second, iv (1 : Int32), .unset] [(.int (1 : Int32))])) _
        refine XS.goto X156.here hx rfl (pc0 := 156) (pc' := 160) rfl (hb hby at_156) (by decide) (by decide) ?_
        show Steps p.tables e below (T156.setTop (mkF m 160 #[iv p0, iv p1, iv p2, iv (1 : Int32), rv w_DEPENDENCIES, iv nn, iv (nn - (1 : Int32)), iv vv, .val (.double (0 : UInt64)), .second, .val (.double (0 : UInt64)), .second, iv (1 : Int32), .unset] [(.int (1 : Int32))])) _
        refine XS.istore X156.here hx rfl (hb hby at_160) rfl (l' := #[iv p0, iv p1, iv p2, iv (1 : Int32), rv w_DEPENDENCIES, iv nn, iv (nn - (1 : Int32)), iv vv, .val (.double (0 : UInt64)), .second, .val (.double (0 : UInt64)), .second, iv (1 : Int32), iv (1 : Int32)]) rfl ?_
        show Steps p.tables e below (T156.setTop (mkF m 162 #[iv p0, iv p1, iv p2, iv (1 : Int32), rv w_DEPENDENCIES, iv nn, iv (nn - (1 : Int32)), iv vv, .val (.double (0 : UInt64)), .second, .val (.double (0 : UInt64)), .second, iv (1 : Int32), iv (1 : Int32)] [])) _
        refine XS.dload X156.here hx rfl (hb hby at_162) rfl ?_
        show Steps p.tables e below (T156.setTop (mkF m 164 #[iv p0, iv p1, iv p2, iv (1 : Int32), rv w_DEPENDENCIES, iv nn, iv (nn - (1 : Int32)), iv vv, .val (.double (0 : UInt64)), .second, .val (.double (0 : UInt64)), .second, iv (1 : Int32), iv (1 : Int32)] [(.double (0 : UInt64))])) _
        refine XS.dload X156.here hx rfl (hb hby at_164) rfl ?_
        show Steps p.tables e below (T156.setTop (mkF m 166 #[iv p0, iv p1, iv p2, iv (1 : Int32), rv w_DEPENDENCIES, iv nn, iv (nn - (1 : Int32)), iv vv, .val (.double (0 : UInt64)), .second, .val (.double (0 : UInt64)), .second, iv (1 : Int32), iv (1 : Int32)] [(.double (0 : UInt64)), (.double (0 : UInt64))])) _
        refine XS.dcmpS X156.here hx rfl (hb hby at_166) rfl (v := (0 : Int32)) (by decide +kernel) ?_
        show Steps p.tables e below (T156.setTop (mkF m 167 #[iv p0, iv p1, iv p2, iv (1 : Int32), rv w_DEPENDENCIES, iv nn, iv (nn - (1 : Int32)), iv vv, .val (.double (0 : UInt64)), .second, .val (.double (0 : UInt64)), .second, iv (1 : Int32), iv (1 : Int32)] [(.int (0 : Int32))])) _
        refine XS.ifNo X156.here hx rfl (hb hby at_167) rfl ((if0 _ _).trans (teq (by decide : (0 : Int32) = (0 : Int32))).2) ?_
        show Steps p.tables e below (T156.setTop (mkF m 170 #[iv p0, iv p1, iv p2, iv (1 : Int32), rv w_DEPENDENCIES, iv nn, iv (nn - (1 : Int32)), iv vv, .val (.double (0 : UInt64)), .second, .val (.double (0 : UInt64)), .second, iv (1 : Int32), iv (1 : Int32)] [])) _
        refine XS.iload X156.here hx rfl (hb hby at_170) rfl ?_
        show Steps p.tables e below (T156.setTop (mkF m 172 #[iv p0, iv p1, iv p2, iv (1 : Int32), rv w_DEPENDENCIES, iv nn, iv (nn - (1 : Int32)), iv vv, .val (.double (0 : UInt64)), .second, .val (.double (0 : UInt64)), .second, iv (1 : Int32), iv (1 : Int32)] [(.int (1 : Int32))])) _
        refine XS.ifNo X156.here hx rfl (hb hby at_172) rfl ((if0 _ _).trans (feq (by decide : ¬ ((1 : Int32) = (0 : Int32)))).1) ?_
        show Steps p.tables e below (T156.setTop (mkF m 175 #[iv p0, iv p1, iv p2, iv (1 : Int32), rv w_DEPENDENCIES, iv nn, iv (nn - (1 : Int32)), iv vv, .val (.double (0 : UInt64)), .second, .val (.double (0 : UInt64)), .second, iv (1 : Int32), iv (1 : Int32)] [])) _
        refine XS.iload X156.here hx rfl (hb hby at_175) rfl ?_
        show Steps p.tables e below (T156.setTop (mkF m 177 #[iv p0, iv p1, iv p2, iv (1 : Int32), rv w_DEPENDENCIES, iv nn, iv (nn - (1 : Int32)), iv vv, .val (.double (0 : UInt64)), .second, .val (.double (0 : UInt64)), .second, iv (1 : Int32), iv (1 : Int32)] [(.int (1 : Int32))])) _
        refine XS.ifNo X156.here hx rfl (hb hby at_177) rfl ((if0 _ _).trans (feq (by decide : ¬ ((1 : Int32) = (0 : Int32)))).1) ?_
        show Steps p.tables e below (T156.setTop (mkF m 180 #[iv p0, iv p1, iv p2, iv (1 : Int32), rv w_DEPENDENCIES, iv nn, iv (nn - (1 : Int32)), iv vv, .val (.double (0 : UInt64)), .second, .val (.double (0 : UInt64)), .second, iv (1 : Int32), iv (1 : Int32)] [])) _
        refine XS.iconst X156.here hx rfl (hb hby at_180) ?_
        show Steps p.tables e below (T156.setTop (mkF m 181 #[iv p0, iv p1, iv p2, iv (1 : Int32), rv w_DEPENDENCIES, iv nn, iv (nn - (1 : Int32)), iv vv, .val (.double (0 : UInt64)), .second, .val (.double (0 : UInt64)), .second, iv (1 : Int32), iv (1 : Int32)] [(.int (1 : Int32))])) _
        refine XS.goto X156.here hx rfl (pc0 := 181) (pc' := 185) rfl (hb hby at_181) (by decide) (by decide) ?_
        show Steps p.tables e below (T156.setTop (mkF m 185 #[iv p0, iv p1, iv p2, iv (1 : Int32), rv w_DEPENDENCIES, iv nn, iv (nn - (1 : Int32)), iv vv, .val (.double (0 : UInt64)), .second, .val (.double (0 : UInt64)), .second, iv (1 : Int32), iv (1 : Int32)] [(.int (1 : Int32))])) _
        exact kont
      obtain ⟨fs, hr, hrun, hended, hW, hsame⟩ := X156.leave (v := some (.int (1 : Int32))) (fun h => by rw [Bd.returns] at h; cases h)
      refine ⟨_, _, g164 _ (retN X156 hx (t := .boolean) Bd.returns (by simp) (hb hby at_185) hr), hrun, hended, _, _, rfl, ?_, ⟨_, rfl⟩, hW, hsame.mono (by decide) (by decide)⟩
      show Q_law Z p0 p1 p2 w_COMPLEXITY w_DEPENDENCIES w_IMPORTANCE h0 n0 _ T156.heap _
      rw [e156]
      exact ⟨rfl, N156⟩
    have qm1 : 1 ≤ (nn - (1 : Int32)).toInt := own_m1 j148 c153
    have g165 : Go p e below T139 (mkF m 92 #[iv p0, iv p1, iv p2, iv (1 : Int32), rv w_DEPENDENCIES, iv nn, iv (nn - (1 : Int32)), iv vv, .unset, .unset, .unset, .unset, .unset, .unset] [(.int nn), (.int vv), (.ref w_DEPENDENCIES)]) A0 := by
      intro t kont
      refine g154 t ?_
      refine XS.aload X139.here hx rfl (hb hby at_86) rfl rfl ?_
      show Steps p.tables e below (T139.setTop (mkF m 88 #[iv p0, iv p1, iv p2, iv (1 : Int32), rv w_DEPENDENCIES, iv nn, iv (nn - (1 : Int32)), iv vv, .unset, .unset, .unset, .unset, .unset, .unset] [(.ref w_DEPENDENCIES)])) _
      refine XS.iload X139.here hx rfl (hb hby at_88) rfl ?_
      show Steps p.tables e below (T139.setTop (mkF m 90 #[iv p0, iv p1, iv p2, iv (1 : Int32), rv w_DEPENDENCIES, iv nn, iv (nn - (1 : Int32)), iv vv, .unset, .unset, .unset, .unset, .unset, .unset] [(.int vv), (.ref w_DEPENDENCIES)])) _
      refine XS.iload X139.here hx rfl (hb hby at_90) rfl ?_
      show Steps p.tables e below (T139.setTop (mkF m 92 #[iv p0, iv p1, iv p2, iv (1 : Int32), rv w_DEPENDENCIES, iv nn, iv (nn - (1 : Int32)), iv vv, .unset, .unset, .unset, .unset, .unset, .unset] [(.int nn), (.int vv), (.ref w_DEPENDENCIES)])) _
      exact kont
    have y167 : Exa Z h0 w_DEPENDENCIES "com/example/evenhand/evenhand/Characteristic" := ZE4_.ext O0.2
    have y168 : Exa Z h0 w_DEPENDENCIES "com/example/evenhand/evenhand/Characteristic" := ZE4_.ext O0.2
    have y169 : Exa Z h0 w_DEPENDENCIES "com/example/evenhand/evenhand/Characteristic" := ZE4_.ext O0.2
    obtain ⟨cq166, kq166, q166a, q166b, q166c⟩ := isOf hZ e139 y169
    obtain ⟨_, _, ⟨T166, L166, k166, n166⟩, -, X166, ⟨Lc166, hQ166, l166, y166, z166⟩, st166⟩ := X139.virtualBack hx (y := (⟨"com/example/evenhand/evenhand/Characteristic", "share", "(II)D"⟩ : MethodName)) (z := (⟨"com/example/evenhand/evenhand/Characteristic", "share", "(II)D"⟩ : MethodName)) hown (mvT hZ (hw _ (List.mem_of_getElem? (i := 8) rfl))) (mvT hZ (hw _ (List.mem_of_getElem? (i := 9) rfl))) (notFace_of_selects (args := #[]) (mvT hZ (hw _ (List.mem_of_getElem? (i := 11) rfl)))) (mvT hZ (hw _ (List.mem_of_getElem? (i := 11) rfl))) (mvT hZ (hw _ (List.mem_of_getElem? (i := 10) rfl))) (by decide) (backOf (W := 0) (rm_shD1 l Z a0 hw [] w_DEPENDENCIES vv nn h0 n0 O0 y168 S1_ c153 qv0 qv1 qm1) hZ (hw _ (List.mem_of_getElem? (i := 12) rfl)) (hw _ (List.mem_of_getElem? (i := 2) rfl)) (by decide) (by decide)) q166a q166c (g := (mkF m 92 #[iv p0, iv p1, iv p2, iv (1 : Int32), rv w_DEPENDENCIES, iv nn, iv (nn - (1 : Int32)), iv vv, .unset, .unset, .unset, .unset, .unset, .unset] [(.int nn), (.int vv), (.ref w_DEPENDENCIES)])) rfl (by rw [hml]; rfl) (Steps.refl _) (argsL := [(.int vv), (.int nn)]) (rest := []) (lenOf pd_2 rfl) rfl (by show 2 * 0 + _ ≤ _; exact Nat.le_of_eq rfl) (hb hby at_92) (fun _ _ => ⟨rfl, e139, (by decide : 0 + 0 ≤ _), (by decide : 0 + 0 ≤ _)⟩)
    dsimp only [Pt.U, Pt.locs, Pt.cells, Pt.slots] at X166 l166 y166 z166 st166 hQ166
    subst l166 y166 z166
    obtain ⟨rfl, M166, e166⟩ := hQ166
    have N166 := Fr.app N139 M166
    have g170 : Go p e below T166 (mkF m 95 #[iv p0, iv p1, iv p2, iv (1 : Int32), rv w_DEPENDENCIES, iv nn, iv (nn - (1 : Int32)), iv vv, .unset, .unset, .unset, .unset, .unset, .unset] [(.double (FP.ddiv (FP.i2d vv) (FP.i2d (nn - (1 : Int32)))))]) A0 := fun t kont => g165 t (st166.trans kont)
    have g172 : Go p e below T166 (mkF m 140 #[iv p0, iv p1, iv p2, iv (1 : Int32), rv w_DEPENDENCIES, iv nn, iv (nn - (1 : Int32)), iv vv, .val (.double (FP.ddiv (FP.i2d vv) (FP.i2d (nn - (1 : Int32))))), .second, .val (.double (FP.ddiv (FP.i2d vv) (FP.i2d (nn - (1 : Int32))))), .second, iv (1 : Int32), .unset] [(.int (nn - (1 : Int32))), (.int vv)]) A0 := by
      intro t kont
      refine g170 t ?_
      refine XS.dstore X166.here hx rfl (hb hby at_95) rfl (l' := #[iv p0, iv p1, iv p2, iv (1 : Int32), rv w_DEPENDENCIES, iv nn, iv (nn - (1 : Int32)), iv vv, .val (.double (FP.ddiv (FP.i2d vv) (FP.i2d (nn - (1 : Int32))))), .second, .unset, .unset, .unset, .unset]) rfl ?_
      show Steps p.tables e below (T166.setTop (mkF m 97 #[iv p0, iv p1, iv p2, iv (1 : Int32), rv w_DEPENDENCIES, iv nn, iv (nn - (1 : Int32)), iv vv, .val (.double (FP.ddiv (FP.i2d vv) (FP.i2d (nn - (1 : Int32))))), .second, .unset, .unset, .unset, .unset] [])) _
      refine XS.iload X166.here hx rfl (hb hby at_97) rfl ?_
      show Steps p.tables e below (T166.setTop (mkF m 99 #[iv p0, iv p1, iv p2, iv (1 : Int32), rv w_DEPENDENCIES, iv nn, iv (nn - (1 : Int32)), iv vv, .val (.double (FP.ddiv (FP.i2d vv) (FP.i2d (nn - (1 : Int32))))), .second, .unset, .unset, .unset, .unset] [(.int (nn - (1 : Int32)))])) _
      refine XS.ifYes X166.here hx rfl (pc0 := 99) (pc' := 106) rfl (hb hby at_99) rfl ((if0 _ _).trans (feq c153).2) (by decide) (by decide) ?_
      show Steps p.tables e below (T166.setTop (mkF m 106 #[iv p0, iv p1, iv p2, iv (1 : Int32), rv w_DEPENDENCIES, iv nn, iv (nn - (1 : Int32)), iv vv, .val (.double (FP.ddiv (FP.i2d vv) (FP.i2d (nn - (1 : Int32))))), .second, .unset, .unset, .unset, .unset] [])) _
      refine XS.iload X166.here hx rfl (hb hby at_106) rfl ?_
      show Steps p.tables e below (T166.setTop (mkF m 108 #[iv p0, iv p1, iv p2, iv (1 : Int32), rv w_DEPENDENCIES, iv nn, iv (nn - (1 : Int32)), iv vv, .val (.double (FP.ddiv (FP.i2d vv) (FP.i2d (nn - (1 : Int32))))), .second, .unset, .unset, .unset, .unset] [(.int vv)])) _
      refine XS.i2dS X166.here hx rfl (hb hby at_108) rfl rfl ?_
      show Steps p.tables e below (T166.setTop (mkF m 109 #[iv p0, iv p1, iv p2, iv (1 : Int32), rv w_DEPENDENCIES, iv nn, iv (nn - (1 : Int32)), iv vv, .val (.double (FP.ddiv (FP.i2d vv) (FP.i2d (nn - (1 : Int32))))), .second, .unset, .unset, .unset, .unset] [(.double (FP.i2d vv))])) _
      refine XS.iload X166.here hx rfl (hb hby at_109) rfl ?_
      show Steps p.tables e below (T166.setTop (mkF m 111 #[iv p0, iv p1, iv p2, iv (1 : Int32), rv w_DEPENDENCIES, iv nn, iv (nn - (1 : Int32)), iv vv, .val (.double (FP.ddiv (FP.i2d vv) (FP.i2d (nn - (1 : Int32))))), .second, .unset, .unset, .unset, .unset] [(.int (nn - (1 : Int32))), (.double (FP.i2d vv))])) _
      refine XS.i2dS X166.here hx rfl (hb hby at_111) rfl rfl ?_
      show Steps p.tables e below (T166.setTop (mkF m 112 #[iv p0, iv p1, iv p2, iv (1 : Int32), rv w_DEPENDENCIES, iv nn, iv (nn - (1 : Int32)), iv vv, .val (.double (FP.ddiv (FP.i2d vv) (FP.i2d (nn - (1 : Int32))))), .second, .unset, .unset, .unset, .unset] [(.double (FP.i2d (nn - (1 : Int32)))), (.double (FP.i2d vv))])) _
      refine XS.ddivS X166.here hx rfl (hb hby at_112) rfl (own_nn qv0 qv1 qm1) rfl ?_
      show Steps p.tables e below (T166.setTop (mkF m 113 #[iv p0, iv p1, iv p2, iv (1 : Int32), rv w_DEPENDENCIES, iv nn, iv (nn - (1 : Int32)), iv vv, .val (.double (FP.ddiv (FP.i2d vv) (FP.i2d (nn - (1 : Int32))))), .second, .unset, .unset, .unset, .unset] [(.double (FP.ddiv (FP.i2d vv) (FP.i2d (nn - (1 : Int32)))))])) _
      refine XS.dstore X166.here hx rfl (hb hby at_113) rfl (l' := #[iv p0, iv p1, iv p2, iv (1 : Int32), rv w_DEPENDENCIES, iv nn, iv (nn - (1 : Int32)), iv vv, .val (.double (FP.ddiv (FP.i2d vv) (FP.i2d (nn - (1 : Int32))))), .second, .val (.double (FP.ddiv (FP.i2d vv) (FP.i2d (nn - (1 : Int32))))), .second, .unset, .unset]) rfl ?_
      show Steps p.tables e below (T166.setTop (mkF m 115 #[iv p0, iv p1, iv p2, iv (1 : Int32), rv w_DEPENDENCIES, iv nn, iv (nn - (1 : Int32)), iv vv, .val (.double (FP.ddiv (FP.i2d vv) (FP.i2d (nn - (1 : Int32))))), .second, .val (.double (FP.ddiv (FP.i2d vv) (FP.i2d (nn - (1 : Int32))))), .second, .unset, .unset] [])) _
      refine XS.dconst0 X166.here hx rfl (hb hby at_115) (v := (0 : UInt64)) (by decide) ?_
      show Steps p.tables e below (T166.setTop (mkF m 116 #[iv p0, iv p1, iv p2, iv (1 : Int32), rv w_DEPENDENCIES, iv nn, iv (nn - (1 : Int32)), iv vv, .val (.double (FP.ddiv (FP.i2d vv) (FP.i2d (nn - (1 : Int32))))), .second, .val (.double (FP.ddiv (FP.i2d vv) (FP.i2d (nn - (1 : Int32))))), .second, .unset, .unset] [(.double (0 : UInt64))])) _
      refine XS.dload X166.here hx rfl (hb hby at_116) rfl ?_
      show Steps p.tables e below (T166.setTop (mkF m 118 #[iv p0, iv p1, iv p2, iv (1 : Int32), rv w_DEPENDENCIES, iv nn, iv (nn - (1 : Int32)), iv vv, .val (.double (FP.ddiv (FP.i2d vv) (FP.i2d (nn - (1 : Int32))))), .second, .val (.double (FP.ddiv (FP.i2d vv) (FP.i2d (nn - (1 : Int32))))), .second, .unset, .unset] [(.double (FP.ddiv (FP.i2d vv) (FP.i2d (nn - (1 : Int32))))), (.double (0 : UInt64))])) _
      refine XS.dcmpS X166.here hx rfl (hb hby at_118) rfl (v := (cmpValue (FP.dcmp (0 : UInt64) (FP.ddiv (FP.i2d vv) (FP.i2d (nn - (1 : Int32))))) .g)) (rfl) ?_
      show Steps p.tables e below (T166.setTop (mkF m 119 #[iv p0, iv p1, iv p2, iv (1 : Int32), rv w_DEPENDENCIES, iv nn, iv (nn - (1 : Int32)), iv vv, .val (.double (FP.ddiv (FP.i2d vv) (FP.i2d (nn - (1 : Int32))))), .second, .val (.double (FP.ddiv (FP.i2d vv) (FP.i2d (nn - (1 : Int32))))), .second, .unset, .unset] [(.int (cmpValue (FP.dcmp (0 : UInt64) (FP.ddiv (FP.i2d vv) (FP.i2d (nn - (1 : Int32))))) .g))])) _
      refine XS.ifNo X166.here hx rfl (hb hby at_119) rfl ((if0 _ _).trans (flt (own_lo qv0 qv1 qm1 : ¬ ((0 : Int32) < (cmpValue (FP.dcmp (0 : UInt64) (FP.ddiv (FP.i2d vv) (FP.i2d (nn - (1 : Int32))))) .g)))).2.2.1) ?_
      show Steps p.tables e below (T166.setTop (mkF m 122 #[iv p0, iv p1, iv p2, iv (1 : Int32), rv w_DEPENDENCIES, iv nn, iv (nn - (1 : Int32)), iv vv, .val (.double (FP.ddiv (FP.i2d vv) (FP.i2d (nn - (1 : Int32))))), .second, .val (.double (FP.ddiv (FP.i2d vv) (FP.i2d (nn - (1 : Int32))))), .second, .unset, .unset] [])) _
      refine XS.dload X166.here hx rfl (hb hby at_122) rfl ?_
      show Steps p.tables e below (T166.setTop (mkF m 124 #[iv p0, iv p1, iv p2, iv (1 : Int32), rv w_DEPENDENCIES, iv nn, iv (nn - (1 : Int32)), iv vv, .val (.double (FP.ddiv (FP.i2d vv) (FP.i2d (nn - (1 : Int32))))), .second, .val (.double (FP.ddiv (FP.i2d vv) (FP.i2d (nn - (1 : Int32))))), .second, .unset, .unset] [(.double (FP.ddiv (FP.i2d vv) (FP.i2d (nn - (1 : Int32)))))])) _
      refine XS.dconst1 X166.here hx rfl (hb hby at_124) (v := (4607182418800017408 : UInt64)) (by decide) ?_
      show Steps p.tables e below (T166.setTop (mkF m 125 #[iv p0, iv p1, iv p2, iv (1 : Int32), rv w_DEPENDENCIES, iv nn, iv (nn - (1 : Int32)), iv vv, .val (.double (FP.ddiv (FP.i2d vv) (FP.i2d (nn - (1 : Int32))))), .second, .val (.double (FP.ddiv (FP.i2d vv) (FP.i2d (nn - (1 : Int32))))), .second, .unset, .unset] [(.double (4607182418800017408 : UInt64)), (.double (FP.ddiv (FP.i2d vv) (FP.i2d (nn - (1 : Int32)))))])) _
      refine XS.dcmpS X166.here hx rfl (hb hby at_125) rfl (v := (cmpValue (FP.dcmp (FP.ddiv (FP.i2d vv) (FP.i2d (nn - (1 : Int32)))) (4607182418800017408 : UInt64)) .g)) (rfl) ?_
      show Steps p.tables e below (T166.setTop (mkF m 126 #[iv p0, iv p1, iv p2, iv (1 : Int32), rv w_DEPENDENCIES, iv nn, iv (nn - (1 : Int32)), iv vv, .val (.double (FP.ddiv (FP.i2d vv) (FP.i2d (nn - (1 : Int32))))), .second, .val (.double (FP.ddiv (FP.i2d vv) (FP.i2d (nn - (1 : Int32))))), .second, .unset, .unset] [(.int (cmpValue (FP.dcmp (FP.ddiv (FP.i2d vv) (FP.i2d (nn - (1 : Int32)))) (4607182418800017408 : UInt64)) .g))])) _
      refine XS.ifNo X166.here hx rfl (hb hby at_126) rfl ((if0 _ _).trans (flt (own_hi qv0 qv1 qm1 : ¬ ((0 : Int32) < (cmpValue (FP.dcmp (FP.ddiv (FP.i2d vv) (FP.i2d (nn - (1 : Int32)))) (4607182418800017408 : UInt64)) .g)))).2.2.1) ?_
      show Steps p.tables e below (T166.setTop (mkF m 129 #[iv p0, iv p1, iv p2, iv (1 : Int32), rv w_DEPENDENCIES, iv nn, iv (nn - (1 : Int32)), iv vv, .val (.double (FP.ddiv (FP.i2d vv) (FP.i2d (nn - (1 : Int32))))), .second, .val (.double (FP.ddiv (FP.i2d vv) (FP.i2d (nn - (1 : Int32))))), .second, .unset, .unset] [])) _
      refine XS.iconst X166.here hx rfl (hb hby at_129) ?_
      show Steps p.tables e below (T166.setTop (mkF m 130 #[iv p0, iv p1, iv p2, iv (1 : Int32), rv w_DEPENDENCIES, iv nn, iv (nn - (1 : Int32)), iv vv, .val (.double (FP.ddiv (FP.i2d vv) (FP.i2d (nn - (1 : Int32))))), .second, .val (.double (FP.ddiv (FP.i2d vv) (FP.i2d (nn - (1 : Int32))))), .second, .unset, .unset] [(.int (1 : Int32))])) _
      refine XS.goto X166.here hx rfl (pc0 := 130) (pc' := 134) rfl (hb hby at_130) (by decide) (by decide) ?_
      show Steps p.tables e below (T166.setTop (mkF m 134 #[iv p0, iv p1, iv p2, iv (1 : Int32), rv w_DEPENDENCIES, iv nn, iv (nn - (1 : Int32)), iv vv, .val (.double (FP.ddiv (FP.i2d vv) (FP.i2d (nn - (1 : Int32))))), .second, .val (.double (FP.ddiv (FP.i2d vv) (FP.i2d (nn - (1 : Int32))))), .second, .unset, .unset] [(.int (1 : Int32))])) _
      refine XS.istore X166.here hx rfl (hb hby at_134) rfl (l' := #[iv p0, iv p1, iv p2, iv (1 : Int32), rv w_DEPENDENCIES, iv nn, iv (nn - (1 : Int32)), iv vv, .val (.double (FP.ddiv (FP.i2d vv) (FP.i2d (nn - (1 : Int32))))), .second, .val (.double (FP.ddiv (FP.i2d vv) (FP.i2d (nn - (1 : Int32))))), .second, iv (1 : Int32), .unset]) rfl ?_
      show Steps p.tables e below (T166.setTop (mkF m 136 #[iv p0, iv p1, iv p2, iv (1 : Int32), rv w_DEPENDENCIES, iv nn, iv (nn - (1 : Int32)), iv vv, .val (.double (FP.ddiv (FP.i2d vv) (FP.i2d (nn - (1 : Int32))))), .second, .val (.double (FP.ddiv (FP.i2d vv) (FP.i2d (nn - (1 : Int32))))), .second, iv (1 : Int32), .unset] [])) _
      refine XS.iload X166.here hx rfl (hb hby at_136) rfl ?_
      show Steps p.tables e below (T166.setTop (mkF m 138 #[iv p0, iv p1, iv p2, iv (1 : Int32), rv w_DEPENDENCIES, iv nn, iv (nn - (1 : Int32)), iv vv, .val (.double (FP.ddiv (FP.i2d vv) (FP.i2d (nn - (1 : Int32))))), .second, .val (.double (FP.ddiv (FP.i2d vv) (FP.i2d (nn - (1 : Int32))))), .second, iv (1 : Int32), .unset] [(.int vv)])) _
      refine XS.iload X166.here hx rfl (hb hby at_138) rfl ?_
      show Steps p.tables e below (T166.setTop (mkF m 140 #[iv p0, iv p1, iv p2, iv (1 : Int32), rv w_DEPENDENCIES, iv nn, iv (nn - (1 : Int32)), iv vv, .val (.double (FP.ddiv (FP.i2d vv) (FP.i2d (nn - (1 : Int32))))), .second, .val (.double (FP.ddiv (FP.i2d vv) (FP.i2d (nn - (1 : Int32))))), .second, iv (1 : Int32), .unset] [(.int (nn - (1 : Int32))), (.int vv)])) _
      exact kont
    by_cases c171 : vv = (nn - (1 : Int32))
    ·
      have g173 : Go p e below T166 (mkF m 185 #[iv p0, iv p1, iv p2, iv (1 : Int32), rv w_DEPENDENCIES, iv nn, iv (nn - (1 : Int32)), iv vv, .val (.double (FP.ddiv (FP.i2d vv) (FP.i2d (nn - (1 : Int32))))), .second, .val (.double (FP.ddiv (FP.i2d vv) (FP.i2d (nn - (1 : Int32))))), .second, iv (1 : Int32), iv (1 : Int32)] [(.int (1 : Int32))]) A0 := by
        intro t kont
        refine g172 t ?_
        refine XS.icmpNo X166.here hx rfl (hb hby at_140) rfl (teq c171).2 ?_
        show Steps p.tables e below (T166.setTop (mkF m 143 #[iv p0, iv p1, iv p2, iv (1 : Int32), rv w_DEPENDENCIES, iv nn, iv (nn - (1 : Int32)), iv vv, .val (.double (FP.ddiv (FP.i2d vv) (FP.i2d (nn - (1 : Int32))))), .second, .val (.double (FP.ddiv (FP.i2d vv) (FP.i2d (nn - (1 : Int32))))), .second, iv (1 : Int32), .unset] [])) _
        refine XS.iload X166.here hx rfl (hb hby at_143) rfl ?_
        show Steps p.tables e below (T166.setTop (mkF m 145 #[iv p0, iv p1, iv p2, iv (1 : Int32), rv w_DEPENDENCIES, iv nn, iv (nn - (1 : Int32)), iv vv, .val (.double (FP.ddiv (FP.i2d vv) (FP.i2d (nn - (1 : Int32))))), .second, .val (.double (FP.ddiv (FP.i2d vv) (FP.i2d (nn - (1 : Int32))))), .second, iv (1 : Int32), .unset] [(.int (nn - (1 : Int32)))])) _
        refine XS.ifNo X166.here hx rfl (hb hby at_145) rfl ((if0 _ _).trans (feq c153).1) ?_
        show Steps p.tables e below (T166.setTop (mkF m 148 #[iv p0, iv p1, iv p2, iv (1 : Int32), rv w_DEPENDENCIES, iv nn, iv (nn - (1 : Int32)), iv vv, .val (.double (FP.ddiv (FP.i2d vv) (FP.i2d (nn - (1 : Int32))))), .second, .val (.double (FP.ddiv (FP.i2d vv) (FP.i2d (nn - (1 : Int32))))), .second, iv (1 : Int32), .unset] [])) _
        refine XS.dload X166.here hx rfl (hb hby at_148) rfl ?_
        show Steps p.tables e below (T166.setTop (mkF m 150 #[iv p0, iv p1, iv p2, iv (1 : Int32), rv w_DEPENDENCIES, iv nn, iv (nn - (1 : Int32)), iv vv, .val (.double (FP.ddiv (FP.i2d vv) (FP.i2d (nn - (1 : Int32))))), .second, .val (.double (FP.ddiv (FP.i2d vv) (FP.i2d (nn - (1 : Int32))))), .second, iv (1 : Int32), .unset] [(.double (FP.ddiv (FP.i2d vv) (FP.i2d (nn - (1 : Int32)))))])) _
        refine XS.dconst1 X166.here hx rfl (hb hby at_150) (v := (4607182418800017408 : UInt64)) (by decide) ?_
        show Steps p.tables e below (T166.setTop (mkF m 151 #[iv p0, iv p1, iv p2, iv (1 : Int32), rv w_DEPENDENCIES, iv nn, iv (nn - (1 : Int32)), iv vv, .val (.double (FP.ddiv (FP.i2d vv) (FP.i2d (nn - (1 : Int32))))), .second, .val (.double (FP.ddiv (FP.i2d vv) (FP.i2d (nn - (1 : Int32))))), .second, iv (1 : Int32), .unset] [(.double (4607182418800017408 : UInt64)), (.double (FP.ddiv (FP.i2d vv) (FP.i2d (nn - (1 : Int32)))))])) _
        refine XS.dcmpS X166.here hx rfl (hb hby at_151) rfl (v := (0 : Int32)) (own_topc c171 qm1) ?_
        show Steps p.tables e below (T166.setTop (mkF m 152 #[iv p0, iv p1, iv p2, iv (1 : Int32), rv w_DEPENDENCIES, iv nn, iv (nn - (1 : Int32)), iv vv, .val (.double (FP.ddiv (FP.i2d vv) (FP.i2d (nn - (1 : Int32))))), .second, .val (.double (FP.ddiv (FP.i2d vv) (FP.i2d (nn - (1 : Int32))))), .second, iv (1 : Int32), .unset] [(.int (0 : Int32))])) _
        refine XS.ifNo X166.here hx rfl (hb hby at_152) rfl ((if0 _ _).trans (teq (by decide : (0 : Int32) = (0 : Int32))).2) ?_
        show Steps p.tables e below (T166.setTop (mkF m 155 #[iv p0, iv p1, iv p2, iv (1 : Int32), rv w_DEPENDENCIES, iv nn, iv (nn - (1 : Int32)), iv vv, .val (.double (FP.ddiv (FP.i2d vv) (FP.i2d (nn - (1 : Int32))))), .second, .val (.double (FP.ddiv (FP.i2d vv) (FP.i2d (nn - (1 : Int32))))), .second, iv (1 : Int32), .unset] [])) _
        refine XS.iconst X166.here hx rfl (hb hby at_155) ?_
        show Steps p.tables e below (T166.setTop (mkF m 156 #[iv p0, iv p1, iv p2, iv (1 : Int32), rv w_DEPENDENCIES, iv nn, iv (nn - (1 : Int32)), iv vv, .val (.double (FP.ddiv (FP.i2d vv) (FP.i2d (nn - (1 : Int32))))), .second, .val (.double (FP.ddiv (FP.i2d vv) (FP.i2d (nn - (1 : Int32))))), .second, iv (1 : Int32), .unset] [(.int (1 : Int32))])) _
        refine XS.goto X166.here hx rfl (pc0 := 156) (pc' := 160) rfl (hb hby at_156) (by decide) (by decide) ?_
        show Steps p.tables e below (T166.setTop (mkF m 160 #[iv p0, iv p1, iv p2, iv (1 : Int32), rv w_DEPENDENCIES, iv nn, iv (nn - (1 : Int32)), iv vv, .val (.double (FP.ddiv (FP.i2d vv) (FP.i2d (nn - (1 : Int32))))), .second, .val (.double (FP.ddiv (FP.i2d vv) (FP.i2d (nn - (1 : Int32))))), .second, iv (1 : Int32), .unset] [(.int (1 : Int32))])) _
        refine XS.istore X166.here hx rfl (hb hby at_160) rfl (l' := #[iv p0, iv p1, iv p2, iv (1 : Int32), rv w_DEPENDENCIES, iv nn, iv (nn - (1 : Int32)), iv vv, .val (.double (FP.ddiv (FP.i2d vv) (FP.i2d (nn - (1 : Int32))))), .second, .val (.double (FP.ddiv (FP.i2d vv) (FP.i2d (nn - (1 : Int32))))), .second, iv (1 : Int32), iv (1 : Int32)]) rfl ?_
        show Steps p.tables e below (T166.setTop (mkF m 162 #[iv p0, iv p1, iv p2, iv (1 : Int32), rv w_DEPENDENCIES, iv nn, iv (nn - (1 : Int32)), iv vv, .val (.double (FP.ddiv (FP.i2d vv) (FP.i2d (nn - (1 : Int32))))), .second, .val (.double (FP.ddiv (FP.i2d vv) (FP.i2d (nn - (1 : Int32))))), .second, iv (1 : Int32), iv (1 : Int32)] [])) _
        refine XS.dload X166.here hx rfl (hb hby at_162) rfl ?_
        show Steps p.tables e below (T166.setTop (mkF m 164 #[iv p0, iv p1, iv p2, iv (1 : Int32), rv w_DEPENDENCIES, iv nn, iv (nn - (1 : Int32)), iv vv, .val (.double (FP.ddiv (FP.i2d vv) (FP.i2d (nn - (1 : Int32))))), .second, .val (.double (FP.ddiv (FP.i2d vv) (FP.i2d (nn - (1 : Int32))))), .second, iv (1 : Int32), iv (1 : Int32)] [(.double (FP.ddiv (FP.i2d vv) (FP.i2d (nn - (1 : Int32)))))])) _
        refine XS.dload X166.here hx rfl (hb hby at_164) rfl ?_
        show Steps p.tables e below (T166.setTop (mkF m 166 #[iv p0, iv p1, iv p2, iv (1 : Int32), rv w_DEPENDENCIES, iv nn, iv (nn - (1 : Int32)), iv vv, .val (.double (FP.ddiv (FP.i2d vv) (FP.i2d (nn - (1 : Int32))))), .second, .val (.double (FP.ddiv (FP.i2d vv) (FP.i2d (nn - (1 : Int32))))), .second, iv (1 : Int32), iv (1 : Int32)] [(.double (FP.ddiv (FP.i2d vv) (FP.i2d (nn - (1 : Int32))))), (.double (FP.ddiv (FP.i2d vv) (FP.i2d (nn - (1 : Int32)))))])) _
        refine XS.dcmpS X166.here hx rfl (hb hby at_166) rfl (v := (0 : Int32)) (dcmpV_self (own_nn qv0 qv1 qm1) _) ?_
        show Steps p.tables e below (T166.setTop (mkF m 167 #[iv p0, iv p1, iv p2, iv (1 : Int32), rv w_DEPENDENCIES, iv nn, iv (nn - (1 : Int32)), iv vv, .val (.double (FP.ddiv (FP.i2d vv) (FP.i2d (nn - (1 : Int32))))), .second, .val (.double (FP.ddiv (FP.i2d vv) (FP.i2d (nn - (1 : Int32))))), .second, iv (1 : Int32), iv (1 : Int32)] [(.int (0 : Int32))])) _
        refine XS.ifNo X166.here hx rfl (hb hby at_167) rfl ((if0 _ _).trans (teq (by decide : (0 : Int32) = (0 : Int32))).2) ?_
        show Steps p.tables e below (T166.setTop (mkF m 170 #[iv p0, iv p1, iv p2, iv (1 : Int32), rv w_DEPENDENCIES, iv nn, iv (nn - (1 : Int32)), iv vv, .val (.double (FP.ddiv (FP.i2d vv) (FP.i2d (nn - (1 : Int32))))), .second, .val (.double (FP.ddiv (FP.i2d vv) (FP.i2d (nn - (1 : Int32))))), .second, iv (1 : Int32), iv (1 : Int32)] [])) _
        refine XS.iload X166.here hx rfl (hb hby at_170) rfl ?_
        show Steps p.tables e below (T166.setTop (mkF m 172 #[iv p0, iv p1, iv p2, iv (1 : Int32), rv w_DEPENDENCIES, iv nn, iv (nn - (1 : Int32)), iv vv, .val (.double (FP.ddiv (FP.i2d vv) (FP.i2d (nn - (1 : Int32))))), .second, .val (.double (FP.ddiv (FP.i2d vv) (FP.i2d (nn - (1 : Int32))))), .second, iv (1 : Int32), iv (1 : Int32)] [(.int (1 : Int32))])) _
        refine XS.ifNo X166.here hx rfl (hb hby at_172) rfl ((if0 _ _).trans (feq (by decide : ¬ ((1 : Int32) = (0 : Int32)))).1) ?_
        show Steps p.tables e below (T166.setTop (mkF m 175 #[iv p0, iv p1, iv p2, iv (1 : Int32), rv w_DEPENDENCIES, iv nn, iv (nn - (1 : Int32)), iv vv, .val (.double (FP.ddiv (FP.i2d vv) (FP.i2d (nn - (1 : Int32))))), .second, .val (.double (FP.ddiv (FP.i2d vv) (FP.i2d (nn - (1 : Int32))))), .second, iv (1 : Int32), iv (1 : Int32)] [])) _
        refine XS.iload X166.here hx rfl (hb hby at_175) rfl ?_
        show Steps p.tables e below (T166.setTop (mkF m 177 #[iv p0, iv p1, iv p2, iv (1 : Int32), rv w_DEPENDENCIES, iv nn, iv (nn - (1 : Int32)), iv vv, .val (.double (FP.ddiv (FP.i2d vv) (FP.i2d (nn - (1 : Int32))))), .second, .val (.double (FP.ddiv (FP.i2d vv) (FP.i2d (nn - (1 : Int32))))), .second, iv (1 : Int32), iv (1 : Int32)] [(.int (1 : Int32))])) _
        refine XS.ifNo X166.here hx rfl (hb hby at_177) rfl ((if0 _ _).trans (feq (by decide : ¬ ((1 : Int32) = (0 : Int32)))).1) ?_
        show Steps p.tables e below (T166.setTop (mkF m 180 #[iv p0, iv p1, iv p2, iv (1 : Int32), rv w_DEPENDENCIES, iv nn, iv (nn - (1 : Int32)), iv vv, .val (.double (FP.ddiv (FP.i2d vv) (FP.i2d (nn - (1 : Int32))))), .second, .val (.double (FP.ddiv (FP.i2d vv) (FP.i2d (nn - (1 : Int32))))), .second, iv (1 : Int32), iv (1 : Int32)] [])) _
        refine XS.iconst X166.here hx rfl (hb hby at_180) ?_
        show Steps p.tables e below (T166.setTop (mkF m 181 #[iv p0, iv p1, iv p2, iv (1 : Int32), rv w_DEPENDENCIES, iv nn, iv (nn - (1 : Int32)), iv vv, .val (.double (FP.ddiv (FP.i2d vv) (FP.i2d (nn - (1 : Int32))))), .second, .val (.double (FP.ddiv (FP.i2d vv) (FP.i2d (nn - (1 : Int32))))), .second, iv (1 : Int32), iv (1 : Int32)] [(.int (1 : Int32))])) _
        refine XS.goto X166.here hx rfl (pc0 := 181) (pc' := 185) rfl (hb hby at_181) (by decide) (by decide) ?_
        show Steps p.tables e below (T166.setTop (mkF m 185 #[iv p0, iv p1, iv p2, iv (1 : Int32), rv w_DEPENDENCIES, iv nn, iv (nn - (1 : Int32)), iv vv, .val (.double (FP.ddiv (FP.i2d vv) (FP.i2d (nn - (1 : Int32))))), .second, .val (.double (FP.ddiv (FP.i2d vv) (FP.i2d (nn - (1 : Int32))))), .second, iv (1 : Int32), iv (1 : Int32)] [(.int (1 : Int32))])) _
        exact kont
      obtain ⟨fs, hr, hrun, hended, hW, hsame⟩ := X166.leave (v := some (.int (1 : Int32))) (fun h => by rw [Bd.returns] at h; cases h)
      refine ⟨_, _, g173 _ (retN X166 hx (t := .boolean) Bd.returns (by simp) (hb hby at_185) hr), hrun, hended, _, _, rfl, ?_, ⟨_, rfl⟩, hW, hsame.mono (by decide) (by decide)⟩
      show Q_law Z p0 p1 p2 w_COMPLEXITY w_DEPENDENCIES w_IMPORTANCE h0 n0 _ T166.heap _
      rw [e166]
      exact ⟨rfl, N166⟩
    have g174 : Go p e below T166 (mkF m 185 #[iv p0, iv p1, iv p2, iv (1 : Int32), rv w_DEPENDENCIES, iv nn, iv (nn - (1 : Int32)), iv vv, .val (.double (FP.ddiv (FP.i2d vv) (FP.i2d (nn - (1 : Int32))))), .second, .val (.double (FP.ddiv (FP.i2d vv) (FP.i2d (nn - (1 : Int32))))), .second, iv (1 : Int32), iv (1 : Int32)] [(.int (1 : Int32))]) A0 := by
      intro t kont
      refine g172 t ?_
      refine XS.icmpYes X166.here hx rfl (pc0 := 140) (pc' := 155) rfl (hb hby at_140) rfl (feq c171).2 (by decide) (by decide) ?_
      show Steps p.tables e below (T166.setTop (mkF m 155 #[iv p0, iv p1, iv p2, iv (1 : Int32), rv w_DEPENDENCIES, iv nn, iv (nn - (1 : Int32)), iv vv, .val (.double (FP.ddiv (FP.i2d vv) (FP.i2d (nn - (1 : Int32))))), .second, .val (.double (FP.ddiv (FP.i2d vv) (FP.i2d (nn - (1 : Int32))))), .second, iv (1 : Int32), .unset] [])) _
      refine XS.iconst X166.here hx rfl (hb hby at_155) ?_
      show Steps p.tables e below (T166.setTop (mkF m 156 #[iv p0, iv p1, iv p2, iv (1 : Int32), rv w_DEPENDENCIES, iv nn, iv (nn - (1 : Int32)), iv vv, .val (.double (FP.ddiv (FP.i2d vv) (FP.i2d (nn - (1 : Int32))))), .second, .val (.double (FP.ddiv (FP.i2d vv) (FP.i2d (nn - (1 : Int32))))), .second, iv (1 : Int32), .unset] [(.int (1 : Int32))])) _
      refine XS.goto X166.here hx rfl (pc0 := 156) (pc' := 160) rfl (hb hby at_156) (by decide) (by decide) ?_
      show Steps p.tables e below (T166.setTop (mkF m 160 #[iv p0, iv p1, iv p2, iv (1 : Int32), rv w_DEPENDENCIES, iv nn, iv (nn - (1 : Int32)), iv vv, .val (.double (FP.ddiv (FP.i2d vv) (FP.i2d (nn - (1 : Int32))))), .second, .val (.double (FP.ddiv (FP.i2d vv) (FP.i2d (nn - (1 : Int32))))), .second, iv (1 : Int32), .unset] [(.int (1 : Int32))])) _
      refine XS.istore X166.here hx rfl (hb hby at_160) rfl (l' := #[iv p0, iv p1, iv p2, iv (1 : Int32), rv w_DEPENDENCIES, iv nn, iv (nn - (1 : Int32)), iv vv, .val (.double (FP.ddiv (FP.i2d vv) (FP.i2d (nn - (1 : Int32))))), .second, .val (.double (FP.ddiv (FP.i2d vv) (FP.i2d (nn - (1 : Int32))))), .second, iv (1 : Int32), iv (1 : Int32)]) rfl ?_
      show Steps p.tables e below (T166.setTop (mkF m 162 #[iv p0, iv p1, iv p2, iv (1 : Int32), rv w_DEPENDENCIES, iv nn, iv (nn - (1 : Int32)), iv vv, .val (.double (FP.ddiv (FP.i2d vv) (FP.i2d (nn - (1 : Int32))))), .second, .val (.double (FP.ddiv (FP.i2d vv) (FP.i2d (nn - (1 : Int32))))), .second, iv (1 : Int32), iv (1 : Int32)] [])) _
      refine XS.dload X166.here hx rfl (hb hby at_162) rfl ?_
      show Steps p.tables e below (T166.setTop (mkF m 164 #[iv p0, iv p1, iv p2, iv (1 : Int32), rv w_DEPENDENCIES, iv nn, iv (nn - (1 : Int32)), iv vv, .val (.double (FP.ddiv (FP.i2d vv) (FP.i2d (nn - (1 : Int32))))), .second, .val (.double (FP.ddiv (FP.i2d vv) (FP.i2d (nn - (1 : Int32))))), .second, iv (1 : Int32), iv (1 : Int32)] [(.double (FP.ddiv (FP.i2d vv) (FP.i2d (nn - (1 : Int32)))))])) _
      refine XS.dload X166.here hx rfl (hb hby at_164) rfl ?_
      show Steps p.tables e below (T166.setTop (mkF m 166 #[iv p0, iv p1, iv p2, iv (1 : Int32), rv w_DEPENDENCIES, iv nn, iv (nn - (1 : Int32)), iv vv, .val (.double (FP.ddiv (FP.i2d vv) (FP.i2d (nn - (1 : Int32))))), .second, .val (.double (FP.ddiv (FP.i2d vv) (FP.i2d (nn - (1 : Int32))))), .second, iv (1 : Int32), iv (1 : Int32)] [(.double (FP.ddiv (FP.i2d vv) (FP.i2d (nn - (1 : Int32))))), (.double (FP.ddiv (FP.i2d vv) (FP.i2d (nn - (1 : Int32)))))])) _
      refine XS.dcmpS X166.here hx rfl (hb hby at_166) rfl (v := (0 : Int32)) (dcmpV_self (own_nn qv0 qv1 qm1) _) ?_
      show Steps p.tables e below (T166.setTop (mkF m 167 #[iv p0, iv p1, iv p2, iv (1 : Int32), rv w_DEPENDENCIES, iv nn, iv (nn - (1 : Int32)), iv vv, .val (.double (FP.ddiv (FP.i2d vv) (FP.i2d (nn - (1 : Int32))))), .second, .val (.double (FP.ddiv (FP.i2d vv) (FP.i2d (nn - (1 : Int32))))), .second, iv (1 : Int32), iv (1 : Int32)] [(.int (0 : Int32))])) _
      refine XS.ifNo X166.here hx rfl (hb hby at_167) rfl ((if0 _ _).trans (teq (by decide : (0 : Int32) = (0 : Int32))).2) ?_
      show Steps p.tables e below (T166.setTop (mkF m 170 #[iv p0, iv p1, iv p2, iv (1 : Int32), rv w_DEPENDENCIES, iv nn, iv (nn - (1 : Int32)), iv vv, .val (.double (FP.ddiv (FP.i2d vv) (FP.i2d (nn - (1 : Int32))))), .second, .val (.double (FP.ddiv (FP.i2d vv) (FP.i2d (nn - (1 : Int32))))), .second, iv (1 : Int32), iv (1 : Int32)] [])) _
      refine XS.iload X166.here hx rfl (hb hby at_170) rfl ?_
      show Steps p.tables e below (T166.setTop (mkF m 172 #[iv p0, iv p1, iv p2, iv (1 : Int32), rv w_DEPENDENCIES, iv nn, iv (nn - (1 : Int32)), iv vv, .val (.double (FP.ddiv (FP.i2d vv) (FP.i2d (nn - (1 : Int32))))), .second, .val (.double (FP.ddiv (FP.i2d vv) (FP.i2d (nn - (1 : Int32))))), .second, iv (1 : Int32), iv (1 : Int32)] [(.int (1 : Int32))])) _
      refine XS.ifNo X166.here hx rfl (hb hby at_172) rfl ((if0 _ _).trans (feq (by decide : ¬ ((1 : Int32) = (0 : Int32)))).1) ?_
      show Steps p.tables e below (T166.setTop (mkF m 175 #[iv p0, iv p1, iv p2, iv (1 : Int32), rv w_DEPENDENCIES, iv nn, iv (nn - (1 : Int32)), iv vv, .val (.double (FP.ddiv (FP.i2d vv) (FP.i2d (nn - (1 : Int32))))), .second, .val (.double (FP.ddiv (FP.i2d vv) (FP.i2d (nn - (1 : Int32))))), .second, iv (1 : Int32), iv (1 : Int32)] [])) _
      refine XS.iload X166.here hx rfl (hb hby at_175) rfl ?_
      show Steps p.tables e below (T166.setTop (mkF m 177 #[iv p0, iv p1, iv p2, iv (1 : Int32), rv w_DEPENDENCIES, iv nn, iv (nn - (1 : Int32)), iv vv, .val (.double (FP.ddiv (FP.i2d vv) (FP.i2d (nn - (1 : Int32))))), .second, .val (.double (FP.ddiv (FP.i2d vv) (FP.i2d (nn - (1 : Int32))))), .second, iv (1 : Int32), iv (1 : Int32)] [(.int (1 : Int32))])) _
      refine XS.ifNo X166.here hx rfl (hb hby at_177) rfl ((if0 _ _).trans (feq (by decide : ¬ ((1 : Int32) = (0 : Int32)))).1) ?_
      show Steps p.tables e below (T166.setTop (mkF m 180 #[iv p0, iv p1, iv p2, iv (1 : Int32), rv w_DEPENDENCIES, iv nn, iv (nn - (1 : Int32)), iv vv, .val (.double (FP.ddiv (FP.i2d vv) (FP.i2d (nn - (1 : Int32))))), .second, .val (.double (FP.ddiv (FP.i2d vv) (FP.i2d (nn - (1 : Int32))))), .second, iv (1 : Int32), iv (1 : Int32)] [])) _
      refine XS.iconst X166.here hx rfl (hb hby at_180) ?_
      show Steps p.tables e below (T166.setTop (mkF m 181 #[iv p0, iv p1, iv p2, iv (1 : Int32), rv w_DEPENDENCIES, iv nn, iv (nn - (1 : Int32)), iv vv, .val (.double (FP.ddiv (FP.i2d vv) (FP.i2d (nn - (1 : Int32))))), .second, .val (.double (FP.ddiv (FP.i2d vv) (FP.i2d (nn - (1 : Int32))))), .second, iv (1 : Int32), iv (1 : Int32)] [(.int (1 : Int32))])) _
      refine XS.goto X166.here hx rfl (pc0 := 181) (pc' := 185) rfl (hb hby at_181) (by decide) (by decide) ?_
      show Steps p.tables e below (T166.setTop (mkF m 185 #[iv p0, iv p1, iv p2, iv (1 : Int32), rv w_DEPENDENCIES, iv nn, iv (nn - (1 : Int32)), iv vv, .val (.double (FP.ddiv (FP.i2d vv) (FP.i2d (nn - (1 : Int32))))), .second, .val (.double (FP.ddiv (FP.i2d vv) (FP.i2d (nn - (1 : Int32))))), .second, iv (1 : Int32), iv (1 : Int32)] [(.int (1 : Int32))])) _
      exact kont
    obtain ⟨fs, hr, hrun, hended, hW, hsame⟩ := X166.leave (v := some (.int (1 : Int32))) (fun h => by rw [Bd.returns] at h; cases h)
    refine ⟨_, _, g174 _ (retN X166 hx (t := .boolean) Bd.returns (by simp) (hb hby at_185) hr), hrun, hended, _, _, rfl, ?_, ⟨_, rfl⟩, hW, hsame.mono (by decide) (by decide)⟩
    show Q_law Z p0 p1 p2 w_COMPLEXITY w_DEPENDENCIES w_IMPORTANCE h0 n0 _ T166.heap _
    rw [e166]
    exact ⟨rfl, N166⟩
  have g175 : Go p e below s₁ (mkF m 28 #[iv p0, iv p1, iv p2, iv k, .unset, .unset, .unset, .unset, .unset, .unset, .unset, .unset, .unset, .unset] []) A0 := by
    intro t kont
    refine g133 t ?_
    refine XS.icmpYes X0.here hx rfl (pc0 := 19) (pc' := 28) rfl (hb hby at_19) rfl (feq c132).2 (by decide) (by decide) ?_
    show Steps p.tables e below (s₁.setTop (mkF m 28 #[iv p0, iv p1, iv p2, iv k, .unset, .unset, .unset, .unset, .unset, .unset, .unset, .unset, .unset, .unset] [])) _
    exact kont
  have y176 : Sta Z h0 "com/example/evenhand/evenhand/Characteristic" "IMPORTANCE" "Lcom/example/evenhand/evenhand/Characteristic;" (.ref w_IMPORTANCE) := S2_.ext O0.2
  obtain ⟨T177, X177, e177, st177⟩ := getS2 X0 hx hZ hown (host := "") (Or.inl (hw _ (List.mem_of_getElem? (i := 21) rfl))) Via.refl e0 y176 (g := (mkF m 28 #[iv p0, iv p1, iv p2, iv k, .unset, .unset, .unset, .unset, .unset, .unset, .unset, .unset, .unset, .unset] [])) rfl (hb hby at_28)
  have g178 : Go p e below T177 (mkF m 31 #[iv p0, iv p1, iv p2, iv k, .unset, .unset, .unset, .unset, .unset, .unset, .unset, .unset, .unset, .unset] [(.ref w_IMPORTANCE)]) A0 := fun t kont => g175 t (st177 t kont)
  have g179 : Go p e below T177 (mkF m 33 #[iv p0, iv p1, iv p2, iv k, rv w_IMPORTANCE, .unset, .unset, .unset, .unset, .unset, .unset, .unset, .unset, .unset] []) A0 := by
    intro t kont
    refine g178 t ?_
    refine XS.astore X177.here hx rfl (hb hby at_31) rfl rfl (l' := #[iv p0, iv p1, iv p2, iv k, rv w_IMPORTANCE, .unset, .unset, .unset, .unset, .unset, .unset, .unset, .unset, .unset]) rfl ?_
    show Steps p.tables e below (T177.setTop (mkF m 33 #[iv p0, iv p1, iv p2, iv k, rv w_IMPORTANCE, .unset, .unset, .unset, .unset, .unset, .unset, .unset, .unset, .unset] [])) _
    exact kont
  obtain ⟨nn, T180, lc180, X180, e180, N180, g180, j189⟩ : ∃ nn : Int32, ∃ (T180 : State) (lc180 : List Loc), Stand p l e room_1 s m #[(.int p0), (.int p1), (.int p2)] below meth c T180 lc180 0 0 ∧ T180.heap = h0 ∧ Fr n0 lc180 ∧ Go p e below T180 (mkF m 57 #[iv p0, iv p1, iv p2, iv k, rv w_IMPORTANCE, .unset, .unset, .unset, .unset, .unset, .unset, .unset, .unset, .unset] [(.int nn)]) A0 ∧ (1 ≤ nn.toInt) := by
    have g182 : Go p e below T177 (mkF m 36 #[iv p0, iv p1, iv p2, iv k, rv w_IMPORTANCE, .unset, .unset, .unset, .unset, .unset, .unset, .unset, .unset, .unset] [(.int (p1 &&& (1 : Int32)))]) A0 := by
      intro t kont
      refine g179 t ?_
      refine XS.iloadN X177.here hx rfl (hb hby at_33) rfl ?_
      show Steps p.tables e below (T177.setTop (mkF m 34 #[iv p0, iv p1, iv p2, iv k, rv w_IMPORTANCE, .unset, .unset, .unset, .unset, .unset, .unset, .unset, .unset, .unset] [(.int p1)])) _
      refine XS.iconst X177.here hx rfl (hb hby at_34) ?_
      show Steps p.tables e below (T177.setTop (mkF m 35 #[iv p0, iv p1, iv p2, iv k, rv w_IMPORTANCE, .unset, .unset, .unset, .unset, .unset, .unset, .unset, .unset, .unset] [(.int (1 : Int32)), (.int p1)])) _
      refine XS.iand X177.here hx rfl (hb hby at_35) rfl ?_
      show Steps p.tables e below (T177.setTop (mkF m 36 #[iv p0, iv p1, iv p2, iv k, rv w_IMPORTANCE, .unset, .unset, .unset, .unset, .unset, .unset, .unset, .unset, .unset] [(.int (p1 &&& (1 : Int32)))])) _
      exact kont
    by_cases c181 : (p1 &&& (1 : Int32)) = (0 : Int32)
    ·
      have g183 : Go p e below T177 (mkF m 57 #[iv p0, iv p1, iv p2, iv k, rv w_IMPORTANCE, .unset, .unset, .unset, .unset, .unset, .unset, .unset, .unset, .unset] [(.int ((((p1.toUInt32 >>> ((1 : Int32) &&& 31).toUInt32).toInt32) &&& (7 : Int32)) + (1 : Int32)))]) A0 := by
        intro t kont
        refine g182 t ?_
        refine XS.ifNo X177.here hx rfl (hb hby at_36) rfl ((if0 _ _).trans (teq c181).2) ?_
        show Steps p.tables e below (T177.setTop (mkF m 39 #[iv p0, iv p1, iv p2, iv k, rv w_IMPORTANCE, .unset, .unset, .unset, .unset, .unset, .unset, .unset, .unset, .unset] [])) _
        refine XS.iloadN X177.here hx rfl (hb hby at_39) rfl ?_
        show Steps p.tables e below (T177.setTop (mkF m 40 #[iv p0, iv p1, iv p2, iv k, rv w_IMPORTANCE, .unset, .unset, .unset, .unset, .unset, .unset, .unset, .unset, .unset] [(.int p1)])) _
        refine XS.iconst X177.here hx rfl (hb hby at_40) ?_
        show Steps p.tables e below (T177.setTop (mkF m 41 #[iv p0, iv p1, iv p2, iv k, rv w_IMPORTANCE, .unset, .unset, .unset, .unset, .unset, .unset, .unset, .unset, .unset] [(.int (1 : Int32)), (.int p1)])) _
        refine XS.iushr X177.here hx rfl (hb hby at_41) rfl ?_
        show Steps p.tables e below (T177.setTop (mkF m 42 #[iv p0, iv p1, iv p2, iv k, rv w_IMPORTANCE, .unset, .unset, .unset, .unset, .unset, .unset, .unset, .unset, .unset] [(.int ((p1.toUInt32 >>> ((1 : Int32) &&& 31).toUInt32).toInt32))])) _
        refine XS.bipush X177.here hx rfl (hb hby at_42) ?_
        show Steps p.tables e below (T177.setTop (mkF m 44 #[iv p0, iv p1, iv p2, iv k, rv w_IMPORTANCE, .unset, .unset, .unset, .unset, .unset, .unset, .unset, .unset, .unset] [(.int (7 : Int32)), (.int ((p1.toUInt32 >>> ((1 : Int32) &&& 31).toUInt32).toInt32))])) _
        refine XS.iand X177.here hx rfl (hb hby at_44) rfl ?_
        show Steps p.tables e below (T177.setTop (mkF m 45 #[iv p0, iv p1, iv p2, iv k, rv w_IMPORTANCE, .unset, .unset, .unset, .unset, .unset, .unset, .unset, .unset, .unset] [(.int (((p1.toUInt32 >>> ((1 : Int32) &&& 31).toUInt32).toInt32) &&& (7 : Int32)))])) _
        refine XS.iconst X177.here hx rfl (hb hby at_45) ?_
        show Steps p.tables e below (T177.setTop (mkF m 46 #[iv p0, iv p1, iv p2, iv k, rv w_IMPORTANCE, .unset, .unset, .unset, .unset, .unset, .unset, .unset, .unset, .unset] [(.int (1 : Int32)), (.int (((p1.toUInt32 >>> ((1 : Int32) &&& 31).toUInt32).toInt32) &&& (7 : Int32)))])) _
        refine XS.iadd X177.here hx rfl (hb hby at_46) rfl ?_
        show Steps p.tables e below (T177.setTop (mkF m 47 #[iv p0, iv p1, iv p2, iv k, rv w_IMPORTANCE, .unset, .unset, .unset, .unset, .unset, .unset, .unset, .unset, .unset] [(.int ((((p1.toUInt32 >>> ((1 : Int32) &&& 31).toUInt32).toInt32) &&& (7 : Int32)) + (1 : Int32)))])) _
        refine XS.goto X177.here hx rfl (pc0 := 47) (pc' := 57) rfl (hb hby at_47) (by decide) (by decide) ?_
        show Steps p.tables e below (T177.setTop (mkF m 57 #[iv p0, iv p1, iv p2, iv k, rv w_IMPORTANCE, .unset, .unset, .unset, .unset, .unset, .unset, .unset, .unset, .unset] [(.int ((((p1.toUInt32 >>> ((1 : Int32) &&& 31).toUInt32).toInt32) &&& (7 : Int32)) + (1 : Int32)))])) _
        exact kont
      exact ⟨((((p1.toUInt32 >>> ((1 : Int32) &&& 31).toUInt32).toInt32) &&& (7 : Int32)) + (1 : Int32)), _, _, X177, e177, N0, g183, (own_n1 p1)⟩
    have g184 : Go p e below T177 (mkF m 54 #[iv p0, iv p1, iv p2, iv k, rv w_IMPORTANCE, .unset, .unset, .unset, .unset, .unset, .unset, .unset, .unset, .unset] [(.int ((p1.toUInt32 >>> ((1 : Int32) &&& 31).toUInt32).toInt32)), (.int (1 : Int32))]) A0 := by
      intro t kont
      refine g182 t ?_
      refine XS.ifYes X177.here hx rfl (pc0 := 36) (pc' := 50) rfl (hb hby at_36) rfl ((if0 _ _).trans (feq c181).2) (by decide) (by decide) ?_
      show Steps p.tables e below (T177.setTop (mkF m 50 #[iv p0, iv p1, iv p2, iv k, rv w_IMPORTANCE, .unset, .unset, .unset, .unset, .unset, .unset, .unset, .unset, .unset] [])) _
      refine XS.iconst X177.here hx rfl (hb hby at_50) ?_
      show Steps p.tables e below (T177.setTop (mkF m 51 #[iv p0, iv p1, iv p2, iv k, rv w_IMPORTANCE, .unset, .unset, .unset, .unset, .unset, .unset, .unset, .unset, .unset] [(.int (1 : Int32))])) _
      refine XS.iloadN X177.here hx rfl (hb hby at_51) rfl ?_
      show Steps p.tables e below (T177.setTop (mkF m 52 #[iv p0, iv p1, iv p2, iv k, rv w_IMPORTANCE, .unset, .unset, .unset, .unset, .unset, .unset, .unset, .unset, .unset] [(.int p1), (.int (1 : Int32))])) _
      refine XS.iconst X177.here hx rfl (hb hby at_52) ?_
      show Steps p.tables e below (T177.setTop (mkF m 53 #[iv p0, iv p1, iv p2, iv k, rv w_IMPORTANCE, .unset, .unset, .unset, .unset, .unset, .unset, .unset, .unset, .unset] [(.int (1 : Int32)), (.int p1), (.int (1 : Int32))])) _
      refine XS.iushr X177.here hx rfl (hb hby at_53) rfl ?_
      show Steps p.tables e below (T177.setTop (mkF m 54 #[iv p0, iv p1, iv p2, iv k, rv w_IMPORTANCE, .unset, .unset, .unset, .unset, .unset, .unset, .unset, .unset, .unset] [(.int ((p1.toUInt32 >>> ((1 : Int32) &&& 31).toUInt32).toInt32)), (.int (1 : Int32))])) _
      exact kont
    obtain ⟨_, _, ⟨T185, L185, k185, n185⟩, -, X185, ⟨Lc185, hQ185, l185, y185, z185⟩, st185⟩ := Jvm.LawKit.callS X177 hx (y := (⟨"java/lang/Math", "max", "(II)I"⟩ : MethodName)) hown (mvT hZ (hw _ (List.mem_of_getElem? (i := 4) rfl))) (mvT hZ (hw _ (List.mem_of_getElem? (i := 5) rfl))) (mvT hZ (hw _ (List.mem_of_getElem? (i := 6) rfl))) (mvT hZ (hw _ (List.mem_of_getElem? (i := 7) rfl))) (by decide) (backOf (W := 0) (rm_mx l Z a0 hw [] ((p1.toUInt32 >>> ((1 : Int32) &&& 31).toUInt32).toInt32) h0 n0 O0 ) hZ (hw _ (List.mem_of_getElem? (i := 7) rfl)) (hw _ (List.mem_of_getElem? (i := 6) rfl)) (by decide) (by decide)) (g := (mkF m 54 #[iv p0, iv p1, iv p2, iv k, rv w_IMPORTANCE, .unset, .unset, .unset, .unset, .unset, .unset, .unset, .unset, .unset] [(.int ((p1.toUInt32 >>> ((1 : Int32) &&& 31).toUInt32).toInt32)), (.int (1 : Int32))])) rfl (by rw [hml]; rfl) (argsL := [(.int (1 : Int32)), (.int ((p1.toUInt32 >>> ((1 : Int32) &&& 31).toUInt32).toInt32))]) (rest := []) (lenOf pd_1 rfl) rfl (by show 2 * 0 + _ ≤ _; exact Nat.le_of_eq rfl) (hb hby at_54) (fun _ _ => ⟨rfl, e177, (by decide : 0 + 0 ≤ _), (by decide : 0 + 0 ≤ _)⟩)
    dsimp only [Pt.U, Pt.locs, Pt.cells, Pt.slots] at X185 l185 y185 z185 st185 hQ185
    subst l185 y185 z185
    obtain ⟨r186, rfl, M185, e185, y187⟩ := hQ185
    have N185 := Fr.app N0 M185
    have g188 : Go p e below T185 (mkF m 57 #[iv p0, iv p1, iv p2, iv k, rv w_IMPORTANCE, .unset, .unset, .unset, .unset, .unset, .unset, .unset, .unset, .unset] [(.int r186)]) A0 := fun t kont => g184 t (st185 t kont)
    exact ⟨r186, _, _, X185, e185, N185, g188, (y187)⟩
  have g190 : Go p e below T180 (mkF m 84 #[iv p0, iv p1, iv p2, iv k, rv w_IMPORTANCE, iv nn, iv (9 : Int32), .unset, .unset, .unset, .unset, .unset, .unset, .unset] [(.int ((p2 &&& (2147483647 : Int32)) % (10 : Int32)))]) A0 := by
    intro t kont
    refine g180 t ?_
    refine XS.istore X180.here hx rfl (hb hby at_57) rfl (l' := #[iv p0, iv p1, iv p2, iv k, rv w_IMPORTANCE, iv nn, .unset, .unset, .unset, .unset, .unset, .unset, .unset, .unset]) rfl ?_
    show Steps p.tables e below (T180.setTop (mkF m 59 #[iv p0, iv p1, iv p2, iv k, rv w_IMPORTANCE, iv nn, .unset, .unset, .unset, .unset, .unset, .unset, .unset, .unset] [])) _
    refine XS.iloadN X180.here hx rfl (hb hby at_59) rfl ?_
    show Steps p.tables e below (T180.setTop (mkF m 60 #[iv p0, iv p1, iv p2, iv k, rv w_IMPORTANCE, iv nn, .unset, .unset, .unset, .unset, .unset, .unset, .unset, .unset] [(.int k)])) _
    refine XS.iconst X180.here hx rfl (hb hby at_60) ?_
    show Steps p.tables e below (T180.setTop (mkF m 61 #[iv p0, iv p1, iv p2, iv k, rv w_IMPORTANCE, iv nn, .unset, .unset, .unset, .unset, .unset, .unset, .unset, .unset] [(.int (1 : Int32)), (.int k)])) _
    refine XS.icmpYes X180.here hx rfl (pc0 := 61) (pc' := 71) rfl (hb hby at_61) rfl (feq c132).2 (by decide) (by decide) ?_
    show Steps p.tables e below (T180.setTop (mkF m 71 #[iv p0, iv p1, iv p2, iv k, rv w_IMPORTANCE, iv nn, .unset, .unset, .unset, .unset, .unset, .unset, .unset, .unset] [])) _
    refine XS.bipush X180.here hx rfl (hb hby at_71) ?_
    show Steps p.tables e below (T180.setTop (mkF m 73 #[iv p0, iv p1, iv p2, iv k, rv w_IMPORTANCE, iv nn, .unset, .unset, .unset, .unset, .unset, .unset, .unset, .unset] [(.int (9 : Int32))])) _
    refine XS.istore X180.here hx rfl (hb hby at_73) rfl (l' := #[iv p0, iv p1, iv p2, iv k, rv w_IMPORTANCE, iv nn, iv (9 : Int32), .unset, .unset, .unset, .unset, .unset, .unset, .unset]) rfl ?_
    show Steps p.tables e below (T180.setTop (mkF m 75 #[iv p0, iv p1, iv p2, iv k, rv w_IMPORTANCE, iv nn, iv (9 : Int32), .unset, .unset, .unset, .unset, .unset, .unset, .unset] [])) _
    refine XS.iloadN X180.here hx rfl (hb hby at_75) rfl ?_
    show Steps p.tables e below (T180.setTop (mkF m 76 #[iv p0, iv p1, iv p2, iv k, rv w_IMPORTANCE, iv nn, iv (9 : Int32), .unset, .unset, .unset, .unset, .unset, .unset, .unset] [(.int p2)])) _
    refine X180.ldcInt hx hown (mvT hZ (hw _ (List.mem_of_getElem? (i := 0) rfl))) (g := (mkF m 76 #[iv p0, iv p1, iv p2, iv k, rv w_IMPORTANCE, iv nn, iv (9 : Int32), .unset, .unset, .unset, .unset, .unset, .unset, .unset] [(.int p2)])) rfl (hb hby at_76) _ ?_
    show Steps p.tables e below (T180.setTop (mkF m 78 #[iv p0, iv p1, iv p2, iv k, rv w_IMPORTANCE, iv nn, iv (9 : Int32), .unset, .unset, .unset, .unset, .unset, .unset, .unset] [(.int (2147483647 : Int32)), (.int p2)])) _
    refine XS.iand X180.here hx rfl (hb hby at_78) rfl ?_
    show Steps p.tables e below (T180.setTop (mkF m 79 #[iv p0, iv p1, iv p2, iv k, rv w_IMPORTANCE, iv nn, iv (9 : Int32), .unset, .unset, .unset, .unset, .unset, .unset, .unset] [(.int (p2 &&& (2147483647 : Int32)))])) _
    refine XS.iload X180.here hx rfl (hb hby at_79) rfl ?_
    show Steps p.tables e below (T180.setTop (mkF m 81 #[iv p0, iv p1, iv p2, iv k, rv w_IMPORTANCE, iv nn, iv (9 : Int32), .unset, .unset, .unset, .unset, .unset, .unset, .unset] [(.int (9 : Int32)), (.int (p2 &&& (2147483647 : Int32)))])) _
    refine XS.iconst X180.here hx rfl (hb hby at_81) ?_
    show Steps p.tables e below (T180.setTop (mkF m 82 #[iv p0, iv p1, iv p2, iv k, rv w_IMPORTANCE, iv nn, iv (9 : Int32), .unset, .unset, .unset, .unset, .unset, .unset, .unset] [(.int (1 : Int32)), (.int (9 : Int32)), (.int (p2 &&& (2147483647 : Int32)))])) _
    refine XS.iadd X180.here hx rfl (hb hby at_82) rfl ?_
    show Steps p.tables e below (T180.setTop (mkF m 83 #[iv p0, iv p1, iv p2, iv k, rv w_IMPORTANCE, iv nn, iv (9 : Int32), .unset, .unset, .unset, .unset, .unset, .unset, .unset] [(.int (10 : Int32)), (.int (p2 &&& (2147483647 : Int32)))])) _
    refine iremM X180 hx rfl (hb hby at_83) rfl (by decide) ?_
    show Steps p.tables e below (T180.setTop (mkF m 84 #[iv p0, iv p1, iv p2, iv k, rv w_IMPORTANCE, iv nn, iv (9 : Int32), .unset, .unset, .unset, .unset, .unset, .unset, .unset] [(.int ((p2 &&& (2147483647 : Int32)) % (10 : Int32)))])) _
    exact kont
  obtain ⟨vv, e_vv⟩ : ∃ z, z = ((p2 &&& (2147483647 : Int32)) % (10 : Int32)) := ⟨_, rfl⟩
  have g191 : Go p e below T180 (mkF m 84 #[iv p0, iv p1, iv p2, iv k, rv w_IMPORTANCE, iv nn, iv (9 : Int32), .unset, .unset, .unset, .unset, .unset, .unset, .unset] [(.int vv)]) A0 := by rw [e_vv]; exact g190
  have qv0 : 0 ≤ vv.toInt := own_v0 e_vv (by decide)
  have qv1 : vv.toInt ≤ (9 : Int32).toInt := own_v9 e_vv
  have qm1 : 1 ≤ (9 : Int32).toInt := by decide
  have g192 : Go p e below T180 (mkF m 92 #[iv p0, iv p1, iv p2, iv k, rv w_IMPORTANCE, iv nn, iv (9 : Int32), iv vv, .unset, .unset, .unset, .unset, .unset, .unset] [(.int nn), (.int vv), (.ref w_IMPORTANCE)]) A0 := by
    intro t kont
    refine g191 t ?_
    refine XS.istore X180.here hx rfl (hb hby at_84) rfl (l' := #[iv p0, iv p1, iv p2, iv k, rv w_IMPORTANCE, iv nn, iv (9 : Int32), iv vv, .unset, .unset, .unset, .unset, .unset, .unset]) rfl ?_
    show Steps p.tables e below (T180.setTop (mkF m 86 #[iv p0, iv p1, iv p2, iv k, rv w_IMPORTANCE, iv nn, iv (9 : Int32), iv vv, .unset, .unset, .unset, .unset, .unset, .unset] [])) _
    refine XS.aload X180.here hx rfl (hb hby at_86) rfl rfl ?_
    show Steps p.tables e below (T180.setTop (mkF m 88 #[iv p0, iv p1, iv p2, iv k, rv w_IMPORTANCE, iv nn, iv (9 : Int32), iv vv, .unset, .unset, .unset, .unset, .unset, .unset] [(.ref w_IMPORTANCE)])) _
    refine XS.iload X180.here hx rfl (hb hby at_88) rfl ?_
    show Steps p.tables e below (T180.setTop (mkF m 90 #[iv p0, iv p1, iv p2, iv k, rv w_IMPORTANCE, iv nn, iv (9 : Int32), iv vv, .unset, .unset, .unset, .unset, .unset, .unset] [(.int vv), (.ref w_IMPORTANCE)])) _
    refine XS.iload X180.here hx rfl (hb hby at_90) rfl ?_
    show Steps p.tables e below (T180.setTop (mkF m 92 #[iv p0, iv p1, iv p2, iv k, rv w_IMPORTANCE, iv nn, iv (9 : Int32), iv vv, .unset, .unset, .unset, .unset, .unset, .unset] [(.int nn), (.int vv), (.ref w_IMPORTANCE)])) _
    exact kont
  have y194 : Exa Z h0 w_IMPORTANCE "com/example/evenhand/evenhand/Characteristic" := ZE5_.ext O0.2
  have y195 : Exa Z h0 w_IMPORTANCE "com/example/evenhand/evenhand/Characteristic" := ZE5_.ext O0.2
  have y196 : Exa Z h0 w_IMPORTANCE "com/example/evenhand/evenhand/Characteristic" := ZE5_.ext O0.2
  obtain ⟨cq193, kq193, q193a, q193b, q193c⟩ := isOf hZ e180 y196
  obtain ⟨_, _, ⟨T193, L193, k193, n193⟩, -, X193, ⟨Lc193, hQ193, l193, y193, z193⟩, st193⟩ := X180.virtualBack hx (y := (⟨"com/example/evenhand/evenhand/Characteristic", "share", "(II)D"⟩ : MethodName)) (z := (⟨"com/example/evenhand/evenhand/Characteristic", "share", "(II)D"⟩ : MethodName)) hown (mvT hZ (hw _ (List.mem_of_getElem? (i := 8) rfl))) (mvT hZ (hw _ (List.mem_of_getElem? (i := 9) rfl))) (notFace_of_selects (args := #[]) (mvT hZ (hw _ (List.mem_of_getElem? (i := 11) rfl)))) (mvT hZ (hw _ (List.mem_of_getElem? (i := 11) rfl))) (mvT hZ (hw _ (List.mem_of_getElem? (i := 10) rfl))) (by decide) (backOf (W := 0) (rm_shN l Z a0 hw [] w_IMPORTANCE vv nn w_DEPENDENCIES h0 n0 O0 y195 S1_ NE7_ qv0 qv1 qm1) hZ (hw _ (List.mem_of_getElem? (i := 12) rfl)) (hw _ (List.mem_of_getElem? (i := 2) rfl)) (by decide) (by decide)) q193a q193c (g := (mkF m 92 #[iv p0, iv p1, iv p2, iv k, rv w_IMPORTANCE, iv nn, iv (9 : Int32), iv vv, .unset, .unset, .unset, .unset, .unset, .unset] [(.int nn), (.int vv), (.ref w_IMPORTANCE)])) rfl (by rw [hml]; rfl) (Steps.refl _) (argsL := [(.int vv), (.int nn)]) (rest := []) (lenOf pd_2 rfl) rfl (by show 2 * 0 + _ ≤ _; exact Nat.le_of_eq rfl) (hb hby at_92) (fun _ _ => ⟨rfl, e180, (by decide : 0 + 0 ≤ _), (by decide : 0 + 0 ≤ _)⟩)
  dsimp only [Pt.U, Pt.locs, Pt.cells, Pt.slots] at X193 l193 y193 z193 st193 hQ193
  subst l193 y193 z193
  obtain ⟨rfl, M193, e193⟩ := hQ193
  have N193 := Fr.app N180 M193
  have g197 : Go p e below T193 (mkF m 95 #[iv p0, iv p1, iv p2, iv k, rv w_IMPORTANCE, iv nn, iv (9 : Int32), iv vv, .unset, .unset, .unset, .unset, .unset, .unset] [(.double (FP.ddiv (FP.i2d vv) (FP.i2d (9 : Int32))))]) A0 := fun t kont => g192 t (st193.trans kont)
  have g199 : Go p e below T193 (mkF m 140 #[iv p0, iv p1, iv p2, iv k, rv w_IMPORTANCE, iv nn, iv (9 : Int32), iv vv, .val (.double (FP.ddiv (FP.i2d vv) (FP.i2d (9 : Int32)))), .second, .val (.double (FP.ddiv (FP.i2d vv) (FP.i2d (9 : Int32)))), .second, iv (1 : Int32), .unset] [(.int (9 : Int32)), (.int vv)]) A0 := by
    intro t kont
    refine g197 t ?_
    refine XS.dstore X193.here hx rfl (hb hby at_95) rfl (l' := #[iv p0, iv p1, iv p2, iv k, rv w_IMPORTANCE, iv nn, iv (9 : Int32), iv vv, .val (.double (FP.ddiv (FP.i2d vv) (FP.i2d (9 : Int32)))), .second, .unset, .unset, .unset, .unset]) rfl ?_
    show Steps p.tables e below (T193.setTop (mkF m 97 #[iv p0, iv p1, iv p2, iv k, rv w_IMPORTANCE, iv nn, iv (9 : Int32), iv vv, .val (.double (FP.ddiv (FP.i2d vv) (FP.i2d (9 : Int32)))), .second, .unset, .unset, .unset, .unset] [])) _
    refine XS.iload X193.here hx rfl (hb hby at_97) rfl ?_
    show Steps p.tables e below (T193.setTop (mkF m 99 #[iv p0, iv p1, iv p2, iv k, rv w_IMPORTANCE, iv nn, iv (9 : Int32), iv vv, .val (.double (FP.ddiv (FP.i2d vv) (FP.i2d (9 : Int32)))), .second, .unset, .unset, .unset, .unset] [(.int (9 : Int32))])) _
    refine XS.ifYes X193.here hx rfl (pc0 := 99) (pc' := 106) rfl (hb hby at_99) rfl ((if0 _ _).trans (feq (by decide : ¬ ((9 : Int32) = (0 : Int32)))).2) (by decide) (by decide) ?_
    show Steps p.tables e below (T193.setTop (mkF m 106 #[iv p0, iv p1, iv p2, iv k, rv w_IMPORTANCE, iv nn, iv (9 : Int32), iv vv, .val (.double (FP.ddiv (FP.i2d vv) (FP.i2d (9 : Int32)))), .second, .unset, .unset, .unset, .unset] [])) _
    refine XS.iload X193.here hx rfl (hb hby at_106) rfl ?_
    show Steps p.tables e below (T193.setTop (mkF m 108 #[iv p0, iv p1, iv p2, iv k, rv w_IMPORTANCE, iv nn, iv (9 : Int32), iv vv, .val (.double (FP.ddiv (FP.i2d vv) (FP.i2d (9 : Int32)))), .second, .unset, .unset, .unset, .unset] [(.int vv)])) _
    refine XS.i2dS X193.here hx rfl (hb hby at_108) rfl rfl ?_
    show Steps p.tables e below (T193.setTop (mkF m 109 #[iv p0, iv p1, iv p2, iv k, rv w_IMPORTANCE, iv nn, iv (9 : Int32), iv vv, .val (.double (FP.ddiv (FP.i2d vv) (FP.i2d (9 : Int32)))), .second, .unset, .unset, .unset, .unset] [(.double (FP.i2d vv))])) _
    refine XS.iload X193.here hx rfl (hb hby at_109) rfl ?_
    show Steps p.tables e below (T193.setTop (mkF m 111 #[iv p0, iv p1, iv p2, iv k, rv w_IMPORTANCE, iv nn, iv (9 : Int32), iv vv, .val (.double (FP.ddiv (FP.i2d vv) (FP.i2d (9 : Int32)))), .second, .unset, .unset, .unset, .unset] [(.int (9 : Int32)), (.double (FP.i2d vv))])) _
    refine XS.i2dS X193.here hx rfl (hb hby at_111) rfl rfl ?_
    show Steps p.tables e below (T193.setTop (mkF m 112 #[iv p0, iv p1, iv p2, iv k, rv w_IMPORTANCE, iv nn, iv (9 : Int32), iv vv, .val (.double (FP.ddiv (FP.i2d vv) (FP.i2d (9 : Int32)))), .second, .unset, .unset, .unset, .unset] [(.double (FP.i2d (9 : Int32))), (.double (FP.i2d vv))])) _
    refine XS.ddivS X193.here hx rfl (hb hby at_112) rfl (own_nn qv0 qv1 qm1) rfl ?_
    show Steps p.tables e below (T193.setTop (mkF m 113 #[iv p0, iv p1, iv p2, iv k, rv w_IMPORTANCE, iv nn, iv (9 : Int32), iv vv, .val (.double (FP.ddiv (FP.i2d vv) (FP.i2d (9 : Int32)))), .second, .unset, .unset, .unset, .unset] [(.double (FP.ddiv (FP.i2d vv) (FP.i2d (9 : Int32))))])) _
    refine XS.dstore X193.here hx rfl (hb hby at_113) rfl (l' := #[iv p0, iv p1, iv p2, iv k, rv w_IMPORTANCE, iv nn, iv (9 : Int32), iv vv, .val (.double (FP.ddiv (FP.i2d vv) (FP.i2d (9 : Int32)))), .second, .val (.double (FP.ddiv (FP.i2d vv) (FP.i2d (9 : Int32)))), .second, .unset, .unset]) rfl ?_
    show Steps p.tables e below (T193.setTop (mkF m 115 #[iv p0, iv p1, iv p2, iv k, rv w_IMPORTANCE, iv nn, iv (9 : Int32), iv vv, .val (.double (FP.ddiv (FP.i2d vv) (FP.i2d (9 : Int32)))), .second, .val (.double (FP.ddiv (FP.i2d vv) (FP.i2d (9 : Int32)))), .second, .unset, .unset] [])) _
    refine XS.dconst0 X193.here hx rfl (hb hby at_115) (v := (0 : UInt64)) (by decide) ?_
    show Steps p.tables e below (T193.setTop (mkF m 116 #[iv p0, iv p1, iv p2, iv k, rv w_IMPORTANCE, iv nn, iv (9 : Int32), iv vv, .val (.double (FP.ddiv (FP.i2d vv) (FP.i2d (9 : Int32)))), .second, .val (.double (FP.ddiv (FP.i2d vv) (FP.i2d (9 : Int32)))), .second, .unset, .unset] [(.double (0 : UInt64))])) _
    refine XS.dload X193.here hx rfl (hb hby at_116) rfl ?_
    show Steps p.tables e below (T193.setTop (mkF m 118 #[iv p0, iv p1, iv p2, iv k, rv w_IMPORTANCE, iv nn, iv (9 : Int32), iv vv, .val (.double (FP.ddiv (FP.i2d vv) (FP.i2d (9 : Int32)))), .second, .val (.double (FP.ddiv (FP.i2d vv) (FP.i2d (9 : Int32)))), .second, .unset, .unset] [(.double (FP.ddiv (FP.i2d vv) (FP.i2d (9 : Int32)))), (.double (0 : UInt64))])) _
    refine XS.dcmpS X193.here hx rfl (hb hby at_118) rfl (v := (cmpValue (FP.dcmp (0 : UInt64) (FP.ddiv (FP.i2d vv) (FP.i2d (9 : Int32)))) .g)) (rfl) ?_
    show Steps p.tables e below (T193.setTop (mkF m 119 #[iv p0, iv p1, iv p2, iv k, rv w_IMPORTANCE, iv nn, iv (9 : Int32), iv vv, .val (.double (FP.ddiv (FP.i2d vv) (FP.i2d (9 : Int32)))), .second, .val (.double (FP.ddiv (FP.i2d vv) (FP.i2d (9 : Int32)))), .second, .unset, .unset] [(.int (cmpValue (FP.dcmp (0 : UInt64) (FP.ddiv (FP.i2d vv) (FP.i2d (9 : Int32)))) .g))])) _
    refine XS.ifNo X193.here hx rfl (hb hby at_119) rfl ((if0 _ _).trans (flt (own_lo qv0 qv1 qm1 : ¬ ((0 : Int32) < (cmpValue (FP.dcmp (0 : UInt64) (FP.ddiv (FP.i2d vv) (FP.i2d (9 : Int32)))) .g)))).2.2.1) ?_
    show Steps p.tables e below (T193.setTop (mkF m 122 #[iv p0, iv p1, iv p2, iv k, rv w_IMPORTANCE, iv nn, iv (9 : Int32), iv vv, .val (.double (FP.ddiv (FP.i2d vv) (FP.i2d (9 : Int32)))), .second, .val (.double (FP.ddiv (FP.i2d vv) (FP.i2d (9 : Int32)))), .second, .unset, .unset] [])) _
    refine XS.dload X193.here hx rfl (hb hby at_122) rfl ?_
    show Steps p.tables e below (T193.setTop (mkF m 124 #[iv p0, iv p1, iv p2, iv k, rv w_IMPORTANCE, iv nn, iv (9 : Int32), iv vv, .val (.double (FP.ddiv (FP.i2d vv) (FP.i2d (9 : Int32)))), .second, .val (.double (FP.ddiv (FP.i2d vv) (FP.i2d (9 : Int32)))), .second, .unset, .unset] [(.double (FP.ddiv (FP.i2d vv) (FP.i2d (9 : Int32))))])) _
    refine XS.dconst1 X193.here hx rfl (hb hby at_124) (v := (4607182418800017408 : UInt64)) (by decide) ?_
    show Steps p.tables e below (T193.setTop (mkF m 125 #[iv p0, iv p1, iv p2, iv k, rv w_IMPORTANCE, iv nn, iv (9 : Int32), iv vv, .val (.double (FP.ddiv (FP.i2d vv) (FP.i2d (9 : Int32)))), .second, .val (.double (FP.ddiv (FP.i2d vv) (FP.i2d (9 : Int32)))), .second, .unset, .unset] [(.double (4607182418800017408 : UInt64)), (.double (FP.ddiv (FP.i2d vv) (FP.i2d (9 : Int32))))])) _
    refine XS.dcmpS X193.here hx rfl (hb hby at_125) rfl (v := (cmpValue (FP.dcmp (FP.ddiv (FP.i2d vv) (FP.i2d (9 : Int32))) (4607182418800017408 : UInt64)) .g)) (rfl) ?_
    show Steps p.tables e below (T193.setTop (mkF m 126 #[iv p0, iv p1, iv p2, iv k, rv w_IMPORTANCE, iv nn, iv (9 : Int32), iv vv, .val (.double (FP.ddiv (FP.i2d vv) (FP.i2d (9 : Int32)))), .second, .val (.double (FP.ddiv (FP.i2d vv) (FP.i2d (9 : Int32)))), .second, .unset, .unset] [(.int (cmpValue (FP.dcmp (FP.ddiv (FP.i2d vv) (FP.i2d (9 : Int32))) (4607182418800017408 : UInt64)) .g))])) _
    refine XS.ifNo X193.here hx rfl (hb hby at_126) rfl ((if0 _ _).trans (flt (own_hi qv0 qv1 qm1 : ¬ ((0 : Int32) < (cmpValue (FP.dcmp (FP.ddiv (FP.i2d vv) (FP.i2d (9 : Int32))) (4607182418800017408 : UInt64)) .g)))).2.2.1) ?_
    show Steps p.tables e below (T193.setTop (mkF m 129 #[iv p0, iv p1, iv p2, iv k, rv w_IMPORTANCE, iv nn, iv (9 : Int32), iv vv, .val (.double (FP.ddiv (FP.i2d vv) (FP.i2d (9 : Int32)))), .second, .val (.double (FP.ddiv (FP.i2d vv) (FP.i2d (9 : Int32)))), .second, .unset, .unset] [])) _
    refine XS.iconst X193.here hx rfl (hb hby at_129) ?_
    show Steps p.tables e below (T193.setTop (mkF m 130 #[iv p0, iv p1, iv p2, iv k, rv w_IMPORTANCE, iv nn, iv (9 : Int32), iv vv, .val (.double (FP.ddiv (FP.i2d vv) (FP.i2d (9 : Int32)))), .second, .val (.double (FP.ddiv (FP.i2d vv) (FP.i2d (9 : Int32)))), .second, .unset, .unset] [(.int (1 : Int32))])) _
    refine XS.goto X193.here hx rfl (pc0 := 130) (pc' := 134) rfl (hb hby at_130) (by decide) (by decide) ?_
    show Steps p.tables e below (T193.setTop (mkF m 134 #[iv p0, iv p1, iv p2, iv k, rv w_IMPORTANCE, iv nn, iv (9 : Int32), iv vv, .val (.double (FP.ddiv (FP.i2d vv) (FP.i2d (9 : Int32)))), .second, .val (.double (FP.ddiv (FP.i2d vv) (FP.i2d (9 : Int32)))), .second, .unset, .unset] [(.int (1 : Int32))])) _
    refine XS.istore X193.here hx rfl (hb hby at_134) rfl (l' := #[iv p0, iv p1, iv p2, iv k, rv w_IMPORTANCE, iv nn, iv (9 : Int32), iv vv, .val (.double (FP.ddiv (FP.i2d vv) (FP.i2d (9 : Int32)))), .second, .val (.double (FP.ddiv (FP.i2d vv) (FP.i2d (9 : Int32)))), .second, iv (1 : Int32), .unset]) rfl ?_
    show Steps p.tables e below (T193.setTop (mkF m 136 #[iv p0, iv p1, iv p2, iv k, rv w_IMPORTANCE, iv nn, iv (9 : Int32), iv vv, .val (.double (FP.ddiv (FP.i2d vv) (FP.i2d (9 : Int32)))), .second, .val (.double (FP.ddiv (FP.i2d vv) (FP.i2d (9 : Int32)))), .second, iv (1 : Int32), .unset] [])) _
    refine XS.iload X193.here hx rfl (hb hby at_136) rfl ?_
    show Steps p.tables e below (T193.setTop (mkF m 138 #[iv p0, iv p1, iv p2, iv k, rv w_IMPORTANCE, iv nn, iv (9 : Int32), iv vv, .val (.double (FP.ddiv (FP.i2d vv) (FP.i2d (9 : Int32)))), .second, .val (.double (FP.ddiv (FP.i2d vv) (FP.i2d (9 : Int32)))), .second, iv (1 : Int32), .unset] [(.int vv)])) _
    refine XS.iload X193.here hx rfl (hb hby at_138) rfl ?_
    show Steps p.tables e below (T193.setTop (mkF m 140 #[iv p0, iv p1, iv p2, iv k, rv w_IMPORTANCE, iv nn, iv (9 : Int32), iv vv, .val (.double (FP.ddiv (FP.i2d vv) (FP.i2d (9 : Int32)))), .second, .val (.double (FP.ddiv (FP.i2d vv) (FP.i2d (9 : Int32)))), .second, iv (1 : Int32), .unset] [(.int (9 : Int32)), (.int vv)])) _
    exact kont
  by_cases c198 : vv = (9 : Int32)
  ·
    have g200 : Go p e below T193 (mkF m 185 #[iv p0, iv p1, iv p2, iv k, rv w_IMPORTANCE, iv nn, iv (9 : Int32), iv vv, .val (.double (FP.ddiv (FP.i2d vv) (FP.i2d (9 : Int32)))), .second, .val (.double (FP.ddiv (FP.i2d vv) (FP.i2d (9 : Int32)))), .second, iv (1 : Int32), iv (1 : Int32)] [(.int (1 : Int32))]) A0 := by
      intro t kont
      refine g199 t ?_
      refine XS.icmpNo X193.here hx rfl (hb hby at_140) rfl (teq c198).2 ?_
      show Steps p.tables e below (T193.setTop (mkF m 143 #[iv p0, iv p1, iv p2, iv k, rv w_IMPORTANCE, iv nn, iv (9 : Int32), iv vv, .val (.double (FP.ddiv (FP.i2d vv) (FP.i2d (9 : Int32)))), .second, .val (.double (FP.ddiv (FP.i2d vv) (FP.i2d (9 : Int32)))), .second, iv (1 : Int32), .unset] [])) _
      refine XS.iload X193.here hx rfl (hb hby at_143) rfl ?_
      show Steps p.tables e below (T193.setTop (mkF m 145 #[iv p0, iv p1, iv p2, iv k, rv w_IMPORTANCE, iv nn, iv (9 : Int32), iv vv, .val (.double (FP.ddiv (FP.i2d vv) (FP.i2d (9 : Int32)))), .second, .val (.double (FP.ddiv (FP.i2d vv) (FP.i2d (9 : Int32)))), .second, iv (1 : Int32), .unset] [(.int (9 : Int32))])) _
      refine XS.ifNo X193.here hx rfl (hb hby at_145) rfl ((if0 _ _).trans (feq (by decide : ¬ ((9 : Int32) = (0 : Int32)))).1) ?_
      show Steps p.tables e below (T193.setTop (mkF m 148 #[iv p0, iv p1, iv p2, iv k, rv w_IMPORTANCE, iv nn, iv (9 : Int32), iv vv, .val (.double (FP.ddiv (FP.i2d vv) (FP.i2d (9 : Int32)))), .second, .val (.double (FP.ddiv (FP.i2d vv) (FP.i2d (9 : Int32)))), .second, iv (1 : Int32), .unset] [])) _
      refine XS.dload X193.here hx rfl (hb hby at_148) rfl ?_
      show Steps p.tables e below (T193.setTop (mkF m 150 #[iv p0, iv p1, iv p2, iv k, rv w_IMPORTANCE, iv nn, iv (9 : Int32), iv vv, .val (.double (FP.ddiv (FP.i2d vv) (FP.i2d (9 : Int32)))), .second, .val (.double (FP.ddiv (FP.i2d vv) (FP.i2d (9 : Int32)))), .second, iv (1 : Int32), .unset] [(.double (FP.ddiv (FP.i2d vv) (FP.i2d (9 : Int32))))])) _
      refine XS.dconst1 X193.here hx rfl (hb hby at_150) (v := (4607182418800017408 : UInt64)) (by decide) ?_
      show Steps p.tables e below (T193.setTop (mkF m 151 #[iv p0, iv p1, iv p2, iv k, rv w_IMPORTANCE, iv nn, iv (9 : Int32), iv vv, .val (.double (FP.ddiv (FP.i2d vv) (FP.i2d (9 : Int32)))), .second, .val (.double (FP.ddiv (FP.i2d vv) (FP.i2d (9 : Int32)))), .second, iv (1 : Int32), .unset] [(.double (4607182418800017408 : UInt64)), (.double (FP.ddiv (FP.i2d vv) (FP.i2d (9 : Int32))))])) _
      refine XS.dcmpS X193.here hx rfl (hb hby at_151) rfl (v := (0 : Int32)) (own_topc c198 qm1) ?_
      show Steps p.tables e below (T193.setTop (mkF m 152 #[iv p0, iv p1, iv p2, iv k, rv w_IMPORTANCE, iv nn, iv (9 : Int32), iv vv, .val (.double (FP.ddiv (FP.i2d vv) (FP.i2d (9 : Int32)))), .second, .val (.double (FP.ddiv (FP.i2d vv) (FP.i2d (9 : Int32)))), .second, iv (1 : Int32), .unset] [(.int (0 : Int32))])) _
      refine XS.ifNo X193.here hx rfl (hb hby at_152) rfl ((if0 _ _).trans (teq (by decide : (0 : Int32) = (0 : Int32))).2) ?_
      show Steps p.tables e below (T193.setTop (mkF m 155 #[iv p0, iv p1, iv p2, iv k, rv w_IMPORTANCE, iv nn, iv (9 : Int32), iv vv, .val (.double (FP.ddiv (FP.i2d vv) (FP.i2d (9 : Int32)))), .second, .val (.double (FP.ddiv (FP.i2d vv) (FP.i2d (9 : Int32)))), .second, iv (1 : Int32), .unset] [])) _
      refine XS.iconst X193.here hx rfl (hb hby at_155) ?_
      show Steps p.tables e below (T193.setTop (mkF m 156 #[iv p0, iv p1, iv p2, iv k, rv w_IMPORTANCE, iv nn, iv (9 : Int32), iv vv, .val (.double (FP.ddiv (FP.i2d vv) (FP.i2d (9 : Int32)))), .second, .val (.double (FP.ddiv (FP.i2d vv) (FP.i2d (9 : Int32)))), .second, iv (1 : Int32), .unset] [(.int (1 : Int32))])) _
      refine XS.goto X193.here hx rfl (pc0 := 156) (pc' := 160) rfl (hb hby at_156) (by decide) (by decide) ?_
      show Steps p.tables e below (T193.setTop (mkF m 160 #[iv p0, iv p1, iv p2, iv k, rv w_IMPORTANCE, iv nn, iv (9 : Int32), iv vv, .val (.double (FP.ddiv (FP.i2d vv) (FP.i2d (9 : Int32)))), .second, .val (.double (FP.ddiv (FP.i2d vv) (FP.i2d (9 : Int32)))), .second, iv (1 : Int32), .unset] [(.int (1 : Int32))])) _
      refine XS.istore X193.here hx rfl (hb hby at_160) rfl (l' := #[iv p0, iv p1, iv p2, iv k, rv w_IMPORTANCE, iv nn, iv (9 : Int32), iv vv, .val (.double (FP.ddiv (FP.i2d vv) (FP.i2d (9 : Int32)))), .second, .val (.double (FP.ddiv (FP.i2d vv) (FP.i2d (9 : Int32)))), .second, iv (1 : Int32), iv (1 : Int32)]) rfl ?_
      show Steps p.tables e below (T193.setTop (mkF m 162 #[iv p0, iv p1, iv p2, iv k, rv w_IMPORTANCE, iv nn, iv (9 : Int32), iv vv, .val (.double (FP.ddiv (FP.i2d vv) (FP.i2d (9 : Int32)))), .second, .val (.double (FP.ddiv (FP.i2d vv) (FP.i2d (9 : Int32)))), .second, iv (1 : Int32), iv (1 : Int32)] [])) _
      refine XS.dload X193.here hx rfl (hb hby at_162) rfl ?_
      show Steps p.tables e below (T193.setTop (mkF m 164 #[iv p0, iv p1, iv p2, iv k, rv w_IMPORTANCE, iv nn, iv (9 : Int32), iv vv, .val (.double (FP.ddiv (FP.i2d vv) (FP.i2d (9 : Int32)))), .second, .val (.double (FP.ddiv (FP.i2d vv) (FP.i2d (9 : Int32)))), .second, iv (1 : Int32), iv (1 : Int32)] [(.double (FP.ddiv (FP.i2d vv) (FP.i2d (9 : Int32))))])) _
      refine XS.dload X193.here hx rfl (hb hby at_164) rfl ?_
      show Steps p.tables e below (T193.setTop (mkF m 166 #[iv p0, iv p1, iv p2, iv k, rv w_IMPORTANCE, iv nn, iv (9 : Int32), iv vv, .val (.double (FP.ddiv (FP.i2d vv) (FP.i2d (9 : Int32)))), .second, .val (.double (FP.ddiv (FP.i2d vv) (FP.i2d (9 : Int32)))), .second, iv (1 : Int32), iv (1 : Int32)] [(.double (FP.ddiv (FP.i2d vv) (FP.i2d (9 : Int32)))), (.double (FP.ddiv (FP.i2d vv) (FP.i2d (9 : Int32))))])) _
      refine XS.dcmpS X193.here hx rfl (hb hby at_166) rfl (v := (0 : Int32)) (dcmpV_self (own_nn qv0 qv1 qm1) _) ?_
      show Steps p.tables e below (T193.setTop (mkF m 167 #[iv p0, iv p1, iv p2, iv k, rv w_IMPORTANCE, iv nn, iv (9 : Int32), iv vv, .val (.double (FP.ddiv (FP.i2d vv) (FP.i2d (9 : Int32)))), .second, .val (.double (FP.ddiv (FP.i2d vv) (FP.i2d (9 : Int32)))), .second, iv (1 : Int32), iv (1 : Int32)] [(.int (0 : Int32))])) _
      refine XS.ifNo X193.here hx rfl (hb hby at_167) rfl ((if0 _ _).trans (teq (by decide : (0 : Int32) = (0 : Int32))).2) ?_
      show Steps p.tables e below (T193.setTop (mkF m 170 #[iv p0, iv p1, iv p2, iv k, rv w_IMPORTANCE, iv nn, iv (9 : Int32), iv vv, .val (.double (FP.ddiv (FP.i2d vv) (FP.i2d (9 : Int32)))), .second, .val (.double (FP.ddiv (FP.i2d vv) (FP.i2d (9 : Int32)))), .second, iv (1 : Int32), iv (1 : Int32)] [])) _
      refine XS.iload X193.here hx rfl (hb hby at_170) rfl ?_
      show Steps p.tables e below (T193.setTop (mkF m 172 #[iv p0, iv p1, iv p2, iv k, rv w_IMPORTANCE, iv nn, iv (9 : Int32), iv vv, .val (.double (FP.ddiv (FP.i2d vv) (FP.i2d (9 : Int32)))), .second, .val (.double (FP.ddiv (FP.i2d vv) (FP.i2d (9 : Int32)))), .second, iv (1 : Int32), iv (1 : Int32)] [(.int (1 : Int32))])) _
      refine XS.ifNo X193.here hx rfl (hb hby at_172) rfl ((if0 _ _).trans (feq (by decide : ¬ ((1 : Int32) = (0 : Int32)))).1) ?_
      show Steps p.tables e below (T193.setTop (mkF m 175 #[iv p0, iv p1, iv p2, iv k, rv w_IMPORTANCE, iv nn, iv (9 : Int32), iv vv, .val (.double (FP.ddiv (FP.i2d vv) (FP.i2d (9 : Int32)))), .second, .val (.double (FP.ddiv (FP.i2d vv) (FP.i2d (9 : Int32)))), .second, iv (1 : Int32), iv (1 : Int32)] [])) _
      refine XS.iload X193.here hx rfl (hb hby at_175) rfl ?_
      show Steps p.tables e below (T193.setTop (mkF m 177 #[iv p0, iv p1, iv p2, iv k, rv w_IMPORTANCE, iv nn, iv (9 : Int32), iv vv, .val (.double (FP.ddiv (FP.i2d vv) (FP.i2d (9 : Int32)))), .second, .val (.double (FP.ddiv (FP.i2d vv) (FP.i2d (9 : Int32)))), .second, iv (1 : Int32), iv (1 : Int32)] [(.int (1 : Int32))])) _
      refine XS.ifNo X193.here hx rfl (hb hby at_177) rfl ((if0 _ _).trans (feq (by decide : ¬ ((1 : Int32) = (0 : Int32)))).1) ?_
      show Steps p.tables e below (T193.setTop (mkF m 180 #[iv p0, iv p1, iv p2, iv k, rv w_IMPORTANCE, iv nn, iv (9 : Int32), iv vv, .val (.double (FP.ddiv (FP.i2d vv) (FP.i2d (9 : Int32)))), .second, .val (.double (FP.ddiv (FP.i2d vv) (FP.i2d (9 : Int32)))), .second, iv (1 : Int32), iv (1 : Int32)] [])) _
      refine XS.iconst X193.here hx rfl (hb hby at_180) ?_
      show Steps p.tables e below (T193.setTop (mkF m 181 #[iv p0, iv p1, iv p2, iv k, rv w_IMPORTANCE, iv nn, iv (9 : Int32), iv vv, .val (.double (FP.ddiv (FP.i2d vv) (FP.i2d (9 : Int32)))), .second, .val (.double (FP.ddiv (FP.i2d vv) (FP.i2d (9 : Int32)))), .second, iv (1 : Int32), iv (1 : Int32)] [(.int (1 : Int32))])) _
      refine XS.goto X193.here hx rfl (pc0 := 181) (pc' := 185) rfl (hb hby at_181) (by decide) (by decide) ?_
      show Steps p.tables e below (T193.setTop (mkF m 185 #[iv p0, iv p1, iv p2, iv k, rv w_IMPORTANCE, iv nn, iv (9 : Int32), iv vv, .val (.double (FP.ddiv (FP.i2d vv) (FP.i2d (9 : Int32)))), .second, .val (.double (FP.ddiv (FP.i2d vv) (FP.i2d (9 : Int32)))), .second, iv (1 : Int32), iv (1 : Int32)] [(.int (1 : Int32))])) _
      exact kont
    obtain ⟨fs, hr, hrun, hended, hW, hsame⟩ := X193.leave (v := some (.int (1 : Int32))) (fun h => by rw [Bd.returns] at h; cases h)
    refine ⟨_, _, g200 _ (retN X193 hx (t := .boolean) Bd.returns (by simp) (hb hby at_185) hr), hrun, hended, _, _, rfl, ?_, ⟨_, rfl⟩, hW, hsame.mono (by decide) (by decide)⟩
    show Q_law Z p0 p1 p2 w_COMPLEXITY w_DEPENDENCIES w_IMPORTANCE h0 n0 _ T193.heap _
    rw [e193]
    exact ⟨rfl, N193⟩
  have g201 : Go p e below T193 (mkF m 185 #[iv p0, iv p1, iv p2, iv k, rv w_IMPORTANCE, iv nn, iv (9 : Int32), iv vv, .val (.double (FP.ddiv (FP.i2d vv) (FP.i2d (9 : Int32)))), .second, .val (.double (FP.ddiv (FP.i2d vv) (FP.i2d (9 : Int32)))), .second, iv (1 : Int32), iv (1 : Int32)] [(.int (1 : Int32))]) A0 := by
    intro t kont
    refine g199 t ?_
    refine XS.icmpYes X193.here hx rfl (pc0 := 140) (pc' := 155) rfl (hb hby at_140) rfl (feq c198).2 (by decide) (by decide) ?_
    show Steps p.tables e below (T193.setTop (mkF m 155 #[iv p0, iv p1, iv p2, iv k, rv w_IMPORTANCE, iv nn, iv (9 : Int32), iv vv, .val (.double (FP.ddiv (FP.i2d vv) (FP.i2d (9 : Int32)))), .second, .val (.double (FP.ddiv (FP.i2d vv) (FP.i2d (9 : Int32)))), .second, iv (1 : Int32), .unset] [])) _
    refine XS.iconst X193.here hx rfl (hb hby at_155) ?_
    show Steps p.tables e below (T193.setTop (mkF m 156 #[iv p0, iv p1, iv p2, iv k, rv w_IMPORTANCE, iv nn, iv (9 : Int32), iv vv, .val (.double (FP.ddiv (FP.i2d vv) (FP.i2d (9 : Int32)))), .second, .val (.double (FP.ddiv (FP.i2d vv) (FP.i2d (9 : Int32)))), .second, iv (1 : Int32), .unset] [(.int (1 : Int32))])) _
    refine XS.goto X193.here hx rfl (pc0 := 156) (pc' := 160) rfl (hb hby at_156) (by decide) (by decide) ?_
    show Steps p.tables e below (T193.setTop (mkF m 160 #[iv p0, iv p1, iv p2, iv k, rv w_IMPORTANCE, iv nn, iv (9 : Int32), iv vv, .val (.double (FP.ddiv (FP.i2d vv) (FP.i2d (9 : Int32)))), .second, .val (.double (FP.ddiv (FP.i2d vv) (FP.i2d (9 : Int32)))), .second, iv (1 : Int32), .unset] [(.int (1 : Int32))])) _
    refine XS.istore X193.here hx rfl (hb hby at_160) rfl (l' := #[iv p0, iv p1, iv p2, iv k, rv w_IMPORTANCE, iv nn, iv (9 : Int32), iv vv, .val (.double (FP.ddiv (FP.i2d vv) (FP.i2d (9 : Int32)))), .second, .val (.double (FP.ddiv (FP.i2d vv) (FP.i2d (9 : Int32)))), .second, iv (1 : Int32), iv (1 : Int32)]) rfl ?_
    show Steps p.tables e below (T193.setTop (mkF m 162 #[iv p0, iv p1, iv p2, iv k, rv w_IMPORTANCE, iv nn, iv (9 : Int32), iv vv, .val (.double (FP.ddiv (FP.i2d vv) (FP.i2d (9 : Int32)))), .second, .val (.double (FP.ddiv (FP.i2d vv) (FP.i2d (9 : Int32)))), .second, iv (1 : Int32), iv (1 : Int32)] [])) _
    refine XS.dload X193.here hx rfl (hb hby at_162) rfl ?_
    show Steps p.tables e below (T193.setTop (mkF m 164 #[iv p0, iv p1, iv p2, iv k, rv w_IMPORTANCE, iv nn, iv (9 : Int32), iv vv, .val (.double (FP.ddiv (FP.i2d vv) (FP.i2d (9 : Int32)))), .second, .val (.double (FP.ddiv (FP.i2d vv) (FP.i2d (9 : Int32)))), .second, iv (1 : Int32), iv (1 : Int32)] [(.double (FP.ddiv (FP.i2d vv) (FP.i2d (9 : Int32))))])) _
    refine XS.dload X193.here hx rfl (hb hby at_164) rfl ?_
    show Steps p.tables e below (T193.setTop (mkF m 166 #[iv p0, iv p1, iv p2, iv k, rv w_IMPORTANCE, iv nn, iv (9 : Int32), iv vv, .val (.double (FP.ddiv (FP.i2d vv) (FP.i2d (9 : Int32)))), .second, .val (.double (FP.ddiv (FP.i2d vv) (FP.i2d (9 : Int32)))), .second, iv (1 : Int32), iv (1 : Int32)] [(.double (FP.ddiv (FP.i2d vv) (FP.i2d (9 : Int32)))), (.double (FP.ddiv (FP.i2d vv) (FP.i2d (9 : Int32))))])) _
    refine XS.dcmpS X193.here hx rfl (hb hby at_166) rfl (v := (0 : Int32)) (dcmpV_self (own_nn qv0 qv1 qm1) _) ?_
    show Steps p.tables e below (T193.setTop (mkF m 167 #[iv p0, iv p1, iv p2, iv k, rv w_IMPORTANCE, iv nn, iv (9 : Int32), iv vv, .val (.double (FP.ddiv (FP.i2d vv) (FP.i2d (9 : Int32)))), .second, .val (.double (FP.ddiv (FP.i2d vv) (FP.i2d (9 : Int32)))), .second, iv (1 : Int32), iv (1 : Int32)] [(.int (0 : Int32))])) _
    refine XS.ifNo X193.here hx rfl (hb hby at_167) rfl ((if0 _ _).trans (teq (by decide : (0 : Int32) = (0 : Int32))).2) ?_
    show Steps p.tables e below (T193.setTop (mkF m 170 #[iv p0, iv p1, iv p2, iv k, rv w_IMPORTANCE, iv nn, iv (9 : Int32), iv vv, .val (.double (FP.ddiv (FP.i2d vv) (FP.i2d (9 : Int32)))), .second, .val (.double (FP.ddiv (FP.i2d vv) (FP.i2d (9 : Int32)))), .second, iv (1 : Int32), iv (1 : Int32)] [])) _
    refine XS.iload X193.here hx rfl (hb hby at_170) rfl ?_
    show Steps p.tables e below (T193.setTop (mkF m 172 #[iv p0, iv p1, iv p2, iv k, rv w_IMPORTANCE, iv nn, iv (9 : Int32), iv vv, .val (.double (FP.ddiv (FP.i2d vv) (FP.i2d (9 : Int32)))), .second, .val (.double (FP.ddiv (FP.i2d vv) (FP.i2d (9 : Int32)))), .second, iv (1 : Int32), iv (1 : Int32)] [(.int (1 : Int32))])) _
    refine XS.ifNo X193.here hx rfl (hb hby at_172) rfl ((if0 _ _).trans (feq (by decide : ¬ ((1 : Int32) = (0 : Int32)))).1) ?_
    show Steps p.tables e below (T193.setTop (mkF m 175 #[iv p0, iv p1, iv p2, iv k, rv w_IMPORTANCE, iv nn, iv (9 : Int32), iv vv, .val (.double (FP.ddiv (FP.i2d vv) (FP.i2d (9 : Int32)))), .second, .val (.double (FP.ddiv (FP.i2d vv) (FP.i2d (9 : Int32)))), .second, iv (1 : Int32), iv (1 : Int32)] [])) _
    refine XS.iload X193.here hx rfl (hb hby at_175) rfl ?_
    show Steps p.tables e below (T193.setTop (mkF m 177 #[iv p0, iv p1, iv p2, iv k, rv w_IMPORTANCE, iv nn, iv (9 : Int32), iv vv, .val (.double (FP.ddiv (FP.i2d vv) (FP.i2d (9 : Int32)))), .second, .val (.double (FP.ddiv (FP.i2d vv) (FP.i2d (9 : Int32)))), .second, iv (1 : Int32), iv (1 : Int32)] [(.int (1 : Int32))])) _
    refine XS.ifNo X193.here hx rfl (hb hby at_177) rfl ((if0 _ _).trans (feq (by decide : ¬ ((1 : Int32) = (0 : Int32)))).1) ?_
    show Steps p.tables e below (T193.setTop (mkF m 180 #[iv p0, iv p1, iv p2, iv k, rv w_IMPORTANCE, iv nn, iv (9 : Int32), iv vv, .val (.double (FP.ddiv (FP.i2d vv) (FP.i2d (9 : Int32)))), .second, .val (.double (FP.ddiv (FP.i2d vv) (FP.i2d (9 : Int32)))), .second, iv (1 : Int32), iv (1 : Int32)] [])) _
    refine XS.iconst X193.here hx rfl (hb hby at_180) ?_
    show Steps p.tables e below (T193.setTop (mkF m 181 #[iv p0, iv p1, iv p2, iv k, rv w_IMPORTANCE, iv nn, iv (9 : Int32), iv vv, .val (.double (FP.ddiv (FP.i2d vv) (FP.i2d (9 : Int32)))), .second, .val (.double (FP.ddiv (FP.i2d vv) (FP.i2d (9 : Int32)))), .second, iv (1 : Int32), iv (1 : Int32)] [(.int (1 : Int32))])) _
    refine XS.goto X193.here hx rfl (pc0 := 181) (pc' := 185) rfl (hb hby at_181) (by decide) (by decide) ?_
    show Steps p.tables e below (T193.setTop (mkF m 185 #[iv p0, iv p1, iv p2, iv k, rv w_IMPORTANCE, iv nn, iv (9 : Int32), iv vv, .val (.double (FP.ddiv (FP.i2d vv) (FP.i2d (9 : Int32)))), .second, .val (.double (FP.ddiv (FP.i2d vv) (FP.i2d (9 : Int32)))), .second, iv (1 : Int32), iv (1 : Int32)] [(.int (1 : Int32))])) _
    exact kont
  obtain ⟨fs, hr, hrun, hended, hW, hsame⟩ := X193.leave (v := some (.int (1 : Int32))) (fun h => by rw [Bd.returns] at h; cases h)
  refine ⟨_, _, g201 _ (retN X193 hx (t := .boolean) Bd.returns (by simp) (hb hby at_185) hr), hrun, hended, _, _, rfl, ?_, ⟨_, rfl⟩, hW, hsame.mono (by decide) (by decide)⟩
  show Q_law Z p0 p1 p2 w_COMPLEXITY w_DEPENDENCIES w_IMPORTANCE h0 n0 _ T193.heap _
  rw [e193]
  exact ⟨rfl, N193⟩
set_option maxRecDepth 65536 in
set_option maxHeartbeats 40000000 in
theorem comes_1 {Post : Tables → Env → Array Value → State → Outcome → State → Prop} (hpost : ∀ tb e args s v u, (limb_1_1.after args s (.returned v) u = true ∧ limb_1_2.after args s (.returned v) u = true ∧ True) → FrameEnd s (.returned v) u (Jvm.fieldLocs frame_1_writes args s ++ Jvm.arrayLocs frame_1_arrays args s ++ Jvm.staticLocs frame_1_statics s) 0 0 → Post tb e args s (.returned v) u) :
    ArmFor flags0 classFile x code maxLocals ret World_1 tables_1 room_1 Calls_1 rest_1 Pre_1 Post := by
  intro l hfl _ _ p e ha hc hk s m args below hf hA hF happ hP
  obtain ⟨hcalls, hrest, hpre⟩ := hP
  obtain ⟨-, -, -, hnamed, -, -, -, hat⟩ := (Spec.applies_iff hf).mp happ
  obtain ⟨hg, hn⟩ := and_e (Cond.before_iff.mp (show (Jvm.Cond.and given_1 narrow_1).before args s = true from hpre))
  obtain ⟨hcount, hg⟩ := and_e hg
  obtain ⟨ha0, hg⟩ := and_e hg
  obtain ⟨ha1, hg⟩ := and_e hg
  have ha2 := hg
  obtain ⟨w0, w1, w2, rfl⟩ : ∃ w0 w1 w2 : Value, args = #[w0, w1, w2] := by
    have hs : args.size = 3 := by simpa [Cond.value, given_1] using hcount
    obtain ⟨L⟩ := args
    match L, hs with
    | [w0, w1, w2], _ => exact ⟨w0, w1, w2, rfl⟩
  have hw := fun d (hd : d ∈ tables_1) => atoms_spec (ws := Jvm.Cond.code x code maxLocals ret :: tables_1) hat d (List.mem_cons_of_mem _ hd)
  have hfit : Fit s := fun {y c} hc i hi => by
    obtain ⟨ha, rfl⟩ := Array.getElem?_eq_some_iff.mp hc
    have q := List.all_eq_true.mp ((Array.all_eq_true_iff_forall_mem.mp hF) _ (Array.getElem_mem ha)) i (List.mem_range.mpr hi)
    simpa [Array.getElem?_eq_getElem hi] using q
  obtain ⟨p0, ea0⟩ := is_v ha0
  obtain rfl : w0 = (.int p0) := Option.some.inj ea0
  obtain ⟨p1, ea1⟩ := is_v ha1
  obtain rfl : w1 = (.int p1) := Option.some.inj ea1
  obtain ⟨p2, ea2⟩ := is_v ha2
  obtain rfl : w2 = (.int p2) := Option.some.inj ea2
  obtain ⟨hn0, hn⟩ := and_e hn
  obtain ⟨hn1, hn⟩ := and_e hn
  obtain ⟨hn2, hn⟩ := and_e hn
  obtain ⟨hn3, hn⟩ := and_e hn
  obtain ⟨hn4, hn⟩ := and_e hn
  have hn5 := hn
  obtain ⟨w_COMPLEXITY, ev_COMPLEXITY⟩ := exa_v hn0
  have S_COMPLEXITY : Sta s s.heap "com/example/evenhand/evenhand/Characteristic" "COMPLEXITY" "Lcom/example/evenhand/evenhand/Characteristic;" (.ref w_COMPLEXITY) := Sta.start ev_COMPLEXITY (Or.inr ⟨(hw _ (List.mem_of_getElem? (i := 2) rfl)), (hw _ (List.mem_of_getElem? (i := 3) rfl))⟩)
  have E_COMPLEXITY : Exa s s.heap w_COMPLEXITY "com/example/evenhand/evenhand/Characteristic" := Exa.start ev_COMPLEXITY hn0
  obtain ⟨w_DEPENDENCIES, ev_DEPENDENCIES⟩ := exa_v hn1
  have S_DEPENDENCIES : Sta s s.heap "com/example/evenhand/evenhand/Characteristic" "DEPENDENCIES" "Lcom/example/evenhand/evenhand/Characteristic;" (.ref w_DEPENDENCIES) := Sta.start ev_DEPENDENCIES (Or.inr ⟨(hw _ (List.mem_of_getElem? (i := 2) rfl)), (hw _ (List.mem_of_getElem? (i := 19) rfl))⟩)
  have E_DEPENDENCIES : Exa s s.heap w_DEPENDENCIES "com/example/evenhand/evenhand/Characteristic" := Exa.start ev_DEPENDENCIES hn1
  obtain ⟨w_IMPORTANCE, ev_IMPORTANCE⟩ := exa_v hn4
  have S_IMPORTANCE : Sta s s.heap "com/example/evenhand/evenhand/Characteristic" "IMPORTANCE" "Lcom/example/evenhand/evenhand/Characteristic;" (.ref w_IMPORTANCE) := Sta.start ev_IMPORTANCE (Or.inr ⟨(hw _ (List.mem_of_getElem? (i := 2) rfl)), (hw _ (List.mem_of_getElem? (i := 22) rfl))⟩)
  have E_IMPORTANCE : Exa s s.heap w_IMPORTANCE "com/example/evenhand/evenhand/Characteristic" := Exa.start ev_IMPORTANCE hn4
  have F_COMPLEXITY := own_fld_int hn2 ev_COMPLEXITY
  have F_DEPENDENCIES := own_fld_int hn3 ev_DEPENDENCIES
  have F_IMPORTANCE := own_fld_int hn5 ev_IMPORTANCE
  have ne1 : ¬ (w_COMPLEXITY = w_DEPENDENCIES) := Fld.ne F_COMPLEXITY F_DEPENDENCIES (by decide)
  have ne2 : ¬ (w_IMPORTANCE = w_DEPENDENCIES) := Fld.ne F_IMPORTANCE F_DEPENDENCIES (by decide)
  obtain ⟨n, o, h1, h2, h3, _, L, rfl, ⟨rfl, N⟩, hq⟩ := rm_law l s _ hw tables_1 p0 p1 p2 w_COMPLEXITY w_DEPENDENCIES w_IMPORTANCE s.heap s.heap.size (Old.start s) S_COMPLEXITY S_DEPENDENCIES S_IMPORTANCE E_COMPLEXITY E_DEPENDENCIES E_IMPORTANCE ne1 ne2 p e ha hc hk s m _ below hf ((Spec.applies_iff_loose hf).mp happ).1 ⟨rfl, State.Warmed39.refl s, rfl⟩ trivial
  refine ⟨n, _, h1, h2, h3, hpost _ _ _ _ _ _ ⟨Cond.after_iff.mpr rfl, Cond.after_iff.mpr (eq_i res_at (Term.int_eval (1)) rfl), trivial⟩ ⟨hq.1, hq.2.1, (hq.2.2.sift fun y hy => Or.inr (N y hy)).mono (by decide) (by decide)⟩⟩
theorem main_1_1 : Claimed_1_1 := comes_1 fun _ _ _ _ _ _ h hF => ⟨h.1, hF⟩
theorem main_1_2 : Claimed_1_2 := comes_1 fun _ _ _ _ _ _ h hF => ⟨h.2.1, hF⟩
end Jvm.Pilot.@@N@@
namespace Jvm.Pilot.@@N@@
open Jvm Jvm.ClassFile Sem Op Lib Jvm.Free Jvm.Stand Jvm.Pilot.@@N@@.Jvm.D
/-! MADE BY PROGRAM (witnessworld.py) out of the Statement's table words and the real class files: 13 classes; the members and pool entries that the words name. The judged class is class 1, her method 1. -/
namespace start1
open Jvm.ClassFile
def u (s : String) : CpInfo := .utf8 (stringToUtf16 s)
/-- a pool by its gaps: so many unusable entries, then the entry; so many at the end -/
def gap : Nat → List CpInfo → List CpInfo
  | 0, r => r
  | n + 1, r => .unusable :: gap n r
def poolList (es : List (Nat × CpInfo)) (last : Nat) : List CpInfo := es.foldr (fun e r => gap e.1 (e.2 :: r)) (gap last [])
def pool (es : List (Nat × CpInfo)) (last : Nat) : Array CpInfo := ⟨poolList es last⟩
def fileOf (pool : Array CpInfo) (this : Nat) (attrs : Array Attribute := #[]) (ms : Array MethodInfo := #[]) (fl : Nat := 33) (sup : Nat := 0) (ifs : Array Nat := #[]) (fds : Array FieldInfo := #[]) : ClassFile where
  minorVersion := 0
  majorVersion := 65
  constantPool := pool
  accessFlags := fl
  thisClass := this
  superClass := sup
  interfaces := ifs
  fields := fds
  methods := ms
  attributes := attrs
def plain (name : String) (sup : Option ClassId) : Class where
  name := name
  kind := .ordinary
  loader := none
  accessFlags := 33
  super := sup
  interfaces := #[]
  cf := none
  fields := #[]
  methods := #[]
  instanceTypes := #[]
  staticTypes := #[]
  resolved := #[]
  callSites := []
  init := .initialized
  statics := none
  mirror := none

def pool0 : Array CpInfo := pool [(5, u "<init>"), (0, u "()V"), (1, .class_ 10), (1, u "java/lang/Object")] 113

def k0m0 : Method := { name := "<init>", desc := "()V", sig := { parameters := [], returnType := none }, accessFlags := 1, code := none }
/-- java/lang/Object -/
def k0 : Class := { plain "java/lang/Object" none with
  accessFlags := 33
  interfaces := #[]
  cf := some (fileOf pool0 8 #[] #[{ accessFlags := 1, nameIndex := 5, descriptorIndex := 6, attributes := #[] }] 33 0 #[] #[])
  fields := #[]
  methods := #[k0m0]
  instanceTypes := #[]
  staticTypes := #[]
  resolved := Array.replicate 124 none
  statics := none }

def pool1 : Array CpInfo := pool [(2, .class_ 4), (1, u "java/lang/Object"), (0, u "<init>"), (0, u "()V"), (0, .integer 2147483647), (0, .fieldref 9 10), (0, .class_ 11), (0, .nameAndType 12 13), (0, u "com/example/evenhand/evenhand/Characteristic"), (0, u "COMPLEXITY"), (0, u "Lcom/example/evenhand/evenhand/Characteristic;"), (0, .fieldref 9 15), (0, .nameAndType 16 13), (0, u "DEPENDENCIES"), (0, .fieldref 9 18), (0, .nameAndType 19 13), (0, u "IMPORTANCE"), (0, .methodref 21 22), (0, .class_ 23), (0, .nameAndType 24 25), (0, u "java/lang/Math"), (0, u "max"), (0, u "(II)I"), (0, .methodref 9 27), (0, .nameAndType 28 29), (0, u "share"), (0, u "(II)D"), (0, .class_ 31), (0, u "com/example/evenhand/evenhand/CharacteristicSharePinLaw"), (2, u "law"), (0, u "(III)Z")] 3

def k1m0 : Method := { name := "<init>", desc := "()V", sig := { parameters := [], returnType := none }, accessFlags := 1, code := none }
def k1c1 : Code := { maxStack := 4, maxLocals := 14, code := code, exceptionTable := #[], attributes := #[] }
def k1m1 : Method := { name := "law", desc := "(III)Z", sig := { parameters := [.int, .int, .int], returnType := some .boolean }, accessFlags := 9, code := some k1c1 }
/-- com/example/evenhand/evenhand/CharacteristicSharePinLaw -/
def k1 : Class := { plain "com/example/evenhand/evenhand/CharacteristicSharePinLaw" (some 0) with
  accessFlags := 49
  interfaces := #[]
  cf := some (fileOf pool1 30 #[] #[{ accessFlags := 1, nameIndex := 5, descriptorIndex := 6, attributes := #[] }, { accessFlags := 9, nameIndex := 34, descriptorIndex := 35, attributes := #[] }] 49 2 #[] #[])
  fields := #[]
  methods := #[k1m0, k1m1]
  instanceTypes := #[]
  staticTypes := #[]
  resolved := Array.replicate 39 none
  statics := none }

def pool2 : Array CpInfo := pool [(1, .class_ 2), (0, u "java/lang/constant/Constable"), (0, .class_ 4), (0, u "java/lang/Object")] 6

/-- java/lang/constant/Constable -/
def k2 : Class := { plain "java/lang/constant/Constable" (some 0) with
  accessFlags := 1537
  interfaces := #[]
  cf := some (fileOf pool2 1 #[] #[] 1537 3 #[] #[])
  fields := #[]
  methods := #[]
  instanceTypes := #[]
  staticTypes := #[]
  resolved := Array.replicate 11 none
  statics := none }

def pool3 : Array CpInfo := pool [(1, .class_ 2), (0, u "java/lang/Comparable"), (0, .class_ 4), (0, u "java/lang/Object")] 7

/-- java/lang/Comparable -/
def k3 : Class := { plain "java/lang/Comparable" (some 0) with
  accessFlags := 1537
  interfaces := #[]
  cf := some (fileOf pool3 1 #[] #[] 1537 3 #[] #[])
  fields := #[]
  methods := #[]
  instanceTypes := #[]
  staticTypes := #[]
  resolved := Array.replicate 12 none
  statics := none }

def pool4 : Array CpInfo := pool [(1, .class_ 2), (0, u "java/io/Serializable"), (0, .class_ 4), (0, u "java/lang/Object")] 2

/-- java/io/Serializable -/
def k4 : Class := { plain "java/io/Serializable" (some 0) with
  accessFlags := 1537
  interfaces := #[]
  cf := some (fileOf pool4 1 #[] #[] 1537 3 #[] #[])
  fields := #[]
  methods := #[]
  instanceTypes := #[]
  staticTypes := #[]
  resolved := Array.replicate 7 none
  statics := none }

def pool5 : Array CpInfo := pool [(2, .class_ 4), (1, u "java/lang/Enum"), (0, u "name"), (0, u "Ljava/lang/String;"), (2, u "ordinal"), (0, u "I"), (1, .class_ 14), (1, u "java/lang/Object"), (4, u "hash"), (86, .class_ 108), (1, u "java/lang/Enum$EnumDesc"), (2, .class_ 112), (0, u "java/lang/constant/Constable"), (0, .class_ 114), (0, u "java/lang/Comparable"), (0, .class_ 116), (0, u "java/io/Serializable")] 87

/-- java/lang/Enum -/
def k5 : Class := { plain "java/lang/Enum" (some 0) with
  accessFlags := 1057
  interfaces := #[2, 3, 4]
  cf := some (fileOf pool5 2 #[.nestMembers #[106]] #[] 1057 12 #[111, 113, 115] #[{ accessFlags := 18, nameIndex := 5, descriptorIndex := 6, attributes := #[] }, { accessFlags := 18, nameIndex := 9, descriptorIndex := 10, attributes := #[] }, { accessFlags := 2, nameIndex := 19, descriptorIndex := 10, attributes := #[] }])
  fields := #[{ name := "name", type := (.object "java/lang/String"), accessFlags := 18, slot := 0, constantValue := 0 }, { name := "ordinal", type := .int, accessFlags := 18, slot := 1, constantValue := 0 }, { name := "hash", type := .int, accessFlags := 2, slot := 2, constantValue := 0 }]
  methods := #[]
  instanceTypes := #[(.object "java/lang/String"), .int, .int]
  staticTypes := #[]
  resolved := Array.replicate 204 none
  statics := none }

def pool6 : Array CpInfo := pool [(1, .class_ 2), (0, u "com/example/evenhand/evenhand/Characteristic"), (2, u "COMPLEXITY"), (0, u "Lcom/example/evenhand/evenhand/Characteristic;"), (0, .fieldref 1 8), (0, .nameAndType 9 6), (0, u "DEPENDENCIES"), (2, u "IMPORTANCE"), (2, u "$VALUES"), (0, u "[Lcom/example/evenhand/evenhand/Characteristic;"), (6, .class_ 25), (1, u "java/lang/Enum"), (8, u "column"), (0, u "Ljava/lang/String;"), (0, .methodref 1 37), (0, .nameAndType 38 39), (0, u "max"), (0, u "(I)I"), (16, u "RATING_MAX"), (0, u "I"), (11, u "share"), (0, u "(II)D")] 5

def k6c0 : Code := { maxStack := 2, maxLocals := 2, code := prog_6_method_5_code, exceptionTable := #[], attributes := #[] }
def k6m0 : Method := { name := "max", desc := "(I)I", sig := { parameters := [.int], returnType := some .int }, accessFlags := 0, code := some k6c0 }
def k6c1 : Code := { maxStack := 4, maxLocals := 4, code := prog_6_method_6_code, exceptionTable := #[], attributes := #[] }
def k6m1 : Method := { name := "share", desc := "(II)D", sig := { parameters := [.int, .int], returnType := some .double }, accessFlags := 0, code := some k6c1 }
/-- com/example/evenhand/evenhand/Characteristic -/
def k6 : Class := { plain "com/example/evenhand/evenhand/Characteristic" (some 5) with
  accessFlags := 16432
  interfaces := #[]
  cf := some (fileOf pool6 1 #[] #[{ accessFlags := 0, nameIndex := 38, descriptorIndex := 39, attributes := #[] }, { accessFlags := 0, nameIndex := 69, descriptorIndex := 70, attributes := #[] }] 16432 23 #[] #[{ accessFlags := 16409, nameIndex := 5, descriptorIndex := 6, attributes := #[] }, { accessFlags := 16409, nameIndex := 9, descriptorIndex := 6, attributes := #[] }, { accessFlags := 16409, nameIndex := 12, descriptorIndex := 6, attributes := #[] }, { accessFlags := 24, nameIndex := 56, descriptorIndex := 57, attributes := #[] }, { accessFlags := 18, nameIndex := 34, descriptorIndex := 35, attributes := #[] }, { accessFlags := 4122, nameIndex := 15, descriptorIndex := 16, attributes := #[] }])
  fields := #[{ name := "COMPLEXITY", type := (.object "com/example/evenhand/evenhand/Characteristic"), accessFlags := 16409, slot := 0, constantValue := 0 }, { name := "DEPENDENCIES", type := (.object "com/example/evenhand/evenhand/Characteristic"), accessFlags := 16409, slot := 1, constantValue := 0 }, { name := "IMPORTANCE", type := (.object "com/example/evenhand/evenhand/Characteristic"), accessFlags := 16409, slot := 2, constantValue := 0 }, { name := "RATING_MAX", type := .int, accessFlags := 24, slot := 3, constantValue := 0 }, { name := "column", type := (.object "java/lang/String"), accessFlags := 18, slot := 3, constantValue := 0 }, { name := "$VALUES", type := (.array (.object "com/example/evenhand/evenhand/Characteristic")), accessFlags := 4122, slot := 4, constantValue := 0 }]
  methods := #[k6m0, k6m1]
  instanceTypes := #[(.object "java/lang/String"), .int, .int, (.object "java/lang/String")]
  staticTypes := #[(.object "com/example/evenhand/evenhand/Characteristic"), (.object "com/example/evenhand/evenhand/Characteristic"), (.object "com/example/evenhand/evenhand/Characteristic"), .int, (.array (.object "com/example/evenhand/evenhand/Characteristic"))]
  resolved := Array.replicate 76 none
  statics := some 0 }

def pool7 : Array CpInfo := pool [(1, .class_ 2), (0, u "java/lang/Math"), (1, .class_ 6), (1, u "java/lang/Object"), (0, u "<init>"), (0, u "()V"), (89, .class_ 100), (1, u "java/lang/Math$RandomNumberGeneratorHolder"), (71, u "negativeZeroFloatBits"), (0, u "J"), (2, u "negativeZeroDoubleBits"), (21, u "max"), (46, u "$assertionsDisabled"), (0, u "Z"), (88, u "(II)I"), (2, u "twoToTheDoubleScaleDown"), (0, u "D"), (4, u "twoToTheDoubleScaleUp"), (9, u "E"), (3, u "PI"), (2, u "TAU"), (2, u "DEGREES_TO_RADIANS"), (0, u "RADIANS_TO_DEGREES")] 94

def k7m0 : Method := { name := "<init>", desc := "()V", sig := { parameters := [], returnType := none }, accessFlags := 2, code := none }
def k7c1 : Code := { maxStack := 2, maxLocals := 2, code := jdk_29_method_65_code, exceptionTable := #[], attributes := #[] }
def k7m1 : Method := { name := "max", desc := "(II)I", sig := { parameters := [.int, .int], returnType := some .int }, accessFlags := 9, code := some k7c1 }
/-- java/lang/Math -/
def k7 : Class := { plain "java/lang/Math" (some 0) with
  accessFlags := 49
  interfaces := #[]
  cf := some (fileOf pool7 1 #[.nestMembers #[98]] #[{ accessFlags := 2, nameIndex := 7, descriptorIndex := 8, attributes := #[] }, { accessFlags := 9, nameIndex := 198, descriptorIndex := 335, attributes := #[] }] 49 4 #[] #[{ accessFlags := 25, nameIndex := 354, descriptorIndex := 339, attributes := #[] }, { accessFlags := 25, nameIndex := 358, descriptorIndex := 339, attributes := #[] }, { accessFlags := 25, nameIndex := 361, descriptorIndex := 339, attributes := #[] }, { accessFlags := 26, nameIndex := 364, descriptorIndex := 339, attributes := #[] }, { accessFlags := 26, nameIndex := 365, descriptorIndex := 339, attributes := #[] }, { accessFlags := 26, nameIndex := 172, descriptorIndex := 173, attributes := #[] }, { accessFlags := 26, nameIndex := 176, descriptorIndex := 173, attributes := #[] }, { accessFlags := 8, nameIndex := 344, descriptorIndex := 339, attributes := #[] }, { accessFlags := 8, nameIndex := 338, descriptorIndex := 339, attributes := #[] }, { accessFlags := 4120, nameIndex := 245, descriptorIndex := 246, attributes := #[] }])
  fields := #[{ name := "E", type := .double, accessFlags := 25, slot := 0, constantValue := 0 }, { name := "PI", type := .double, accessFlags := 25, slot := 1, constantValue := 0 }, { name := "TAU", type := .double, accessFlags := 25, slot := 2, constantValue := 0 }, { name := "DEGREES_TO_RADIANS", type := .double, accessFlags := 26, slot := 3, constantValue := 0 }, { name := "RADIANS_TO_DEGREES", type := .double, accessFlags := 26, slot := 4, constantValue := 0 }, { name := "negativeZeroFloatBits", type := .long, accessFlags := 26, slot := 5, constantValue := 0 }, { name := "negativeZeroDoubleBits", type := .long, accessFlags := 26, slot := 6, constantValue := 0 }, { name := "twoToTheDoubleScaleUp", type := .double, accessFlags := 8, slot := 7, constantValue := 0 }, { name := "twoToTheDoubleScaleDown", type := .double, accessFlags := 8, slot := 8, constantValue := 0 }, { name := "$assertionsDisabled", type := .boolean, accessFlags := 4120, slot := 9, constantValue := 0 }]
  methods := #[k7m0, k7m1]
  instanceTypes := #[]
  staticTypes := #[.double, .double, .double, .double, .double, .long, .long, .double, .double, .boolean]
  resolved := Array.replicate 460 none
  statics := none }

def pool8 : Array CpInfo := pool [(1, u "java/lang/Cloneable"), (0, .class_ 1), (0, u "java/lang/Object"), (0, .class_ 3)] 3

/-- java/lang/Cloneable -/
def k8 : Class := { plain "java/lang/Cloneable" (some 0) with
  accessFlags := 1537
  interfaces := #[]
  cf := some (fileOf pool8 2 #[] #[] 1537 4 #[] #[])
  fields := #[]
  methods := #[]
  instanceTypes := #[]
  staticTypes := #[]
  resolved := Array.replicate 8 none
  statics := none }

/-- the primitive byte -/
def k9 : Class := { plain "byte" none with kind := .primitive 'B', accessFlags := 0x411 }
/-- [B -/
def k10 : Class := { plain "[B" (some 0) with kind := .array 9 .byte, interfaces := #[8, 4], accessFlags := 1041 }

/-- the primitive int -/
def k11 : Class := { plain "int" none with kind := .primitive 'I', accessFlags := 0x411 }
/-- [I -/
def k12 : Class := { plain "[I" (some 0) with kind := .array 11 .int, interfaces := #[8, 4], accessFlags := 1041 }

def heap : Heap := #[{ cls := 6, slots := #[.ref 1, .ref 2, .ref 3, .int 0, .null], vm := .statics 6 },
  { cls := 6, slots := #[.null, .int 0, .int 0, .null], vm := .none },
  { cls := 6, slots := #[.null, .int 1, .int 0, .null], vm := .none },
  { cls := 6, slots := #[.null, .int 2, .int 0, .null], vm := .none }]
def classes : Array Class := #[k0, k1, k2, k3, k4, k5, k6, k7, k8, k9, k10, k11, k12]
def interned : List (Array UInt16 × Addr) := []
def slotsUsed : Nat := 17
def theMethod : MethodId := ⟨1, 1⟩
def args0 : Array Value := #[.int 1, .int 5, .int 7]
def aboutOver (below : List Frame) : State where
  vm := { classes := classes, interned := interned.toArray }
  heap := heap
  slotsUsed := slotsUsed
  threads := #[{ frames := .invoking theMethod args0 :: below }]
def below0 : List Frame := [.native { method := ⟨0, 0⟩, args := #[] }]
def about1 : State := aboutOver below0
def p0 : Program := .bare "" "" ""
def e0 : Env := launch0.env 0 0 0
theorem w_frames : about1.frames = Frame.invoking theMethod args0 :: below0 := rfl
set_option maxRecDepth 65536 in
theorem w_args : argsFit about1.vm theMethod args0 = true := by decide +kernel
set_option maxRecDepth 65536 in
theorem w_heap : heapFits about1 = true := by decide +kernel
set_option maxRecDepth 65536 in
theorem w_runnable : about1.curStatus? = some .runnable := by decide +kernel
set_option maxRecDepth 65536 in
theorem w_alone : about1.alone = true := by decide +kernel
set_option maxRecDepth 65536 in
theorem w_named : about1.methodNamed? x = some theMethod := by decide +kernel
set_option maxRecDepth 65536 in
theorem w_hears : about1.hears theMethod below0 = true := by decide +kernel
set_option maxRecDepth 65536 in
theorem w_ripe : about1.ripe theMethod args0 below0 = true := by decide +kernel
theorem w_running : about1.status = .running := rfl
set_option maxRecDepth 65536 in
theorem w_room : about1.hasRoom e0.platform room_1 = true :=
  launch0.hasRoom_least _ room_1 (by decide +kernel) (by decide +kernel) (by decide +kernel) (by decide +kernel) (by decide +kernel) (by decide +kernel)
theorem allAtoms_all (ts : List Jvm.Cond) (a : Array Jvm.Value) (st : Jvm.State) : (allAtoms ts).before a st = ts.all (fun c => c.before a st) := by
  induction ts with
  | nil => rfl
  | cons c t ih =>
    show (Jvm.Cond.and c (allAtoms t)).before a st = _
    rw [Jvm.Cond.before_and, ih, List.all_cons]
def words1 : List Jvm.Cond := Jvm.Cond.code x code maxLocals ret :: tables_1
/-- a 'code' word, met by the world's own term for the bytes: nothing is compared byte by byte -/
theorem code_word {y : MethodName} {bytes : ByteArray} {mx : Nat} {rt : Option FieldType} {a : Array Value} {s : State} {m : MethodId} {meth : Method} {c : Code} (h1 : s.methodNamed? y = some m) (h2 : s.vm.method? m = some meth) (h3 : meth.code = some c) (h4 : c.code = bytes)
    (h5 : (c.maxLocals == mx && c.exceptionTable.isEmpty && decide (c.maxStack ≤ mostOperands) && decide (meth.sig.returnType = rt) && !meth.locks && decide (parseMethodDescriptor y.desc = some meth.sig)) = true) : (Jvm.Cond.code y bytes mx rt).before a s = true := by
  simp only [Bool.and_eq_true, beq_iff_eq, Bool.not_eq_true', decide_eq_true_eq] at h5
  obtain ⟨⟨⟨⟨⟨g1, g2⟩, g3⟩, g4⟩, g5⟩, g6⟩ := h5
  simp [Cond.before, Cond.holds, Cond.value, h1, h2, h3, h4, g1, g2, g3, g4, g5, g6]
def isCode : Jvm.Cond → Bool
  | .code _ _ _ _ => true
  | _ => false
theorem all_split {L : List Jvm.Cond} {P : Jvm.Cond → Bool} (h1 : L.all (fun c => isCode c || P c) = true) (h2 : ∀ c ∈ L.filter isCode, P c = true) : L.all P = true := by
  refine List.all_eq_true.mpr fun c hc => ?_
  have h := List.all_eq_true.mp h1 c hc
  rcases Bool.eq_false_or_eq_true (isCode c) with hi | hi
  · exact h2 c (List.mem_filter.mpr ⟨hc, hi⟩)
  · simpa [hi] using h
set_option maxRecDepth 65536 in
theorem w_c0 : (Jvm.Cond.code x code maxLocals ret).before args0 about1 = true := code_word (m := ⟨1, 1⟩) (meth := k1m1) (c := k1c1) (by decide +kernel) rfl rfl rfl (by decide +kernel)
set_option maxRecDepth 65536 in
theorem w_c1 : (Jvm.Cond.code ({ cls := "java/lang/Math", name := "max", desc := "(II)I" } : Jvm.MethodName) jdk_29_method_65_code (2 : Nat) (Option.some Jvm.ClassFile.FieldType.int)).before args0 about1 = true := code_word (m := ⟨7, 1⟩) (meth := k7m1) (c := k7c1) (by decide +kernel) rfl rfl rfl (by decide +kernel)
set_option maxRecDepth 65536 in
theorem w_c2 : (Jvm.Cond.code ({ cls := "com/example/evenhand/evenhand/Characteristic", name := "share", desc := "(II)D" } : Jvm.MethodName) prog_6_method_6_code (4 : Nat) (Option.some Jvm.ClassFile.FieldType.double)).before args0 about1 = true := code_word (m := ⟨6, 1⟩) (meth := k6m1) (c := k6c1) (by decide +kernel) rfl rfl rfl (by decide +kernel)
set_option maxRecDepth 65536 in
theorem w_c3 : (Jvm.Cond.code ({ cls := "com/example/evenhand/evenhand/Characteristic", name := "max", desc := "(I)I" } : Jvm.MethodName) prog_6_method_5_code (2 : Nat) (Option.some Jvm.ClassFile.FieldType.int)).before args0 about1 = true := code_word (m := ⟨6, 0⟩) (meth := k6m0) (c := k6c0) (by decide +kernel) rfl rfl rfl (by decide +kernel)
def codes1 : List Jvm.Cond := [Jvm.Cond.code x code maxLocals ret, Jvm.Cond.code ({ cls := "java/lang/Math", name := "max", desc := "(II)I" } : Jvm.MethodName) jdk_29_method_65_code (2 : Nat) (Option.some Jvm.ClassFile.FieldType.int), Jvm.Cond.code ({ cls := "com/example/evenhand/evenhand/Characteristic", name := "share", desc := "(II)D" } : Jvm.MethodName) prog_6_method_6_code (4 : Nat) (Option.some Jvm.ClassFile.FieldType.double), Jvm.Cond.code ({ cls := "com/example/evenhand/evenhand/Characteristic", name := "max", desc := "(I)I" } : Jvm.MethodName) prog_6_method_5_code (2 : Nat) (Option.some Jvm.ClassFile.FieldType.int)]
set_option maxRecDepth 65536 in
theorem codes_eq : words1.filter isCode = codes1 := rfl
theorem w_codes : ∀ c ∈ words1.filter isCode, c.before args0 about1 = true := by
  rw [codes_eq]
  intro c hc
  simp only [codes1, List.mem_cons, List.not_mem_nil, or_false] at hc
  rcases hc with rfl | rfl | rfl | rfl
  · exact w_c0
  · exact w_c1
  · exact w_c2
  · exact w_c3
set_option maxRecDepth 65536 in
theorem w_t1 : words1.all (fun c => isCode c || c.before args0 about1) = true := by decide +kernel
theorem w_tables : (allAtoms (Jvm.Cond.code x code maxLocals ret :: tables_1)).before args0 about1 = true := by
  rw [allAtoms_all]
  show words1.all (fun c => c.before args0 about1) = true
  refine all_split ?_ w_codes
  rw [w_t1]
set_option maxRecDepth 65536 in
theorem w_case : (Jvm.Cond.and given_1 narrow_1).before args0 about1 = true := by decide +kernel
theorem w_applies : (headSpec (Jvm.Cond.code x code maxLocals ret :: tables_1) room_1).applies x e0.platform about1 = true :=
  (Spec.applies_iff w_frames).mpr ⟨w_running, w_runnable, w_alone, w_named, w_hears, w_ripe, w_room, w_tables⟩
theorem atStart : AtStart classFile x code maxLocals ret World_1 tables_1 room_1 Calls_1 rest_1 Pre_1 launch0 p0 e0 about1 theMethod args0 below0 :=
  ⟨lists_1, trivial, launch0.admits_env _ _ _, launch0.least_env, fairChoices_fair.cas, fairChoices_fair.clock, w_frames, w_args, w_heap, w_applies, trivial, trivial, w_case⟩
end start1
theorem witness_1 : WitnessClaimed_1 := ⟨start1.p0, start1.e0, start1.about1, start1.theMethod, start1.args0, start1.below0, start1.atStart⟩
end Jvm.Pilot.@@N@@
