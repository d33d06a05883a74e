import JvmDerived
import JvmDerived.Pilot.@@N@@Statement
import JvmDerived.Pilot.@@N@@Code
set_option linter.unusedVariables false
set_option linter.unusedSimpArgs false
namespace Jvm.RoadKit
open Sem ClassFile Op Lib Jvm.Stand Jvm.Free Jvm.LawKit
section New
variable {p : Program} {l : Launch} {e : Env} {R : Room} {s : State} {m : MethodId} {args : Array Value} {below : List Frame} {meth : Method} {c : Code} {T : State} {locs : List Loc} {cells slots : Nat}
theorem retI (X : Stand p l e R s m args below meth c T locs cells slots) (hx : p.tables.exec = Jvm.exec) {pc : Nat} {Ls : Array Slot} {z : Int32} {rest : List Value} (hret : meth.sig.returnType = some .int) (hd : decode c.code pc = .ok (.ireturn, 1)) {fs : List Frame}
    (hl : ∀ (f : JFrame) (acts : List Action), f.method = m → f.locked = none → f.entered = [] → (doReturn e (T.setTop f) acts (some (.int z))).1 = T.setFrames fs) : Steps p.tables e below (T.setTop (mkF m pc Ls (.int z :: rest))) (T.setFrames fs) := by
  have hm' : T.vm.method? m = some meth := X.method'
  have hn : narrow .int (.int z) = .int z := rfl
  show Steps p.tables e below (T.setTop { method := m, pc := pc, locals := Ls, stack := _ :: rest, locked := none }) _
  jvm_step X.here [X.here.top, hx, hd, hm', hret, hn]
  first | (intro acts; rw [hl _ acts rfl rfl rfl]) | rw [hl _ _ rfl rfl rfl]
  exact Steps.refl _
end New
abbrev Go (p : Program) (e : Env) (below : List Frame) (T : State) (f : JFrame) (A : State) : Prop := ∀ t, Steps p.tables e below (T.setTop f) t → Steps p.tables e below A t
theorem own_retA (w : Value) (h : w.isRef = true) (t : FieldType) (ht : t.isReference = true) : narrow t w = w := by
  cases w <;> simp [Value.isRef] at h <;> cases t <;> simp [FieldType.isReference] at ht <;> rfl
theorem own_fitA (w : Value) (h : w.isRef = true) (t : FieldType) (ht : t.isReference = true) : fits t w = true := by
  cases w <;> simp [Value.isRef] at h <;> cases t <;> simp [FieldType.isReference] at ht <;> rfl
theorem own_narb (x : Int32) : nar .byte (x.toInt8.toInt32) = x.toInt8.toInt32 := by
  show x.toInt8.toInt32.toInt8.toInt32 = _
  simp
theorem own_ft_byte {z y : Int32} (e : nar .byte z = y) : fits .byte (.int y) = true := by rw [← e]; exact fits_nar_byte z
theorem own_ft_char {z y : Int32} (e : nar .char z = y) : fits .char (.int y) = true := by rw [← e]; exact fits_nar_char z
theorem own_ft_short {z y : Int32} (e : nar .short z = y) : fits .short (.int y) = true := by rw [← e]; exact fits_nar_short z
theorem own_ft_boolean {z y : Int32} (e : nar .boolean z = y) : fits .boolean (.int y) = true := by rw [← e]; exact fits_nar_bool z
theorem own_nw_byte {z y : Int32} (e : nar .byte z = y) : narrow .byte (.int z) = .int y := by rw [← e]; rfl
theorem own_nw_char {z y : Int32} (e : nar .char z = y) : narrow .char (.int z) = .int y := by rw [← e]; rfl
theorem own_nw_short {z y : Int32} (e : nar .short z = y) : narrow .short (.int z) = .int y := by rw [← e]; rfl
theorem own_nw_boolean {z y : Int32} (e : nar .boolean z = y) : narrow .boolean (.int z) = .int y := by rw [← e]; rfl
theorem own_narc (x : Int32) : nar .char (x.toUInt32.toUInt16.toUInt32.toInt32) = x.toUInt32.toUInt16.toUInt32.toInt32 := by
  show x.toUInt32.toUInt16.toUInt32.toInt32.toUInt32.toUInt16.toUInt32.toInt32 = _
  have q := c_i2c x
  have r := c_i2c x.toUInt32.toUInt16.toUInt32.toInt32
  apply Int32.toInt_inj.mp
  omega
theorem own_ext_refl {h : Heap} : Ext h h := ⟨Nat.le_refl _, fun _ _ q => q⟩
theorem own_ext_trans {h h' h2 : Heap} (A : Ext h h') (B : Ext h' h2) : Ext h h2 := ⟨Nat.le_trans A.1 B.1, fun a c q => B.2 a c (A.2 a c q)⟩
theorem own_ext_keep {h h' : Heap} (K : Keep h h' []) : Ext h h' := ⟨K.1, fun a c q => K.2.1 a c q nin0⟩
theorem own_lcmp_self (x : Int64) : lcmpW x x = (0 : Int32) := by rw [lcW]; exact (lc_eq x x).mpr rfl
theorem own_catV {v : Value} (h : v.isRef = true) : v.category = 1 := by cases v <;> simp [Value.isRef] at h <;> rfl
end Jvm.RoadKit
namespace Jvm.RoadKit
open Sem ClassFile Op Lib Jvm.Stand Jvm.Free Jvm.LawKit
theorem own_old_le {Z : State} {n0 : Nat} {h : Heap} (O : Old Z n0 h) : n0 ≤ h.size := O.1 ▸ O.2.1
theorem own_fld_int {args : Array Value} {s : State} {t : Term} {C n d : String} {k : Int32} {a : Addr} (h : (Cond.eq (.field t C n d) (.int k)).value args s none s [] = some true) (ev : t.eval args s none [] s = some (.ref a)) : Fld s s.heap a C n d (.int k) := by
  obtain ⟨x, y, h1, h2, -, k2⟩ := cmp_v (Or.inl h)
  cases h2.symm.trans (Term.int_eval k)
  obtain ⟨z, rfl⟩ := k2
  have e : z = k := gotT (Cond.eq_ints h1 h2) h
  subst e
  exact Fld.start ((fld_at ev).symm.trans h1)
theorem own_eqint {args : Array Value} {s : State} {t : Term} {k : Int32} (h : (Cond.eq t (.int k)).value args s none s [] = some true) : t.eval args s none [] s = some (.int k) := by
  obtain ⟨x, y, h1, h2, -, k2⟩ := cmp_v (Or.inl h)
  cases h2.symm.trans (Term.int_eval k)
  obtain ⟨z, rfl⟩ := k2
  have e : z = k := gotT (Cond.eq_ints h1 h2) h
  subst e
  exact h1
end Jvm.RoadKit
namespace Jvm.RoadKit
open Sem ClassFile Op Lib Jvm.Stand Jvm.Free Jvm.LawKit Jvm.FP Jvm.Free.Fl
theorem own_b53 (x : Int32) : B53 x.toInt64 := by
  have := rng32 x
  have e : x.toInt64.toInt = x.toInt := Int32.toInt_toInt64 x
  unfold B53
  omega
theorem own_b53n (x : Int32) : B53 (-x.toInt64) := by
  have := rng32 x
  have e : x.toInt64.toInt = x.toInt := Int32.toInt_toInt64 x
  have c := c_lneg x.toInt64
  have r := rng64 (-x.toInt64)
  unfold B53
  omega
theorem own_dneg_lt {a : Int64} (hb : B53 a) (h : a < 0) : FP.dneg (FP.l2d a) = FP.l2d (-a) := by
  have c : FP.dcmp (FP.l2d a) 0 = some .lt := by
    have q := dcmp_ws hb (b := 0) (by unfold B53; decide)
    rw [l2d_zero] at q
    have : a.toInt < (0 : Int64).toInt := Int64.lt_iff_toInt_lt.mp h
    rw [q, if_pos this]
  rw [← Jvm.FP.V.abs_neg c]
  exact abs_n hb h
theorem own_dneg2 (x : UInt64) : FP.dneg (FP.dneg x) = x := by
  show (x ^^^ 0x8000000000000000) ^^^ 0x8000000000000000 = x
  rw [UInt64.xor_assoc]; simp
theorem own_neg (x : Int32) : cmpValue (FP.dcmp (FP.dneg (FP.i2d x)) (FP.l2d (-x.toInt64))) .l = (0 : Int32) := by
  have e : x.toInt64.toInt = x.toInt := Int32.toInt_toInt64 x
  rw [i2d_w]
  by_cases h0 : x = 0
  · subst h0; decide +kernel
  · have hn : ¬ (x.toInt = 0) := fun q => h0 (Int32.toInt_inj.mp q)
    by_cases h1 : x.toInt64 < 0
    · rw [own_dneg_lt (own_b53 x) h1]
      exact dcmpV_self (nn_w rfl) _
    · have h1' : ¬ (x.toInt64.toInt < 0) := fun z => h1 (Int64.lt_iff_toInt_lt.mpr z)
      have c := c_lneg x.toInt64
      have r := rng64 (-x.toInt64)
      have h2 : -x.toInt64 < 0 := Int64.lt_iff_toInt_lt.mpr (show (-x.toInt64).toInt < 0 by have := rng32 x; omega)
      have q := own_dneg_lt (own_b53n x) h2
      rw [Int64.neg_neg] at q
      rw [← q, own_dneg2]
      exact dcmpV_self (nn_w rfl) _
end Jvm.RoadKit
namespace Jvm.Pilot.@@N@@
open Jvm Jvm.ClassFile Sem Op Lib Jvm.Free Jvm.Stand Jvm.LawKit Jvm.RoadKit Bundle Jvm.Pilot.@@N@@.Jvm.D
theorem d2_0 : decode jdk_30_method_1_code 0 = .ok (.aload_n 0, 1) := by decide +kernel
theorem d2_1 : decode jdk_30_method_1_code 1 = .ok (.invokespecial 1, 3) := by decide +kernel
theorem d2_4 : decode jdk_30_method_1_code 4 = .ok (.return_, 1) := by decide +kernel
theorem pn_java_lang_Record : plainName "java/lang/Record" = true := by first | (simp [plainName, overriddenIn]; done) | decide +kernel
theorem ef_rec (m : MethodId) (x0 : Addr)  : entryFrame m #[(.ref x0)] 1 = mkF m 0 #[.val (.ref x0)] [] := by first | (simp [entryFrame, mkF, argsToLocals, Value.category]; done) | rfl
def Q_rec (Z : State) (a1 : Addr) (h0 : Heap) (n0 : Nat) (v : Option Value) (h : Heap) (L : List Loc) : Prop := v = none ∧ Fr n0 L ∧ h = h0
set_option maxRecDepth 65536 in
set_option maxHeartbeats 40000000 in
theorem rm_rec (l : Launch) (Z : State) (a0 : Array Value) (hw : ∀ d ∈ tables_1, d.before a0 Z = true) (ws : List Jvm.Cond) (a1 : Addr) (h0 : Heap) (n0 : Nat) (O0 : Old Z n0 h0)  :
    MetFree l (⟨"java/lang/Record", "<init>", "()V"⟩ : MethodName) (head1 (Jvm.Cond.code (⟨"java/lang/Record", "<init>", "()V"⟩ : MethodName) jdk_30_method_1_code 1 none :: ws) ({ frames := 1, cells := 0, slots := 0, locals := 12 } : Room)) (fun a U => a = #[(.ref a1)] ∧ Z.Warmed39 U.vm ∧ U.heap = h0) (fun _ _ _ _ _ => True) (fun _ U o U' => ∃ v L, o = .returned v ∧ Q_rec Z a1 h0 n0 v U'.heap L ∧ FrameEnd U o U' L ({ frames := 1, cells := 0, slots := 0, locals := 12 } : Room).cells ({ frames := 1, cells := 0, slots := 0, locals := 12 } : Room).slots) := by
  refine MetFree.of_bodySF (plainFor_of_name pn_java_lang_Record) hisR ?_
  intro p e s m args below meth c s₁ Bd hml0 hP hK
  obtain ⟨rfl, hZ, hh⟩ := hP
  have hx := Bd.exec
  have hby := Bd.bytes
  have hml : c.maxLocals = 1 := hml0
  have hown : s.vm.findClass "java/lang/Record" = some m.cls := findClass_of_methodNamed Bd.named
  have hnm := (name_of_methodNamed Bd.named Bd.method).1
  have X0 : Stand p l e ({ frames := 1, cells := 0, slots := 0, locals := 12 } : Room) s m #[(.ref a1)] below meth c s₁ [] 0 0 := Stand.of_body Bd
  have e0 : s₁.heap = h0 := by rw [← hh, Bd.state]; rfl
  have N0 := Fr.nil n0
  have g0 : Go p e below s₁ (mkF m 0 #[rv a1] []) (s₁.setTop (entryFrame m #[(.ref a1)] 1)) := fun t kont => castTop (ef_rec m a1 ) kont
  generalize s₁.setTop (entryFrame m #[(.ref a1)] 1) = A0 at g0 ⊢
  have g101 : Go p e below s₁ (mkF m 1 #[rv a1] [(.ref a1)]) A0 := by
    intro t kont
    refine g0 t ?_
    refine XS.aloadN X0.here hx rfl (hb hby d2_0) rfl rfl ?_
    exact kont
  obtain ⟨T102, X102, e102, st102⟩ := initO X0 hx hZ hown (hw _ (List.mem_of_getElem? (i := 11) rfl)) (hw _ (List.mem_of_getElem? (i := 12) rfl)) (hw _ (List.mem_of_getElem? (i := 13) rfl)) e0 (g := (mkF m 1 #[rv a1] [(.ref a1)])) rfl (by rw [hml]; rfl) rfl (hb hby d2_1) (by decide) (W := 0) (by show 2 * 0 + _ ≤ _; exact Nat.le_of_eq rfl) (by decide)
  have g103 : Go p e below T102 (mkF m 4 #[rv a1] []) A0 := fun t kont => g101 t (st102 t kont)
  obtain ⟨fs, hr, hrun, hended, hW, hsame⟩ := X102.leave (v := none) (fun _ => rfl)
  refine ⟨_, _, g103 _ (X102.returnOut hx Bd.returns (hb hby d2_4) hr), hrun, hended, _, _, rfl, ?_, ⟨_, rfl⟩, hW, hsame.mono (by decide) (by decide)⟩
  show Q_rec Z a1 h0 n0 _ T102.heap _
  rw [e102]
  exact ⟨rfl, N0, rfl⟩
theorem d1_0 : decode prog_59_method_1_code 0 = .ok (.aload_n 0, 1) := by decide +kernel
theorem d1_1 : decode prog_59_method_1_code 1 = .ok (.invokespecial 1, 3) := by decide +kernel
theorem pd_0 : parseMethodDescriptor "()V" = some ⟨[], none⟩ := by decide +kernel
theorem d1_4 : decode prog_59_method_1_code 4 = .ok (.aload_n 0, 1) := by decide +kernel
theorem d1_5 : decode prog_59_method_1_code 5 = .ok (.dload_n 1, 1) := by decide +kernel
theorem d1_6 : decode prog_59_method_1_code 6 = .ok (.putfield 7, 3) := by decide +kernel
theorem d1_9 : decode prog_59_method_1_code 9 = .ok (.aload_n 0, 1) := by decide +kernel
theorem d1_10 : decode prog_59_method_1_code 10 = .ok (.dload_n 3, 1) := by decide +kernel
theorem d1_11 : decode prog_59_method_1_code 11 = .ok (.putfield 13, 3) := by decide +kernel
theorem d1_14 : decode prog_59_method_1_code 14 = .ok (.aload_n 0, 1) := by decide +kernel
theorem d1_15 : decode prog_59_method_1_code 15 = .ok (.dload 5, 2) := by decide +kernel
theorem d1_17 : decode prog_59_method_1_code 17 = .ok (.putfield 16, 3) := by decide +kernel
theorem d1_20 : decode prog_59_method_1_code 20 = .ok (.aload_n 0, 1) := by decide +kernel
theorem d1_21 : decode prog_59_method_1_code 21 = .ok (.dload 7, 2) := by decide +kernel
theorem d1_23 : decode prog_59_method_1_code 23 = .ok (.putfield 19, 3) := by decide +kernel
theorem d1_26 : decode prog_59_method_1_code 26 = .ok (.return_, 1) := by decide +kernel
theorem pn_com_example_evenhand_evenhand_Scores : plainName "com/example/evenhand/evenhand/Scores" = true := by first | (simp [plainName, overriddenIn]; done) | decide +kernel
theorem ef_scI (m : MethodId) (x0 : Addr) (x1 : UInt64) (x2 : UInt64) (x3 : UInt64) (x4 : UInt64)  : entryFrame m #[(.ref x0), (.double x1), (.double x2), (.double x3), (.double x4)] 9 = mkF m 0 #[.val (.ref x0), .val (.double x1), .second, .val (.double x2), .second, .val (.double x3), .second, .val (.double x4), .second] [] := by first | (simp [entryFrame, mkF, argsToLocals, Value.category]; done) | rfl
def Q_scI (Z : State) (a1 : Addr) (d0_ : UInt64) (d1_ : UInt64) (d2_ : UInt64) (d3_ : UInt64) (h0 : Heap) (n0 : Nat) (v : Option Value) (h : Heap) (L : List Loc) : Prop := v = none ∧ Fr n0 L ∧ Keep h0 h [a1] ∧ (Exa Z h a1 "com/example/evenhand/evenhand/Scores") ∧ (Fld Z h a1 "com/example/evenhand/evenhand/Scores" "assign" "D" (.double d0_)) ∧ (Fld Z h a1 "com/example/evenhand/evenhand/Scores" "fam" "D" (.double d1_)) ∧ (Fld Z h a1 "com/example/evenhand/evenhand/Scores" "owl" "D" (.double d2_)) ∧ (Fld Z h a1 "com/example/evenhand/evenhand/Scores" "fs" "D" (.double d3_))
set_option maxRecDepth 65536 in
set_option maxHeartbeats 40000000 in
theorem rm_scI (l : Launch) (Z : State) (a0 : Array Value) (hw : ∀ d ∈ tables_1, d.before a0 Z = true) (ws : List Jvm.Cond) (a1 : Addr) (d0_ : UInt64) (d1_ : UInt64) (d2_ : UInt64) (d3_ : UInt64) (h0 : Heap) (n0 : Nat) (O0 : Old Z n0 h0) (F0_ : Fld Z h0 a1 "com/example/evenhand/evenhand/Scores" "assign" "D" (.double (0 : UInt64))) (F1_ : Fld Z h0 a1 "com/example/evenhand/evenhand/Scores" "fam" "D" (.double (0 : UInt64))) (F2_ : Fld Z h0 a1 "com/example/evenhand/evenhand/Scores" "owl" "D" (.double (0 : UInt64))) (F3_ : Fld Z h0 a1 "com/example/evenhand/evenhand/Scores" "fs" "D" (.double (0 : UInt64))) (E4_ : Exa Z h0 a1 "com/example/evenhand/evenhand/Scores") (G5_ : n0 ≤ a1) :
    MetFree l (⟨"com/example/evenhand/evenhand/Scores", "<init>", "(DDDD)V"⟩ : MethodName) (head1 (Jvm.Cond.code (⟨"com/example/evenhand/evenhand/Scores", "<init>", "(DDDD)V"⟩ : MethodName) prog_59_method_1_code 9 none :: ws) ({ frames := 2, cells := 0, slots := 0, locals := 24 } : Room)) (fun a U => a = #[(.ref a1), (.double d0_), (.double d1_), (.double d2_), (.double d3_)] ∧ Z.Warmed39 U.vm ∧ U.heap = h0) (fun _ _ _ _ _ => True) (fun _ U o U' => ∃ v L, o = .returned v ∧ Q_scI Z a1 d0_ d1_ d2_ d3_ h0 n0 v U'.heap L ∧ FrameEnd U o U' L ({ frames := 2, cells := 0, slots := 0, locals := 24 } : Room).cells ({ frames := 2, cells := 0, slots := 0, locals := 24 } : Room).slots) := by
  refine MetFree.of_bodySF (plainFor_of_name pn_com_example_evenhand_evenhand_Scores) hisR ?_
  intro p e s m args below meth c s₁ Bd hml0 hP hK
  obtain ⟨rfl, hZ, hh⟩ := hP
  have hx := Bd.exec
  have hby := Bd.bytes
  have hml : c.maxLocals = 9 := hml0
  have hown : s.vm.findClass "com/example/evenhand/evenhand/Scores" = some m.cls := findClass_of_methodNamed Bd.named
  have hnm := (name_of_methodNamed Bd.named Bd.method).1
  have X0 : Stand p l e ({ frames := 2, cells := 0, slots := 0, locals := 24 } : Room) s m #[(.ref a1), (.double d0_), (.double d1_), (.double d2_), (.double d3_)] below meth c s₁ [] 0 0 := Stand.of_body Bd
  have e0 : s₁.heap = h0 := by rw [← hh, Bd.state]; rfl
  have N0 := Fr.nil n0
  have g0 : Go p e below s₁ (mkF m 0 #[rv a1, .val (.double d0_), .second, .val (.double d1_), .second, .val (.double d2_), .second, .val (.double d3_), .second] []) (s₁.setTop (entryFrame m #[(.ref a1), (.double d0_), (.double d1_), (.double d2_), (.double d3_)] 9)) := fun t kont => castTop (ef_scI m a1 d0_ d1_ d2_ d3_ ) kont
  generalize s₁.setTop (entryFrame m #[(.ref a1), (.double d0_), (.double d1_), (.double d2_), (.double d3_)] 9) = A0 at g0 ⊢
  have g101 : Go p e below s₁ (mkF m 1 #[rv a1, .val (.double d0_), .second, .val (.double d1_), .second, .val (.double d2_), .second, .val (.double d3_), .second] [(.ref a1)]) A0 := by
    intro t kont
    refine g0 t ?_
    refine XS.aloadN X0.here hx rfl (hb hby d1_0) rfl rfl ?_
    exact kont
  obtain ⟨_, _, ⟨T102, L102, k102, n102⟩, -, X102, ⟨Lc102, hQ102, l102, y102, z102⟩, st102⟩ := X0.specialBack hx (y := (⟨"java/lang/Record", "<init>", "()V"⟩ : MethodName)) rfl hown (mvT hZ (hw _ (List.mem_of_getElem? (i := 6) rfl))) (mvT hZ (hw _ (List.mem_of_getElem? (i := 7) rfl))) (mvT hZ (hw _ (List.mem_of_getElem? (i := 10) rfl))) (by decide) (backOf (W := 0) (rm_rec l Z a0 hw [] a1 h0 n0 O0 ) hZ (hw _ (List.mem_of_getElem? (i := 10) rfl)) (hw _ (List.mem_of_getElem? (i := 9) rfl)) (by decide) (by decide)) (g := (mkF m 1 #[rv a1, .val (.double d0_), .second, .val (.double d1_), .second, .val (.double d2_), .second, .val (.double d3_), .second] [(.ref a1)])) rfl (by rw [hml]; rfl) (Steps.refl _) (a := a1) (argsL := []) (rest := []) (lenOf pd_0 rfl) rfl (by show 2 * 0 + _ ≤ _; exact Nat.le_of_eq rfl) (hb hby d1_1) (fun _ _ => ⟨rfl, e0, (by decide : 0 + 0 ≤ _), (by decide : 0 + 0 ≤ _)⟩)
  dsimp only [Pt.U, Pt.locs, Pt.cells, Pt.slots] at X102 l102 y102 z102 st102 hQ102
  subst l102 y102 z102
  obtain ⟨rfl, M102, e102⟩ := hQ102
  have N102 := Fr.app N0 M102
  have g103 : Go p e below T102 (mkF m 4 #[rv a1, .val (.double d0_), .second, .val (.double d1_), .second, .val (.double d2_), .second, .val (.double d3_), .second] []) A0 := fun t kont => g101 t (st102.trans kont)
  have g104 : Go p e below T102 (mkF m 6 #[rv a1, .val (.double d0_), .second, .val (.double d1_), .second, .val (.double d2_), .second, .val (.double d3_), .second] [(.double d0_), (.ref a1)]) A0 := by
    intro t kont
    refine g103 t ?_
    refine XS.aloadN X102.here hx rfl (hb hby d1_4) rfl rfl ?_
    refine XS.dloadN X102.here hx rfl (hb hby d1_5) rfl ?_
    exact kont
  obtain ⟨T105, h105, X105, e105, W105, st105⟩ := putF X102 hx hZ hown (host := "") (Or.inl (hw _ (List.mem_of_getElem? (i := 14) rfl))) Via.refl e102 F0_ E4_ (Or.inr ⟨(hw _ (List.mem_of_getElem? (i := 15) rfl)), rfl, hnm⟩) (hw _ (List.mem_of_getElem? (i := 1) rfl)) (ty := .double) (by decide) rfl rfl (g := (mkF m 6 #[rv a1, .val (.double d0_), .second, .val (.double d1_), .second, .val (.double d2_), .second, .val (.double d3_), .second] [(.double d0_), (.ref a1)])) rfl rfl (hb hby d1_6)
  have O106 := O0.wr W105 G5_
  have y107 : Fld Z h105 a1 "com/example/evenhand/evenhand/Scores" "assign" "D" (.double d0_) := F0_.same W105
  have N105 := Fr.snoc X105 N102 G5_
  have g108 : Go p e below T105 (mkF m 9 #[rv a1, .val (.double d0_), .second, .val (.double d1_), .second, .val (.double d2_), .second, .val (.double d3_), .second] []) A0 := fun t kont => g104 t (st105 t kont)
  have g109 : Go p e below T105 (mkF m 11 #[rv a1, .val (.double d0_), .second, .val (.double d1_), .second, .val (.double d2_), .second, .val (.double d3_), .second] [(.double d1_), (.ref a1)]) A0 := by
    intro t kont
    refine g108 t ?_
    refine XS.aloadN X105.here hx rfl (hb hby d1_9) rfl rfl ?_
    refine XS.dloadN X105.here hx rfl (hb hby d1_10) rfl ?_
    exact kont
  have y110 : Exa Z h105 a1 "com/example/evenhand/evenhand/Scores" := (E4_.wr W105)
  have y111 : Fld Z h105 a1 "com/example/evenhand/evenhand/Scores" "fam" "D" (.double (0 : UInt64)) := (F1_.other W105 (Or.inr (slot_ne (Or.inr (hw _ (List.mem_of_getElem? (i := 17) rfl))) (Or.inr (hw _ (List.mem_of_getElem? (i := 15) rfl))) (by decide) (t := .double) (t' := .double) (by decide) (by decide))))
  obtain ⟨T112, h112, X112, e112, W112, st112⟩ := putF X105 hx hZ hown (host := "") (Or.inl (hw _ (List.mem_of_getElem? (i := 16) rfl))) Via.refl e105 y111 y110 (Or.inr ⟨(hw _ (List.mem_of_getElem? (i := 17) rfl)), rfl, hnm⟩) (hw _ (List.mem_of_getElem? (i := 1) rfl)) (ty := .double) (by decide) rfl rfl (g := (mkF m 11 #[rv a1, .val (.double d0_), .second, .val (.double d1_), .second, .val (.double d2_), .second, .val (.double d3_), .second] [(.double d1_), (.ref a1)])) rfl rfl (hb hby d1_11)
  have O113 := O106.wr W112 G5_
  have y114 : Fld Z h112 a1 "com/example/evenhand/evenhand/Scores" "fam" "D" (.double d1_) := y111.same W112
  have N112 := Fr.snoc X112 N105 G5_
  have g115 : Go p e below T112 (mkF m 14 #[rv a1, .val (.double d0_), .second, .val (.double d1_), .second, .val (.double d2_), .second, .val (.double d3_), .second] []) A0 := fun t kont => g109 t (st112 t kont)
  have g116 : Go p e below T112 (mkF m 17 #[rv a1, .val (.double d0_), .second, .val (.double d1_), .second, .val (.double d2_), .second, .val (.double d3_), .second] [(.double d2_), (.ref a1)]) A0 := by
    intro t kont
    refine g115 t ?_
    refine XS.aloadN X112.here hx rfl (hb hby d1_14) rfl rfl ?_
    refine XS.dload X112.here hx rfl (hb hby d1_15) rfl ?_
    exact kont
  have y117 : Exa Z h112 a1 "com/example/evenhand/evenhand/Scores" := (y110.wr W112)
  have y118 : Fld Z h112 a1 "com/example/evenhand/evenhand/Scores" "owl" "D" (.double (0 : UInt64)) := ((F2_.other W105 (Or.inr (slot_ne (Or.inr (hw _ (List.mem_of_getElem? (i := 19) rfl))) (Or.inr (hw _ (List.mem_of_getElem? (i := 15) rfl))) (by decide) (t := .double) (t' := .double) (by decide) (by decide)))).other W112 (Or.inr (slot_ne (Or.inr (hw _ (List.mem_of_getElem? (i := 19) rfl))) (Or.inr (hw _ (List.mem_of_getElem? (i := 17) rfl))) (by decide) (t := .double) (t' := .double) (by decide) (by decide))))
  obtain ⟨T119, h119, X119, e119, W119, st119⟩ := putF X112 hx hZ hown (host := "") (Or.inl (hw _ (List.mem_of_getElem? (i := 18) rfl))) Via.refl e112 y118 y117 (Or.inr ⟨(hw _ (List.mem_of_getElem? (i := 19) rfl)), rfl, hnm⟩) (hw _ (List.mem_of_getElem? (i := 1) rfl)) (ty := .double) (by decide) rfl rfl (g := (mkF m 17 #[rv a1, .val (.double d0_), .second, .val (.double d1_), .second, .val (.double d2_), .second, .val (.double d3_), .second] [(.double d2_), (.ref a1)])) rfl rfl (hb hby d1_17)
  have O120 := O113.wr W119 G5_
  have y121 : Fld Z h119 a1 "com/example/evenhand/evenhand/Scores" "owl" "D" (.double d2_) := y118.same W119
  have N119 := Fr.snoc X119 N112 G5_
  have g122 : Go p e below T119 (mkF m 20 #[rv a1, .val (.double d0_), .second, .val (.double d1_), .second, .val (.double d2_), .second, .val (.double d3_), .second] []) A0 := fun t kont => g116 t (st119 t kont)
  have g123 : Go p e below T119 (mkF m 23 #[rv a1, .val (.double d0_), .second, .val (.double d1_), .second, .val (.double d2_), .second, .val (.double d3_), .second] [(.double d3_), (.ref a1)]) A0 := by
    intro t kont
    refine g122 t ?_
    refine XS.aloadN X119.here hx rfl (hb hby d1_20) rfl rfl ?_
    refine XS.dload X119.here hx rfl (hb hby d1_21) rfl ?_
    exact kont
  have y124 : Exa Z h119 a1 "com/example/evenhand/evenhand/Scores" := (y117.wr W119)
  have y125 : Fld Z h119 a1 "com/example/evenhand/evenhand/Scores" "fs" "D" (.double (0 : UInt64)) := (((F3_.other W105 (Or.inr (slot_ne (Or.inr (hw _ (List.mem_of_getElem? (i := 21) rfl))) (Or.inr (hw _ (List.mem_of_getElem? (i := 15) rfl))) (by decide) (t := .double) (t' := .double) (by decide) (by decide)))).other W112 (Or.inr (slot_ne (Or.inr (hw _ (List.mem_of_getElem? (i := 21) rfl))) (Or.inr (hw _ (List.mem_of_getElem? (i := 17) rfl))) (by decide) (t := .double) (t' := .double) (by decide) (by decide)))).other W119 (Or.inr (slot_ne (Or.inr (hw _ (List.mem_of_getElem? (i := 21) rfl))) (Or.inr (hw _ (List.mem_of_getElem? (i := 19) rfl))) (by decide) (t := .double) (t' := .double) (by decide) (by decide))))
  obtain ⟨T126, h126, X126, e126, W126, st126⟩ := putF X119 hx hZ hown (host := "") (Or.inl (hw _ (List.mem_of_getElem? (i := 20) rfl))) Via.refl e119 y125 y124 (Or.inr ⟨(hw _ (List.mem_of_getElem? (i := 21) rfl)), rfl, hnm⟩) (hw _ (List.mem_of_getElem? (i := 1) rfl)) (ty := .double) (by decide) rfl rfl (g := (mkF m 23 #[rv a1, .val (.double d0_), .second, .val (.double d1_), .second, .val (.double d2_), .second, .val (.double d3_), .second] [(.double d3_), (.ref a1)])) rfl rfl (hb hby d1_23)
  have O127 := O120.wr W126 G5_
  have y128 : Fld Z h126 a1 "com/example/evenhand/evenhand/Scores" "fs" "D" (.double d3_) := y125.same W126
  have N126 := Fr.snoc X126 N119 G5_
  have g129 : Go p e below T126 (mkF m 26 #[rv a1, .val (.double d0_), .second, .val (.double d1_), .second, .val (.double d2_), .second, .val (.double d3_), .second] []) A0 := fun t kont => g123 t (st126 t kont)
  have K130 : Keep h0 h126 [a1] := (((((Keep.refl h0 [a1]).wr W105 (Or.inl (List.mem_of_getElem? (i := 0) rfl))).wr W112 (Or.inl (List.mem_of_getElem? (i := 0) rfl))).wr W119 (Or.inl (List.mem_of_getElem? (i := 0) rfl))).wr W126 (Or.inl (List.mem_of_getElem? (i := 0) rfl)))
  have y131 : Exa Z h126 a1 "com/example/evenhand/evenhand/Scores" := (y124.wr W126)
  have y132 : Fld Z h126 a1 "com/example/evenhand/evenhand/Scores" "assign" "D" (.double d0_) := (((y107.other W112 (Or.inr (slot_ne (Or.inr (hw _ (List.mem_of_getElem? (i := 15) rfl))) (Or.inr (hw _ (List.mem_of_getElem? (i := 17) rfl))) (by decide) (t := .double) (t' := .double) (by decide) (by decide)))).other W119 (Or.inr (slot_ne (Or.inr (hw _ (List.mem_of_getElem? (i := 15) rfl))) (Or.inr (hw _ (List.mem_of_getElem? (i := 19) rfl))) (by decide) (t := .double) (t' := .double) (by decide) (by decide)))).other W126 (Or.inr (slot_ne (Or.inr (hw _ (List.mem_of_getElem? (i := 15) rfl))) (Or.inr (hw _ (List.mem_of_getElem? (i := 21) rfl))) (by decide) (t := .double) (t' := .double) (by decide) (by decide))))
  have y133 : Fld Z h126 a1 "com/example/evenhand/evenhand/Scores" "fam" "D" (.double d1_) := ((y114.other W119 (Or.inr (slot_ne (Or.inr (hw _ (List.mem_of_getElem? (i := 17) rfl))) (Or.inr (hw _ (List.mem_of_getElem? (i := 19) rfl))) (by decide) (t := .double) (t' := .double) (by decide) (by decide)))).other W126 (Or.inr (slot_ne (Or.inr (hw _ (List.mem_of_getElem? (i := 17) rfl))) (Or.inr (hw _ (List.mem_of_getElem? (i := 21) rfl))) (by decide) (t := .double) (t' := .double) (by decide) (by decide))))
  have y134 : Fld Z h126 a1 "com/example/evenhand/evenhand/Scores" "owl" "D" (.double d2_) := (y121.other W126 (Or.inr (slot_ne (Or.inr (hw _ (List.mem_of_getElem? (i := 19) rfl))) (Or.inr (hw _ (List.mem_of_getElem? (i := 21) rfl))) (by decide) (t := .double) (t' := .double) (by decide) (by decide))))
  obtain ⟨fs, hr, hrun, hended, hW, hsame⟩ := X126.leave (v := none) (fun _ => rfl)
  refine ⟨_, _, g129 _ (X126.returnOut hx Bd.returns (hb hby d1_26) hr), hrun, hended, _, _, rfl, ?_, ⟨_, rfl⟩, hW, hsame.mono (by decide) (by decide)⟩
  show Q_scI Z a1 d0_ d1_ d2_ d3_ h0 n0 _ T126.heap _
  rw [e126]
  exact ⟨rfl, N126, K130, y131, y132, y133, y134, y128⟩
theorem d4_0 : decode prog_59_method_2_code 0 = .ok (.iconst 3, 1) := by decide +kernel
theorem d4_1 : decode prog_59_method_2_code 1 = .ok (.newarray .double, 2) := by decide +kernel
theorem d4_3 : decode prog_59_method_2_code 3 = .ok (.dup, 1) := by decide +kernel
theorem d4_4 : decode prog_59_method_2_code 4 = .ok (.iconst 0, 1) := by decide +kernel
theorem d4_5 : decode prog_59_method_2_code 5 = .ok (.aload_n 0, 1) := by decide +kernel
theorem d4_6 : decode prog_59_method_2_code 6 = .ok (.getfield 7, 3) := by decide +kernel
theorem d4_9 : decode prog_59_method_2_code 9 = .ok (.dneg, 1) := by decide +kernel
theorem d4_10 : decode prog_59_method_2_code 10 = .ok (.dastore, 1) := by decide +kernel
theorem d4_11 : decode prog_59_method_2_code 11 = .ok (.dup, 1) := by decide +kernel
theorem d4_12 : decode prog_59_method_2_code 12 = .ok (.iconst 1, 1) := by decide +kernel
theorem d4_13 : decode prog_59_method_2_code 13 = .ok (.aload_n 0, 1) := by decide +kernel
theorem d4_14 : decode prog_59_method_2_code 14 = .ok (.getfield 13, 3) := by decide +kernel
theorem d4_17 : decode prog_59_method_2_code 17 = .ok (.dneg, 1) := by decide +kernel
theorem d4_18 : decode prog_59_method_2_code 18 = .ok (.dastore, 1) := by decide +kernel
theorem d4_19 : decode prog_59_method_2_code 19 = .ok (.dup, 1) := by decide +kernel
theorem d4_20 : decode prog_59_method_2_code 20 = .ok (.iconst 2, 1) := by decide +kernel
theorem d4_21 : decode prog_59_method_2_code 21 = .ok (.aload_n 0, 1) := by decide +kernel
theorem d4_22 : decode prog_59_method_2_code 22 = .ok (.getfield 16, 3) := by decide +kernel
theorem d4_25 : decode prog_59_method_2_code 25 = .ok (.dastore, 1) := by decide +kernel
theorem d4_26 : decode prog_59_method_2_code 26 = .ok (.areturn, 1) := by decide +kernel
theorem ef_aims (m : MethodId) (x0 : Addr)  : entryFrame m #[(.ref x0)] 1 = mkF m 0 #[.val (.ref x0)] [] := by first | (simp [entryFrame, mkF, argsToLocals, Value.category]; done) | rfl
def Q_aims (Z : State) (a1 : Addr) (d0_ : UInt64) (d1_ : UInt64) (d2_ : UInt64) (h0 : Heap) (n0 : Nat) (v : Option Value) (h : Heap) (L : List Loc) : Prop := ∃ (r : Addr), ∃ (kid : ClassId), v = some (.ref r) ∧ Fr n0 L ∧ Keep h0 h [] ∧ h0.size ≤ r ∧ (Arv Z h r kid .double (3 : Int32) [(.double (FP.dneg d0_)), (.double (FP.dneg d1_)), (.double d2_)] (.double (FP.l2d 0)))
set_option maxRecDepth 65536 in
set_option maxHeartbeats 40000000 in
theorem rm_aims (l : Launch) (Z : State) (a0 : Array Value) (hw : ∀ d ∈ tables_1, d.before a0 Z = true) (ws : List Jvm.Cond) (a1 : Addr) (d0_ : UInt64) (d1_ : UInt64) (d2_ : UInt64) (h0 : Heap) (n0 : Nat) (O0 : Old Z n0 h0) (F0_ : Fld Z h0 a1 "com/example/evenhand/evenhand/Scores" "assign" "D" (.double d0_)) (F1_ : Fld Z h0 a1 "com/example/evenhand/evenhand/Scores" "fam" "D" (.double d1_)) (F2_ : Fld Z h0 a1 "com/example/evenhand/evenhand/Scores" "owl" "D" (.double d2_)) :
    MetFree l (⟨"com/example/evenhand/evenhand/Scores", "aims", "()[D"⟩ : MethodName) (head1 (Jvm.Cond.code (⟨"com/example/evenhand/evenhand/Scores", "aims", "()[D"⟩ : MethodName) prog_59_method_2_code 1 (some (.array .double)) :: ws) ({ frames := 0, cells := 1, slots := 3, locals := 0 } : Room)) (fun a U => a = #[(.ref a1)] ∧ Z.Warmed39 U.vm ∧ U.heap = h0) (fun _ _ _ _ _ => True) (fun _ U o U' => ∃ v L, o = .returned v ∧ Q_aims Z a1 d0_ d1_ d2_ h0 n0 v U'.heap L ∧ FrameEnd U o U' L ({ frames := 0, cells := 1, slots := 3, locals := 0 } : Room).cells ({ frames := 0, cells := 1, slots := 3, locals := 0 } : Room).slots) := by
  refine MetFree.of_bodySF (plainFor_of_name pn_com_example_evenhand_evenhand_Scores) hisR ?_
  intro p e s m args below meth c s₁ Bd hml0 hP hK
  obtain ⟨rfl, hZ, hh⟩ := hP
  have hx := Bd.exec
  have hby := Bd.bytes
  have hml : c.maxLocals = 1 := hml0
  have hown : s.vm.findClass "com/example/evenhand/evenhand/Scores" = some m.cls := findClass_of_methodNamed Bd.named
  have hnm := (name_of_methodNamed Bd.named Bd.method).1
  have X0 : Stand p l e ({ frames := 0, cells := 1, slots := 3, locals := 0 } : Room) s m #[(.ref a1)] below meth c s₁ [] 0 0 := Stand.of_body Bd
  have e0 : s₁.heap = h0 := by rw [← hh, Bd.state]; rfl
  have N0 := Fr.nil n0
  have g0 : Go p e below s₁ (mkF m 0 #[rv a1] []) (s₁.setTop (entryFrame m #[(.ref a1)] 1)) := fun t kont => castTop (ef_aims m a1 ) kont
  generalize s₁.setTop (entryFrame m #[(.ref a1)] 1) = A0 at g0 ⊢
  have g101 : Go p e below s₁ (mkF m 1 #[rv a1] [(.int (3 : Int32))]) A0 := by
    intro t kont
    refine g0 t ?_
    refine XS.iconst X0.here hx rfl (hb hby d4_0) ?_
    exact kont
  obtain ⟨T102, h102, k102, X102, e102, E102, A102, F102, st102⟩ := newPE X0 hx hZ (hw _ (List.mem_of_getElem? (i := 27) rfl)) e0 (g := (mkF m 1 #[rv a1] [(.int (3 : Int32))])) rfl (hb hby d4_1) rfl (by decide) (cap := 3) (by decide) (by decide) (by decide) (by decide) (ad := "[D") (by decide)
  obtain ⟨b102, gb102⟩ : ∃ z, z = h0.size := ⟨_, rfl⟩
  rw [← gb102] at A102 F102 st102
  have O103 := O0.ext E102
  have y104 : Arv Z h102 b102 k102 .double (3 : Int32) [(.double (FP.l2d 0)), (.double (FP.l2d 0)), (.double (FP.l2d 0))] (.double (FP.l2d 0)) := (Arv.newD A102 (by decide)).pad (pad_rep [] (.double (FP.l2d 0)) 3)
  have g105 : Go p e below T102 (mkF m 3 #[rv a1] [(.ref b102)]) A0 := fun t kont => g101 t (st102 t kont)
  have g106 : Go p e below T102 (mkF m 6 #[rv a1] [(.ref a1), (.int (0 : Int32)), (.ref b102), (.ref b102)]) A0 := by
    intro t kont
    refine g105 t ?_
    refine XS.dup X102.here hx rfl (hb hby d4_3) rfl rfl ?_
    refine XS.iconst X102.here hx rfl (hb hby d4_4) ?_
    refine XS.aloadN X102.here hx rfl (hb hby d4_5) rfl rfl ?_
    exact kont
  have y107 : Fld Z h102 a1 "com/example/evenhand/evenhand/Scores" "assign" "D" (.double d0_) := (F0_.ext E102)
  obtain ⟨T108, X108, e108, st108⟩ := getF X102 hx hZ hown (host := "") (Or.inl (hw _ (List.mem_of_getElem? (i := 14) rfl))) Via.refl e102 y107 (g := (mkF m 6 #[rv a1] [(.ref a1), (.int (0 : Int32)), (.ref b102), (.ref b102)])) rfl rfl (hb hby d4_6)
  have g109 : Go p e below T108 (mkF m 9 #[rv a1] [(.double d0_), (.int (0 : Int32)), (.ref b102), (.ref b102)]) A0 := fun t kont => g106 t (st108 t kont)
  have g110 : Go p e below T108 (mkF m 10 #[rv a1] [(.double (FP.dneg d0_)), (.int (0 : Int32)), (.ref b102), (.ref b102)]) A0 := by
    intro t kont
    refine g109 t ?_
    refine XS.dnegS X108.here hx rfl (hb hby d4_9) rfl rfl ?_
    exact kont
  have ge112 : n0 ≤ b102 := Nat.le_trans (own_old_le O0) (Nat.le_of_eq gb102.symm)
  have zz111 := y104
  obtain ⟨cl111, Ar111, q111, S111, M111, H111, G111⟩ := zz111
  have in111 : ¬ ((0 : Int32) < 0 ∨ cl111.slots.size ≤ ((0 : Int32)).toNatClampNeg) := inb_of S111 ⟨by decide, by decide⟩
  obtain ⟨T111, h111, X111, e111, W111, st111⟩ := stD X108 hx hZ e108 Ar111 (j := (0 : Int32)) in111 (g := (mkF m 10 #[rv a1] [(.double (FP.dneg d0_)), (.int (0 : Int32)), (.ref b102), (.ref b102)])) rfl rfl (hb hby d4_10)
  have O113 := O103.wr W111 ge112
  have y114 : Arv Z h111 b102 k102 .double (3 : Int32) [(.double (FP.dneg d0_)), (.double (FP.l2d 0)), (.double (FP.l2d 0))] (.double (FP.l2d 0)) := Arv.set Ar111 q111 S111 M111 H111 G111 rfl W111 0 rfl (Nat.le_of_ble_eq_true rfl)
  have N111 := Fr.snoc X111 N0 ge112
  have g115 : Go p e below T111 (mkF m 11 #[rv a1] [(.ref b102)]) A0 := fun t kont => g110 t (st111 t kont)
  have g116 : Go p e below T111 (mkF m 14 #[rv a1] [(.ref a1), (.int (1 : Int32)), (.ref b102), (.ref b102)]) A0 := by
    intro t kont
    refine g115 t ?_
    refine XS.dup X111.here hx rfl (hb hby d4_11) rfl rfl ?_
    refine XS.iconst X111.here hx rfl (hb hby d4_12) ?_
    refine XS.aloadN X111.here hx rfl (hb hby d4_13) rfl rfl ?_
    exact kont
  have y117 : Fld Z h111 a1 "com/example/evenhand/evenhand/Scores" "fam" "D" (.double d1_) := ((F1_.ext E102).other W111 (Or.inl (Nat.ne_of_lt (Nat.lt_of_lt_of_le F0_.lt (Nat.le_of_eq gb102.symm)))))
  obtain ⟨T118, X118, e118, st118⟩ := getF X111 hx hZ hown (host := "") (Or.inl (hw _ (List.mem_of_getElem? (i := 16) rfl))) Via.refl e111 y117 (g := (mkF m 14 #[rv a1] [(.ref a1), (.int (1 : Int32)), (.ref b102), (.ref b102)])) rfl rfl (hb hby d4_14)
  have g119 : Go p e below T118 (mkF m 17 #[rv a1] [(.double d1_), (.int (1 : Int32)), (.ref b102), (.ref b102)]) A0 := fun t kont => g116 t (st118 t kont)
  have g120 : Go p e below T118 (mkF m 18 #[rv a1] [(.double (FP.dneg d1_)), (.int (1 : Int32)), (.ref b102), (.ref b102)]) A0 := by
    intro t kont
    refine g119 t ?_
    refine XS.dnegS X118.here hx rfl (hb hby d4_17) rfl rfl ?_
    exact kont
  have zz121 := y114
  obtain ⟨cl121, Ar121, q121, S121, M121, H121, G121⟩ := zz121
  have in121 : ¬ ((1 : Int32) < 0 ∨ cl121.slots.size ≤ ((1 : Int32)).toNatClampNeg) := inb_of S121 ⟨by decide, by decide⟩
  obtain ⟨T121, h121, X121, e121, W121, st121⟩ := stD X118 hx hZ e118 Ar121 (j := (1 : Int32)) in121 (g := (mkF m 18 #[rv a1] [(.double (FP.dneg d1_)), (.int (1 : Int32)), (.ref b102), (.ref b102)])) rfl rfl (hb hby d4_18)
  have O122 := O113.wr W121 ge112
  have y123 : Arv Z h121 b102 k102 .double (3 : Int32) [(.double (FP.dneg d0_)), (.double (FP.dneg d1_)), (.double (FP.l2d 0))] (.double (FP.l2d 0)) := Arv.set Ar121 q121 S121 M121 H121 G121 rfl W121 1 rfl (Nat.le_of_ble_eq_true rfl)
  have N121 := Fr.snoc X121 N111 ge112
  have g124 : Go p e below T121 (mkF m 19 #[rv a1] [(.ref b102)]) A0 := fun t kont => g120 t (st121 t kont)
  have g125 : Go p e below T121 (mkF m 22 #[rv a1] [(.ref a1), (.int (2 : Int32)), (.ref b102), (.ref b102)]) A0 := by
    intro t kont
    refine g124 t ?_
    refine XS.dup X121.here hx rfl (hb hby d4_19) rfl rfl ?_
    refine XS.iconst X121.here hx rfl (hb hby d4_20) ?_
    refine XS.aloadN X121.here hx rfl (hb hby d4_21) rfl rfl ?_
    exact kont
  have y126 : Fld Z h121 a1 "com/example/evenhand/evenhand/Scores" "owl" "D" (.double d2_) := (((F2_.ext E102).other W111 (Or.inl (Nat.ne_of_lt (Nat.lt_of_lt_of_le F0_.lt (Nat.le_of_eq gb102.symm))))).other W121 (Or.inl (Nat.ne_of_lt (Nat.lt_of_lt_of_le F0_.lt (Nat.le_of_eq gb102.symm)))))
  obtain ⟨T127, X127, e127, st127⟩ := getF X121 hx hZ hown (host := "") (Or.inl (hw _ (List.mem_of_getElem? (i := 18) rfl))) Via.refl e121 y126 (g := (mkF m 22 #[rv a1] [(.ref a1), (.int (2 : Int32)), (.ref b102), (.ref b102)])) rfl rfl (hb hby d4_22)
  have g128 : Go p e below T127 (mkF m 25 #[rv a1] [(.double d2_), (.int (2 : Int32)), (.ref b102), (.ref b102)]) A0 := fun t kont => g125 t (st127 t kont)
  have zz129 := y123
  obtain ⟨cl129, Ar129, q129, S129, M129, H129, G129⟩ := zz129
  have in129 : ¬ ((2 : Int32) < 0 ∨ cl129.slots.size ≤ ((2 : Int32)).toNatClampNeg) := inb_of S129 ⟨by decide, by decide⟩
  obtain ⟨T129, h129, X129, e129, W129, st129⟩ := stD X127 hx hZ e127 Ar129 (j := (2 : Int32)) in129 (g := (mkF m 25 #[rv a1] [(.double d2_), (.int (2 : Int32)), (.ref b102), (.ref b102)])) rfl rfl (hb hby d4_25)
  have O130 := O122.wr W129 ge112
  have y131 : Arv Z h129 b102 k102 .double (3 : Int32) [(.double (FP.dneg d0_)), (.double (FP.dneg d1_)), (.double d2_)] (.double (FP.l2d 0)) := Arv.set Ar129 q129 S129 M129 H129 G129 rfl W129 2 rfl (Nat.le_of_ble_eq_true rfl)
  have N129 := Fr.snoc X129 N121 ge112
  have g132 : Go p e below T129 (mkF m 26 #[rv a1] [(.ref b102)]) A0 := fun t kont => g128 t (st129 t kont)
  have K133 : Keep h0 h129 [] := (((((Keep.refl h0 []).ext E102).wr W111 (Or.inr (Nat.le_of_eq gb102.symm))).wr W121 (Or.inr (Nat.le_of_eq gb102.symm))).wr W129 (Or.inr (Nat.le_of_eq gb102.symm)))
  obtain ⟨fs, hr, hrun, hended, hW, hsame⟩ := X129.leave (v := some (.ref b102)) (fun h => by rw [Bd.returns] at h; cases h)
  refine ⟨_, _, g132 _ (retOut X129 hx Bd.returns rfl (Or.inr (Or.inr (Or.inr (Or.inr ⟨rfl, rfl, rfl⟩)))) (hb hby d4_26) hr), hrun, hended, _, _, rfl, ?_, ⟨_, rfl⟩, hW, hsame.mono (by decide) (by decide)⟩
  show Q_aims Z a1 d0_ d1_ d2_ h0 n0 _ T129.heap _
  rw [e129]
  exact ⟨b102, k102, rfl, N129, K133, (Nat.le_of_eq gb102.symm), y131⟩
theorem d5_0 : decode method_2_code 0 = .ok (.aload_n 0, 1) := by decide +kernel
theorem d5_1 : decode method_2_code 1 = .ok (.arraylength, 1) := by decide +kernel
theorem d5_2 : decode method_2_code 2 = .ok (.iconst 3, 1) := by decide +kernel
theorem d5_3 : decode method_2_code 3 = .ok (.if_icmp .eq 5, 3) := by decide +kernel
theorem d5_8 : decode method_2_code 8 = .ok (.iload_n 1, 1) := by decide +kernel
theorem d5_9 : decode method_2_code 9 = .ok (.i2l, 1) := by decide +kernel
theorem d5_10 : decode method_2_code 10 = .ok (.lneg, 1) := by decide +kernel
theorem d5_11 : decode method_2_code 11 = .ok (.l2d, 1) := by decide +kernel
theorem d5_12 : decode method_2_code 12 = .ok (.dstore 4, 2) := by decide +kernel
theorem d5_14 : decode method_2_code 14 = .ok (.iload_n 2, 1) := by decide +kernel
theorem d5_15 : decode method_2_code 15 = .ok (.i2l, 1) := by decide +kernel
theorem d5_16 : decode method_2_code 16 = .ok (.lneg, 1) := by decide +kernel
theorem d5_17 : decode method_2_code 17 = .ok (.l2d, 1) := by decide +kernel
theorem d5_18 : decode method_2_code 18 = .ok (.dstore 6, 2) := by decide +kernel
theorem d5_20 : decode method_2_code 20 = .ok (.iload_n 3, 1) := by decide +kernel
theorem d5_21 : decode method_2_code 21 = .ok (.i2d, 1) := by decide +kernel
theorem d5_22 : decode method_2_code 22 = .ok (.dstore 8, 2) := by decide +kernel
theorem d5_24 : decode method_2_code 24 = .ok (.aload_n 0, 1) := by decide +kernel
theorem d5_25 : decode method_2_code 25 = .ok (.iconst 0, 1) := by decide +kernel
theorem d5_26 : decode method_2_code 26 = .ok (.daload, 1) := by decide +kernel
theorem d5_27 : decode method_2_code 27 = .ok (.dload 4, 2) := by decide +kernel
theorem d5_29 : decode method_2_code 29 = .ok (.dcmp .l, 1) := by decide +kernel
theorem d5_30 : decode method_2_code 30 = .ok (.ifCond .ne 25, 3) := by decide +kernel
theorem d5_33 : decode method_2_code 33 = .ok (.aload_n 0, 1) := by decide +kernel
theorem d5_34 : decode method_2_code 34 = .ok (.iconst 1, 1) := by decide +kernel
theorem d5_35 : decode method_2_code 35 = .ok (.daload, 1) := by decide +kernel
theorem d5_36 : decode method_2_code 36 = .ok (.dload 6, 2) := by decide +kernel
theorem d5_38 : decode method_2_code 38 = .ok (.dcmp .l, 1) := by decide +kernel
theorem d5_39 : decode method_2_code 39 = .ok (.ifCond .ne 16, 3) := by decide +kernel
theorem d5_42 : decode method_2_code 42 = .ok (.aload_n 0, 1) := by decide +kernel
theorem d5_43 : decode method_2_code 43 = .ok (.iconst 2, 1) := by decide +kernel
theorem d5_44 : decode method_2_code 44 = .ok (.daload, 1) := by decide +kernel
theorem d5_45 : decode method_2_code 45 = .ok (.dload 8, 2) := by decide +kernel
theorem d5_47 : decode method_2_code 47 = .ok (.dcmp .l, 1) := by decide +kernel
theorem d5_48 : decode method_2_code 48 = .ok (.ifCond .ne 7, 3) := by decide +kernel
theorem d5_51 : decode method_2_code 51 = .ok (.iconst 1, 1) := by decide +kernel
theorem d5_52 : decode method_2_code 52 = .ok (.goto 4, 3) := by decide +kernel
theorem d5_56 : decode method_2_code 56 = .ok (.ireturn, 1) := by decide +kernel
theorem pn_com_example_evenhand_evenhand_ScoresAimsPinLaw : plainName "com/example/evenhand/evenhand/ScoresAimsPinLaw" = true := by first | (simp [plainName, overriddenIn]; done) | decide +kernel
theorem ef_mat (m : MethodId) (x0 : Addr) (x1 : Int32) (x2 : Int32) (x3 : Int32)  : entryFrame m #[(.ref x0), (.int x1), (.int x2), (.int x3)] 10 = mkF m 0 #[.val (.ref x0), .val (.int x1), .val (.int x2), .val (.int x3), .unset, .unset, .unset, .unset, .unset, .unset] [] := by first | (simp [entryFrame, mkF, argsToLocals, Value.category]; done) | rfl
def Q_mat (Z : State) (r1 : Addr) (i1 : Int32) (i2 : Int32) (i3 : Int32) (kr : ClassId) (h0 : Heap) (n0 : Nat) (v : Option Value) (h : Heap) (L : List Loc) : Prop := v = some (.int (1 : Int32)) ∧ Fr n0 L ∧ h = h0
set_option maxRecDepth 65536 in
set_option maxHeartbeats 40000000 in
theorem rm_mat (l : Launch) (Z : State) (a0 : Array Value) (hw : ∀ d ∈ tables_1, d.before a0 Z = true) (ws : List Jvm.Cond) (r1 : Addr) (i1 : Int32) (i2 : Int32) (i3 : Int32) (kr : ClassId) (h0 : Heap) (n0 : Nat) (O0 : Old Z n0 h0) (A0_ : Arv Z h0 r1 kr .double (3 : Int32) [(.double (FP.dneg (FP.i2d i1))), (.double (FP.dneg (FP.i2d i2))), (.double (FP.i2d i3))] (.double (FP.l2d 0))) :
    MetFree l (⟨"com/example/evenhand/evenhand/ScoresAimsPinLaw", "matches", "([DIII)Z"⟩ : MethodName) (head1 (Jvm.Cond.code (⟨"com/example/evenhand/evenhand/ScoresAimsPinLaw", "matches", "([DIII)Z"⟩ : MethodName) method_2_code 10 (some .boolean) :: ws) ({ frames := 0, cells := 0, slots := 0, locals := 0 } : Room)) (fun a U => a = #[(.ref r1), (.int i1), (.int i2), (.int i3)] ∧ Z.Warmed39 U.vm ∧ U.heap = h0) (fun _ _ _ _ _ => True) (fun _ U o U' => ∃ v L, o = .returned v ∧ Q_mat Z r1 i1 i2 i3 kr h0 n0 v U'.heap L ∧ FrameEnd U o U' L ({ frames := 0, cells := 0, slots := 0, locals := 0 } : Room).cells ({ frames := 0, cells := 0, slots := 0, locals := 0 } : Room).slots) := by
  refine MetFree.of_bodySF (plainFor_of_name pn_com_example_evenhand_evenhand_ScoresAimsPinLaw) hisR ?_
  intro p e s m args below meth c s₁ Bd hml0 hP hK
  obtain ⟨rfl, hZ, hh⟩ := hP
  have hx := Bd.exec
  have hby := Bd.bytes
  have hml : c.maxLocals = 10 := hml0
  have hown : s.vm.findClass "com/example/evenhand/evenhand/ScoresAimsPinLaw" = some m.cls := findClass_of_methodNamed Bd.named
  have hnm := (name_of_methodNamed Bd.named Bd.method).1
  have X0 : Stand p l e ({ frames := 0, cells := 0, slots := 0, locals := 0 } : Room) s m #[(.ref r1), (.int i1), (.int i2), (.int i3)] below meth c s₁ [] 0 0 := Stand.of_body Bd
  have e0 : s₁.heap = h0 := by rw [← hh, Bd.state]; rfl
  have N0 := Fr.nil n0
  have g0 : Go p e below s₁ (mkF m 0 #[rv r1, iv i1, iv i2, iv i3, .unset, .unset, .unset, .unset, .unset, .unset] []) (s₁.setTop (entryFrame m #[(.ref r1), (.int i1), (.int i2), (.int i3)] 10)) := fun t kont => castTop (ef_mat m r1 i1 i2 i3 ) kont
  generalize s₁.setTop (entryFrame m #[(.ref r1), (.int i1), (.int i2), (.int i3)] 10) = A0 at g0 ⊢
  have g101 : Go p e below s₁ (mkF m 1 #[rv r1, iv i1, iv i2, iv i3, .unset, .unset, .unset, .unset, .unset, .unset] [(.ref r1)]) A0 := by
    intro t kont
    refine g0 t ?_
    refine XS.aloadN X0.here hx rfl (hb hby d5_0) rfl rfl ?_
    exact kont
  have zz102 := A0_
  obtain ⟨cl102, Ar102, -, S102, M102, -, -⟩ := zz102
  have g103 : Go p e below s₁ (mkF m 2 #[rv r1, iv i1, iv i2, iv i3, .unset, .unset, .unset, .unset, .unset, .unset] [(.int (3 : Int32))]) A0 := by
    intro t kont
    refine g101 t ?_
    refine X0.arraylength hx (by rw [e0]; exact Ar102.1) (State.isArrayOf_alike hZ.alike Ar102.2.1) (g := (mkF m 1 #[rv r1, iv i1, iv i2, iv i3, .unset, .unset, .unset, .unset, .unset, .unset] [(.ref r1)])) rfl rfl (hb hby d5_1) _ ?_
    rw [len_of S102 M102]
    exact kont
  have g104 : Go p e below s₁ (mkF m 26 #[rv r1, iv i1, iv i2, iv i3, .val (.double (FP.l2d ((-(i1.toInt64))))), .second, .val (.double (FP.l2d ((-(i2.toInt64))))), .second, .val (.double (FP.i2d i3)), .second] [(.int (0 : Int32)), (.ref r1)]) A0 := by
    intro t kont
    refine g103 t ?_
    refine XS.iconst X0.here hx rfl (hb hby d5_2) ?_
    refine XS.icmpYes X0.here hx rfl (pc0 := 3) (pc' := 8) rfl (hb hby d5_3) rfl (teq (by decide : (3 : Int32) = (3 : Int32))).1 (by decide) (by decide) ?_
    refine XS.iloadN X0.here hx rfl (hb hby d5_8) rfl ?_
    refine XS.i2l X0.here hx rfl (hb hby d5_9) rfl ?_
    refine XS.lneg X0.here hx rfl (hb hby d5_10) rfl ?_
    refine XS.l2dS X0.here hx rfl (hb hby d5_11) rfl rfl ?_
    refine XS.dstore X0.here hx rfl (hb hby d5_12) rfl (l' := #[rv r1, iv i1, iv i2, iv i3, .val (.double (FP.l2d ((-(i1.toInt64))))), .second, .unset, .unset, .unset, .unset]) rfl ?_
    refine XS.iloadN X0.here hx rfl (hb hby d5_14) rfl ?_
    refine XS.i2l X0.here hx rfl (hb hby d5_15) rfl ?_
    refine XS.lneg X0.here hx rfl (hb hby d5_16) rfl ?_
    refine XS.l2dS X0.here hx rfl (hb hby d5_17) rfl rfl ?_
    refine XS.dstore X0.here hx rfl (hb hby d5_18) rfl (l' := #[rv r1, iv i1, iv i2, iv i3, .val (.double (FP.l2d ((-(i1.toInt64))))), .second, .val (.double (FP.l2d ((-(i2.toInt64))))), .second, .unset, .unset]) rfl ?_
    refine XS.iloadN X0.here hx rfl (hb hby d5_20) rfl ?_
    refine XS.i2dS X0.here hx rfl (hb hby d5_21) rfl rfl ?_
    refine XS.dstore X0.here hx rfl (hb hby d5_22) rfl (l' := #[rv r1, iv i1, iv i2, iv i3, .val (.double (FP.l2d ((-(i1.toInt64))))), .second, .val (.double (FP.l2d ((-(i2.toInt64))))), .second, .val (.double (FP.i2d i3)), .second]) rfl ?_
    refine XS.aloadN X0.here hx rfl (hb hby d5_24) rfl rfl ?_
    refine XS.iconst X0.here hx rfl (hb hby d5_25) ?_
    exact kont
  have zz105 := A0_
  obtain ⟨cl105, Ar105, q105, S105, M105, H105, G105⟩ := zz105
  have in105 : ¬ ((0 : Int32) < 0 ∨ cl105.slots.size ≤ ((0 : Int32)).toNatClampNeg) := inb_of S105 ⟨by decide, by decide⟩
  have at105 : cl105.slots[((0 : Int32)).toNatClampNeg]? = some (.double (FP.dneg (FP.i2d i1))) := Has.at H105 in105 rfl
  have g106 : Go p e below s₁ (mkF m 27 #[rv r1, iv i1, iv i2, iv i3, .val (.double (FP.l2d ((-(i1.toInt64))))), .second, .val (.double (FP.l2d ((-(i2.toInt64))))), .second, .val (.double (FP.i2d i3)), .second] [(.double (FP.dneg (FP.i2d i1)))]) A0 := fun t kont => g104 t (X0.daload hx (j := (0 : Int32)) (v := (.double (FP.dneg (FP.i2d i1)))) (by rw [e0]; exact Ar105.1) (State.isArrayOf_alike hZ.alike Ar105.2.1) Ar105.2.2 in105 at105 (g := (mkF m 26 #[rv r1, iv i1, iv i2, iv i3, .val (.double (FP.l2d ((-(i1.toInt64))))), .second, .val (.double (FP.l2d ((-(i2.toInt64))))), .second, .val (.double (FP.i2d i3)), .second] [(.int (0 : Int32)), (.ref r1)])) rfl rfl (hb hby d5_26) t kont)
  have g107 : Go p e below s₁ (mkF m 35 #[rv r1, iv i1, iv i2, iv i3, .val (.double (FP.l2d ((-(i1.toInt64))))), .second, .val (.double (FP.l2d ((-(i2.toInt64))))), .second, .val (.double (FP.i2d i3)), .second] [(.int (1 : Int32)), (.ref r1)]) A0 := by
    intro t kont
    refine g106 t ?_
    refine XS.dload X0.here hx rfl (hb hby d5_27) rfl ?_
    refine XS.dcmpS X0.here hx rfl (hb hby d5_29) rfl (v := (0 : Int32)) (own_neg i1) ?_
    refine XS.ifNo X0.here hx rfl (hb hby d5_30) rfl ((if0 _ _).trans (teq (by decide : (0 : Int32) = (0 : Int32))).2) ?_
    refine XS.aloadN X0.here hx rfl (hb hby d5_33) rfl rfl ?_
    refine XS.iconst X0.here hx rfl (hb hby d5_34) ?_
    exact kont
  have zz108 := A0_
  obtain ⟨cl108, Ar108, q108, S108, M108, H108, G108⟩ := zz108
  have in108 : ¬ ((1 : Int32) < 0 ∨ cl108.slots.size ≤ ((1 : Int32)).toNatClampNeg) := inb_of S108 ⟨by decide, by decide⟩
  have at108 : cl108.slots[((1 : Int32)).toNatClampNeg]? = some (.double (FP.dneg (FP.i2d i2))) := Has.at H108 in108 rfl
  have g109 : Go p e below s₁ (mkF m 36 #[rv r1, iv i1, iv i2, iv i3, .val (.double (FP.l2d ((-(i1.toInt64))))), .second, .val (.double (FP.l2d ((-(i2.toInt64))))), .second, .val (.double (FP.i2d i3)), .second] [(.double (FP.dneg (FP.i2d i2)))]) A0 := fun t kont => g107 t (X0.daload hx (j := (1 : Int32)) (v := (.double (FP.dneg (FP.i2d i2)))) (by rw [e0]; exact Ar108.1) (State.isArrayOf_alike hZ.alike Ar108.2.1) Ar108.2.2 in108 at108 (g := (mkF m 35 #[rv r1, iv i1, iv i2, iv i3, .val (.double (FP.l2d ((-(i1.toInt64))))), .second, .val (.double (FP.l2d ((-(i2.toInt64))))), .second, .val (.double (FP.i2d i3)), .second] [(.int (1 : Int32)), (.ref r1)])) rfl rfl (hb hby d5_35) t kont)
  have g110 : Go p e below s₁ (mkF m 44 #[rv r1, iv i1, iv i2, iv i3, .val (.double (FP.l2d ((-(i1.toInt64))))), .second, .val (.double (FP.l2d ((-(i2.toInt64))))), .second, .val (.double (FP.i2d i3)), .second] [(.int (2 : Int32)), (.ref r1)]) A0 := by
    intro t kont
    refine g109 t ?_
    refine XS.dload X0.here hx rfl (hb hby d5_36) rfl ?_
    refine XS.dcmpS X0.here hx rfl (hb hby d5_38) rfl (v := (0 : Int32)) (own_neg i2) ?_
    refine XS.ifNo X0.here hx rfl (hb hby d5_39) rfl ((if0 _ _).trans (teq (by decide : (0 : Int32) = (0 : Int32))).2) ?_
    refine XS.aloadN X0.here hx rfl (hb hby d5_42) rfl rfl ?_
    refine XS.iconst X0.here hx rfl (hb hby d5_43) ?_
    exact kont
  have zz111 := A0_
  obtain ⟨cl111, Ar111, q111, S111, M111, H111, G111⟩ := zz111
  have in111 : ¬ ((2 : Int32) < 0 ∨ cl111.slots.size ≤ ((2 : Int32)).toNatClampNeg) := inb_of S111 ⟨by decide, by decide⟩
  have at111 : cl111.slots[((2 : Int32)).toNatClampNeg]? = some (.double (FP.i2d i3)) := Has.at H111 in111 rfl
  have g112 : Go p e below s₁ (mkF m 45 #[rv r1, iv i1, iv i2, iv i3, .val (.double (FP.l2d ((-(i1.toInt64))))), .second, .val (.double (FP.l2d ((-(i2.toInt64))))), .second, .val (.double (FP.i2d i3)), .second] [(.double (FP.i2d i3))]) A0 := fun t kont => g110 t (X0.daload hx (j := (2 : Int32)) (v := (.double (FP.i2d i3))) (by rw [e0]; exact Ar111.1) (State.isArrayOf_alike hZ.alike Ar111.2.1) Ar111.2.2 in111 at111 (g := (mkF m 44 #[rv r1, iv i1, iv i2, iv i3, .val (.double (FP.l2d ((-(i1.toInt64))))), .second, .val (.double (FP.l2d ((-(i2.toInt64))))), .second, .val (.double (FP.i2d i3)), .second] [(.int (2 : Int32)), (.ref r1)])) rfl rfl (hb hby d5_44) t kont)
  have g113 : Go p e below s₁ (mkF m 56 #[rv r1, iv i1, iv i2, iv i3, .val (.double (FP.l2d ((-(i1.toInt64))))), .second, .val (.double (FP.l2d ((-(i2.toInt64))))), .second, .val (.double (FP.i2d i3)), .second] [(.int (1 : Int32))]) A0 := by
    intro t kont
    refine g112 t ?_
    refine XS.dload X0.here hx rfl (hb hby d5_45) rfl ?_
    refine XS.dcmpS X0.here hx rfl (hb hby d5_47) rfl (v := (0 : Int32)) (dcmpV_self (nn_w (i2d_w i3)) _) ?_
    refine XS.ifNo X0.here hx rfl (hb hby d5_48) rfl ((if0 _ _).trans (teq (by decide : (0 : Int32) = (0 : Int32))).2) ?_
    refine XS.iconst X0.here hx rfl (hb hby d5_51) ?_
    refine XS.goto X0.here hx rfl (pc0 := 52) (pc' := 56) rfl (hb hby d5_52) (by decide) (by decide) ?_
    exact kont
  obtain ⟨fs, hr, hrun, hended, hW, hsame⟩ := X0.leave (v := some (.int (1 : Int32))) (fun h => by rw [Bd.returns] at h; cases h)
  refine ⟨_, _, g113 _ (retN X0 hx (t := .boolean) Bd.returns (by simp) (hb hby d5_56) hr), hrun, hended, _, _, rfl, ?_, ⟨_, rfl⟩, hW, hsame.mono (by decide) (by decide)⟩
  show Q_mat Z r1 i1 i2 i3 kr h0 n0 _ s₁.heap _
  rw [e0]
  exact ⟨rfl, N0, rfl⟩
theorem d6_0 : decode prog_59_method_9_code 0 = .ok (.aload_n 0, 1) := by decide +kernel
theorem d6_1 : decode prog_59_method_9_code 1 = .ok (.getfield 7, 3) := by decide +kernel
theorem d6_4 : decode prog_59_method_9_code 4 = .ok (.dreturn, 1) := by decide +kernel
theorem ef_get_assign (m : MethodId) (x0 : Addr)  : entryFrame m #[(.ref x0)] 1 = mkF m 0 #[.val (.ref x0)] [] := by first | (simp [entryFrame, mkF, argsToLocals, Value.category]; done) | rfl
def Q_get_assign (Z : State) (a1 : Addr) (d0_ : UInt64) (h0 : Heap) (n0 : Nat) (v : Option Value) (h : Heap) (L : List Loc) : Prop := v = some (.double d0_) ∧ Fr n0 L ∧ h = h0
set_option maxRecDepth 65536 in
set_option maxHeartbeats 40000000 in
theorem rm_get_assign (l : Launch) (Z : State) (a0 : Array Value) (hw : ∀ d ∈ tables_1, d.before a0 Z = true) (ws : List Jvm.Cond) (a1 : Addr) (d0_ : UInt64) (h0 : Heap) (n0 : Nat) (O0 : Old Z n0 h0) (F0_ : Fld Z h0 a1 "com/example/evenhand/evenhand/Scores" "assign" "D" (.double d0_)) :
    MetFree l (⟨"com/example/evenhand/evenhand/Scores", "assign", "()D"⟩ : MethodName) (head1 (Jvm.Cond.code (⟨"com/example/evenhand/evenhand/Scores", "assign", "()D"⟩ : MethodName) prog_59_method_9_code 1 (some .double) :: ws) ({ frames := 0, cells := 0, slots := 0, locals := 0 } : Room)) (fun a U => a = #[(.ref a1)] ∧ Z.Warmed39 U.vm ∧ U.heap = h0) (fun _ _ _ _ _ => True) (fun _ U o U' => ∃ v L, o = .returned v ∧ Q_get_assign Z a1 d0_ h0 n0 v U'.heap L ∧ FrameEnd U o U' L ({ frames := 0, cells := 0, slots := 0, locals := 0 } : Room).cells ({ frames := 0, cells := 0, slots := 0, locals := 0 } : Room).slots) := by
  refine MetFree.of_bodySF (plainFor_of_name pn_com_example_evenhand_evenhand_Scores) hisR ?_
  intro p e s m args below meth c s₁ Bd hml0 hP hK
  obtain ⟨rfl, hZ, hh⟩ := hP
  have hx := Bd.exec
  have hby := Bd.bytes
  have hml : c.maxLocals = 1 := hml0
  have hown : s.vm.findClass "com/example/evenhand/evenhand/Scores" = some m.cls := findClass_of_methodNamed Bd.named
  have hnm := (name_of_methodNamed Bd.named Bd.method).1
  have X0 : Stand p l e ({ frames := 0, cells := 0, slots := 0, locals := 0 } : Room) s m #[(.ref a1)] below meth c s₁ [] 0 0 := Stand.of_body Bd
  have e0 : s₁.heap = h0 := by rw [← hh, Bd.state]; rfl
  have N0 := Fr.nil n0
  have g0 : Go p e below s₁ (mkF m 0 #[rv a1] []) (s₁.setTop (entryFrame m #[(.ref a1)] 1)) := fun t kont => castTop (ef_get_assign m a1 ) kont
  generalize s₁.setTop (entryFrame m #[(.ref a1)] 1) = A0 at g0 ⊢
  have g101 : Go p e below s₁ (mkF m 1 #[rv a1] [(.ref a1)]) A0 := by
    intro t kont
    refine g0 t ?_
    refine XS.aloadN X0.here hx rfl (hb hby d6_0) rfl rfl ?_
    exact kont
  obtain ⟨T102, X102, e102, st102⟩ := getF X0 hx hZ hown (host := "") (Or.inl (hw _ (List.mem_of_getElem? (i := 14) rfl))) Via.refl e0 F0_ (g := (mkF m 1 #[rv a1] [(.ref a1)])) rfl rfl (hb hby d6_1)
  have g103 : Go p e below T102 (mkF m 4 #[rv a1] [(.double d0_)]) A0 := fun t kont => g101 t (st102 t kont)
  obtain ⟨fs, hr, hrun, hended, hW, hsame⟩ := X102.leave (v := some (.double d0_)) (fun h => by rw [Bd.returns] at h; cases h)
  refine ⟨_, _, g103 _ (retOut X102 hx Bd.returns rfl (Or.inr (Or.inr (Or.inl ⟨rfl, rfl, _, rfl⟩))) (hb hby d6_4) hr), hrun, hended, _, _, rfl, ?_, ⟨_, rfl⟩, hW, hsame.mono (by decide) (by decide)⟩
  show Q_get_assign Z a1 d0_ h0 n0 _ T102.heap _
  rw [e102]
  exact ⟨rfl, N0, rfl⟩
theorem d7_0 : decode prog_59_method_10_code 0 = .ok (.aload_n 0, 1) := by decide +kernel
theorem d7_1 : decode prog_59_method_10_code 1 = .ok (.getfield 13, 3) := by decide +kernel
theorem d7_4 : decode prog_59_method_10_code 4 = .ok (.dreturn, 1) := by decide +kernel
theorem ef_get_fam (m : MethodId) (x0 : Addr)  : entryFrame m #[(.ref x0)] 1 = mkF m 0 #[.val (.ref x0)] [] := by first | (simp [entryFrame, mkF, argsToLocals, Value.category]; done) | rfl
def Q_get_fam (Z : State) (a1 : Addr) (d1_ : UInt64) (h0 : Heap) (n0 : Nat) (v : Option Value) (h : Heap) (L : List Loc) : Prop := v = some (.double d1_) ∧ Fr n0 L ∧ h = h0
set_option maxRecDepth 65536 in
set_option maxHeartbeats 40000000 in
theorem rm_get_fam (l : Launch) (Z : State) (a0 : Array Value) (hw : ∀ d ∈ tables_1, d.before a0 Z = true) (ws : List Jvm.Cond) (a1 : Addr) (d1_ : UInt64) (h0 : Heap) (n0 : Nat) (O0 : Old Z n0 h0) (F0_ : Fld Z h0 a1 "com/example/evenhand/evenhand/Scores" "fam" "D" (.double d1_)) :
    MetFree l (⟨"com/example/evenhand/evenhand/Scores", "fam", "()D"⟩ : MethodName) (head1 (Jvm.Cond.code (⟨"com/example/evenhand/evenhand/Scores", "fam", "()D"⟩ : MethodName) prog_59_method_10_code 1 (some .double) :: ws) ({ frames := 0, cells := 0, slots := 0, locals := 0 } : Room)) (fun a U => a = #[(.ref a1)] ∧ Z.Warmed39 U.vm ∧ U.heap = h0) (fun _ _ _ _ _ => True) (fun _ U o U' => ∃ v L, o = .returned v ∧ Q_get_fam Z a1 d1_ h0 n0 v U'.heap L ∧ FrameEnd U o U' L ({ frames := 0, cells := 0, slots := 0, locals := 0 } : Room).cells ({ frames := 0, cells := 0, slots := 0, locals := 0 } : Room).slots) := by
  refine MetFree.of_bodySF (plainFor_of_name pn_com_example_evenhand_evenhand_Scores) hisR ?_
  intro p e s m args below meth c s₁ Bd hml0 hP hK
  obtain ⟨rfl, hZ, hh⟩ := hP
  have hx := Bd.exec
  have hby := Bd.bytes
  have hml : c.maxLocals = 1 := hml0
  have hown : s.vm.findClass "com/example/evenhand/evenhand/Scores" = some m.cls := findClass_of_methodNamed Bd.named
  have hnm := (name_of_methodNamed Bd.named Bd.method).1
  have X0 : Stand p l e ({ frames := 0, cells := 0, slots := 0, locals := 0 } : Room) s m #[(.ref a1)] below meth c s₁ [] 0 0 := Stand.of_body Bd
  have e0 : s₁.heap = h0 := by rw [← hh, Bd.state]; rfl
  have N0 := Fr.nil n0
  have g0 : Go p e below s₁ (mkF m 0 #[rv a1] []) (s₁.setTop (entryFrame m #[(.ref a1)] 1)) := fun t kont => castTop (ef_get_fam m a1 ) kont
  generalize s₁.setTop (entryFrame m #[(.ref a1)] 1) = A0 at g0 ⊢
  have g101 : Go p e below s₁ (mkF m 1 #[rv a1] [(.ref a1)]) A0 := by
    intro t kont
    refine g0 t ?_
    refine XS.aloadN X0.here hx rfl (hb hby d7_0) rfl rfl ?_
    exact kont
  obtain ⟨T102, X102, e102, st102⟩ := getF X0 hx hZ hown (host := "") (Or.inl (hw _ (List.mem_of_getElem? (i := 16) rfl))) Via.refl e0 F0_ (g := (mkF m 1 #[rv a1] [(.ref a1)])) rfl rfl (hb hby d7_1)
  have g103 : Go p e below T102 (mkF m 4 #[rv a1] [(.double d1_)]) A0 := fun t kont => g101 t (st102 t kont)
  obtain ⟨fs, hr, hrun, hended, hW, hsame⟩ := X102.leave (v := some (.double d1_)) (fun h => by rw [Bd.returns] at h; cases h)
  refine ⟨_, _, g103 _ (retOut X102 hx Bd.returns rfl (Or.inr (Or.inr (Or.inl ⟨rfl, rfl, _, rfl⟩))) (hb hby d7_4) hr), hrun, hended, _, _, rfl, ?_, ⟨_, rfl⟩, hW, hsame.mono (by decide) (by decide)⟩
  show Q_get_fam Z a1 d1_ h0 n0 _ T102.heap _
  rw [e102]
  exact ⟨rfl, N0, rfl⟩
theorem d8_0 : decode prog_59_method_11_code 0 = .ok (.aload_n 0, 1) := by decide +kernel
theorem d8_1 : decode prog_59_method_11_code 1 = .ok (.getfield 16, 3) := by decide +kernel
theorem d8_4 : decode prog_59_method_11_code 4 = .ok (.dreturn, 1) := by decide +kernel
theorem ef_get_owl (m : MethodId) (x0 : Addr)  : entryFrame m #[(.ref x0)] 1 = mkF m 0 #[.val (.ref x0)] [] := by first | (simp [entryFrame, mkF, argsToLocals, Value.category]; done) | rfl
def Q_get_owl (Z : State) (a1 : Addr) (d2_ : UInt64) (h0 : Heap) (n0 : Nat) (v : Option Value) (h : Heap) (L : List Loc) : Prop := v = some (.double d2_) ∧ Fr n0 L ∧ h = h0
set_option maxRecDepth 65536 in
set_option maxHeartbeats 40000000 in
theorem rm_get_owl (l : Launch) (Z : State) (a0 : Array Value) (hw : ∀ d ∈ tables_1, d.before a0 Z = true) (ws : List Jvm.Cond) (a1 : Addr) (d2_ : UInt64) (h0 : Heap) (n0 : Nat) (O0 : Old Z n0 h0) (F0_ : Fld Z h0 a1 "com/example/evenhand/evenhand/Scores" "owl" "D" (.double d2_)) :
    MetFree l (⟨"com/example/evenhand/evenhand/Scores", "owl", "()D"⟩ : MethodName) (head1 (Jvm.Cond.code (⟨"com/example/evenhand/evenhand/Scores", "owl", "()D"⟩ : MethodName) prog_59_method_11_code 1 (some .double) :: ws) ({ frames := 0, cells := 0, slots := 0, locals := 0 } : Room)) (fun a U => a = #[(.ref a1)] ∧ Z.Warmed39 U.vm ∧ U.heap = h0) (fun _ _ _ _ _ => True) (fun _ U o U' => ∃ v L, o = .returned v ∧ Q_get_owl Z a1 d2_ h0 n0 v U'.heap L ∧ FrameEnd U o U' L ({ frames := 0, cells := 0, slots := 0, locals := 0 } : Room).cells ({ frames := 0, cells := 0, slots := 0, locals := 0 } : Room).slots) := by
  refine MetFree.of_bodySF (plainFor_of_name pn_com_example_evenhand_evenhand_Scores) hisR ?_
  intro p e s m args below meth c s₁ Bd hml0 hP hK
  obtain ⟨rfl, hZ, hh⟩ := hP
  have hx := Bd.exec
  have hby := Bd.bytes
  have hml : c.maxLocals = 1 := hml0
  have hown : s.vm.findClass "com/example/evenhand/evenhand/Scores" = some m.cls := findClass_of_methodNamed Bd.named
  have hnm := (name_of_methodNamed Bd.named Bd.method).1
  have X0 : Stand p l e ({ frames := 0, cells := 0, slots := 0, locals := 0 } : Room) s m #[(.ref a1)] below meth c s₁ [] 0 0 := Stand.of_body Bd
  have e0 : s₁.heap = h0 := by rw [← hh, Bd.state]; rfl
  have N0 := Fr.nil n0
  have g0 : Go p e below s₁ (mkF m 0 #[rv a1] []) (s₁.setTop (entryFrame m #[(.ref a1)] 1)) := fun t kont => castTop (ef_get_owl m a1 ) kont
  generalize s₁.setTop (entryFrame m #[(.ref a1)] 1) = A0 at g0 ⊢
  have g101 : Go p e below s₁ (mkF m 1 #[rv a1] [(.ref a1)]) A0 := by
    intro t kont
    refine g0 t ?_
    refine XS.aloadN X0.here hx rfl (hb hby d8_0) rfl rfl ?_
    exact kont
  obtain ⟨T102, X102, e102, st102⟩ := getF X0 hx hZ hown (host := "") (Or.inl (hw _ (List.mem_of_getElem? (i := 18) rfl))) Via.refl e0 F0_ (g := (mkF m 1 #[rv a1] [(.ref a1)])) rfl rfl (hb hby d8_1)
  have g103 : Go p e below T102 (mkF m 4 #[rv a1] [(.double d2_)]) A0 := fun t kont => g101 t (st102 t kont)
  obtain ⟨fs, hr, hrun, hended, hW, hsame⟩ := X102.leave (v := some (.double d2_)) (fun h => by rw [Bd.returns] at h; cases h)
  refine ⟨_, _, g103 _ (retOut X102 hx Bd.returns rfl (Or.inr (Or.inr (Or.inl ⟨rfl, rfl, _, rfl⟩))) (hb hby d8_4) hr), hrun, hended, _, _, rfl, ?_, ⟨_, rfl⟩, hW, hsame.mono (by decide) (by decide)⟩
  show Q_get_owl Z a1 d2_ h0 n0 _ T102.heap _
  rw [e102]
  exact ⟨rfl, N0, rfl⟩
theorem d9_0 : decode prog_59_method_12_code 0 = .ok (.aload_n 0, 1) := by decide +kernel
theorem d9_1 : decode prog_59_method_12_code 1 = .ok (.getfield 19, 3) := by decide +kernel
theorem d9_4 : decode prog_59_method_12_code 4 = .ok (.dreturn, 1) := by decide +kernel
theorem ef_get_fs (m : MethodId) (x0 : Addr)  : entryFrame m #[(.ref x0)] 1 = mkF m 0 #[.val (.ref x0)] [] := by first | (simp [entryFrame, mkF, argsToLocals, Value.category]; done) | rfl
def Q_get_fs (Z : State) (a1 : Addr) (d3_ : UInt64) (h0 : Heap) (n0 : Nat) (v : Option Value) (h : Heap) (L : List Loc) : Prop := v = some (.double d3_) ∧ Fr n0 L ∧ h = h0
set_option maxRecDepth 65536 in
set_option maxHeartbeats 40000000 in
theorem rm_get_fs (l : Launch) (Z : State) (a0 : Array Value) (hw : ∀ d ∈ tables_1, d.before a0 Z = true) (ws : List Jvm.Cond) (a1 : Addr) (d3_ : UInt64) (h0 : Heap) (n0 : Nat) (O0 : Old Z n0 h0) (F0_ : Fld Z h0 a1 "com/example/evenhand/evenhand/Scores" "fs" "D" (.double d3_)) :
    MetFree l (⟨"com/example/evenhand/evenhand/Scores", "fs", "()D"⟩ : MethodName) (head1 (Jvm.Cond.code (⟨"com/example/evenhand/evenhand/Scores", "fs", "()D"⟩ : MethodName) prog_59_method_12_code 1 (some .double) :: ws) ({ frames := 0, cells := 0, slots := 0, locals := 0 } : Room)) (fun a U => a = #[(.ref a1)] ∧ Z.Warmed39 U.vm ∧ U.heap = h0) (fun _ _ _ _ _ => True) (fun _ U o U' => ∃ v L, o = .returned v ∧ Q_get_fs Z a1 d3_ h0 n0 v U'.heap L ∧ FrameEnd U o U' L ({ frames := 0, cells := 0, slots := 0, locals := 0 } : Room).cells ({ frames := 0, cells := 0, slots := 0, locals := 0 } : Room).slots) := by
  refine MetFree.of_bodySF (plainFor_of_name pn_com_example_evenhand_evenhand_Scores) hisR ?_
  intro p e s m args below meth c s₁ Bd hml0 hP hK
  obtain ⟨rfl, hZ, hh⟩ := hP
  have hx := Bd.exec
  have hby := Bd.bytes
  have hml : c.maxLocals = 1 := hml0
  have hown : s.vm.findClass "com/example/evenhand/evenhand/Scores" = some m.cls := findClass_of_methodNamed Bd.named
  have hnm := (name_of_methodNamed Bd.named Bd.method).1
  have X0 : Stand p l e ({ frames := 0, cells := 0, slots := 0, locals := 0 } : Room) s m #[(.ref a1)] below meth c s₁ [] 0 0 := Stand.of_body Bd
  have e0 : s₁.heap = h0 := by rw [← hh, Bd.state]; rfl
  have N0 := Fr.nil n0
  have g0 : Go p e below s₁ (mkF m 0 #[rv a1] []) (s₁.setTop (entryFrame m #[(.ref a1)] 1)) := fun t kont => castTop (ef_get_fs m a1 ) kont
  generalize s₁.setTop (entryFrame m #[(.ref a1)] 1) = A0 at g0 ⊢
  have g101 : Go p e below s₁ (mkF m 1 #[rv a1] [(.ref a1)]) A0 := by
    intro t kont
    refine g0 t ?_
    refine XS.aloadN X0.here hx rfl (hb hby d9_0) rfl rfl ?_
    exact kont
  obtain ⟨T102, X102, e102, st102⟩ := getF X0 hx hZ hown (host := "") (Or.inl (hw _ (List.mem_of_getElem? (i := 20) rfl))) Via.refl e0 F0_ (g := (mkF m 1 #[rv a1] [(.ref a1)])) rfl rfl (hb hby d9_1)
  have g103 : Go p e below T102 (mkF m 4 #[rv a1] [(.double d3_)]) A0 := fun t kont => g101 t (st102 t kont)
  obtain ⟨fs, hr, hrun, hended, hW, hsame⟩ := X102.leave (v := some (.double d3_)) (fun h => by rw [Bd.returns] at h; cases h)
  refine ⟨_, _, g103 _ (retOut X102 hx Bd.returns rfl (Or.inr (Or.inr (Or.inl ⟨rfl, rfl, _, rfl⟩))) (hb hby d9_4) hr), hrun, hended, _, _, rfl, ?_, ⟨_, rfl⟩, hW, hsame.mono (by decide) (by decide)⟩
  show Q_get_fs Z a1 d3_ h0 n0 _ T102.heap _
  rw [e102]
  exact ⟨rfl, N0, rfl⟩
theorem pd_1 : parseMethodDescriptor "(DDDD)V" = some ⟨[.double, .double, .double, .double], none⟩ := by decide +kernel
theorem pd_2 : parseMethodDescriptor "()[D" = some ⟨[], some (.array .double)⟩ := by decide +kernel
theorem pd_3 : parseMethodDescriptor "([DIII)Z" = some ⟨[(.array .double), .int, .int, .int], some .boolean⟩ := by decide +kernel
theorem pd_4 : parseMethodDescriptor "()D" = some ⟨[], some .double⟩ := by decide +kernel
theorem ef_law (m : MethodId) (x0 : Int32) (x1 : Int32) (x2 : Int32) (x3 : Int32)  : entryFrame m #[(.int x0), (.int x1), (.int x2), (.int x3)] maxLocals = mkF m 0 #[.val (.int x0), .val (.int x1), .val (.int x2), .val (.int x3), .unset, .unset, .unset, .unset, .unset, .unset, .unset, .unset, .unset, .unset, .unset, .unset] [] := by first | (simp [entryFrame, mkF, argsToLocals, Value.category, maxLocals]; done) | rfl
def Q_law (Z : State) (p0 : Int32) (p1 : Int32) (p2 : Int32) (p3 : Int32) (h0 : Heap) (n0 : Nat) (v : Option Value) (h : Heap) (L : List Loc) : Prop := v = some (.int (1 : Int32)) ∧ Fr n0 L
set_option maxRecDepth 65536 in
set_option maxHeartbeats 40000000 in
theorem rm_law (l : Launch) (Z : State) (a0 : Array Value) (hw : ∀ d ∈ tables_1, d.before a0 Z = true) (ws : List Jvm.Cond) (p0 : Int32) (p1 : Int32) (p2 : Int32) (p3 : Int32) (h0 : Heap) (n0 : Nat) (O0 : Old Z n0 h0)  :
    MetFree l x (head1 (Jvm.Cond.code x code maxLocals ret :: ws) room_1) (fun a U => a = #[(.int p0), (.int p1), (.int p2), (.int p3)] ∧ Z.Warmed39 U.vm ∧ U.heap = h0) (fun _ _ _ _ _ => True) (fun _ U o U' => ∃ v L, o = .returned v ∧ Q_law Z p0 p1 p2 p3 h0 n0 v U'.heap L ∧ FrameEnd U o U' L room_1.cells room_1.slots) := by
  refine MetFree.of_bodySF (plainFor_of_name pn_com_example_evenhand_evenhand_ScoresAimsPinLaw) hisR ?_
  intro p e s m args below meth c s₁ Bd hml0 hP hK
  obtain ⟨rfl, hZ, hh⟩ := hP
  have hx := Bd.exec
  have hby := Bd.bytes
  have hml : c.maxLocals = 16 := hml0
  have hown : s.vm.findClass "com/example/evenhand/evenhand/ScoresAimsPinLaw" = some m.cls := findClass_of_methodNamed Bd.named
  have hnm := (name_of_methodNamed Bd.named Bd.method).1
  have X0 : Stand p l e room_1 s m #[(.int p0), (.int p1), (.int p2), (.int p3)] below meth c s₁ [] 0 0 := Stand.of_body Bd
  have e0 : s₁.heap = h0 := by rw [← hh, Bd.state]; rfl
  have N0 := Fr.nil n0
  have g0 : Go p e below s₁ (mkF m 0 #[iv p0, iv p1, iv p2, iv p3, .unset, .unset, .unset, .unset, .unset, .unset, .unset, .unset, .unset, .unset, .unset, .unset] []) (s₁.setTop (entryFrame m #[(.int p0), (.int p1), (.int p2), (.int p3)] maxLocals)) := fun t kont => castTop (ef_law m p0 p1 p2 p3 ) kont
  generalize s₁.setTop (entryFrame m #[(.int p0), (.int p1), (.int p2), (.int p3)] maxLocals) = A0 at g0 ⊢
  have g101 : Go p e below s₁ (mkF m 16 #[iv p0, iv p1, iv p2, iv p3, .val (.double (FP.i2d p0)), .second, .val (.double (FP.i2d p1)), .second, .val (.double (FP.i2d p2)), .second, .val (.double (FP.i2d p3)), .second, .unset, .unset, .unset, .unset] []) A0 := by
    intro t kont
    refine g0 t ?_
    refine XS.iloadN X0.here hx rfl (hb hby at_0) rfl ?_
    refine XS.i2dS X0.here hx rfl (hb hby at_1) rfl rfl ?_
    refine XS.dstore X0.here hx rfl (hb hby at_2) rfl (l' := #[iv p0, iv p1, iv p2, iv p3, .val (.double (FP.i2d p0)), .second, .unset, .unset, .unset, .unset, .unset, .unset, .unset, .unset, .unset, .unset]) rfl ?_
    refine XS.iloadN X0.here hx rfl (hb hby at_4) rfl ?_
    refine XS.i2dS X0.here hx rfl (hb hby at_5) rfl rfl ?_
    refine XS.dstore X0.here hx rfl (hb hby at_6) rfl (l' := #[iv p0, iv p1, iv p2, iv p3, .val (.double (FP.i2d p0)), .second, .val (.double (FP.i2d p1)), .second, .unset, .unset, .unset, .unset, .unset, .unset, .unset, .unset]) rfl ?_
    refine XS.iloadN X0.here hx rfl (hb hby at_8) rfl ?_
    refine XS.i2dS X0.here hx rfl (hb hby at_9) rfl rfl ?_
    refine XS.dstore X0.here hx rfl (hb hby at_10) rfl (l' := #[iv p0, iv p1, iv p2, iv p3, .val (.double (FP.i2d p0)), .second, .val (.double (FP.i2d p1)), .second, .val (.double (FP.i2d p2)), .second, .unset, .unset, .unset, .unset, .unset, .unset]) rfl ?_
    refine XS.iloadN X0.here hx rfl (hb hby at_12) rfl ?_
    refine XS.i2dS X0.here hx rfl (hb hby at_13) rfl rfl ?_
    refine XS.dstore X0.here hx rfl (hb hby at_14) rfl (l' := #[iv p0, iv p1, iv p2, iv p3, .val (.double (FP.i2d p0)), .second, .val (.double (FP.i2d p1)), .second, .val (.double (FP.i2d p2)), .second, .val (.double (FP.i2d p3)), .second, .unset, .unset, .unset, .unset]) rfl ?_
    exact kont
  obtain ⟨T102, h102, X102, e102, E102, A102, D102, -, st102⟩ := newO X0 hx hZ hown (hw _ (List.mem_of_getElem? (i := 0) rfl)) (hw _ (List.mem_of_getElem? (i := 1) rfl)) (hw _ (List.mem_of_getElem? (i := 2) rfl)) e0 (g := (mkF m 16 #[iv p0, iv p1, iv p2, iv p3, .val (.double (FP.i2d p0)), .second, .val (.double (FP.i2d p1)), .second, .val (.double (FP.i2d p2)), .second, .val (.double (FP.i2d p3)), .second, .unset, .unset, .unset, .unset] [])) rfl (hb hby at_16) (by decide) (by decide)
  obtain ⟨b102, gb102⟩ : ∃ z, z = h0.size := ⟨_, rfl⟩
  rw [← gb102] at A102 D102 st102
  have O103 := O0.ext E102
  have y104 : Fld Z h102 b102 "com/example/evenhand/evenhand/Scores" "assign" "D" (.double (0 : UInt64)) := D102 (Or.inr (hw _ (List.mem_of_getElem? (i := 15) rfl))) (ty := .double) (by decide)
  have y105 : Fld Z h102 b102 "com/example/evenhand/evenhand/Scores" "fam" "D" (.double (0 : UInt64)) := D102 (Or.inr (hw _ (List.mem_of_getElem? (i := 17) rfl))) (ty := .double) (by decide)
  have y106 : Fld Z h102 b102 "com/example/evenhand/evenhand/Scores" "owl" "D" (.double (0 : UInt64)) := D102 (Or.inr (hw _ (List.mem_of_getElem? (i := 19) rfl))) (ty := .double) (by decide)
  have y107 : Fld Z h102 b102 "com/example/evenhand/evenhand/Scores" "fs" "D" (.double (0 : UInt64)) := D102 (Or.inr (hw _ (List.mem_of_getElem? (i := 21) rfl))) (ty := .double) (by decide)
  have g108 : Go p e below T102 (mkF m 19 #[iv p0, iv p1, iv p2, iv p3, .val (.double (FP.i2d p0)), .second, .val (.double (FP.i2d p1)), .second, .val (.double (FP.i2d p2)), .second, .val (.double (FP.i2d p3)), .second, .unset, .unset, .unset, .unset] [(.ref b102)]) A0 := fun t kont => g101 t (st102 t kont)
  have g109 : Go p e below T102 (mkF m 28 #[iv p0, iv p1, iv p2, iv p3, .val (.double (FP.i2d p0)), .second, .val (.double (FP.i2d p1)), .second, .val (.double (FP.i2d p2)), .second, .val (.double (FP.i2d p3)), .second, .unset, .unset, .unset, .unset] [(.double (FP.i2d p3)), (.double (FP.i2d p2)), (.double (FP.i2d p1)), (.double (FP.i2d p0)), (.ref b102), (.ref b102)]) A0 := by
    intro t kont
    refine g108 t ?_
    refine XS.dup X102.here hx rfl (hb hby at_19) rfl rfl ?_
    refine XS.dload X102.here hx rfl (hb hby at_20) rfl ?_
    refine XS.dload X102.here hx rfl (hb hby at_22) rfl ?_
    refine XS.dload X102.here hx rfl (hb hby at_24) rfl ?_
    refine XS.dload X102.here hx rfl (hb hby at_26) rfl ?_
    exact kont
  have ge111 : n0 ≤ b102 := Nat.le_trans (own_old_le O0) (Nat.le_of_eq gb102.symm)
  obtain ⟨_, _, ⟨T110, L110, k110, n110⟩, -, X110, ⟨Lc110, hQ110, l110, y110, z110⟩, st110⟩ := X102.specialBack hx (y := (⟨"com/example/evenhand/evenhand/Scores", "<init>", "(DDDD)V"⟩ : MethodName)) rfl hown (mvT hZ (hw _ (List.mem_of_getElem? (i := 3) rfl))) (mvT hZ (hw _ (List.mem_of_getElem? (i := 4) rfl))) (mvT hZ (hw _ (List.mem_of_getElem? (i := 5) rfl))) (by decide) (backOf (W := 1) (rm_scI l Z a0 hw [] b102 (FP.i2d p0) (FP.i2d p1) (FP.i2d p2) (FP.i2d p3) h102 n0 O103 y104 y105 y106 y107 A102 ge111) hZ (hw _ (List.mem_of_getElem? (i := 5) rfl)) (hw _ (List.mem_of_getElem? (i := 2) rfl)) (by decide) (by decide)) (g := (mkF m 28 #[iv p0, iv p1, iv p2, iv p3, .val (.double (FP.i2d p0)), .second, .val (.double (FP.i2d p1)), .second, .val (.double (FP.i2d p2)), .second, .val (.double (FP.i2d p3)), .second, .unset, .unset, .unset, .unset] [(.double (FP.i2d p3)), (.double (FP.i2d p2)), (.double (FP.i2d p1)), (.double (FP.i2d p0)), (.ref b102), (.ref b102)])) rfl (by rw [hml]; rfl) (Steps.refl _) (a := b102) (argsL := [(.double (FP.i2d p0)), (.double (FP.i2d p1)), (.double (FP.i2d p2)), (.double (FP.i2d p3))]) (rest := [(.ref b102)]) (lenOf pd_1 rfl) rfl (by show 2 * 0 + _ ≤ _; exact Nat.le_of_eq rfl) (hb hby at_28) (fun _ _ => ⟨rfl, e102, (by decide : 1 + 0 ≤ _), (by decide : 4 + 0 ≤ _)⟩)
  dsimp only [Pt.U, Pt.locs, Pt.cells, Pt.slots] at X110 l110 y110 z110 st110 hQ110
  subst l110 y110 z110
  obtain ⟨rfl, M110, K110, y112, y113, y114, y115, y116⟩ := hQ110
  have N110 := Fr.app N0 M110
  have O117 := O103.keep K110 (allS ge111 all0)
  have g118 : Go p e below T110 (mkF m 31 #[iv p0, iv p1, iv p2, iv p3, .val (.double (FP.i2d p0)), .second, .val (.double (FP.i2d p1)), .second, .val (.double (FP.i2d p2)), .second, .val (.double (FP.i2d p3)), .second, .unset, .unset, .unset, .unset] [(.ref b102)]) A0 := fun t kont => g109 t (st110.trans kont)
  have g119 : Go p e below T110 (mkF m 35 #[iv p0, iv p1, iv p2, iv p3, .val (.double (FP.i2d p0)), .second, .val (.double (FP.i2d p1)), .second, .val (.double (FP.i2d p2)), .second, .val (.double (FP.i2d p3)), .second, rv b102, .unset, .unset, .unset] [(.ref b102)]) A0 := by
    intro t kont
    refine g118 t ?_
    refine XS.astore X110.here hx rfl (hb hby at_31) rfl rfl (l' := #[iv p0, iv p1, iv p2, iv p3, .val (.double (FP.i2d p0)), .second, .val (.double (FP.i2d p1)), .second, .val (.double (FP.i2d p2)), .second, .val (.double (FP.i2d p3)), .second, rv b102, .unset, .unset, .unset]) rfl ?_
    refine XS.aload X110.here hx rfl (hb hby at_33) rfl rfl ?_
    exact kont
  obtain ⟨cq120, kq120, q120a, q120b, q120c⟩ := isOf hZ rfl y112
  obtain ⟨_, _, ⟨T120, L120, k120, n120⟩, -, X120, ⟨Lc120, hQ120, l120, y120, z120⟩, st120⟩ := X110.virtualBack hx (y := (⟨"com/example/evenhand/evenhand/Scores", "aims", "()[D"⟩ : MethodName)) (z := (⟨"com/example/evenhand/evenhand/Scores", "aims", "()[D"⟩ : MethodName)) hown (mvT hZ (hw _ (List.mem_of_getElem? (i := 22) rfl))) (mvT hZ (hw _ (List.mem_of_getElem? (i := 23) rfl))) (notFace_of_selects (args := #[]) (mvT hZ (hw _ (List.mem_of_getElem? (i := 25) rfl)))) (mvT hZ (hw _ (List.mem_of_getElem? (i := 25) rfl))) (mvT hZ (hw _ (List.mem_of_getElem? (i := 24) rfl))) (by decide) (backOf (W := 0) (rm_aims l Z a0 hw [] b102 (FP.i2d p0) (FP.i2d p1) (FP.i2d p2) T110.heap n0 O117 y113 y114 y115) hZ (hw _ (List.mem_of_getElem? (i := 26) rfl)) (hw _ (List.mem_of_getElem? (i := 2) rfl)) (by decide) (by decide)) q120a q120c (g := (mkF m 35 #[iv p0, iv p1, iv p2, iv p3, .val (.double (FP.i2d p0)), .second, .val (.double (FP.i2d p1)), .second, .val (.double (FP.i2d p2)), .second, .val (.double (FP.i2d p3)), .second, rv b102, .unset, .unset, .unset] [(.ref b102)])) rfl (by rw [hml]; rfl) (Steps.refl _) (argsL := []) (rest := []) (lenOf pd_2 rfl) rfl (by show 2 * 0 + _ ≤ _; exact Nat.le_of_eq rfl) (hb hby at_35) (fun _ _ => ⟨rfl, rfl, (by decide : 1 + 1 ≤ _), (by decide : 4 + 3 ≤ _)⟩)
  dsimp only [Pt.U, Pt.locs, Pt.cells, Pt.slots] at X120 l120 y120 z120 st120 hQ120
  subst l120 y120 z120
  obtain ⟨r121, r122, rfl, M120, K120, y123, y124⟩ := hQ120
  have N120 := Fr.app N110 M120
  have O125 := O117.keep K120 all0
  have g126 : Go p e below T120 (mkF m 38 #[iv p0, iv p1, iv p2, iv p3, .val (.double (FP.i2d p0)), .second, .val (.double (FP.i2d p1)), .second, .val (.double (FP.i2d p2)), .second, .val (.double (FP.i2d p3)), .second, rv b102, .unset, .unset, .unset] [(.ref r121)]) A0 := fun t kont => g119 t (st120.trans kont)
  have g127 : Go p e below T120 (mkF m 45 #[iv p0, iv p1, iv p2, iv p3, .val (.double (FP.i2d p0)), .second, .val (.double (FP.i2d p1)), .second, .val (.double (FP.i2d p2)), .second, .val (.double (FP.i2d p3)), .second, rv b102, rv r121, .unset, .unset] [(.int p2), (.int p1), (.int p0), (.ref r121)]) A0 := by
    intro t kont
    refine g126 t ?_
    refine XS.astore X120.here hx rfl (hb hby at_38) rfl rfl (l' := #[iv p0, iv p1, iv p2, iv p3, .val (.double (FP.i2d p0)), .second, .val (.double (FP.i2d p1)), .second, .val (.double (FP.i2d p2)), .second, .val (.double (FP.i2d p3)), .second, rv b102, rv r121, .unset, .unset]) rfl ?_
    refine XS.aload X120.here hx rfl (hb hby at_40) rfl rfl ?_
    refine XS.iloadN X120.here hx rfl (hb hby at_42) rfl ?_
    refine XS.iloadN X120.here hx rfl (hb hby at_43) rfl ?_
    refine XS.iloadN X120.here hx rfl (hb hby at_44) rfl ?_
    exact kont
  obtain ⟨_, _, ⟨T128, L128, k128, n128⟩, -, X128, ⟨Lc128, hQ128, l128, y128, z128⟩, st128⟩ := Jvm.LawKit.callS X120 hx (y := (⟨"com/example/evenhand/evenhand/ScoresAimsPinLaw", "matches", "([DIII)Z"⟩ : MethodName)) hown (mvT hZ (hw _ (List.mem_of_getElem? (i := 28) rfl))) (mvT hZ (hw _ (List.mem_of_getElem? (i := 29) rfl))) (mvT hZ (hw _ (List.mem_of_getElem? (i := 30) rfl))) (mvT hZ (hw _ (List.mem_of_getElem? (i := 31) rfl))) (by decide) (backOf (W := 0) (rm_mat l Z a0 hw [] r121 p0 p1 p2 r122 T120.heap n0 O125 y124) hZ (hw _ (List.mem_of_getElem? (i := 31) rfl)) (hw _ (List.mem_of_getElem? (i := 30) rfl)) (by decide) (by decide)) (g := (mkF m 45 #[iv p0, iv p1, iv p2, iv p3, .val (.double (FP.i2d p0)), .second, .val (.double (FP.i2d p1)), .second, .val (.double (FP.i2d p2)), .second, .val (.double (FP.i2d p3)), .second, rv b102, rv r121, .unset, .unset] [(.int p2), (.int p1), (.int p0), (.ref r121)])) rfl (by rw [hml]; rfl) (argsL := [(.ref r121), (.int p0), (.int p1), (.int p2)]) (rest := []) (lenOf pd_3 rfl) rfl (by show 2 * 0 + _ ≤ _; exact Nat.le_of_eq rfl) (hb hby at_45) (fun _ _ => ⟨rfl, rfl, (by decide : 2 + 0 ≤ _), (by decide : 7 + 0 ≤ _)⟩)
  dsimp only [Pt.U, Pt.locs, Pt.cells, Pt.slots] at X128 l128 y128 z128 st128 hQ128
  subst l128 y128 z128
  obtain ⟨rfl, M128, e128⟩ := hQ128
  have N128 := Fr.app N120 M128
  have g129 : Go p e below T128 (mkF m 48 #[iv p0, iv p1, iv p2, iv p3, .val (.double (FP.i2d p0)), .second, .val (.double (FP.i2d p1)), .second, .val (.double (FP.i2d p2)), .second, .val (.double (FP.i2d p3)), .second, rv b102, rv r121, .unset, .unset] [(.int (1 : Int32))]) A0 := fun t kont => g127 t (st128 t kont)
  have g130 : Go p e below T128 (mkF m 63 #[iv p0, iv p1, iv p2, iv p3, .val (.double (FP.i2d p0)), .second, .val (.double (FP.i2d p1)), .second, .val (.double (FP.i2d p2)), .second, .val (.double (FP.i2d p3)), .second, rv b102, rv r121, iv (1 : Int32), .unset] [(.double (4602678819172646912 : UInt64)), (.int (0 : Int32)), (.ref r121)]) A0 := by
    intro t kont
    refine g129 t ?_
    refine XS.istore X128.here hx rfl (hb hby at_48) rfl (l' := #[iv p0, iv p1, iv p2, iv p3, .val (.double (FP.i2d p0)), .second, .val (.double (FP.i2d p1)), .second, .val (.double (FP.i2d p2)), .second, .val (.double (FP.i2d p3)), .second, rv b102, rv r121, iv (1 : Int32), .unset]) rfl ?_
    refine XS.iload X128.here hx rfl (hb hby at_50) rfl ?_
    refine XS.ifYes X128.here hx rfl (pc0 := 52) (pc' := 57) rfl (hb hby at_52) rfl ((if0 _ _).trans (feq (by decide : ¬ ((1 : Int32) = (0 : Int32)))).2) (by decide) (by decide) ?_
    refine XS.aload X128.here hx rfl (hb hby at_57) rfl rfl ?_
    refine XS.iconst X128.here hx rfl (hb hby at_59) ?_
    refine X128.ldc2DoubleC hx hown (mvT hZ (hw _ (List.mem_of_getElem? (i := 32) rfl))) (g := (mkF m 60 #[iv p0, iv p1, iv p2, iv p3, .val (.double (FP.i2d p0)), .second, .val (.double (FP.i2d p1)), .second, .val (.double (FP.i2d p2)), .second, .val (.double (FP.i2d p3)), .second, rv b102, rv r121, iv (1 : Int32), .unset] [(.int (0 : Int32)), (.ref r121)])) rfl (hb hby at_60) _ ?_
    exact kont
  have ge132 : n0 ≤ r121 := Nat.le_trans (own_old_le O117) y123
  have zz131 := y124
  obtain ⟨cl131, Ar131, q131, S131, M131, H131, G131⟩ := zz131
  have in131 : ¬ ((0 : Int32) < 0 ∨ cl131.slots.size ≤ ((0 : Int32)).toNatClampNeg) := inb_of S131 ⟨by decide, by decide⟩
  obtain ⟨T131, h131, X131, e131, W131, st131⟩ := stD X128 hx hZ e128 Ar131 (j := (0 : Int32)) in131 (g := (mkF m 63 #[iv p0, iv p1, iv p2, iv p3, .val (.double (FP.i2d p0)), .second, .val (.double (FP.i2d p1)), .second, .val (.double (FP.i2d p2)), .second, .val (.double (FP.i2d p3)), .second, rv b102, rv r121, iv (1 : Int32), .unset] [(.double (4602678819172646912 : UInt64)), (.int (0 : Int32)), (.ref r121)])) rfl rfl (hb hby at_63)
  have O133 := O125.wr W131 ge132
  have y134 : Arv Z h131 r121 r122 .double (3 : Int32) [(.double (4602678819172646912 : UInt64)), (.double (FP.dneg (FP.i2d p1))), (.double (FP.i2d p2))] (.double (FP.l2d 0)) := Arv.set Ar131 q131 S131 M131 H131 G131 rfl W131 0 rfl (Nat.le_of_ble_eq_true rfl)
  have N131 := Fr.snoc X131 N128 ge132
  have g135 : Go p e below T131 (mkF m 64 #[iv p0, iv p1, iv p2, iv p3, .val (.double (FP.i2d p0)), .second, .val (.double (FP.i2d p1)), .second, .val (.double (FP.i2d p2)), .second, .val (.double (FP.i2d p3)), .second, rv b102, rv r121, iv (1 : Int32), .unset] []) A0 := fun t kont => g130 t (st131 t kont)
  have g136 : Go p e below T131 (mkF m 70 #[iv p0, iv p1, iv p2, iv p3, .val (.double (FP.i2d p0)), .second, .val (.double (FP.i2d p1)), .second, .val (.double (FP.i2d p2)), .second, .val (.double (FP.i2d p3)), .second, rv b102, rv r121, iv (1 : Int32), .unset] [(.double (4602678819172646912 : UInt64)), (.int (1 : Int32)), (.ref r121)]) A0 := by
    intro t kont
    refine g135 t ?_
    refine XS.aload X131.here hx rfl (hb hby at_64) rfl rfl ?_
    refine XS.iconst X131.here hx rfl (hb hby at_66) ?_
    refine X131.ldc2DoubleC hx hown (mvT hZ (hw _ (List.mem_of_getElem? (i := 32) rfl))) (g := (mkF m 67 #[iv p0, iv p1, iv p2, iv p3, .val (.double (FP.i2d p0)), .second, .val (.double (FP.i2d p1)), .second, .val (.double (FP.i2d p2)), .second, .val (.double (FP.i2d p3)), .second, rv b102, rv r121, iv (1 : Int32), .unset] [(.int (1 : Int32)), (.ref r121)])) rfl (hb hby at_67) _ ?_
    exact kont
  have zz137 := y134
  obtain ⟨cl137, Ar137, q137, S137, M137, H137, G137⟩ := zz137
  have in137 : ¬ ((1 : Int32) < 0 ∨ cl137.slots.size ≤ ((1 : Int32)).toNatClampNeg) := inb_of S137 ⟨by decide, by decide⟩
  obtain ⟨T137, h137, X137, e137, W137, st137⟩ := stD X131 hx hZ e131 Ar137 (j := (1 : Int32)) in137 (g := (mkF m 70 #[iv p0, iv p1, iv p2, iv p3, .val (.double (FP.i2d p0)), .second, .val (.double (FP.i2d p1)), .second, .val (.double (FP.i2d p2)), .second, .val (.double (FP.i2d p3)), .second, rv b102, rv r121, iv (1 : Int32), .unset] [(.double (4602678819172646912 : UInt64)), (.int (1 : Int32)), (.ref r121)])) rfl rfl (hb hby at_70)
  have O138 := O133.wr W137 ge132
  have y139 : Arv Z h137 r121 r122 .double (3 : Int32) [(.double (4602678819172646912 : UInt64)), (.double (4602678819172646912 : UInt64)), (.double (FP.i2d p2))] (.double (FP.l2d 0)) := Arv.set Ar137 q137 S137 M137 H137 G137 rfl W137 1 rfl (Nat.le_of_ble_eq_true rfl)
  have N137 := Fr.snoc X137 N131 ge132
  have g140 : Go p e below T137 (mkF m 71 #[iv p0, iv p1, iv p2, iv p3, .val (.double (FP.i2d p0)), .second, .val (.double (FP.i2d p1)), .second, .val (.double (FP.i2d p2)), .second, .val (.double (FP.i2d p3)), .second, rv b102, rv r121, iv (1 : Int32), .unset] []) A0 := fun t kont => g136 t (st137 t kont)
  have g141 : Go p e below T137 (mkF m 77 #[iv p0, iv p1, iv p2, iv p3, .val (.double (FP.i2d p0)), .second, .val (.double (FP.i2d p1)), .second, .val (.double (FP.i2d p2)), .second, .val (.double (FP.i2d p3)), .second, rv b102, rv r121, iv (1 : Int32), .unset] [(.double (4602678819172646912 : UInt64)), (.int (2 : Int32)), (.ref r121)]) A0 := by
    intro t kont
    refine g140 t ?_
    refine XS.aload X137.here hx rfl (hb hby at_71) rfl rfl ?_
    refine XS.iconst X137.here hx rfl (hb hby at_73) ?_
    refine X137.ldc2DoubleC hx hown (mvT hZ (hw _ (List.mem_of_getElem? (i := 32) rfl))) (g := (mkF m 74 #[iv p0, iv p1, iv p2, iv p3, .val (.double (FP.i2d p0)), .second, .val (.double (FP.i2d p1)), .second, .val (.double (FP.i2d p2)), .second, .val (.double (FP.i2d p3)), .second, rv b102, rv r121, iv (1 : Int32), .unset] [(.int (2 : Int32)), (.ref r121)])) rfl (hb hby at_74) _ ?_
    exact kont
  have zz142 := y139
  obtain ⟨cl142, Ar142, q142, S142, M142, H142, G142⟩ := zz142
  have in142 : ¬ ((2 : Int32) < 0 ∨ cl142.slots.size ≤ ((2 : Int32)).toNatClampNeg) := inb_of S142 ⟨by decide, by decide⟩
  obtain ⟨T142, h142, X142, e142, W142, st142⟩ := stD X137 hx hZ e137 Ar142 (j := (2 : Int32)) in142 (g := (mkF m 77 #[iv p0, iv p1, iv p2, iv p3, .val (.double (FP.i2d p0)), .second, .val (.double (FP.i2d p1)), .second, .val (.double (FP.i2d p2)), .second, .val (.double (FP.i2d p3)), .second, rv b102, rv r121, iv (1 : Int32), .unset] [(.double (4602678819172646912 : UInt64)), (.int (2 : Int32)), (.ref r121)])) rfl rfl (hb hby at_77)
  have O143 := O138.wr W142 ge132
  have y144 : Arv Z h142 r121 r122 .double (3 : Int32) [(.double (4602678819172646912 : UInt64)), (.double (4602678819172646912 : UInt64)), (.double (4602678819172646912 : UInt64))] (.double (FP.l2d 0)) := Arv.set Ar142 q142 S142 M142 H142 G142 rfl W142 2 rfl (Nat.le_of_ble_eq_true rfl)
  have N142 := Fr.snoc X142 N137 ge132
  have g145 : Go p e below T142 (mkF m 78 #[iv p0, iv p1, iv p2, iv p3, .val (.double (FP.i2d p0)), .second, .val (.double (FP.i2d p1)), .second, .val (.double (FP.i2d p2)), .second, .val (.double (FP.i2d p3)), .second, rv b102, rv r121, iv (1 : Int32), .unset] []) A0 := fun t kont => g141 t (st142 t kont)
  have g146 : Go p e below T142 (mkF m 80 #[iv p0, iv p1, iv p2, iv p3, .val (.double (FP.i2d p0)), .second, .val (.double (FP.i2d p1)), .second, .val (.double (FP.i2d p2)), .second, .val (.double (FP.i2d p3)), .second, rv b102, rv r121, iv (1 : Int32), .unset] [(.ref b102)]) A0 := by
    intro t kont
    refine g145 t ?_
    refine XS.aload X142.here hx rfl (hb hby at_78) rfl rfl ?_
    exact kont
  have y148 : Exa Z h142 b102 "com/example/evenhand/evenhand/Scores" := ((((y112.keep K120).wr W131).wr W137).wr W142)
  have y149 : Fld Z h142 b102 "com/example/evenhand/evenhand/Scores" "assign" "D" (.double (FP.i2d p0)) := ((((y113.keep K120 nin0).other W131 (Or.inl (Nat.ne_of_lt (Nat.lt_of_lt_of_le (Nat.lt_of_lt_of_le A102.lt K110.1) y123)))).other W137 (Or.inl (Nat.ne_of_lt (Nat.lt_of_lt_of_le (Nat.lt_of_lt_of_le A102.lt K110.1) y123)))).other W142 (Or.inl (Nat.ne_of_lt (Nat.lt_of_lt_of_le (Nat.lt_of_lt_of_le A102.lt K110.1) y123))))
  have y150 : Fld Z h142 b102 "com/example/evenhand/evenhand/Scores" "fam" "D" (.double (FP.i2d p1)) := ((((y114.keep K120 nin0).other W131 (Or.inl (Nat.ne_of_lt (Nat.lt_of_lt_of_le (Nat.lt_of_lt_of_le A102.lt K110.1) y123)))).other W137 (Or.inl (Nat.ne_of_lt (Nat.lt_of_lt_of_le (Nat.lt_of_lt_of_le A102.lt K110.1) y123)))).other W142 (Or.inl (Nat.ne_of_lt (Nat.lt_of_lt_of_le (Nat.lt_of_lt_of_le A102.lt K110.1) y123))))
  have y151 : Fld Z h142 b102 "com/example/evenhand/evenhand/Scores" "owl" "D" (.double (FP.i2d p2)) := ((((y115.keep K120 nin0).other W131 (Or.inl (Nat.ne_of_lt (Nat.lt_of_lt_of_le (Nat.lt_of_lt_of_le A102.lt K110.1) y123)))).other W137 (Or.inl (Nat.ne_of_lt (Nat.lt_of_lt_of_le (Nat.lt_of_lt_of_le A102.lt K110.1) y123)))).other W142 (Or.inl (Nat.ne_of_lt (Nat.lt_of_lt_of_le (Nat.lt_of_lt_of_le A102.lt K110.1) y123))))
  obtain ⟨cq147, kq147, q147a, q147b, q147c⟩ := isOf hZ e142 y148
  obtain ⟨_, _, ⟨T147, L147, k147, n147⟩, -, X147, ⟨Lc147, hQ147, l147, y147, z147⟩, st147⟩ := X142.virtualBack hx (y := (⟨"com/example/evenhand/evenhand/Scores", "aims", "()[D"⟩ : MethodName)) (z := (⟨"com/example/evenhand/evenhand/Scores", "aims", "()[D"⟩ : MethodName)) hown (mvT hZ (hw _ (List.mem_of_getElem? (i := 22) rfl))) (mvT hZ (hw _ (List.mem_of_getElem? (i := 23) rfl))) (notFace_of_selects (args := #[]) (mvT hZ (hw _ (List.mem_of_getElem? (i := 25) rfl)))) (mvT hZ (hw _ (List.mem_of_getElem? (i := 25) rfl))) (mvT hZ (hw _ (List.mem_of_getElem? (i := 24) rfl))) (by decide) (backOf (W := 0) (rm_aims l Z a0 hw [] b102 (FP.i2d p0) (FP.i2d p1) (FP.i2d p2) h142 n0 O143 y149 y150 y151) hZ (hw _ (List.mem_of_getElem? (i := 26) rfl)) (hw _ (List.mem_of_getElem? (i := 2) rfl)) (by decide) (by decide)) q147a q147c (g := (mkF m 80 #[iv p0, iv p1, iv p2, iv p3, .val (.double (FP.i2d p0)), .second, .val (.double (FP.i2d p1)), .second, .val (.double (FP.i2d p2)), .second, .val (.double (FP.i2d p3)), .second, rv b102, rv r121, iv (1 : Int32), .unset] [(.ref b102)])) rfl (by rw [hml]; rfl) (Steps.refl _) (argsL := []) (rest := []) (lenOf pd_2 rfl) rfl (by show 2 * 0 + _ ≤ _; exact Nat.le_of_eq rfl) (hb hby at_80) (fun _ _ => ⟨rfl, e142, (by decide : 2 + 1 ≤ _), (by decide : 7 + 3 ≤ _)⟩)
  dsimp only [Pt.U, Pt.locs, Pt.cells, Pt.slots] at X147 l147 y147 z147 st147 hQ147
  subst l147 y147 z147
  obtain ⟨r152, r153, rfl, M147, K147, y154, y155⟩ := hQ147
  have N147 := Fr.app N142 M147
  have O156 := O143.keep K147 all0
  have g157 : Go p e below T147 (mkF m 83 #[iv p0, iv p1, iv p2, iv p3, .val (.double (FP.i2d p0)), .second, .val (.double (FP.i2d p1)), .second, .val (.double (FP.i2d p2)), .second, .val (.double (FP.i2d p3)), .second, rv b102, rv r121, iv (1 : Int32), .unset] [(.ref r152)]) A0 := fun t kont => g146 t (st147.trans kont)
  have g158 : Go p e below T147 (mkF m 90 #[iv p0, iv p1, iv p2, iv p3, .val (.double (FP.i2d p0)), .second, .val (.double (FP.i2d p1)), .second, .val (.double (FP.i2d p2)), .second, .val (.double (FP.i2d p3)), .second, rv b102, rv r121, iv (1 : Int32), rv r152] [(.int p2), (.int p1), (.int p0), (.ref r152)]) A0 := by
    intro t kont
    refine g157 t ?_
    refine XS.astore X147.here hx rfl (hb hby at_83) rfl rfl (l' := #[iv p0, iv p1, iv p2, iv p3, .val (.double (FP.i2d p0)), .second, .val (.double (FP.i2d p1)), .second, .val (.double (FP.i2d p2)), .second, .val (.double (FP.i2d p3)), .second, rv b102, rv r121, iv (1 : Int32), rv r152]) rfl ?_
    refine XS.aload X147.here hx rfl (hb hby at_85) rfl rfl ?_
    refine XS.iloadN X147.here hx rfl (hb hby at_87) rfl ?_
    refine XS.iloadN X147.here hx rfl (hb hby at_88) rfl ?_
    refine XS.iloadN X147.here hx rfl (hb hby at_89) rfl ?_
    exact kont
  obtain ⟨_, _, ⟨T159, L159, k159, n159⟩, -, X159, ⟨Lc159, hQ159, l159, y159, z159⟩, st159⟩ := Jvm.LawKit.callS X147 hx (y := (⟨"com/example/evenhand/evenhand/ScoresAimsPinLaw", "matches", "([DIII)Z"⟩ : MethodName)) hown (mvT hZ (hw _ (List.mem_of_getElem? (i := 28) rfl))) (mvT hZ (hw _ (List.mem_of_getElem? (i := 29) rfl))) (mvT hZ (hw _ (List.mem_of_getElem? (i := 30) rfl))) (mvT hZ (hw _ (List.mem_of_getElem? (i := 31) rfl))) (by decide) (backOf (W := 0) (rm_mat l Z a0 hw [] r152 p0 p1 p2 r153 T147.heap n0 O156 y155) hZ (hw _ (List.mem_of_getElem? (i := 31) rfl)) (hw _ (List.mem_of_getElem? (i := 30) rfl)) (by decide) (by decide)) (g := (mkF m 90 #[iv p0, iv p1, iv p2, iv p3, .val (.double (FP.i2d p0)), .second, .val (.double (FP.i2d p1)), .second, .val (.double (FP.i2d p2)), .second, .val (.double (FP.i2d p3)), .second, rv b102, rv r121, iv (1 : Int32), rv r152] [(.int p2), (.int p1), (.int p0), (.ref r152)])) rfl (by rw [hml]; rfl) (argsL := [(.ref r152), (.int p0), (.int p1), (.int p2)]) (rest := []) (lenOf pd_3 rfl) rfl (by show 2 * 0 + _ ≤ _; exact Nat.le_of_eq rfl) (hb hby at_90) (fun _ _ => ⟨rfl, rfl, (by decide : 3 + 0 ≤ _), (by decide : 10 + 0 ≤ _)⟩)
  dsimp only [Pt.U, Pt.locs, Pt.cells, Pt.slots] at X159 l159 y159 z159 st159 hQ159
  subst l159 y159 z159
  obtain ⟨rfl, M159, e159⟩ := hQ159
  have N159 := Fr.app N147 M159
  have g160 : Go p e below T159 (mkF m 93 #[iv p0, iv p1, iv p2, iv p3, .val (.double (FP.i2d p0)), .second, .val (.double (FP.i2d p1)), .second, .val (.double (FP.i2d p2)), .second, .val (.double (FP.i2d p3)), .second, rv b102, rv r121, iv (1 : Int32), rv r152] [(.int (1 : Int32))]) A0 := fun t kont => g158 t (st159 t kont)
  have g161 : Go p e below T159 (mkF m 102 #[iv p0, iv p1, iv p2, iv p3, .val (.double (FP.i2d p0)), .second, .val (.double (FP.i2d p1)), .second, .val (.double (FP.i2d p2)), .second, .val (.double (FP.i2d p3)), .second, rv b102, rv r121, iv (1 : Int32), rv r152] [(.ref b102)]) A0 := by
    intro t kont
    refine g160 t ?_
    refine XS.istore X159.here hx rfl (hb hby at_93) rfl (l' := #[iv p0, iv p1, iv p2, iv p3, .val (.double (FP.i2d p0)), .second, .val (.double (FP.i2d p1)), .second, .val (.double (FP.i2d p2)), .second, .val (.double (FP.i2d p3)), .second, rv b102, rv r121, iv (1 : Int32), rv r152]) rfl ?_
    refine XS.iload X159.here hx rfl (hb hby at_95) rfl ?_
    refine XS.ifNo X159.here hx rfl (hb hby at_97) rfl ((if0 _ _).trans (feq (by decide : ¬ ((1 : Int32) = (0 : Int32)))).1) ?_
    refine XS.aload X159.here hx rfl (hb hby at_100) rfl rfl ?_
    exact kont
  have y163 : Exa Z T147.heap b102 "com/example/evenhand/evenhand/Scores" := (y148.keep K147)
  have y164 : Fld Z T147.heap b102 "com/example/evenhand/evenhand/Scores" "assign" "D" (.double (FP.i2d p0)) := (y149.keep K147 nin0)
  obtain ⟨cq162, kq162, q162a, q162b, q162c⟩ := isOf hZ e159 y163
  obtain ⟨_, _, ⟨T162, L162, k162, n162⟩, -, X162, ⟨Lc162, hQ162, l162, y162, z162⟩, st162⟩ := X159.virtualBack hx (y := (⟨"com/example/evenhand/evenhand/Scores", "assign", "()D"⟩ : MethodName)) (z := (⟨"com/example/evenhand/evenhand/Scores", "assign", "()D"⟩ : MethodName)) hown (mvT hZ (hw _ (List.mem_of_getElem? (i := 33) rfl))) (mvT hZ (hw _ (List.mem_of_getElem? (i := 34) rfl))) (notFace_of_selects (args := #[]) (mvT hZ (hw _ (List.mem_of_getElem? (i := 36) rfl)))) (mvT hZ (hw _ (List.mem_of_getElem? (i := 36) rfl))) (mvT hZ (hw _ (List.mem_of_getElem? (i := 35) rfl))) (by decide) (backOf (W := 0) (rm_get_assign l Z a0 hw [] b102 (FP.i2d p0) T147.heap n0 O156 y164) hZ (hw _ (List.mem_of_getElem? (i := 37) rfl)) (hw _ (List.mem_of_getElem? (i := 2) rfl)) (by decide) (by decide)) q162a q162c (g := (mkF m 102 #[iv p0, iv p1, iv p2, iv p3, .val (.double (FP.i2d p0)), .second, .val (.double (FP.i2d p1)), .second, .val (.double (FP.i2d p2)), .second, .val (.double (FP.i2d p3)), .second, rv b102, rv r121, iv (1 : Int32), rv r152] [(.ref b102)])) rfl (by rw [hml]; rfl) (Steps.refl _) (argsL := []) (rest := []) (lenOf pd_4 rfl) rfl (by show 2 * 0 + _ ≤ _; exact Nat.le_of_eq rfl) (hb hby at_102) (fun _ _ => ⟨rfl, e159, (by decide : 3 + 0 ≤ _), (by decide : 10 + 0 ≤ _)⟩)
  dsimp only [Pt.U, Pt.locs, Pt.cells, Pt.slots] at X162 l162 y162 z162 st162 hQ162
  subst l162 y162 z162
  obtain ⟨rfl, M162, e162⟩ := hQ162
  have N162 := Fr.app N159 M162
  have g165 : Go p e below T162 (mkF m 105 #[iv p0, iv p1, iv p2, iv p3, .val (.double (FP.i2d p0)), .second, .val (.double (FP.i2d p1)), .second, .val (.double (FP.i2d p2)), .second, .val (.double (FP.i2d p3)), .second, rv b102, rv r121, iv (1 : Int32), rv r152] [(.double (FP.i2d p0))]) A0 := fun t kont => g161 t (st162.trans kont)
  have g166 : Go p e below T162 (mkF m 113 #[iv p0, iv p1, iv p2, iv p3, .val (.double (FP.i2d p0)), .second, .val (.double (FP.i2d p1)), .second, .val (.double (FP.i2d p2)), .second, .val (.double (FP.i2d p3)), .second, rv b102, rv r121, iv (1 : Int32), rv r152] [(.ref b102)]) A0 := by
    intro t kont
    refine g165 t ?_
    refine XS.dload X162.here hx rfl (hb hby at_105) rfl ?_
    refine XS.dcmpS X162.here hx rfl (hb hby at_107) rfl (v := (0 : Int32)) (dcmpV_self (nn_w (i2d_w _)) _) ?_
    refine XS.ifNo X162.here hx rfl (hb hby at_108) rfl ((if0 _ _).trans (teq (by decide : (0 : Int32) = (0 : Int32))).2) ?_
    refine XS.aload X162.here hx rfl (hb hby at_111) rfl rfl ?_
    exact kont
  have y168 : Fld Z T147.heap b102 "com/example/evenhand/evenhand/Scores" "fam" "D" (.double (FP.i2d p1)) := (y150.keep K147 nin0)
  obtain ⟨cq167, kq167, q167a, q167b, q167c⟩ := isOf hZ e162 y163
  obtain ⟨_, _, ⟨T167, L167, k167, n167⟩, -, X167, ⟨Lc167, hQ167, l167, y167, z167⟩, st167⟩ := X162.virtualBack hx (y := (⟨"com/example/evenhand/evenhand/Scores", "fam", "()D"⟩ : MethodName)) (z := (⟨"com/example/evenhand/evenhand/Scores", "fam", "()D"⟩ : MethodName)) hown (mvT hZ (hw _ (List.mem_of_getElem? (i := 38) rfl))) (mvT hZ (hw _ (List.mem_of_getElem? (i := 39) rfl))) (notFace_of_selects (args := #[]) (mvT hZ (hw _ (List.mem_of_getElem? (i := 41) rfl)))) (mvT hZ (hw _ (List.mem_of_getElem? (i := 41) rfl))) (mvT hZ (hw _ (List.mem_of_getElem? (i := 40) rfl))) (by decide) (backOf (W := 0) (rm_get_fam l Z a0 hw [] b102 (FP.i2d p1) T147.heap n0 O156 y168) hZ (hw _ (List.mem_of_getElem? (i := 42) rfl)) (hw _ (List.mem_of_getElem? (i := 2) rfl)) (by decide) (by decide)) q167a q167c (g := (mkF m 113 #[iv p0, iv p1, iv p2, iv p3, .val (.double (FP.i2d p0)), .second, .val (.double (FP.i2d p1)), .second, .val (.double (FP.i2d p2)), .second, .val (.double (FP.i2d p3)), .second, rv b102, rv r121, iv (1 : Int32), rv r152] [(.ref b102)])) rfl (by rw [hml]; rfl) (Steps.refl _) (argsL := []) (rest := []) (lenOf pd_4 rfl) rfl (by show 2 * 0 + _ ≤ _; exact Nat.le_of_eq rfl) (hb hby at_113) (fun _ _ => ⟨rfl, e162, (by decide : 3 + 0 ≤ _), (by decide : 10 + 0 ≤ _)⟩)
  dsimp only [Pt.U, Pt.locs, Pt.cells, Pt.slots] at X167 l167 y167 z167 st167 hQ167
  subst l167 y167 z167
  obtain ⟨rfl, M167, e167⟩ := hQ167
  have N167 := Fr.app N162 M167
  have g169 : Go p e below T167 (mkF m 116 #[iv p0, iv p1, iv p2, iv p3, .val (.double (FP.i2d p0)), .second, .val (.double (FP.i2d p1)), .second, .val (.double (FP.i2d p2)), .second, .val (.double (FP.i2d p3)), .second, rv b102, rv r121, iv (1 : Int32), rv r152] [(.double (FP.i2d p1))]) A0 := fun t kont => g166 t (st167.trans kont)
  have g170 : Go p e below T167 (mkF m 124 #[iv p0, iv p1, iv p2, iv p3, .val (.double (FP.i2d p0)), .second, .val (.double (FP.i2d p1)), .second, .val (.double (FP.i2d p2)), .second, .val (.double (FP.i2d p3)), .second, rv b102, rv r121, iv (1 : Int32), rv r152] [(.ref b102)]) A0 := by
    intro t kont
    refine g169 t ?_
    refine XS.dload X167.here hx rfl (hb hby at_116) rfl ?_
    refine XS.dcmpS X167.here hx rfl (hb hby at_118) rfl (v := (0 : Int32)) (dcmpV_self (nn_w (i2d_w _)) _) ?_
    refine XS.ifNo X167.here hx rfl (hb hby at_119) rfl ((if0 _ _).trans (teq (by decide : (0 : Int32) = (0 : Int32))).2) ?_
    refine XS.aload X167.here hx rfl (hb hby at_122) rfl rfl ?_
    exact kont
  have y172 : Fld Z T147.heap b102 "com/example/evenhand/evenhand/Scores" "owl" "D" (.double (FP.i2d p2)) := (y151.keep K147 nin0)
  obtain ⟨cq171, kq171, q171a, q171b, q171c⟩ := isOf hZ e167 y163
  obtain ⟨_, _, ⟨T171, L171, k171, n171⟩, -, X171, ⟨Lc171, hQ171, l171, y171, z171⟩, st171⟩ := X167.virtualBack hx (y := (⟨"com/example/evenhand/evenhand/Scores", "owl", "()D"⟩ : MethodName)) (z := (⟨"com/example/evenhand/evenhand/Scores", "owl", "()D"⟩ : MethodName)) hown (mvT hZ (hw _ (List.mem_of_getElem? (i := 43) rfl))) (mvT hZ (hw _ (List.mem_of_getElem? (i := 44) rfl))) (notFace_of_selects (args := #[]) (mvT hZ (hw _ (List.mem_of_getElem? (i := 46) rfl)))) (mvT hZ (hw _ (List.mem_of_getElem? (i := 46) rfl))) (mvT hZ (hw _ (List.mem_of_getElem? (i := 45) rfl))) (by decide) (backOf (W := 0) (rm_get_owl l Z a0 hw [] b102 (FP.i2d p2) T147.heap n0 O156 y172) hZ (hw _ (List.mem_of_getElem? (i := 47) rfl)) (hw _ (List.mem_of_getElem? (i := 2) rfl)) (by decide) (by decide)) q171a q171c (g := (mkF m 124 #[iv p0, iv p1, iv p2, iv p3, .val (.double (FP.i2d p0)), .second, .val (.double (FP.i2d p1)), .second, .val (.double (FP.i2d p2)), .second, .val (.double (FP.i2d p3)), .second, rv b102, rv r121, iv (1 : Int32), rv r152] [(.ref b102)])) rfl (by rw [hml]; rfl) (Steps.refl _) (argsL := []) (rest := []) (lenOf pd_4 rfl) rfl (by show 2 * 0 + _ ≤ _; exact Nat.le_of_eq rfl) (hb hby at_124) (fun _ _ => ⟨rfl, e167, (by decide : 3 + 0 ≤ _), (by decide : 10 + 0 ≤ _)⟩)
  dsimp only [Pt.U, Pt.locs, Pt.cells, Pt.slots] at X171 l171 y171 z171 st171 hQ171
  subst l171 y171 z171
  obtain ⟨rfl, M171, e171⟩ := hQ171
  have N171 := Fr.app N167 M171
  have g173 : Go p e below T171 (mkF m 127 #[iv p0, iv p1, iv p2, iv p3, .val (.double (FP.i2d p0)), .second, .val (.double (FP.i2d p1)), .second, .val (.double (FP.i2d p2)), .second, .val (.double (FP.i2d p3)), .second, rv b102, rv r121, iv (1 : Int32), rv r152] [(.double (FP.i2d p2))]) A0 := fun t kont => g170 t (st171.trans kont)
  have g174 : Go p e below T171 (mkF m 135 #[iv p0, iv p1, iv p2, iv p3, .val (.double (FP.i2d p0)), .second, .val (.double (FP.i2d p1)), .second, .val (.double (FP.i2d p2)), .second, .val (.double (FP.i2d p3)), .second, rv b102, rv r121, iv (1 : Int32), rv r152] [(.ref b102)]) A0 := by
    intro t kont
    refine g173 t ?_
    refine XS.dload X171.here hx rfl (hb hby at_127) rfl ?_
    refine XS.dcmpS X171.here hx rfl (hb hby at_129) rfl (v := (0 : Int32)) (dcmpV_self (nn_w (i2d_w _)) _) ?_
    refine XS.ifNo X171.here hx rfl (hb hby at_130) rfl ((if0 _ _).trans (teq (by decide : (0 : Int32) = (0 : Int32))).2) ?_
    refine XS.aload X171.here hx rfl (hb hby at_133) rfl rfl ?_
    exact kont
  have y176 : Fld Z T147.heap b102 "com/example/evenhand/evenhand/Scores" "fs" "D" (.double (FP.i2d p3)) := (((((y116.keep K120 nin0).other W131 (Or.inl (Nat.ne_of_lt (Nat.lt_of_lt_of_le (Nat.lt_of_lt_of_le A102.lt K110.1) y123)))).other W137 (Or.inl (Nat.ne_of_lt (Nat.lt_of_lt_of_le (Nat.lt_of_lt_of_le A102.lt K110.1) y123)))).other W142 (Or.inl (Nat.ne_of_lt (Nat.lt_of_lt_of_le (Nat.lt_of_lt_of_le A102.lt K110.1) y123)))).keep K147 nin0)
  obtain ⟨cq175, kq175, q175a, q175b, q175c⟩ := isOf hZ e171 y163
  obtain ⟨_, _, ⟨T175, L175, k175, n175⟩, -, X175, ⟨Lc175, hQ175, l175, y175, z175⟩, st175⟩ := X171.virtualBack hx (y := (⟨"com/example/evenhand/evenhand/Scores", "fs", "()D"⟩ : MethodName)) (z := (⟨"com/example/evenhand/evenhand/Scores", "fs", "()D"⟩ : MethodName)) hown (mvT hZ (hw _ (List.mem_of_getElem? (i := 48) rfl))) (mvT hZ (hw _ (List.mem_of_getElem? (i := 49) rfl))) (notFace_of_selects (args := #[]) (mvT hZ (hw _ (List.mem_of_getElem? (i := 51) rfl)))) (mvT hZ (hw _ (List.mem_of_getElem? (i := 51) rfl))) (mvT hZ (hw _ (List.mem_of_getElem? (i := 50) rfl))) (by decide) (backOf (W := 0) (rm_get_fs l Z a0 hw [] b102 (FP.i2d p3) T147.heap n0 O156 y176) hZ (hw _ (List.mem_of_getElem? (i := 52) rfl)) (hw _ (List.mem_of_getElem? (i := 2) rfl)) (by decide) (by decide)) q175a q175c (g := (mkF m 135 #[iv p0, iv p1, iv p2, iv p3, .val (.double (FP.i2d p0)), .second, .val (.double (FP.i2d p1)), .second, .val (.double (FP.i2d p2)), .second, .val (.double (FP.i2d p3)), .second, rv b102, rv r121, iv (1 : Int32), rv r152] [(.ref b102)])) rfl (by rw [hml]; rfl) (Steps.refl _) (argsL := []) (rest := []) (lenOf pd_4 rfl) rfl (by show 2 * 0 + _ ≤ _; exact Nat.le_of_eq rfl) (hb hby at_135) (fun _ _ => ⟨rfl, e171, (by decide : 3 + 0 ≤ _), (by decide : 10 + 0 ≤ _)⟩)
  dsimp only [Pt.U, Pt.locs, Pt.cells, Pt.slots] at X175 l175 y175 z175 st175 hQ175
  subst l175 y175 z175
  obtain ⟨rfl, M175, e175⟩ := hQ175
  have N175 := Fr.app N171 M175
  have g177 : Go p e below T175 (mkF m 138 #[iv p0, iv p1, iv p2, iv p3, .val (.double (FP.i2d p0)), .second, .val (.double (FP.i2d p1)), .second, .val (.double (FP.i2d p2)), .second, .val (.double (FP.i2d p3)), .second, rv b102, rv r121, iv (1 : Int32), rv r152] [(.double (FP.i2d p3))]) A0 := fun t kont => g174 t (st175.trans kont)
  have g178 : Go p e below T175 (mkF m 149 #[iv p0, iv p1, iv p2, iv p3, .val (.double (FP.i2d p0)), .second, .val (.double (FP.i2d p1)), .second, .val (.double (FP.i2d p2)), .second, .val (.double (FP.i2d p3)), .second, rv b102, rv r121, iv (1 : Int32), rv r152] [(.int (1 : Int32))]) A0 := by
    intro t kont
    refine g177 t ?_
    refine XS.dload X175.here hx rfl (hb hby at_138) rfl ?_
    refine XS.dcmpS X175.here hx rfl (hb hby at_140) rfl (v := (0 : Int32)) (dcmpV_self (nn_w (i2d_w _)) _) ?_
    refine XS.ifNo X175.here hx rfl (hb hby at_141) rfl ((if0 _ _).trans (teq (by decide : (0 : Int32) = (0 : Int32))).2) ?_
    refine XS.iconst X175.here hx rfl (hb hby at_144) ?_
    refine XS.goto X175.here hx rfl (pc0 := 145) (pc' := 149) rfl (hb hby at_145) (by decide) (by decide) ?_
    exact kont
  obtain ⟨fs, hr, hrun, hended, hW, hsame⟩ := X175.leave (v := some (.int (1 : Int32))) (fun h => by rw [Bd.returns] at h; cases h)
  refine ⟨_, _, g178 _ (retN X175 hx (t := .boolean) Bd.returns (by simp) (hb hby at_149) hr), hrun, hended, _, _, rfl, ?_, ⟨_, rfl⟩, hW, hsame.mono (by decide) (by decide)⟩
  show Q_law Z p0 p1 p2 p3 h0 n0 _ T175.heap _
  rw [e175]
  exact ⟨rfl, N175⟩
set_option maxRecDepth 65536 in
set_option maxHeartbeats 40000000 in
theorem comes_1 {Post : Tables → Env → Array Value → State → Outcome → State → Prop} (hpost : ∀ tb e args s v u, (limb_1_1.after args s (.returned v) u = true ∧ limb_1_2.after args s (.returned v) u = true ∧ True) → FrameEnd s (.returned v) u (Jvm.fieldLocs frame_1_writes args s ++ Jvm.arrayLocs frame_1_arrays args s ++ Jvm.staticLocs frame_1_statics s) 16 128 → Post tb e args s (.returned v) u) :
    ArmFor flags0 classFile x code maxLocals ret World_1 tables_1 room_1 Calls_1 rest_1 Pre_1 Post := by
  intro l hfl _ _ p e ha hc hk s m args below hf hA hF happ hP
  obtain ⟨hcalls, hrest, hpre⟩ := hP
  obtain ⟨-, -, -, hnamed, -, -, -, hat⟩ := (Spec.applies_iff hf).mp happ
  obtain ⟨hg, hn⟩ := and_e (Cond.before_iff.mp (show (Jvm.Cond.and given_1 narrow_1).before args s = true from hpre))
  obtain ⟨hcount, hg⟩ := and_e hg
  obtain ⟨ha0, hg⟩ := and_e hg
  obtain ⟨ha1, hg⟩ := and_e hg
  obtain ⟨ha2, hg⟩ := and_e hg
  have ha3 := hg
  obtain ⟨w0, w1, w2, w3, rfl⟩ : ∃ w0 w1 w2 w3 : Value, args = #[w0, w1, w2, w3] := by
    have hs : args.size = 4 := by simpa [Cond.value, given_1] using hcount
    obtain ⟨L⟩ := args
    match L, hs with
    | [w0, w1, w2, w3], _ => exact ⟨w0, w1, w2, w3, rfl⟩
  have hw := fun d (hd : d ∈ tables_1) => atoms_spec (ws := Jvm.Cond.code x code maxLocals ret :: tables_1) hat d (List.mem_cons_of_mem _ hd)
  have hfit : Fit s := fun {y c} hc i hi => by
    obtain ⟨ha, rfl⟩ := Array.getElem?_eq_some_iff.mp hc
    have q := List.all_eq_true.mp ((Array.all_eq_true_iff_forall_mem.mp hF) _ (Array.getElem_mem ha)) i (List.mem_range.mpr hi)
    simpa [Array.getElem?_eq_getElem hi] using q
  obtain ⟨p0, ea0⟩ := is_v ha0
  obtain rfl : w0 = (.int p0) := Option.some.inj ea0
  obtain ⟨p1, ea1⟩ := is_v ha1
  obtain rfl : w1 = (.int p1) := Option.some.inj ea1
  obtain ⟨p2, ea2⟩ := is_v ha2
  obtain rfl : w2 = (.int p2) := Option.some.inj ea2
  obtain ⟨p3, ea3⟩ := is_v ha3
  obtain rfl : w3 = (.int p3) := Option.some.inj ea3
  obtain ⟨n, o, h1, h2, h3, _, L, rfl, ⟨rfl, N⟩, hq⟩ := rm_law l s _ hw tables_1 p0 p1 p2 p3 s.heap s.heap.size (Old.start s) p e ha hc hk s m _ below hf ((Spec.applies_iff_loose hf).mp happ).1 ⟨rfl, State.Warmed39.refl s, rfl⟩ trivial
  refine ⟨n, _, h1, h2, h3, hpost _ _ _ _ _ _ ⟨Cond.after_iff.mpr rfl, Cond.after_iff.mpr (eq_i res_at (Term.int_eval (1)) rfl), trivial⟩ ⟨hq.1, hq.2.1, (hq.2.2.sift fun y hy => Or.inr (N y hy)).mono (by decide) (by decide)⟩⟩
theorem main_1_1 : Claimed_1_1 := comes_1 fun _ _ _ _ _ _ h hF => ⟨h.1, hF⟩
theorem main_1_2 : Claimed_1_2 := comes_1 fun _ _ _ _ _ _ h hF => ⟨h.2.1, hF⟩
end Jvm.Pilot.@@N@@
namespace Jvm.Pilot.@@N@@
open Jvm Jvm.ClassFile Sem Op Lib Jvm.Free Jvm.Stand Jvm.Pilot.@@N@@.Jvm.D
/-! MADE BY PROGRAM (witnessworld.py) out of the Statement's table words and the real class files: 12 classes; the members and pool entries that the words name. The judged class is class 1, her method 2. -/
namespace start1
open Jvm.ClassFile
def u (s : String) : CpInfo := .utf8 (stringToUtf16 s)
/-- a pool by its gaps: so many unusable entries, then the entry; so many at the end -/
def gap : Nat → List CpInfo → List CpInfo
  | 0, r => r
  | n + 1, r => .unusable :: gap n r
def poolList (es : List (Nat × CpInfo)) (last : Nat) : List CpInfo := es.foldr (fun e r => gap e.1 (e.2 :: r)) (gap last [])
def pool (es : List (Nat × CpInfo)) (last : Nat) : Array CpInfo := ⟨poolList es last⟩
def fileOf (pool : Array CpInfo) (this : Nat) (attrs : Array Attribute := #[]) (ms : Array MethodInfo := #[]) (fl : Nat := 33) (sup : Nat := 0) (ifs : Array Nat := #[]) (fds : Array FieldInfo := #[]) : ClassFile where
  minorVersion := 0
  majorVersion := 65
  constantPool := pool
  accessFlags := fl
  thisClass := this
  superClass := sup
  interfaces := ifs
  fields := fds
  methods := ms
  attributes := attrs
def plain (name : String) (sup : Option ClassId) : Class where
  name := name
  kind := .ordinary
  loader := none
  accessFlags := 33
  super := sup
  interfaces := #[]
  cf := none
  fields := #[]
  methods := #[]
  instanceTypes := #[]
  staticTypes := #[]
  resolved := #[]
  callSites := []
  init := .initialized
  statics := none
  mirror := none

def pool0 : Array CpInfo := pool [(5, u "<init>"), (0, u "()V"), (1, .class_ 10), (1, u "java/lang/Object")] 113

def k0c0 : Code := { maxStack := 0, maxLocals := 1, code := object_method_1_code, exceptionTable := #[], attributes := #[] }
def k0m0 : Method := { name := "<init>", desc := "()V", sig := { parameters := [], returnType := none }, accessFlags := 1, code := some k0c0 }
/-- java/lang/Object -/
def k0 : Class := { plain "java/lang/Object" none with
  accessFlags := 33
  interfaces := #[]
  cf := some (fileOf pool0 8 #[] #[{ accessFlags := 1, nameIndex := 5, descriptorIndex := 6, attributes := #[] }] 33 0 #[] #[])
  fields := #[]
  methods := #[k0m0]
  instanceTypes := #[]
  staticTypes := #[]
  resolved := Array.replicate 124 none
  statics := none }

def pool1 : Array CpInfo := pool [(2, .class_ 4), (1, u "java/lang/Object"), (0, u "<init>"), (0, u "()V"), (0, .class_ 8), (0, u "com/example/evenhand/evenhand/Scores"), (0, .methodref 7 10), (0, .nameAndType 5 11), (0, u "(DDDD)V"), (0, .methodref 7 13), (0, .nameAndType 14 15), (0, u "aims"), (0, u "()[D"), (0, .methodref 17 18), (0, .class_ 19), (0, .nameAndType 20 21), (0, u "com/example/evenhand/evenhand/ScoresAimsPinLaw"), (0, u "matches"), (0, u "([DIII)Z"), (0, .double 4602678819172646912), (1, .methodref 7 25), (0, .nameAndType 26 27), (0, u "assign"), (0, u "()D"), (0, .methodref 7 29), (0, .nameAndType 30 27), (0, u "fam"), (0, .methodref 7 32), (0, .nameAndType 33 27), (0, u "owl"), (0, .methodref 7 35), (0, .nameAndType 36 27), (0, u "fs"), (3, u "law"), (0, u "(IIII)Z")] 4

def k1m0 : Method := { name := "<init>", desc := "()V", sig := { parameters := [], returnType := none }, accessFlags := 1, code := none }
def k1c1 : Code := { maxStack := 4, maxLocals := 10, code := method_2_code, exceptionTable := #[], attributes := #[] }
def k1m1 : Method := { name := "matches", desc := "([DIII)Z", sig := { parameters := [(.array .double), .int, .int, .int], returnType := some .boolean }, accessFlags := 10, code := some k1c1 }
def k1c2 : Code := { maxStack := 10, maxLocals := 16, code := code, exceptionTable := #[], attributes := #[] }
def k1m2 : Method := { name := "law", desc := "(IIII)Z", sig := { parameters := [.int, .int, .int, .int], returnType := some .boolean }, accessFlags := 9, code := some k1c2 }
/-- com/example/evenhand/evenhand/ScoresAimsPinLaw -/
def k1 : Class := { plain "com/example/evenhand/evenhand/ScoresAimsPinLaw" (some 0) with
  accessFlags := 49
  interfaces := #[]
  cf := some (fileOf pool1 17 #[] #[{ accessFlags := 1, nameIndex := 5, descriptorIndex := 6, attributes := #[] }, { accessFlags := 10, nameIndex := 20, descriptorIndex := 21, attributes := #[] }, { accessFlags := 9, nameIndex := 40, descriptorIndex := 41, attributes := #[] }] 49 2 #[] #[])
  fields := #[]
  methods := #[k1m0, k1m1, k1m2]
  instanceTypes := #[]
  staticTypes := #[]
  resolved := Array.replicate 46 none
  statics := none }

def pool2 : Array CpInfo := pool [(1, .methodref 2 3), (0, .class_ 4), (0, .nameAndType 5 6), (0, u "java/lang/Object"), (0, u "<init>"), (0, u "()V"), (0, .class_ 8), (0, u "java/lang/Record")] 13

def k2c0 : Code := { maxStack := 1, maxLocals := 1, code := jdk_30_method_1_code, exceptionTable := #[], attributes := #[] }
def k2m0 : Method := { name := "<init>", desc := "()V", sig := { parameters := [], returnType := none }, accessFlags := 4, code := some k2c0 }
/-- java/lang/Record -/
def k2 : Class := { plain "java/lang/Record" (some 0) with
  accessFlags := 1057
  interfaces := #[]
  cf := some (fileOf pool2 7 #[] #[{ accessFlags := 4, nameIndex := 5, descriptorIndex := 6, attributes := #[] }] 1057 2 #[] #[])
  fields := #[]
  methods := #[k2m0]
  instanceTypes := #[]
  staticTypes := #[]
  resolved := Array.replicate 22 none
  statics := none }

def pool3 : Array CpInfo := pool [(1, .methodref 2 3), (0, .class_ 4), (0, .nameAndType 5 6), (0, u "java/lang/Record"), (0, u "<init>"), (0, u "()V"), (0, .fieldref 8 9), (0, .class_ 10), (0, .nameAndType 11 12), (0, u "com/example/evenhand/evenhand/Scores"), (0, u "assign"), (0, u "D"), (0, .fieldref 8 14), (0, .nameAndType 15 12), (0, u "fam"), (0, .fieldref 8 17), (0, .nameAndType 18 12), (0, u "owl"), (0, .fieldref 8 20), (0, .nameAndType 21 12), (0, u "fs"), (20, u "(DDDD)V"), (14, u "NAMES"), (0, u "Ljava/util/List;"), (39, u "aims"), (0, u "()[D"), (6, u "()D")] 24

def k3c0 : Code := { maxStack := 3, maxLocals := 9, code := prog_59_method_1_code, exceptionTable := #[], attributes := #[] }
def k3m0 : Method := { name := "<init>", desc := "(DDDD)V", sig := { parameters := [.double, .double, .double, .double], returnType := none }, accessFlags := 0, code := some k3c0 }
def k3c1 : Code := { maxStack := 5, maxLocals := 1, code := prog_59_method_2_code, exceptionTable := #[], attributes := #[] }
def k3m1 : Method := { name := "aims", desc := "()[D", sig := { parameters := [], returnType := some (.array .double) }, accessFlags := 0, code := some k3c1 }
def k3c2 : Code := { maxStack := 2, maxLocals := 1, code := prog_59_method_9_code, exceptionTable := #[], attributes := #[] }
def k3m2 : Method := { name := "assign", desc := "()D", sig := { parameters := [], returnType := some .double }, accessFlags := 1, code := some k3c2 }
def k3c3 : Code := { maxStack := 2, maxLocals := 1, code := prog_59_method_10_code, exceptionTable := #[], attributes := #[] }
def k3m3 : Method := { name := "fam", desc := "()D", sig := { parameters := [], returnType := some .double }, accessFlags := 1, code := some k3c3 }
def k3c4 : Code := { maxStack := 2, maxLocals := 1, code := prog_59_method_11_code, exceptionTable := #[], attributes := #[] }
def k3m4 : Method := { name := "owl", desc := "()D", sig := { parameters := [], returnType := some .double }, accessFlags := 1, code := some k3c4 }
def k3c5 : Code := { maxStack := 2, maxLocals := 1, code := prog_59_method_12_code, exceptionTable := #[], attributes := #[] }
def k3m5 : Method := { name := "fs", desc := "()D", sig := { parameters := [], returnType := some .double }, accessFlags := 1, code := some k3c5 }
/-- com/example/evenhand/evenhand/Scores -/
def k3 : Class := { plain "com/example/evenhand/evenhand/Scores" (some 2) with
  accessFlags := 48
  interfaces := #[]
  cf := some (fileOf pool3 8 #[] #[{ accessFlags := 0, nameIndex := 5, descriptorIndex := 42, attributes := #[] }, { accessFlags := 0, nameIndex := 98, descriptorIndex := 99, attributes := #[] }, { accessFlags := 1, nameIndex := 11, descriptorIndex := 106, attributes := #[] }, { accessFlags := 1, nameIndex := 15, descriptorIndex := 106, attributes := #[] }, { accessFlags := 1, nameIndex := 18, descriptorIndex := 106, attributes := #[] }, { accessFlags := 1, nameIndex := 21, descriptorIndex := 106, attributes := #[] }] 48 2 #[] #[{ accessFlags := 18, nameIndex := 11, descriptorIndex := 12, attributes := #[] }, { accessFlags := 18, nameIndex := 15, descriptorIndex := 12, attributes := #[] }, { accessFlags := 18, nameIndex := 18, descriptorIndex := 12, attributes := #[] }, { accessFlags := 18, nameIndex := 21, descriptorIndex := 12, attributes := #[] }, { accessFlags := 24, nameIndex := 57, descriptorIndex := 58, attributes := #[] }])
  fields := #[{ name := "assign", type := .double, accessFlags := 18, slot := 0, constantValue := 0 }, { name := "fam", type := .double, accessFlags := 18, slot := 1, constantValue := 0 }, { name := "owl", type := .double, accessFlags := 18, slot := 2, constantValue := 0 }, { name := "fs", type := .double, accessFlags := 18, slot := 3, constantValue := 0 }, { name := "NAMES", type := (.object "java/util/List"), accessFlags := 24, slot := 0, constantValue := 0 }]
  methods := #[k3m0, k3m1, k3m2, k3m3, k3m4, k3m5]
  instanceTypes := #[.double, .double, .double, .double]
  staticTypes := #[(.object "java/util/List")]
  resolved := Array.replicate 131 none
  statics := none }

def pool4 : Array CpInfo := pool [(1, u "java/lang/Cloneable"), (0, .class_ 1), (0, u "java/lang/Object"), (0, .class_ 3)] 3

/-- java/lang/Cloneable -/
def k4 : Class := { plain "java/lang/Cloneable" (some 0) with
  accessFlags := 1537
  interfaces := #[]
  cf := some (fileOf pool4 2 #[] #[] 1537 4 #[] #[])
  fields := #[]
  methods := #[]
  instanceTypes := #[]
  staticTypes := #[]
  resolved := Array.replicate 8 none
  statics := none }

def pool5 : Array CpInfo := pool [(1, u "java/io/Serializable"), (0, .class_ 1), (0, u "java/lang/Object"), (0, .class_ 3)] 3

/-- java/io/Serializable -/
def k5 : Class := { plain "java/io/Serializable" (some 0) with
  accessFlags := 1537
  interfaces := #[]
  cf := some (fileOf pool5 2 #[] #[] 1537 4 #[] #[])
  fields := #[]
  methods := #[]
  instanceTypes := #[]
  staticTypes := #[]
  resolved := Array.replicate 8 none
  statics := none }

/-- the primitive byte -/
def k6 : Class := { plain "byte" none with kind := .primitive 'B', accessFlags := 0x411 }
/-- [B -/
def k7 : Class := { plain "[B" (some 0) with kind := .array 6 .byte, interfaces := #[4, 5], accessFlags := 1041 }

/-- the primitive double -/
def k8 : Class := { plain "double" none with kind := .primitive 'D', accessFlags := 0x411 }
/-- [D -/
def k9 : Class := { plain "[D" (some 0) with kind := .array 8 .double, interfaces := #[4, 5], accessFlags := 1041 }

/-- the primitive int -/
def k10 : Class := { plain "int" none with kind := .primitive 'I', accessFlags := 0x411 }
/-- [I -/
def k11 : Class := { plain "[I" (some 0) with kind := .array 10 .int, interfaces := #[4, 5], accessFlags := 1041 }

def heap : Heap := #[]
def classes : Array Class := #[k0, k1, k2, k3, k4, k5, k6, k7, k8, k9, k10, k11]
def interned : List (Array UInt16 × Addr) := []
def slotsUsed : Nat := 0
def theMethod : MethodId := ⟨1, 2⟩
def args0 : Array Value := #[.int 3, .int 4, .int 5, .int 6]
def aboutOver (below : List Frame) : State where
  vm := { classes := classes, interned := interned.toArray }
  heap := heap
  slotsUsed := slotsUsed
  threads := #[{ frames := .invoking theMethod args0 :: below }]
def below0 : List Frame := [.native { method := ⟨0, 0⟩, args := #[] }]
def about1 : State := aboutOver below0
def p0 : Program := .bare "" "" ""
def e0 : Env := launch0.env 0 0 0
theorem w_frames : about1.frames = Frame.invoking theMethod args0 :: below0 := rfl
set_option maxRecDepth 65536 in
theorem w_args : argsFit about1.vm theMethod args0 = true := by decide +kernel
set_option maxRecDepth 65536 in
theorem w_heap : heapFits about1 = true := by decide +kernel
set_option maxRecDepth 65536 in
theorem w_runnable : about1.curStatus? = some .runnable := by decide +kernel
set_option maxRecDepth 65536 in
theorem w_alone : about1.alone = true := by decide +kernel
set_option maxRecDepth 65536 in
theorem w_named : about1.methodNamed? x = some theMethod := by decide +kernel
set_option maxRecDepth 65536 in
theorem w_hears : about1.hears theMethod below0 = true := by decide +kernel
set_option maxRecDepth 65536 in
theorem w_ripe : about1.ripe theMethod args0 below0 = true := by decide +kernel
theorem w_running : about1.status = .running := rfl
set_option maxRecDepth 65536 in
theorem w_room : about1.hasRoom e0.platform room_1 = true :=
  launch0.hasRoom_least _ room_1 (by decide +kernel) (by decide +kernel) (by decide +kernel) (by decide +kernel) (by decide +kernel) (by decide +kernel)
theorem allAtoms_all (ts : List Jvm.Cond) (a : Array Jvm.Value) (st : Jvm.State) : (allAtoms ts).before a st = ts.all (fun c => c.before a st) := by
  induction ts with
  | nil => rfl
  | cons c t ih =>
    show (Jvm.Cond.and c (allAtoms t)).before a st = _
    rw [Jvm.Cond.before_and, ih, List.all_cons]
def words1 : List Jvm.Cond := Jvm.Cond.code x code maxLocals ret :: tables_1
/-- a 'code' word, met by the world's own term for the bytes: nothing is compared byte by byte -/
theorem code_word {y : MethodName} {bytes : ByteArray} {mx : Nat} {rt : Option FieldType} {a : Array Value} {s : State} {m : MethodId} {meth : Method} {c : Code} (h1 : s.methodNamed? y = some m) (h2 : s.vm.method? m = some meth) (h3 : meth.code = some c) (h4 : c.code = bytes)
    (h5 : (c.maxLocals == mx && c.exceptionTable.isEmpty && decide (c.maxStack ≤ mostOperands) && decide (meth.sig.returnType = rt) && !meth.locks && decide (parseMethodDescriptor y.desc = some meth.sig)) = true) : (Jvm.Cond.code y bytes mx rt).before a s = true := by
  simp only [Bool.and_eq_true, beq_iff_eq, Bool.not_eq_true', decide_eq_true_eq] at h5
  obtain ⟨⟨⟨⟨⟨g1, g2⟩, g3⟩, g4⟩, g5⟩, g6⟩ := h5
  simp [Cond.before, Cond.holds, Cond.value, h1, h2, h3, h4, g1, g2, g3, g4, g5, g6]
def isCode : Jvm.Cond → Bool
  | .code _ _ _ _ => true
  | _ => false
theorem all_split {L : List Jvm.Cond} {P : Jvm.Cond → Bool} (h1 : L.all (fun c => isCode c || P c) = true) (h2 : ∀ c ∈ L.filter isCode, P c = true) : L.all P = true := by
  refine List.all_eq_true.mpr fun c hc => ?_
  have h := List.all_eq_true.mp h1 c hc
  rcases Bool.eq_false_or_eq_true (isCode c) with hi | hi
  · exact h2 c (List.mem_filter.mpr ⟨hc, hi⟩)
  · simpa [hi] using h
set_option maxRecDepth 65536 in
theorem w_c0 : (Jvm.Cond.code x code maxLocals ret).before args0 about1 = true := code_word (m := ⟨1, 2⟩) (meth := k1m2) (c := k1c2) (by decide +kernel) rfl rfl rfl (by decide +kernel)
set_option maxRecDepth 65536 in
theorem w_c1 : (Jvm.Cond.code ({ cls := "com/example/evenhand/evenhand/Scores", name := "<init>", desc := "(DDDD)V" } : Jvm.MethodName) prog_59_method_1_code (9 : Nat) (Option.none : Option Jvm.ClassFile.FieldType)).before args0 about1 = true := code_word (m := ⟨3, 0⟩) (meth := k3m0) (c := k3c0) (by decide +kernel) rfl rfl rfl (by decide +kernel)
set_option maxRecDepth 65536 in
theorem w_c2 : (Jvm.Cond.code ({ cls := "java/lang/Record", name := "<init>", desc := "()V" } : Jvm.MethodName) jdk_30_method_1_code (1 : Nat) (Option.none : Option Jvm.ClassFile.FieldType)).before args0 about1 = true := code_word (m := ⟨2, 0⟩) (meth := k2m0) (c := k2c0) (by decide +kernel) rfl rfl rfl (by decide +kernel)
set_option maxRecDepth 65536 in
theorem w_c3 : (Jvm.Cond.code ({ cls := "java/lang/Object", name := "<init>", desc := "()V" } : Jvm.MethodName) object_method_1_code (1 : Nat) (Option.none : Option Jvm.ClassFile.FieldType)).before args0 about1 = true := code_word (m := ⟨0, 0⟩) (meth := k0m0) (c := k0c0) (by decide +kernel) rfl rfl rfl (by decide +kernel)
set_option maxRecDepth 65536 in
theorem w_c4 : (Jvm.Cond.code ({ cls := "com/example/evenhand/evenhand/Scores", name := "aims", desc := "()[D" } : Jvm.MethodName) prog_59_method_2_code (1 : Nat) (Option.some (Jvm.ClassFile.FieldType.array Jvm.ClassFile.FieldType.double))).before args0 about1 = true := code_word (m := ⟨3, 1⟩) (meth := k3m1) (c := k3c1) (by decide +kernel) rfl rfl rfl (by decide +kernel)
set_option maxRecDepth 65536 in
theorem w_c5 : (Jvm.Cond.code ({ cls := "com/example/evenhand/evenhand/ScoresAimsPinLaw", name := "matches", desc := "([DIII)Z" } : Jvm.MethodName) method_2_code (10 : Nat) (Option.some Jvm.ClassFile.FieldType.boolean)).before args0 about1 = true := code_word (m := ⟨1, 1⟩) (meth := k1m1) (c := k1c1) (by decide +kernel) rfl rfl rfl (by decide +kernel)
set_option maxRecDepth 65536 in
theorem w_c6 : (Jvm.Cond.code ({ cls := "com/example/evenhand/evenhand/Scores", name := "assign", desc := "()D" } : Jvm.MethodName) prog_59_method_9_code (1 : Nat) (Option.some Jvm.ClassFile.FieldType.double)).before args0 about1 = true := code_word (m := ⟨3, 2⟩) (meth := k3m2) (c := k3c2) (by decide +kernel) rfl rfl rfl (by decide +kernel)
set_option maxRecDepth 65536 in
theorem w_c7 : (Jvm.Cond.code ({ cls := "com/example/evenhand/evenhand/Scores", name := "fam", desc := "()D" } : Jvm.MethodName) prog_59_method_10_code (1 : Nat) (Option.some Jvm.ClassFile.FieldType.double)).before args0 about1 = true := code_word (m := ⟨3, 3⟩) (meth := k3m3) (c := k3c3) (by decide +kernel) rfl rfl rfl (by decide +kernel)
set_option maxRecDepth 65536 in
theorem w_c8 : (Jvm.Cond.code ({ cls := "com/example/evenhand/evenhand/Scores", name := "owl", desc := "()D" } : Jvm.MethodName) prog_59_method_11_code (1 : Nat) (Option.some Jvm.ClassFile.FieldType.double)).before args0 about1 = true := code_word (m := ⟨3, 4⟩) (meth := k3m4) (c := k3c4) (by decide +kernel) rfl rfl rfl (by decide +kernel)
set_option maxRecDepth 65536 in
theorem w_c9 : (Jvm.Cond.code ({ cls := "com/example/evenhand/evenhand/Scores", name := "fs", desc := "()D" } : Jvm.MethodName) prog_59_method_12_code (1 : Nat) (Option.some Jvm.ClassFile.FieldType.double)).before args0 about1 = true := code_word (m := ⟨3, 5⟩) (meth := k3m5) (c := k3c5) (by decide +kernel) rfl rfl rfl (by decide +kernel)
def codes1 : List Jvm.Cond := [Jvm.Cond.code x code maxLocals ret, Jvm.Cond.code ({ cls := "com/example/evenhand/evenhand/Scores", name := "<init>", desc := "(DDDD)V" } : Jvm.MethodName) prog_59_method_1_code (9 : Nat) (Option.none : Option Jvm.ClassFile.FieldType), Jvm.Cond.code ({ cls := "java/lang/Record", name := "<init>", desc := "()V" } : Jvm.MethodName) jdk_30_method_1_code (1 : Nat) (Option.none : Option Jvm.ClassFile.FieldType), Jvm.Cond.code ({ cls := "java/lang/Object", name := "<init>", desc := "()V" } : Jvm.MethodName) object_method_1_code (1 : Nat) (Option.none : Option Jvm.ClassFile.FieldType), Jvm.Cond.code ({ cls := "com/example/evenhand/evenhand/Scores", name := "aims", desc := "()[D" } : Jvm.MethodName) prog_59_method_2_code (1 : Nat) (Option.some (Jvm.ClassFile.FieldType.array Jvm.ClassFile.FieldType.double)), Jvm.Cond.code ({ cls := "com/example/evenhand/evenhand/ScoresAimsPinLaw", name := "matches", desc := "([DIII)Z" } : Jvm.MethodName) method_2_code (10 : Nat) (Option.some Jvm.ClassFile.FieldType.boolean), Jvm.Cond.code ({ cls := "com/example/evenhand/evenhand/Scores", name := "assign", desc := "()D" } : Jvm.MethodName) prog_59_method_9_code (1 : Nat) (Option.some Jvm.ClassFile.FieldType.double), Jvm.Cond.code ({ cls := "com/example/evenhand/evenhand/Scores", name := "fam", desc := "()D" } : Jvm.MethodName) prog_59_method_10_code (1 : Nat) (Option.some Jvm.ClassFile.FieldType.double), Jvm.Cond.code ({ cls := "com/example/evenhand/evenhand/Scores", name := "owl", desc := "()D" } : Jvm.MethodName) prog_59_method_11_code (1 : Nat) (Option.some Jvm.ClassFile.FieldType.double), Jvm.Cond.code ({ cls := "com/example/evenhand/evenhand/Scores", name := "fs", desc := "()D" } : Jvm.MethodName) prog_59_method_12_code (1 : Nat) (Option.some Jvm.ClassFile.FieldType.double)]
set_option maxRecDepth 65536 in
theorem codes_eq : words1.filter isCode = codes1 := rfl
theorem w_codes : ∀ c ∈ words1.filter isCode, c.before args0 about1 = true := by
  rw [codes_eq]
  intro c hc
  simp only [codes1, List.mem_cons, List.not_mem_nil, or_false] at hc
  rcases hc with rfl | rfl | rfl | rfl | rfl | rfl | rfl | rfl | rfl | rfl
  · exact w_c0
  · exact w_c1
  · exact w_c2
  · exact w_c3
  · exact w_c4
  · exact w_c5
  · exact w_c6
  · exact w_c7
  · exact w_c8
  · exact w_c9
set_option maxRecDepth 65536 in
theorem w_t1 : (words1.take 24).all (fun c => isCode c || c.before args0 about1) = true := by decide +kernel
set_option maxRecDepth 65536 in
theorem w_t2 : ((words1.drop 24).take 24).all (fun c => isCode c || c.before args0 about1) = true := by decide +kernel
set_option maxRecDepth 65536 in
theorem w_t3 : ((words1.drop 24).drop 24).all (fun c => isCode c || c.before args0 about1) = true := by decide +kernel
theorem w_tables : (allAtoms (Jvm.Cond.code x code maxLocals ret :: tables_1)).before args0 about1 = true := by
  rw [allAtoms_all]
  show words1.all (fun c => c.before args0 about1) = true
  refine all_split ?_ w_codes
  rw [← List.take_append_drop 24 words1, List.all_append, w_t1, ← List.take_append_drop 24 (words1.drop 24), List.all_append, w_t2, w_t3]
  rfl
set_option maxRecDepth 65536 in
theorem w_case : (Jvm.Cond.and given_1 narrow_1).before args0 about1 = true := by decide +kernel
theorem w_applies : (headSpec (Jvm.Cond.code x code maxLocals ret :: tables_1) room_1).applies x e0.platform about1 = true :=
  (Spec.applies_iff w_frames).mpr ⟨w_running, w_runnable, w_alone, w_named, w_hears, w_ripe, w_room, w_tables⟩
theorem atStart : AtStart classFile x code maxLocals ret World_1 tables_1 room_1 Calls_1 rest_1 Pre_1 launch0 p0 e0 about1 theMethod args0 below0 :=
  ⟨lists_1, trivial, launch0.admits_env _ _ _, launch0.least_env, fairChoices_fair.cas, fairChoices_fair.clock, w_frames, w_args, w_heap, w_applies, trivial, trivial, w_case⟩
end start1
theorem witness_1 : WitnessClaimed_1 := ⟨start1.p0, start1.e0, start1.about1, start1.theMethod, start1.args0, start1.below0, start1.atStart⟩
end Jvm.Pilot.@@N@@
