import JvmDerived
import JvmDerived.Pilot.@@N@@Statement
import JvmDerived.Pilot.@@N@@Code
set_option linter.unusedVariables false
set_option linter.unusedSimpArgs false
namespace Jvm.RoadKit
open Sem ClassFile Op Lib Jvm.Stand Jvm.Free Jvm.LawKit
section New
variable {p : Program} {l : Launch} {e : Env} {R : Room} {s : State} {m : MethodId} {args : Array Value} {below : List Frame} {meth : Method} {c : Code} {T : State} {locs : List Loc} {cells slots : Nat}
theorem retI (X : Stand p l e R s m args below meth c T locs cells slots) (hx : p.tables.exec = Jvm.exec) {pc : Nat} {Ls : Array Slot} {z : Int32} {rest : List Value} (hret : meth.sig.returnType = some .int) (hd : decode c.code pc = .ok (.ireturn, 1)) {fs : List Frame}
    (hl : ∀ (f : JFrame) (acts : List Action), f.method = m → f.locked = none → f.entered = [] → (doReturn e (T.setTop f) acts (some (.int z))).1 = T.setFrames fs) : Steps p.tables e below (T.setTop (mkF m pc Ls (.int z :: rest))) (T.setFrames fs) := by
  have hm' : T.vm.method? m = some meth := X.method'
  have hn : narrow .int (.int z) = .int z := rfl
  show Steps p.tables e below (T.setTop { method := m, pc := pc, locals := Ls, stack := _ :: rest, locked := none }) _
  jvm_step X.here [X.here.top, hx, hd, hm', hret, hn]
  first | (intro acts; rw [hl _ acts rfl rfl rfl]) | rw [hl _ _ rfl rfl rfl]
  exact Steps.refl _
end New
abbrev Go (p : Program) (e : Env) (below : List Frame) (T : State) (f : JFrame) (A : State) : Prop := ∀ t, Steps p.tables e below (T.setTop f) t → Steps p.tables e below A t
theorem own_retA (w : Value) (h : w.isRef = true) (t : FieldType) (ht : t.isReference = true) : narrow t w = w := by
  cases w <;> simp [Value.isRef] at h <;> cases t <;> simp [FieldType.isReference] at ht <;> rfl
theorem own_fitA (w : Value) (h : w.isRef = true) (t : FieldType) (ht : t.isReference = true) : fits t w = true := by
  cases w <;> simp [Value.isRef] at h <;> cases t <;> simp [FieldType.isReference] at ht <;> rfl
theorem own_narb (x : Int32) : nar .byte (x.toInt8.toInt32) = x.toInt8.toInt32 := by
  show x.toInt8.toInt32.toInt8.toInt32 = _
  simp
theorem own_ft_byte {z y : Int32} (e : nar .byte z = y) : fits .byte (.int y) = true := by rw [← e]; exact fits_nar_byte z
theorem own_ft_char {z y : Int32} (e : nar .char z = y) : fits .char (.int y) = true := by rw [← e]; exact fits_nar_char z
theorem own_ft_short {z y : Int32} (e : nar .short z = y) : fits .short (.int y) = true := by rw [← e]; exact fits_nar_short z
theorem own_ft_boolean {z y : Int32} (e : nar .boolean z = y) : fits .boolean (.int y) = true := by rw [← e]; exact fits_nar_bool z
theorem own_nw_byte {z y : Int32} (e : nar .byte z = y) : narrow .byte (.int z) = .int y := by rw [← e]; rfl
theorem own_nw_char {z y : Int32} (e : nar .char z = y) : narrow .char (.int z) = .int y := by rw [← e]; rfl
theorem own_nw_short {z y : Int32} (e : nar .short z = y) : narrow .short (.int z) = .int y := by rw [← e]; rfl
theorem own_nw_boolean {z y : Int32} (e : nar .boolean z = y) : narrow .boolean (.int z) = .int y := by rw [← e]; rfl
theorem own_narc (x : Int32) : nar .char (x.toUInt32.toUInt16.toUInt32.toInt32) = x.toUInt32.toUInt16.toUInt32.toInt32 := by
  show x.toUInt32.toUInt16.toUInt32.toInt32.toUInt32.toUInt16.toUInt32.toInt32 = _
  have q := c_i2c x
  have r := c_i2c x.toUInt32.toUInt16.toUInt32.toInt32
  apply Int32.toInt_inj.mp
  omega
theorem own_ext_refl {h : Heap} : Ext h h := ⟨Nat.le_refl _, fun _ _ q => q⟩
theorem own_ext_trans {h h' h2 : Heap} (A : Ext h h') (B : Ext h' h2) : Ext h h2 := ⟨Nat.le_trans A.1 B.1, fun a c q => B.2 a c (A.2 a c q)⟩
theorem own_ext_keep {h h' : Heap} (K : Keep h h' []) : Ext h h' := ⟨K.1, fun a c q => K.2.1 a c q nin0⟩
theorem own_lcmp_self (x : Int64) : lcmpW x x = (0 : Int32) := by rw [lcW]; exact (lc_eq x x).mpr rfl
theorem own_catV {v : Value} (h : v.isRef = true) : v.category = 1 := by cases v <;> simp [Value.isRef] at h <;> rfl
end Jvm.RoadKit
namespace Jvm.RoadKit
open Sem ClassFile Op Lib Jvm.Stand Jvm.Free Jvm.LawKit
theorem own_old_le {Z : State} {n0 : Nat} {h : Heap} (O : Old Z n0 h) : n0 ≤ h.size := O.1 ▸ O.2.1
theorem own_fld_int {args : Array Value} {s : State} {t : Term} {C n d : String} {k : Int32} {a : Addr} (h : (Cond.eq (.field t C n d) (.int k)).value args s none s [] = some true) (ev : t.eval args s none [] s = some (.ref a)) : Fld s s.heap a C n d (.int k) := by
  obtain ⟨x, y, h1, h2, -, k2⟩ := cmp_v (Or.inl h)
  cases h2.symm.trans (Term.int_eval k)
  obtain ⟨z, rfl⟩ := k2
  have e : z = k := gotT (Cond.eq_ints h1 h2) h
  subst e
  exact Fld.start ((fld_at ev).symm.trans h1)
theorem own_eqint {args : Array Value} {s : State} {t : Term} {k : Int32} (h : (Cond.eq t (.int k)).value args s none s [] = some true) : t.eval args s none [] s = some (.int k) := by
  obtain ⟨x, y, h1, h2, -, k2⟩ := cmp_v (Or.inl h)
  cases h2.symm.trans (Term.int_eval k)
  obtain ⟨z, rfl⟩ := k2
  have e : z = k := gotT (Cond.eq_ints h1 h2) h
  subst e
  exact h1
end Jvm.RoadKit
namespace Jvm.Pilot.@@N@@
open Jvm Jvm.ClassFile Sem Op Lib Jvm.Free Jvm.Stand Jvm.LawKit Jvm.RoadKit Bundle Jvm.Pilot.@@N@@.Jvm.D
theorem d1_0 : decode method_2_code 0 = .ok (.iload_n 0, 1) := by decide +kernel
theorem d1_1 : decode method_2_code 1 = .ok (.ifCond .ne 7, 3) := by decide +kernel
theorem d1_4 : decode method_2_code 4 = .ok (.getstatic 7, 3) := by decide +kernel
theorem d1_7 : decode method_2_code 7 = .ok (.areturn, 1) := by decide +kernel
theorem pn_com_example_rolegate_rolegate_TransportGuaranteeMetByPinLaw : plainName "com/example/rolegate/rolegate/TransportGuaranteeMetByPinLaw" = true := by first | (simp [plainName, overriddenIn]; done) | decide +kernel
theorem ef_pick0 (m : MethodId) (x0 : Int32)  : entryFrame m #[(.int x0)] 1 = mkF m 0 #[.val (.int x0)] [] := by first | (simp [entryFrame, mkF, argsToLocals, Value.category]; done) | rfl
def Q_pick0 (Z : State) (w_NONE : Addr) (h0 : Heap) (n0 : Nat) (v : Option Value) (h : Heap) (L : List Loc) : Prop := v = some (.ref w_NONE) ∧ Fr n0 L ∧ h = h0
set_option maxRecDepth 65536 in
set_option maxHeartbeats 40000000 in
theorem rm_pick0 (l : Launch) (Z : State) (a0 : Array Value) (hw : ∀ d ∈ tables_1, d.before a0 Z = true) (ws : List Jvm.Cond) (w_NONE : Addr) (h0 : Heap) (n0 : Nat) (O0 : Old Z n0 h0) (S0_ : Sta Z Z.heap "com/example/rolegate/rolegate/TransportGuarantee" "NONE" "Lcom/example/rolegate/rolegate/TransportGuarantee;" (.ref w_NONE)) :
    MetFree l (⟨"com/example/rolegate/rolegate/TransportGuaranteeMetByPinLaw", "pick", "(I)Lcom/example/rolegate/rolegate/TransportGuarantee;"⟩ : MethodName) (head1 (Jvm.Cond.code (⟨"com/example/rolegate/rolegate/TransportGuaranteeMetByPinLaw", "pick", "(I)Lcom/example/rolegate/rolegate/TransportGuarantee;"⟩ : MethodName) method_2_code 1 (some (.object "com/example/rolegate/rolegate/TransportGuarantee")) :: ws) ({ frames := 0, cells := 0, slots := 0, locals := 0 } : Room)) (fun a U => a = #[(.int (0 : Int32))] ∧ Z.Warmed39 U.vm ∧ U.heap = h0) (fun _ _ _ _ _ => True) (fun _ U o U' => ∃ v L, o = .returned v ∧ Q_pick0 Z w_NONE h0 n0 v U'.heap L ∧ FrameEnd U o U' L ({ frames := 0, cells := 0, slots := 0, locals := 0 } : Room).cells ({ frames := 0, cells := 0, slots := 0, locals := 0 } : Room).slots) := by
  refine MetFree.of_bodySF (plainFor_of_name pn_com_example_rolegate_rolegate_TransportGuaranteeMetByPinLaw) hisR ?_
  intro p e s m args below meth c s₁ Bd hml0 hP hK
  obtain ⟨rfl, hZ, hh⟩ := hP
  have hx := Bd.exec
  have hby := Bd.bytes
  have hml : c.maxLocals = 1 := hml0
  have hown : s.vm.findClass "com/example/rolegate/rolegate/TransportGuaranteeMetByPinLaw" = some m.cls := findClass_of_methodNamed Bd.named
  have hnm := (name_of_methodNamed Bd.named Bd.method).1
  have X0 : Stand p l e ({ frames := 0, cells := 0, slots := 0, locals := 0 } : Room) s m #[(.int (0 : Int32))] below meth c s₁ [] 0 0 := Stand.of_body Bd
  have e0 : s₁.heap = h0 := by rw [← hh, Bd.state]; rfl
  have N0 := Fr.nil n0
  have g0 : Go p e below s₁ (mkF m 0 #[iv (0 : Int32)] []) (s₁.setTop (entryFrame m #[(.int (0 : Int32))] 1)) := fun t kont => castTop (ef_pick0 m (0 : Int32) ) kont
  generalize s₁.setTop (entryFrame m #[(.int (0 : Int32))] 1) = A0 at g0 ⊢
  have g101 : Go p e below s₁ (mkF m 4 #[iv (0 : Int32)] []) A0 := by
    intro t kont
    refine g0 t ?_
    refine XS.iloadN X0.here hx rfl (hb hby d1_0) rfl ?_
    show Steps p.tables e below (s₁.setTop (mkF m 1 #[iv (0 : Int32)] [(.int (0 : Int32))])) _
    refine XS.ifNo X0.here hx rfl (hb hby d1_1) rfl ((if0 _ _).trans (teq (by decide : (0 : Int32) = (0 : Int32))).2) ?_
    show Steps p.tables e below (s₁.setTop (mkF m 4 #[iv (0 : Int32)] [])) _
    exact kont
  have y102 : Sta Z h0 "com/example/rolegate/rolegate/TransportGuarantee" "NONE" "Lcom/example/rolegate/rolegate/TransportGuarantee;" (.ref w_NONE) := S0_.ext O0.2
  obtain ⟨T103, X103, e103, st103⟩ := getS2 X0 hx hZ hown (host := "") (Or.inl (hw _ (List.mem_of_getElem? (i := 5) rfl))) Via.refl e0 y102 (g := (mkF m 4 #[iv (0 : Int32)] [])) rfl (hb hby d1_4)
  have g104 : Go p e below T103 (mkF m 7 #[iv (0 : Int32)] [(.ref w_NONE)]) A0 := fun t kont => g101 t (st103 t kont)
  obtain ⟨fs, hr, hrun, hended, hW, hsame⟩ := X103.leave (v := some (.ref w_NONE)) (fun h => by rw [Bd.returns] at h; cases h)
  refine ⟨_, _, g104 _ (retOut X103 hx Bd.returns rfl (Or.inr (Or.inr (Or.inr (Or.inr ⟨rfl, rfl, rfl⟩)))) (hb hby d1_7) hr), hrun, hended, _, _, rfl, ?_, ⟨_, rfl⟩, hW, hsame.mono (by decide) (by decide)⟩
  show Q_pick0 Z w_NONE h0 n0 _ T103.heap _
  rw [e103]
  exact ⟨rfl, N0, rfl⟩
theorem d1_8 : decode method_2_code 8 = .ok (.iload_n 0, 1) := by decide +kernel
theorem d1_9 : decode method_2_code 9 = .ok (.iconst 1, 1) := by decide +kernel
theorem d1_10 : decode method_2_code 10 = .ok (.if_icmp .ne 7, 3) := by decide +kernel
theorem d1_13 : decode method_2_code 13 = .ok (.getstatic 13, 3) := by decide +kernel
theorem d1_16 : decode method_2_code 16 = .ok (.areturn, 1) := by decide +kernel
theorem ef_pick1 (m : MethodId) (x0 : Int32)  : entryFrame m #[(.int x0)] 1 = mkF m 0 #[.val (.int x0)] [] := by first | (simp [entryFrame, mkF, argsToLocals, Value.category]; done) | rfl
def Q_pick1 (Z : State) (w_INTEGRAL : Addr) (h0 : Heap) (n0 : Nat) (v : Option Value) (h : Heap) (L : List Loc) : Prop := v = some (.ref w_INTEGRAL) ∧ Fr n0 L ∧ h = h0
set_option maxRecDepth 65536 in
set_option maxHeartbeats 40000000 in
theorem rm_pick1 (l : Launch) (Z : State) (a0 : Array Value) (hw : ∀ d ∈ tables_1, d.before a0 Z = true) (ws : List Jvm.Cond) (w_INTEGRAL : Addr) (h0 : Heap) (n0 : Nat) (O0 : Old Z n0 h0) (S0_ : Sta Z Z.heap "com/example/rolegate/rolegate/TransportGuarantee" "INTEGRAL" "Lcom/example/rolegate/rolegate/TransportGuarantee;" (.ref w_INTEGRAL)) :
    MetFree l (⟨"com/example/rolegate/rolegate/TransportGuaranteeMetByPinLaw", "pick", "(I)Lcom/example/rolegate/rolegate/TransportGuarantee;"⟩ : MethodName) (head1 (Jvm.Cond.code (⟨"com/example/rolegate/rolegate/TransportGuaranteeMetByPinLaw", "pick", "(I)Lcom/example/rolegate/rolegate/TransportGuarantee;"⟩ : MethodName) method_2_code 1 (some (.object "com/example/rolegate/rolegate/TransportGuarantee")) :: ws) ({ frames := 0, cells := 0, slots := 0, locals := 0 } : Room)) (fun a U => a = #[(.int (1 : Int32))] ∧ Z.Warmed39 U.vm ∧ U.heap = h0) (fun _ _ _ _ _ => True) (fun _ U o U' => ∃ v L, o = .returned v ∧ Q_pick1 Z w_INTEGRAL h0 n0 v U'.heap L ∧ FrameEnd U o U' L ({ frames := 0, cells := 0, slots := 0, locals := 0 } : Room).cells ({ frames := 0, cells := 0, slots := 0, locals := 0 } : Room).slots) := by
  refine MetFree.of_bodySF (plainFor_of_name pn_com_example_rolegate_rolegate_TransportGuaranteeMetByPinLaw) hisR ?_
  intro p e s m args below meth c s₁ Bd hml0 hP hK
  obtain ⟨rfl, hZ, hh⟩ := hP
  have hx := Bd.exec
  have hby := Bd.bytes
  have hml : c.maxLocals = 1 := hml0
  have hown : s.vm.findClass "com/example/rolegate/rolegate/TransportGuaranteeMetByPinLaw" = some m.cls := findClass_of_methodNamed Bd.named
  have hnm := (name_of_methodNamed Bd.named Bd.method).1
  have X0 : Stand p l e ({ frames := 0, cells := 0, slots := 0, locals := 0 } : Room) s m #[(.int (1 : Int32))] below meth c s₁ [] 0 0 := Stand.of_body Bd
  have e0 : s₁.heap = h0 := by rw [← hh, Bd.state]; rfl
  have N0 := Fr.nil n0
  have g0 : Go p e below s₁ (mkF m 0 #[iv (1 : Int32)] []) (s₁.setTop (entryFrame m #[(.int (1 : Int32))] 1)) := fun t kont => castTop (ef_pick1 m (1 : Int32) ) kont
  generalize s₁.setTop (entryFrame m #[(.int (1 : Int32))] 1) = A0 at g0 ⊢
  have g101 : Go p e below s₁ (mkF m 13 #[iv (1 : Int32)] []) A0 := by
    intro t kont
    refine g0 t ?_
    refine XS.iloadN X0.here hx rfl (hb hby d1_0) rfl ?_
    show Steps p.tables e below (s₁.setTop (mkF m 1 #[iv (1 : Int32)] [(.int (1 : Int32))])) _
    refine XS.ifYes X0.here hx rfl (pc0 := 1) (pc' := 8) rfl (hb hby d1_1) rfl ((if0 _ _).trans (feq (by decide : ¬ ((1 : Int32) = (0 : Int32)))).2) (by decide) (by decide) ?_
    show Steps p.tables e below (s₁.setTop (mkF m 8 #[iv (1 : Int32)] [])) _
    refine XS.iloadN X0.here hx rfl (hb hby d1_8) rfl ?_
    show Steps p.tables e below (s₁.setTop (mkF m 9 #[iv (1 : Int32)] [(.int (1 : Int32))])) _
    refine XS.iconst X0.here hx rfl (hb hby d1_9) ?_
    show Steps p.tables e below (s₁.setTop (mkF m 10 #[iv (1 : Int32)] [(.int (1 : Int32)), (.int (1 : Int32))])) _
    refine XS.icmpNo X0.here hx rfl (hb hby d1_10) rfl (teq (by decide : (1 : Int32) = (1 : Int32))).2 ?_
    show Steps p.tables e below (s₁.setTop (mkF m 13 #[iv (1 : Int32)] [])) _
    exact kont
  have y102 : Sta Z h0 "com/example/rolegate/rolegate/TransportGuarantee" "INTEGRAL" "Lcom/example/rolegate/rolegate/TransportGuarantee;" (.ref w_INTEGRAL) := S0_.ext O0.2
  obtain ⟨T103, X103, e103, st103⟩ := getS2 X0 hx hZ hown (host := "") (Or.inl (hw _ (List.mem_of_getElem? (i := 16) rfl))) Via.refl e0 y102 (g := (mkF m 13 #[iv (1 : Int32)] [])) rfl (hb hby d1_13)
  have g104 : Go p e below T103 (mkF m 16 #[iv (1 : Int32)] [(.ref w_INTEGRAL)]) A0 := fun t kont => g101 t (st103 t kont)
  obtain ⟨fs, hr, hrun, hended, hW, hsame⟩ := X103.leave (v := some (.ref w_INTEGRAL)) (fun h => by rw [Bd.returns] at h; cases h)
  refine ⟨_, _, g104 _ (retOut X103 hx Bd.returns rfl (Or.inr (Or.inr (Or.inr (Or.inr ⟨rfl, rfl, rfl⟩)))) (hb hby d1_16) hr), hrun, hended, _, _, rfl, ?_, ⟨_, rfl⟩, hW, hsame.mono (by decide) (by decide)⟩
  show Q_pick1 Z w_INTEGRAL h0 n0 _ T103.heap _
  rw [e103]
  exact ⟨rfl, N0, rfl⟩
theorem d1_17 : decode method_2_code 17 = .ok (.getstatic 16, 3) := by decide +kernel
theorem d1_20 : decode method_2_code 20 = .ok (.areturn, 1) := by decide +kernel
theorem ef_pick2 (m : MethodId) (x0 : Int32)  : entryFrame m #[(.int x0)] 1 = mkF m 0 #[.val (.int x0)] [] := by first | (simp [entryFrame, mkF, argsToLocals, Value.category]; done) | rfl
def Q_pick2 (Z : State) (i1 : Int32) (w_CONFIDENTIAL : Addr) (h0 : Heap) (n0 : Nat) (v : Option Value) (h : Heap) (L : List Loc) : Prop := v = some (.ref w_CONFIDENTIAL) ∧ Fr n0 L ∧ h = h0
set_option maxRecDepth 65536 in
set_option maxHeartbeats 40000000 in
theorem rm_pick2 (l : Launch) (Z : State) (a0 : Array Value) (hw : ∀ d ∈ tables_1, d.before a0 Z = true) (ws : List Jvm.Cond) (i1 : Int32) (w_CONFIDENTIAL : Addr) (h0 : Heap) (n0 : Nat) (O0 : Old Z n0 h0) (S0_ : Sta Z Z.heap "com/example/rolegate/rolegate/TransportGuarantee" "CONFIDENTIAL" "Lcom/example/rolegate/rolegate/TransportGuarantee;" (.ref w_CONFIDENTIAL)) (h1 : ¬ (i1 = (0 : Int32))) (h2 : ¬ (i1 = (1 : Int32))) :
    MetFree l (⟨"com/example/rolegate/rolegate/TransportGuaranteeMetByPinLaw", "pick", "(I)Lcom/example/rolegate/rolegate/TransportGuarantee;"⟩ : MethodName) (head1 (Jvm.Cond.code (⟨"com/example/rolegate/rolegate/TransportGuaranteeMetByPinLaw", "pick", "(I)Lcom/example/rolegate/rolegate/TransportGuarantee;"⟩ : MethodName) method_2_code 1 (some (.object "com/example/rolegate/rolegate/TransportGuarantee")) :: ws) ({ frames := 0, cells := 0, slots := 0, locals := 0 } : Room)) (fun a U => a = #[(.int i1)] ∧ Z.Warmed39 U.vm ∧ U.heap = h0) (fun _ _ _ _ _ => True) (fun _ U o U' => ∃ v L, o = .returned v ∧ Q_pick2 Z i1 w_CONFIDENTIAL h0 n0 v U'.heap L ∧ FrameEnd U o U' L ({ frames := 0, cells := 0, slots := 0, locals := 0 } : Room).cells ({ frames := 0, cells := 0, slots := 0, locals := 0 } : Room).slots) := by
  refine MetFree.of_bodySF (plainFor_of_name pn_com_example_rolegate_rolegate_TransportGuaranteeMetByPinLaw) hisR ?_
  intro p e s m args below meth c s₁ Bd hml0 hP hK
  obtain ⟨rfl, hZ, hh⟩ := hP
  have hx := Bd.exec
  have hby := Bd.bytes
  have hml : c.maxLocals = 1 := hml0
  have hown : s.vm.findClass "com/example/rolegate/rolegate/TransportGuaranteeMetByPinLaw" = some m.cls := findClass_of_methodNamed Bd.named
  have hnm := (name_of_methodNamed Bd.named Bd.method).1
  have X0 : Stand p l e ({ frames := 0, cells := 0, slots := 0, locals := 0 } : Room) s m #[(.int i1)] below meth c s₁ [] 0 0 := Stand.of_body Bd
  have e0 : s₁.heap = h0 := by rw [← hh, Bd.state]; rfl
  have N0 := Fr.nil n0
  have g0 : Go p e below s₁ (mkF m 0 #[iv i1] []) (s₁.setTop (entryFrame m #[(.int i1)] 1)) := fun t kont => castTop (ef_pick2 m i1 ) kont
  generalize s₁.setTop (entryFrame m #[(.int i1)] 1) = A0 at g0 ⊢
  have g101 : Go p e below s₁ (mkF m 17 #[iv i1] []) A0 := by
    intro t kont
    refine g0 t ?_
    refine XS.iloadN X0.here hx rfl (hb hby d1_0) rfl ?_
    show Steps p.tables e below (s₁.setTop (mkF m 1 #[iv i1] [(.int i1)])) _
    refine XS.ifYes X0.here hx rfl (pc0 := 1) (pc' := 8) rfl (hb hby d1_1) rfl ((if0 _ _).trans (feq h1).2) (by decide) (by decide) ?_
    show Steps p.tables e below (s₁.setTop (mkF m 8 #[iv i1] [])) _
    refine XS.iloadN X0.here hx rfl (hb hby d1_8) rfl ?_
    show Steps p.tables e below (s₁.setTop (mkF m 9 #[iv i1] [(.int i1)])) _
    refine XS.iconst X0.here hx rfl (hb hby d1_9) ?_
    show Steps p.tables e below (s₁.setTop (mkF m 10 #[iv i1] [(.int (1 : Int32)), (.int i1)])) _
    refine XS.icmpYes X0.here hx rfl (pc0 := 10) (pc' := 17) rfl (hb hby d1_10) rfl (feq h2).2 (by decide) (by decide) ?_
    show Steps p.tables e below (s₁.setTop (mkF m 17 #[iv i1] [])) _
    exact kont
  have y102 : Sta Z h0 "com/example/rolegate/rolegate/TransportGuarantee" "CONFIDENTIAL" "Lcom/example/rolegate/rolegate/TransportGuarantee;" (.ref w_CONFIDENTIAL) := S0_.ext O0.2
  obtain ⟨T103, X103, e103, st103⟩ := getS2 X0 hx hZ hown (host := "") (Or.inl (hw _ (List.mem_of_getElem? (i := 14) rfl))) Via.refl e0 y102 (g := (mkF m 17 #[iv i1] [])) rfl (hb hby d1_17)
  have g104 : Go p e below T103 (mkF m 20 #[iv i1] [(.ref w_CONFIDENTIAL)]) A0 := fun t kont => g101 t (st103 t kont)
  obtain ⟨fs, hr, hrun, hended, hW, hsame⟩ := X103.leave (v := some (.ref w_CONFIDENTIAL)) (fun h => by rw [Bd.returns] at h; cases h)
  refine ⟨_, _, g104 _ (retOut X103 hx Bd.returns rfl (Or.inr (Or.inr (Or.inr (Or.inr ⟨rfl, rfl, rfl⟩)))) (hb hby d1_20) hr), hrun, hended, _, _, rfl, ?_, ⟨_, rfl⟩, hW, hsame.mono (by decide) (by decide)⟩
  show Q_pick2 Z i1 w_CONFIDENTIAL h0 n0 _ T103.heap _
  rw [e103]
  exact ⟨rfl, N0, rfl⟩
theorem d2_0 : decode prog_30_method_6_code 0 = .ok (.aload_n 0, 1) := by decide +kernel
theorem d2_1 : decode prog_30_method_6_code 1 = .ok (.getstatic 3, 3) := by decide +kernel
theorem d2_4 : decode prog_30_method_6_code 4 = .ok (.if_acmp .eq 7, 3) := by decide +kernel
theorem d2_11 : decode prog_30_method_6_code 11 = .ok (.iconst 1, 1) := by decide +kernel
theorem d2_12 : decode prog_30_method_6_code 12 = .ok (.goto 4, 3) := by decide +kernel
theorem d2_16 : decode prog_30_method_6_code 16 = .ok (.ireturn, 1) := by decide +kernel
theorem pn_com_example_rolegate_rolegate_TransportGuarantee : plainName "com/example/rolegate/rolegate/TransportGuarantee" = true := by first | (simp [plainName, overriddenIn]; done) | decide +kernel
theorem ef_metN0 (m : MethodId) (x0 : Addr) (x1 : Int32)  : entryFrame m #[(.ref x0), (.int x1)] 2 = mkF m 0 #[.val (.ref x0), .val (.int x1)] [] := by first | (simp [entryFrame, mkF, argsToLocals, Value.category]; done) | rfl
def Q_metN0 (Z : State) (w_NONE : Addr) (h0 : Heap) (n0 : Nat) (v : Option Value) (h : Heap) (L : List Loc) : Prop := v = some (.int (1 : Int32)) ∧ Fr n0 L ∧ h = h0
set_option maxRecDepth 65536 in
set_option maxHeartbeats 40000000 in
theorem rm_metN0 (l : Launch) (Z : State) (a0 : Array Value) (hw : ∀ d ∈ tables_1, d.before a0 Z = true) (ws : List Jvm.Cond) (w_NONE : Addr) (h0 : Heap) (n0 : Nat) (O0 : Old Z n0 h0) (S0_ : Sta Z Z.heap "com/example/rolegate/rolegate/TransportGuarantee" "NONE" "Lcom/example/rolegate/rolegate/TransportGuarantee;" (.ref w_NONE)) :
    MetFree l (⟨"com/example/rolegate/rolegate/TransportGuarantee", "metBy", "(Z)Z"⟩ : MethodName) (head1 (Jvm.Cond.code (⟨"com/example/rolegate/rolegate/TransportGuarantee", "metBy", "(Z)Z"⟩ : MethodName) prog_30_method_6_code 2 (some .boolean) :: ws) ({ frames := 0, cells := 0, slots := 0, locals := 0 } : Room)) (fun a U => a = #[(.ref w_NONE), (.int (0 : Int32))] ∧ Z.Warmed39 U.vm ∧ U.heap = h0) (fun _ _ _ _ _ => True) (fun _ U o U' => ∃ v L, o = .returned v ∧ Q_metN0 Z w_NONE h0 n0 v U'.heap L ∧ FrameEnd U o U' L ({ frames := 0, cells := 0, slots := 0, locals := 0 } : Room).cells ({ frames := 0, cells := 0, slots := 0, locals := 0 } : Room).slots) := by
  refine MetFree.of_bodySF (plainFor_of_name pn_com_example_rolegate_rolegate_TransportGuarantee) hisR ?_
  intro p e s m args below meth c s₁ Bd hml0 hP hK
  obtain ⟨rfl, hZ, hh⟩ := hP
  have hx := Bd.exec
  have hby := Bd.bytes
  have hml : c.maxLocals = 2 := hml0
  have hown : s.vm.findClass "com/example/rolegate/rolegate/TransportGuarantee" = some m.cls := findClass_of_methodNamed Bd.named
  have hnm := (name_of_methodNamed Bd.named Bd.method).1
  have X0 : Stand p l e ({ frames := 0, cells := 0, slots := 0, locals := 0 } : Room) s m #[(.ref w_NONE), (.int (0 : Int32))] below meth c s₁ [] 0 0 := Stand.of_body Bd
  have e0 : s₁.heap = h0 := by rw [← hh, Bd.state]; rfl
  have N0 := Fr.nil n0
  have g0 : Go p e below s₁ (mkF m 0 #[rv w_NONE, iv (0 : Int32)] []) (s₁.setTop (entryFrame m #[(.ref w_NONE), (.int (0 : Int32))] 2)) := fun t kont => castTop (ef_metN0 m w_NONE (0 : Int32) ) kont
  generalize s₁.setTop (entryFrame m #[(.ref w_NONE), (.int (0 : Int32))] 2) = A0 at g0 ⊢
  have g101 : Go p e below s₁ (mkF m 1 #[rv w_NONE, iv (0 : Int32)] [(.ref w_NONE)]) A0 := by
    intro t kont
    refine g0 t ?_
    refine XS.aloadN X0.here hx rfl (hb hby d2_0) rfl rfl ?_
    show Steps p.tables e below (s₁.setTop (mkF m 1 #[rv w_NONE, iv (0 : Int32)] [(.ref w_NONE)])) _
    exact kont
  have y102 : Sta Z h0 "com/example/rolegate/rolegate/TransportGuarantee" "NONE" "Lcom/example/rolegate/rolegate/TransportGuarantee;" (.ref w_NONE) := S0_.ext O0.2
  obtain ⟨T103, X103, e103, st103⟩ := getS2 X0 hx hZ hown (host := "") (Or.inl (hw _ (List.mem_of_getElem? (i := 13) rfl))) Via.refl e0 y102 (g := (mkF m 1 #[rv w_NONE, iv (0 : Int32)] [(.ref w_NONE)])) rfl (hb hby d2_1)
  have g104 : Go p e below T103 (mkF m 4 #[rv w_NONE, iv (0 : Int32)] [(.ref w_NONE), (.ref w_NONE)]) A0 := fun t kont => g101 t (st103 t kont)
  have g105 : Go p e below T103 (mkF m 16 #[rv w_NONE, iv (0 : Int32)] [(.int (1 : Int32))]) A0 := by
    intro t kont
    refine g104 t ?_
    refine Jvm.RoadKit.acmp (g := (mkF m 4 #[rv w_NONE, iv (0 : Int32)] [(.ref w_NONE), (.ref w_NONE)])) X103 hx rfl rfl rfl (pc0 := 4) (pc' := 11) (same := true) rfl (hb hby d2_4) rfl (decide_eq_true rfl) (by decide) (by decide) ?_
    show Steps p.tables e below (T103.setTop (mkF m 11 #[rv w_NONE, iv (0 : Int32)] [])) _
    refine XS.iconst X103.here hx rfl (hb hby d2_11) ?_
    show Steps p.tables e below (T103.setTop (mkF m 12 #[rv w_NONE, iv (0 : Int32)] [(.int (1 : Int32))])) _
    refine XS.goto X103.here hx rfl (pc0 := 12) (pc' := 16) rfl (hb hby d2_12) (by decide) (by decide) ?_
    show Steps p.tables e below (T103.setTop (mkF m 16 #[rv w_NONE, iv (0 : Int32)] [(.int (1 : Int32))])) _
    exact kont
  obtain ⟨fs, hr, hrun, hended, hW, hsame⟩ := X103.leave (v := some (.int (1 : Int32))) (fun h => by rw [Bd.returns] at h; cases h)
  refine ⟨_, _, g105 _ (retN X103 hx (t := .boolean) Bd.returns (by simp) (hb hby d2_16) hr), hrun, hended, _, _, rfl, ?_, ⟨_, rfl⟩, hW, hsame.mono (by decide) (by decide)⟩
  show Q_metN0 Z w_NONE h0 n0 _ T103.heap _
  rw [e103]
  exact ⟨rfl, N0, rfl⟩
theorem d2_7 : decode prog_30_method_6_code 7 = .ok (.iload_n 1, 1) := by decide +kernel
theorem d2_8 : decode prog_30_method_6_code 8 = .ok (.ifCond .eq 7, 3) := by decide +kernel
theorem d2_15 : decode prog_30_method_6_code 15 = .ok (.iconst 0, 1) := by decide +kernel
theorem ef_metO0 (m : MethodId) (x0 : Addr) (x1 : Int32)  : entryFrame m #[(.ref x0), (.int x1)] 2 = mkF m 0 #[.val (.ref x0), .val (.int x1)] [] := by first | (simp [entryFrame, mkF, argsToLocals, Value.category]; done) | rfl
def Q_metO0 (Z : State) (a1 : Addr) (w_NONE : Addr) (h0 : Heap) (n0 : Nat) (v : Option Value) (h : Heap) (L : List Loc) : Prop := v = some (.int (0 : Int32)) ∧ Fr n0 L ∧ h = h0
set_option maxRecDepth 65536 in
set_option maxHeartbeats 40000000 in
theorem rm_metO0 (l : Launch) (Z : State) (a0 : Array Value) (hw : ∀ d ∈ tables_1, d.before a0 Z = true) (ws : List Jvm.Cond) (a1 : Addr) (w_NONE : Addr) (h0 : Heap) (n0 : Nat) (O0 : Old Z n0 h0) (S0_ : Sta Z Z.heap "com/example/rolegate/rolegate/TransportGuarantee" "NONE" "Lcom/example/rolegate/rolegate/TransportGuarantee;" (.ref w_NONE)) (NE1_ : ¬ (a1 = w_NONE)) :
    MetFree l (⟨"com/example/rolegate/rolegate/TransportGuarantee", "metBy", "(Z)Z"⟩ : MethodName) (head1 (Jvm.Cond.code (⟨"com/example/rolegate/rolegate/TransportGuarantee", "metBy", "(Z)Z"⟩ : MethodName) prog_30_method_6_code 2 (some .boolean) :: ws) ({ frames := 0, cells := 0, slots := 0, locals := 0 } : Room)) (fun a U => a = #[(.ref a1), (.int (0 : Int32))] ∧ Z.Warmed39 U.vm ∧ U.heap = h0) (fun _ _ _ _ _ => True) (fun _ U o U' => ∃ v L, o = .returned v ∧ Q_metO0 Z a1 w_NONE h0 n0 v U'.heap L ∧ FrameEnd U o U' L ({ frames := 0, cells := 0, slots := 0, locals := 0 } : Room).cells ({ frames := 0, cells := 0, slots := 0, locals := 0 } : Room).slots) := by
  refine MetFree.of_bodySF (plainFor_of_name pn_com_example_rolegate_rolegate_TransportGuarantee) hisR ?_
  intro p e s m args below meth c s₁ Bd hml0 hP hK
  obtain ⟨rfl, hZ, hh⟩ := hP
  have hx := Bd.exec
  have hby := Bd.bytes
  have hml : c.maxLocals = 2 := hml0
  have hown : s.vm.findClass "com/example/rolegate/rolegate/TransportGuarantee" = some m.cls := findClass_of_methodNamed Bd.named
  have hnm := (name_of_methodNamed Bd.named Bd.method).1
  have X0 : Stand p l e ({ frames := 0, cells := 0, slots := 0, locals := 0 } : Room) s m #[(.ref a1), (.int (0 : Int32))] below meth c s₁ [] 0 0 := Stand.of_body Bd
  have e0 : s₁.heap = h0 := by rw [← hh, Bd.state]; rfl
  have N0 := Fr.nil n0
  have g0 : Go p e below s₁ (mkF m 0 #[rv a1, iv (0 : Int32)] []) (s₁.setTop (entryFrame m #[(.ref a1), (.int (0 : Int32))] 2)) := fun t kont => castTop (ef_metO0 m a1 (0 : Int32) ) kont
  generalize s₁.setTop (entryFrame m #[(.ref a1), (.int (0 : Int32))] 2) = A0 at g0 ⊢
  have g101 : Go p e below s₁ (mkF m 1 #[rv a1, iv (0 : Int32)] [(.ref a1)]) A0 := by
    intro t kont
    refine g0 t ?_
    refine XS.aloadN X0.here hx rfl (hb hby d2_0) rfl rfl ?_
    show Steps p.tables e below (s₁.setTop (mkF m 1 #[rv a1, iv (0 : Int32)] [(.ref a1)])) _
    exact kont
  have y102 : Sta Z h0 "com/example/rolegate/rolegate/TransportGuarantee" "NONE" "Lcom/example/rolegate/rolegate/TransportGuarantee;" (.ref w_NONE) := S0_.ext O0.2
  obtain ⟨T103, X103, e103, st103⟩ := getS2 X0 hx hZ hown (host := "") (Or.inl (hw _ (List.mem_of_getElem? (i := 13) rfl))) Via.refl e0 y102 (g := (mkF m 1 #[rv a1, iv (0 : Int32)] [(.ref a1)])) rfl (hb hby d2_1)
  have g104 : Go p e below T103 (mkF m 4 #[rv a1, iv (0 : Int32)] [(.ref w_NONE), (.ref a1)]) A0 := fun t kont => g101 t (st103 t kont)
  have g105 : Go p e below T103 (mkF m 16 #[rv a1, iv (0 : Int32)] [(.int (0 : Int32))]) A0 := by
    intro t kont
    refine g104 t ?_
    refine Jvm.RoadKit.acmp (g := (mkF m 4 #[rv a1, iv (0 : Int32)] [(.ref w_NONE), (.ref a1)])) X103 hx rfl rfl rfl (pc0 := 4) (pc' := 7) (same := false) rfl (hb hby d2_4) rfl (decide_eq_false fun q => NE1_ (Value.ref.inj q)) (by decide) (by decide) ?_
    show Steps p.tables e below (T103.setTop (mkF m 7 #[rv a1, iv (0 : Int32)] [])) _
    refine XS.iloadN X103.here hx rfl (hb hby d2_7) rfl ?_
    show Steps p.tables e below (T103.setTop (mkF m 8 #[rv a1, iv (0 : Int32)] [(.int (0 : Int32))])) _
    refine XS.ifYes X103.here hx rfl (pc0 := 8) (pc' := 15) rfl (hb hby d2_8) rfl ((if0 _ _).trans (teq (by decide : (0 : Int32) = (0 : Int32))).1) (by decide) (by decide) ?_
    show Steps p.tables e below (T103.setTop (mkF m 15 #[rv a1, iv (0 : Int32)] [])) _
    refine XS.iconst X103.here hx rfl (hb hby d2_15) ?_
    show Steps p.tables e below (T103.setTop (mkF m 16 #[rv a1, iv (0 : Int32)] [(.int (0 : Int32))])) _
    exact kont
  obtain ⟨fs, hr, hrun, hended, hW, hsame⟩ := X103.leave (v := some (.int (0 : Int32))) (fun h => by rw [Bd.returns] at h; cases h)
  refine ⟨_, _, g105 _ (retN X103 hx (t := .boolean) Bd.returns (by simp) (hb hby d2_16) hr), hrun, hended, _, _, rfl, ?_, ⟨_, rfl⟩, hW, hsame.mono (by decide) (by decide)⟩
  show Q_metO0 Z a1 w_NONE h0 n0 _ T103.heap _
  rw [e103]
  exact ⟨rfl, N0, rfl⟩
theorem ef_metN1 (m : MethodId) (x0 : Addr) (x1 : Int32)  : entryFrame m #[(.ref x0), (.int x1)] 2 = mkF m 0 #[.val (.ref x0), .val (.int x1)] [] := by first | (simp [entryFrame, mkF, argsToLocals, Value.category]; done) | rfl
def Q_metN1 (Z : State) (w_NONE : Addr) (h0 : Heap) (n0 : Nat) (v : Option Value) (h : Heap) (L : List Loc) : Prop := v = some (.int (1 : Int32)) ∧ Fr n0 L ∧ h = h0
set_option maxRecDepth 65536 in
set_option maxHeartbeats 40000000 in
theorem rm_metN1 (l : Launch) (Z : State) (a0 : Array Value) (hw : ∀ d ∈ tables_1, d.before a0 Z = true) (ws : List Jvm.Cond) (w_NONE : Addr) (h0 : Heap) (n0 : Nat) (O0 : Old Z n0 h0) (S0_ : Sta Z Z.heap "com/example/rolegate/rolegate/TransportGuarantee" "NONE" "Lcom/example/rolegate/rolegate/TransportGuarantee;" (.ref w_NONE)) :
    MetFree l (⟨"com/example/rolegate/rolegate/TransportGuarantee", "metBy", "(Z)Z"⟩ : MethodName) (head1 (Jvm.Cond.code (⟨"com/example/rolegate/rolegate/TransportGuarantee", "metBy", "(Z)Z"⟩ : MethodName) prog_30_method_6_code 2 (some .boolean) :: ws) ({ frames := 0, cells := 0, slots := 0, locals := 0 } : Room)) (fun a U => a = #[(.ref w_NONE), (.int (1 : Int32))] ∧ Z.Warmed39 U.vm ∧ U.heap = h0) (fun _ _ _ _ _ => True) (fun _ U o U' => ∃ v L, o = .returned v ∧ Q_metN1 Z w_NONE h0 n0 v U'.heap L ∧ FrameEnd U o U' L ({ frames := 0, cells := 0, slots := 0, locals := 0 } : Room).cells ({ frames := 0, cells := 0, slots := 0, locals := 0 } : Room).slots) := by
  refine MetFree.of_bodySF (plainFor_of_name pn_com_example_rolegate_rolegate_TransportGuarantee) hisR ?_
  intro p e s m args below meth c s₁ Bd hml0 hP hK
  obtain ⟨rfl, hZ, hh⟩ := hP
  have hx := Bd.exec
  have hby := Bd.bytes
  have hml : c.maxLocals = 2 := hml0
  have hown : s.vm.findClass "com/example/rolegate/rolegate/TransportGuarantee" = some m.cls := findClass_of_methodNamed Bd.named
  have hnm := (name_of_methodNamed Bd.named Bd.method).1
  have X0 : Stand p l e ({ frames := 0, cells := 0, slots := 0, locals := 0 } : Room) s m #[(.ref w_NONE), (.int (1 : Int32))] below meth c s₁ [] 0 0 := Stand.of_body Bd
  have e0 : s₁.heap = h0 := by rw [← hh, Bd.state]; rfl
  have N0 := Fr.nil n0
  have g0 : Go p e below s₁ (mkF m 0 #[rv w_NONE, iv (1 : Int32)] []) (s₁.setTop (entryFrame m #[(.ref w_NONE), (.int (1 : Int32))] 2)) := fun t kont => castTop (ef_metN1 m w_NONE (1 : Int32) ) kont
  generalize s₁.setTop (entryFrame m #[(.ref w_NONE), (.int (1 : Int32))] 2) = A0 at g0 ⊢
  have g101 : Go p e below s₁ (mkF m 1 #[rv w_NONE, iv (1 : Int32)] [(.ref w_NONE)]) A0 := by
    intro t kont
    refine g0 t ?_
    refine XS.aloadN X0.here hx rfl (hb hby d2_0) rfl rfl ?_
    show Steps p.tables e below (s₁.setTop (mkF m 1 #[rv w_NONE, iv (1 : Int32)] [(.ref w_NONE)])) _
    exact kont
  have y102 : Sta Z h0 "com/example/rolegate/rolegate/TransportGuarantee" "NONE" "Lcom/example/rolegate/rolegate/TransportGuarantee;" (.ref w_NONE) := S0_.ext O0.2
  obtain ⟨T103, X103, e103, st103⟩ := getS2 X0 hx hZ hown (host := "") (Or.inl (hw _ (List.mem_of_getElem? (i := 13) rfl))) Via.refl e0 y102 (g := (mkF m 1 #[rv w_NONE, iv (1 : Int32)] [(.ref w_NONE)])) rfl (hb hby d2_1)
  have g104 : Go p e below T103 (mkF m 4 #[rv w_NONE, iv (1 : Int32)] [(.ref w_NONE), (.ref w_NONE)]) A0 := fun t kont => g101 t (st103 t kont)
  have g105 : Go p e below T103 (mkF m 16 #[rv w_NONE, iv (1 : Int32)] [(.int (1 : Int32))]) A0 := by
    intro t kont
    refine g104 t ?_
    refine Jvm.RoadKit.acmp (g := (mkF m 4 #[rv w_NONE, iv (1 : Int32)] [(.ref w_NONE), (.ref w_NONE)])) X103 hx rfl rfl rfl (pc0 := 4) (pc' := 11) (same := true) rfl (hb hby d2_4) rfl (decide_eq_true rfl) (by decide) (by decide) ?_
    show Steps p.tables e below (T103.setTop (mkF m 11 #[rv w_NONE, iv (1 : Int32)] [])) _
    refine XS.iconst X103.here hx rfl (hb hby d2_11) ?_
    show Steps p.tables e below (T103.setTop (mkF m 12 #[rv w_NONE, iv (1 : Int32)] [(.int (1 : Int32))])) _
    refine XS.goto X103.here hx rfl (pc0 := 12) (pc' := 16) rfl (hb hby d2_12) (by decide) (by decide) ?_
    show Steps p.tables e below (T103.setTop (mkF m 16 #[rv w_NONE, iv (1 : Int32)] [(.int (1 : Int32))])) _
    exact kont
  obtain ⟨fs, hr, hrun, hended, hW, hsame⟩ := X103.leave (v := some (.int (1 : Int32))) (fun h => by rw [Bd.returns] at h; cases h)
  refine ⟨_, _, g105 _ (retN X103 hx (t := .boolean) Bd.returns (by simp) (hb hby d2_16) hr), hrun, hended, _, _, rfl, ?_, ⟨_, rfl⟩, hW, hsame.mono (by decide) (by decide)⟩
  show Q_metN1 Z w_NONE h0 n0 _ T103.heap _
  rw [e103]
  exact ⟨rfl, N0, rfl⟩
theorem ef_metO1 (m : MethodId) (x0 : Addr) (x1 : Int32)  : entryFrame m #[(.ref x0), (.int x1)] 2 = mkF m 0 #[.val (.ref x0), .val (.int x1)] [] := by first | (simp [entryFrame, mkF, argsToLocals, Value.category]; done) | rfl
def Q_metO1 (Z : State) (a1 : Addr) (w_NONE : Addr) (h0 : Heap) (n0 : Nat) (v : Option Value) (h : Heap) (L : List Loc) : Prop := v = some (.int (1 : Int32)) ∧ Fr n0 L ∧ h = h0
set_option maxRecDepth 65536 in
set_option maxHeartbeats 40000000 in
theorem rm_metO1 (l : Launch) (Z : State) (a0 : Array Value) (hw : ∀ d ∈ tables_1, d.before a0 Z = true) (ws : List Jvm.Cond) (a1 : Addr) (w_NONE : Addr) (h0 : Heap) (n0 : Nat) (O0 : Old Z n0 h0) (S0_ : Sta Z Z.heap "com/example/rolegate/rolegate/TransportGuarantee" "NONE" "Lcom/example/rolegate/rolegate/TransportGuarantee;" (.ref w_NONE)) (NE1_ : ¬ (a1 = w_NONE)) :
    MetFree l (⟨"com/example/rolegate/rolegate/TransportGuarantee", "metBy", "(Z)Z"⟩ : MethodName) (head1 (Jvm.Cond.code (⟨"com/example/rolegate/rolegate/TransportGuarantee", "metBy", "(Z)Z"⟩ : MethodName) prog_30_method_6_code 2 (some .boolean) :: ws) ({ frames := 0, cells := 0, slots := 0, locals := 0 } : Room)) (fun a U => a = #[(.ref a1), (.int (1 : Int32))] ∧ Z.Warmed39 U.vm ∧ U.heap = h0) (fun _ _ _ _ _ => True) (fun _ U o U' => ∃ v L, o = .returned v ∧ Q_metO1 Z a1 w_NONE h0 n0 v U'.heap L ∧ FrameEnd U o U' L ({ frames := 0, cells := 0, slots := 0, locals := 0 } : Room).cells ({ frames := 0, cells := 0, slots := 0, locals := 0 } : Room).slots) := by
  refine MetFree.of_bodySF (plainFor_of_name pn_com_example_rolegate_rolegate_TransportGuarantee) hisR ?_
  intro p e s m args below meth c s₁ Bd hml0 hP hK
  obtain ⟨rfl, hZ, hh⟩ := hP
  have hx := Bd.exec
  have hby := Bd.bytes
  have hml : c.maxLocals = 2 := hml0
  have hown : s.vm.findClass "com/example/rolegate/rolegate/TransportGuarantee" = some m.cls := findClass_of_methodNamed Bd.named
  have hnm := (name_of_methodNamed Bd.named Bd.method).1
  have X0 : Stand p l e ({ frames := 0, cells := 0, slots := 0, locals := 0 } : Room) s m #[(.ref a1), (.int (1 : Int32))] below meth c s₁ [] 0 0 := Stand.of_body Bd
  have e0 : s₁.heap = h0 := by rw [← hh, Bd.state]; rfl
  have N0 := Fr.nil n0
  have g0 : Go p e below s₁ (mkF m 0 #[rv a1, iv (1 : Int32)] []) (s₁.setTop (entryFrame m #[(.ref a1), (.int (1 : Int32))] 2)) := fun t kont => castTop (ef_metO1 m a1 (1 : Int32) ) kont
  generalize s₁.setTop (entryFrame m #[(.ref a1), (.int (1 : Int32))] 2) = A0 at g0 ⊢
  have g101 : Go p e below s₁ (mkF m 1 #[rv a1, iv (1 : Int32)] [(.ref a1)]) A0 := by
    intro t kont
    refine g0 t ?_
    refine XS.aloadN X0.here hx rfl (hb hby d2_0) rfl rfl ?_
    show Steps p.tables e below (s₁.setTop (mkF m 1 #[rv a1, iv (1 : Int32)] [(.ref a1)])) _
    exact kont
  have y102 : Sta Z h0 "com/example/rolegate/rolegate/TransportGuarantee" "NONE" "Lcom/example/rolegate/rolegate/TransportGuarantee;" (.ref w_NONE) := S0_.ext O0.2
  obtain ⟨T103, X103, e103, st103⟩ := getS2 X0 hx hZ hown (host := "") (Or.inl (hw _ (List.mem_of_getElem? (i := 13) rfl))) Via.refl e0 y102 (g := (mkF m 1 #[rv a1, iv (1 : Int32)] [(.ref a1)])) rfl (hb hby d2_1)
  have g104 : Go p e below T103 (mkF m 4 #[rv a1, iv (1 : Int32)] [(.ref w_NONE), (.ref a1)]) A0 := fun t kont => g101 t (st103 t kont)
  have g105 : Go p e below T103 (mkF m 16 #[rv a1, iv (1 : Int32)] [(.int (1 : Int32))]) A0 := by
    intro t kont
    refine g104 t ?_
    refine Jvm.RoadKit.acmp (g := (mkF m 4 #[rv a1, iv (1 : Int32)] [(.ref w_NONE), (.ref a1)])) X103 hx rfl rfl rfl (pc0 := 4) (pc' := 7) (same := false) rfl (hb hby d2_4) rfl (decide_eq_false fun q => NE1_ (Value.ref.inj q)) (by decide) (by decide) ?_
    show Steps p.tables e below (T103.setTop (mkF m 7 #[rv a1, iv (1 : Int32)] [])) _
    refine XS.iloadN X103.here hx rfl (hb hby d2_7) rfl ?_
    show Steps p.tables e below (T103.setTop (mkF m 8 #[rv a1, iv (1 : Int32)] [(.int (1 : Int32))])) _
    refine XS.ifNo X103.here hx rfl (hb hby d2_8) rfl ((if0 _ _).trans (feq (by decide : ¬ ((1 : Int32) = (0 : Int32)))).1) ?_
    show Steps p.tables e below (T103.setTop (mkF m 11 #[rv a1, iv (1 : Int32)] [])) _
    refine XS.iconst X103.here hx rfl (hb hby d2_11) ?_
    show Steps p.tables e below (T103.setTop (mkF m 12 #[rv a1, iv (1 : Int32)] [(.int (1 : Int32))])) _
    refine XS.goto X103.here hx rfl (pc0 := 12) (pc' := 16) rfl (hb hby d2_12) (by decide) (by decide) ?_
    show Steps p.tables e below (T103.setTop (mkF m 16 #[rv a1, iv (1 : Int32)] [(.int (1 : Int32))])) _
    exact kont
  obtain ⟨fs, hr, hrun, hended, hW, hsame⟩ := X103.leave (v := some (.int (1 : Int32))) (fun h => by rw [Bd.returns] at h; cases h)
  refine ⟨_, _, g105 _ (retN X103 hx (t := .boolean) Bd.returns (by simp) (hb hby d2_16) hr), hrun, hended, _, _, rfl, ?_, ⟨_, rfl⟩, hW, hsame.mono (by decide) (by decide)⟩
  show Q_metO1 Z a1 w_NONE h0 n0 _ T103.heap _
  rw [e103]
  exact ⟨rfl, N0, rfl⟩
theorem pd_0 : parseMethodDescriptor "(I)Lcom/example/rolegate/rolegate/TransportGuarantee;" = some ⟨[.int], some (.object "com/example/rolegate/rolegate/TransportGuarantee")⟩ := by decide +kernel
theorem pd_1 : parseMethodDescriptor "(Z)Z" = some ⟨[.boolean], some .boolean⟩ := by decide +kernel
theorem ef_law (m : MethodId) (x0 : Int32) (x1 : Int32)  : entryFrame m #[(.int x0), (.int x1)] maxLocals = mkF m 0 #[.val (.int x0), .val (.int x1), .unset, .unset, .unset, .unset] [] := by first | (simp [entryFrame, mkF, argsToLocals, Value.category, maxLocals]; done) | rfl
def Q_law (Z : State) (p0 : Int32) (p1 : Int32) (w_NONE : Addr) (w_INTEGRAL : Addr) (w_CONFIDENTIAL : Addr) (h0 : Heap) (n0 : Nat) (v : Option Value) (h : Heap) (L : List Loc) : Prop := v = some (.int (1 : Int32)) ∧ Fr n0 L
set_option maxRecDepth 65536 in
set_option maxHeartbeats 40000000 in
theorem rm_law (l : Launch) (Z : State) (a0 : Array Value) (hw : ∀ d ∈ tables_1, d.before a0 Z = true) (ws : List Jvm.Cond) (p0 : Int32) (p1 : Int32) (w_NONE : Addr) (w_INTEGRAL : Addr) (w_CONFIDENTIAL : Addr) (h0 : Heap) (n0 : Nat) (O0 : Old Z n0 h0) (S0_ : Sta Z Z.heap "com/example/rolegate/rolegate/TransportGuarantee" "NONE" "Lcom/example/rolegate/rolegate/TransportGuarantee;" (.ref w_NONE)) (S1_ : Sta Z Z.heap "com/example/rolegate/rolegate/TransportGuarantee" "INTEGRAL" "Lcom/example/rolegate/rolegate/TransportGuarantee;" (.ref w_INTEGRAL)) (S2_ : Sta Z Z.heap "com/example/rolegate/rolegate/TransportGuarantee" "CONFIDENTIAL" "Lcom/example/rolegate/rolegate/TransportGuarantee;" (.ref w_CONFIDENTIAL)) (ZE3_ : Exa Z Z.heap w_NONE "com/example/rolegate/rolegate/TransportGuarantee") (ZE4_ : Exa Z Z.heap w_INTEGRAL "com/example/rolegate/rolegate/TransportGuarantee") (ZE5_ : Exa Z Z.heap w_CONFIDENTIAL "com/example/rolegate/rolegate/TransportGuarantee") (NE6_ : ¬ (w_INTEGRAL = w_NONE)) (NE7_ : ¬ (w_CONFIDENTIAL = w_NONE)) :
    MetFree l x (head1 (Jvm.Cond.code x code maxLocals ret :: ws) room_1) (fun a U => a = #[(.int p0), (.int p1)] ∧ Z.Warmed39 U.vm ∧ U.heap = h0) (fun _ _ _ _ _ => True) (fun _ U o U' => ∃ v L, o = .returned v ∧ Q_law Z p0 p1 w_NONE w_INTEGRAL w_CONFIDENTIAL h0 n0 v U'.heap L ∧ FrameEnd U o U' L room_1.cells room_1.slots) := by
  refine MetFree.of_bodySF (plainFor_of_name pn_com_example_rolegate_rolegate_TransportGuaranteeMetByPinLaw) hisR ?_
  intro p e s m args below meth c s₁ Bd hml0 hP hK
  obtain ⟨rfl, hZ, hh⟩ := hP
  have hx := Bd.exec
  have hby := Bd.bytes
  have hml : c.maxLocals = 6 := hml0
  have hown : s.vm.findClass "com/example/rolegate/rolegate/TransportGuaranteeMetByPinLaw" = some m.cls := findClass_of_methodNamed Bd.named
  have hnm := (name_of_methodNamed Bd.named Bd.method).1
  have X0 : Stand p l e room_1 s m #[(.int p0), (.int p1)] below meth c s₁ [] 0 0 := Stand.of_body Bd
  have e0 : s₁.heap = h0 := by rw [← hh, Bd.state]; rfl
  have N0 := Fr.nil n0
  have g0 : Go p e below s₁ (mkF m 0 #[iv p0, iv p1, .unset, .unset, .unset, .unset] []) (s₁.setTop (entryFrame m #[(.int p0), (.int p1)] maxLocals)) := fun t kont => castTop (ef_law m p0 p1 ) kont
  generalize s₁.setTop (entryFrame m #[(.int p0), (.int p1)] maxLocals) = A0 at g0 ⊢
  have g101 : Go p e below s₁ (mkF m 6 #[iv p0, iv p1, .unset, .unset, .unset, .unset] [(.int ((p0 &&& (2147483647 : Int32)) % (3 : Int32)))]) A0 := by
    intro t kont
    refine g0 t ?_
    refine XS.iloadN X0.here hx rfl (hb hby at_0) rfl ?_
    show Steps p.tables e below (s₁.setTop (mkF m 1 #[iv p0, iv p1, .unset, .unset, .unset, .unset] [(.int p0)])) _
    refine X0.ldcInt hx hown (mvT hZ (hw _ (List.mem_of_getElem? (i := 0) rfl))) (g := (mkF m 1 #[iv p0, iv p1, .unset, .unset, .unset, .unset] [(.int p0)])) rfl (hb hby at_1) _ ?_
    show Steps p.tables e below (s₁.setTop (mkF m 3 #[iv p0, iv p1, .unset, .unset, .unset, .unset] [(.int (2147483647 : Int32)), (.int p0)])) _
    refine XS.iand X0.here hx rfl (hb hby at_3) rfl ?_
    show Steps p.tables e below (s₁.setTop (mkF m 4 #[iv p0, iv p1, .unset, .unset, .unset, .unset] [(.int (p0 &&& (2147483647 : Int32)))])) _
    refine XS.iconst X0.here hx rfl (hb hby at_4) ?_
    show Steps p.tables e below (s₁.setTop (mkF m 5 #[iv p0, iv p1, .unset, .unset, .unset, .unset] [(.int (3 : Int32)), (.int (p0 &&& (2147483647 : Int32)))])) _
    refine iremM X0 hx rfl (hb hby at_5) rfl (by decide) ?_
    show Steps p.tables e below (s₁.setTop (mkF m 6 #[iv p0, iv p1, .unset, .unset, .unset, .unset] [(.int ((p0 &&& (2147483647 : Int32)) % (3 : Int32)))])) _
    exact kont
  obtain ⟨k, e_k⟩ : ∃ z, z = ((p0 &&& (2147483647 : Int32)) % (3 : Int32)) := ⟨_, rfl⟩
  have g102 : Go p e below s₁ (mkF m 6 #[iv p0, iv p1, .unset, .unset, .unset, .unset] [(.int k)]) A0 := by rw [e_k]; exact g101
  have g104 : Go p e below s₁ (mkF m 10 #[iv p0, iv p1, iv k, .unset, .unset, .unset] [(.int (p1 &&& (1 : Int32)))]) A0 := by
    intro t kont
    refine g102 t ?_
    refine XS.istoreN X0.here hx rfl (hb hby at_6) rfl (l' := #[iv p0, iv p1, iv k, .unset, .unset, .unset]) rfl ?_
    show Steps p.tables e below (s₁.setTop (mkF m 7 #[iv p0, iv p1, iv k, .unset, .unset, .unset] [])) _
    refine XS.iloadN X0.here hx rfl (hb hby at_7) rfl ?_
    show Steps p.tables e below (s₁.setTop (mkF m 8 #[iv p0, iv p1, iv k, .unset, .unset, .unset] [(.int p1)])) _
    refine XS.iconst X0.here hx rfl (hb hby at_8) ?_
    show Steps p.tables e below (s₁.setTop (mkF m 9 #[iv p0, iv p1, iv k, .unset, .unset, .unset] [(.int (1 : Int32)), (.int p1)])) _
    refine XS.iand X0.here hx rfl (hb hby at_9) rfl ?_
    show Steps p.tables e below (s₁.setTop (mkF m 10 #[iv p0, iv p1, iv k, .unset, .unset, .unset] [(.int (p1 &&& (1 : Int32)))])) _
    exact kont
  by_cases c103 : (p1 &&& (1 : Int32)) = (0 : Int32)
  ·
    have g106 : Go p e below s₁ (mkF m 20 #[iv p0, iv p1, iv k, iv (0 : Int32), .unset, .unset] [(.int k)]) A0 := by
      intro t kont
      refine g104 t ?_
      refine XS.ifYes X0.here hx rfl (pc0 := 10) (pc' := 17) rfl (hb hby at_10) rfl ((if0 _ _).trans (teq c103).1) (by decide) (by decide) ?_
      show Steps p.tables e below (s₁.setTop (mkF m 17 #[iv p0, iv p1, iv k, .unset, .unset, .unset] [])) _
      refine XS.iconst X0.here hx rfl (hb hby at_17) ?_
      show Steps p.tables e below (s₁.setTop (mkF m 18 #[iv p0, iv p1, iv k, .unset, .unset, .unset] [(.int (0 : Int32))])) _
      refine XS.istoreN X0.here hx rfl (hb hby at_18) rfl (l' := #[iv p0, iv p1, iv k, iv (0 : Int32), .unset, .unset]) rfl ?_
      show Steps p.tables e below (s₁.setTop (mkF m 19 #[iv p0, iv p1, iv k, iv (0 : Int32), .unset, .unset] [])) _
      refine XS.iloadN X0.here hx rfl (hb hby at_19) rfl ?_
      show Steps p.tables e below (s₁.setTop (mkF m 20 #[iv p0, iv p1, iv k, iv (0 : Int32), .unset, .unset] [(.int k)])) _
      exact kont
    by_cases c105 : k = (0 : Int32)
    ·
      subst c105
      obtain ⟨_, _, ⟨T107, L107, k107, n107⟩, -, X107, ⟨Lc107, hQ107, l107, y107, z107⟩, st107⟩ := Jvm.LawKit.callS X0 hx (y := (⟨"com/example/rolegate/rolegate/TransportGuaranteeMetByPinLaw", "pick", "(I)Lcom/example/rolegate/rolegate/TransportGuarantee;"⟩ : MethodName)) hown (mvT hZ (hw _ (List.mem_of_getElem? (i := 1) rfl))) (mvT hZ (hw _ (List.mem_of_getElem? (i := 2) rfl))) (mvT hZ (hw _ (List.mem_of_getElem? (i := 3) rfl))) (mvT hZ (hw _ (List.mem_of_getElem? (i := 4) rfl))) (by decide) (backOf (W := 0) (rm_pick0 l Z a0 hw [] w_NONE h0 n0 O0 S0_) hZ (hw _ (List.mem_of_getElem? (i := 4) rfl)) (hw _ (List.mem_of_getElem? (i := 3) rfl)) (by decide) (by decide)) (g := (mkF m 20 #[iv p0, iv p1, iv (0 : Int32), iv (0 : Int32), .unset, .unset] [(.int (0 : Int32))])) rfl (by rw [hml]; rfl) (argsL := [(.int (0 : Int32))]) (rest := []) (lenOf pd_0 rfl) rfl (by show 2 * 0 + _ ≤ _; exact Nat.le_of_eq rfl) (hb hby at_20) (fun _ _ => ⟨rfl, e0, (by decide : 0 + 0 ≤ _), (by decide : 0 + 0 ≤ _)⟩)
      dsimp only [Pt.U, Pt.locs, Pt.cells, Pt.slots] at X107 l107 y107 z107 st107 hQ107
      subst l107 y107 z107
      obtain ⟨rfl, M107, e107⟩ := hQ107
      have N107 := Fr.app N0 M107
      have g108 : Go p e below T107 (mkF m 23 #[iv p0, iv p1, iv (0 : Int32), iv (0 : Int32), .unset, .unset] [(.ref w_NONE)]) A0 := fun t kont => g106 t (st107 t kont)
      have g109 : Go p e below T107 (mkF m 52 #[iv p0, iv p1, iv (0 : Int32), iv (0 : Int32), rv w_NONE, iv (1 : Int32)] [(.int (0 : Int32)), (.ref w_NONE)]) A0 := by
        intro t kont
        refine g108 t ?_
        refine XS.astore X107.here hx rfl (hb hby at_23) rfl rfl (l' := #[iv p0, iv p1, iv (0 : Int32), iv (0 : Int32), rv w_NONE, .unset]) rfl ?_
        show Steps p.tables e below (T107.setTop (mkF m 25 #[iv p0, iv p1, iv (0 : Int32), iv (0 : Int32), rv w_NONE, .unset] [])) _
        refine XS.iloadN X107.here hx rfl (hb hby at_25) rfl ?_
        show Steps p.tables e below (T107.setTop (mkF m 26 #[iv p0, iv p1, iv (0 : Int32), iv (0 : Int32), rv w_NONE, .unset] [(.int (0 : Int32))])) _
        refine XS.ifNo X107.here hx rfl (hb hby at_26) rfl ((if0 _ _).trans (teq (by decide : (0 : Int32) = (0 : Int32))).2) ?_
        show Steps p.tables e below (T107.setTop (mkF m 29 #[iv p0, iv p1, iv (0 : Int32), iv (0 : Int32), rv w_NONE, .unset] [])) _
        refine XS.iconst X107.here hx rfl (hb hby at_29) ?_
        show Steps p.tables e below (T107.setTop (mkF m 30 #[iv p0, iv p1, iv (0 : Int32), iv (0 : Int32), rv w_NONE, .unset] [(.int (1 : Int32))])) _
        refine XS.istore X107.here hx rfl (hb hby at_30) rfl (l' := #[iv p0, iv p1, iv (0 : Int32), iv (0 : Int32), rv w_NONE, iv (1 : Int32)]) rfl ?_
        show Steps p.tables e below (T107.setTop (mkF m 32 #[iv p0, iv p1, iv (0 : Int32), iv (0 : Int32), rv w_NONE, iv (1 : Int32)] [])) _
        refine XS.goto X107.here hx rfl (pc0 := 32) (pc' := 49) rfl (hb hby at_32) (by decide) (by decide) ?_
        show Steps p.tables e below (T107.setTop (mkF m 49 #[iv p0, iv p1, iv (0 : Int32), iv (0 : Int32), rv w_NONE, iv (1 : Int32)] [])) _
        refine XS.aload X107.here hx rfl (hb hby at_49) rfl rfl ?_
        show Steps p.tables e below (T107.setTop (mkF m 51 #[iv p0, iv p1, iv (0 : Int32), iv (0 : Int32), rv w_NONE, iv (1 : Int32)] [(.ref w_NONE)])) _
        refine XS.iloadN X107.here hx rfl (hb hby at_51) rfl ?_
        show Steps p.tables e below (T107.setTop (mkF m 52 #[iv p0, iv p1, iv (0 : Int32), iv (0 : Int32), rv w_NONE, iv (1 : Int32)] [(.int (0 : Int32)), (.ref w_NONE)])) _
        exact kont
      have y111 : Exa Z h0 w_NONE "com/example/rolegate/rolegate/TransportGuarantee" := ZE3_.ext O0.2
      have y112 : Exa Z h0 w_NONE "com/example/rolegate/rolegate/TransportGuarantee" := ZE3_.ext O0.2
      obtain ⟨cq110, kq110, q110a, q110b, q110c⟩ := isOf hZ e107 y112
      obtain ⟨_, _, ⟨T110, L110, k110, n110⟩, -, X110, ⟨Lc110, hQ110, l110, y110, z110⟩, st110⟩ := X107.virtualBack hx (y := (⟨"com/example/rolegate/rolegate/TransportGuarantee", "metBy", "(Z)Z"⟩ : MethodName)) (z := (⟨"com/example/rolegate/rolegate/TransportGuarantee", "metBy", "(Z)Z"⟩ : MethodName)) hown (mvT hZ (hw _ (List.mem_of_getElem? (i := 8) rfl))) (mvT hZ (hw _ (List.mem_of_getElem? (i := 9) rfl))) (notFace_of_selects (args := #[]) (mvT hZ (hw _ (List.mem_of_getElem? (i := 11) rfl)))) (mvT hZ (hw _ (List.mem_of_getElem? (i := 11) rfl))) (mvT hZ (hw _ (List.mem_of_getElem? (i := 10) rfl))) (by decide) (backOf (W := 0) (rm_metN0 l Z a0 hw [] w_NONE h0 n0 O0 S0_) hZ (hw _ (List.mem_of_getElem? (i := 12) rfl)) (hw _ (List.mem_of_getElem? (i := 6) rfl)) (by decide) (by decide)) q110a q110c (g := (mkF m 52 #[iv p0, iv p1, iv (0 : Int32), iv (0 : Int32), rv w_NONE, iv (1 : Int32)] [(.int (0 : Int32)), (.ref w_NONE)])) rfl (by rw [hml]; rfl) (Steps.refl _) (argsL := [(.int (0 : Int32))]) (rest := []) (lenOf pd_1 rfl) rfl (by show 2 * 0 + _ ≤ _; exact Nat.le_of_eq rfl) (hb hby at_52) (fun _ _ => ⟨rfl, e107, (by decide : 0 + 0 ≤ _), (by decide : 0 + 0 ≤ _)⟩)
      dsimp only [Pt.U, Pt.locs, Pt.cells, Pt.slots] at X110 l110 y110 z110 st110 hQ110
      subst l110 y110 z110
      obtain ⟨rfl, M110, e110⟩ := hQ110
      have N110 := Fr.app N107 M110
      have g113 : Go p e below T110 (mkF m 55 #[iv p0, iv p1, iv (0 : Int32), iv (0 : Int32), rv w_NONE, iv (1 : Int32)] [(.int (1 : Int32))]) A0 := fun t kont => g109 t (st110.trans kont)
      have g114 : Go p e below T110 (mkF m 65 #[iv p0, iv p1, iv (0 : Int32), iv (0 : Int32), rv w_NONE, iv (1 : Int32)] [(.int (1 : Int32))]) A0 := by
        intro t kont
        refine g113 t ?_
        refine XS.iload X110.here hx rfl (hb hby at_55) rfl ?_
        show Steps p.tables e below (T110.setTop (mkF m 57 #[iv p0, iv p1, iv (0 : Int32), iv (0 : Int32), rv w_NONE, iv (1 : Int32)] [(.int (1 : Int32)), (.int (1 : Int32))])) _
        refine XS.icmpNo X110.here hx rfl (hb hby at_57) rfl (teq (by decide : (1 : Int32) = (1 : Int32))).2 ?_
        show Steps p.tables e below (T110.setTop (mkF m 60 #[iv p0, iv p1, iv (0 : Int32), iv (0 : Int32), rv w_NONE, iv (1 : Int32)] [])) _
        refine XS.iconst X110.here hx rfl (hb hby at_60) ?_
        show Steps p.tables e below (T110.setTop (mkF m 61 #[iv p0, iv p1, iv (0 : Int32), iv (0 : Int32), rv w_NONE, iv (1 : Int32)] [(.int (1 : Int32))])) _
        refine XS.goto X110.here hx rfl (pc0 := 61) (pc' := 65) rfl (hb hby at_61) (by decide) (by decide) ?_
        show Steps p.tables e below (T110.setTop (mkF m 65 #[iv p0, iv p1, iv (0 : Int32), iv (0 : Int32), rv w_NONE, iv (1 : Int32)] [(.int (1 : Int32))])) _
        exact kont
      obtain ⟨fs, hr, hrun, hended, hW, hsame⟩ := X110.leave (v := some (.int (1 : Int32))) (fun h => by rw [Bd.returns] at h; cases h)
      refine ⟨_, _, g114 _ (retN X110 hx (t := .boolean) Bd.returns (by simp) (hb hby at_65) hr), hrun, hended, _, _, rfl, ?_, ⟨_, rfl⟩, hW, hsame.mono (by decide) (by decide)⟩
      show Q_law Z p0 p1 w_NONE w_INTEGRAL w_CONFIDENTIAL h0 n0 _ T110.heap _
      rw [e110]
      exact ⟨rfl, N110⟩
    by_cases c115 : k = (1 : Int32)
    ·
      subst c115
      obtain ⟨_, _, ⟨T116, L116, k116, n116⟩, -, X116, ⟨Lc116, hQ116, l116, y116, z116⟩, st116⟩ := Jvm.LawKit.callS X0 hx (y := (⟨"com/example/rolegate/rolegate/TransportGuaranteeMetByPinLaw", "pick", "(I)Lcom/example/rolegate/rolegate/TransportGuarantee;"⟩ : MethodName)) hown (mvT hZ (hw _ (List.mem_of_getElem? (i := 1) rfl))) (mvT hZ (hw _ (List.mem_of_getElem? (i := 2) rfl))) (mvT hZ (hw _ (List.mem_of_getElem? (i := 3) rfl))) (mvT hZ (hw _ (List.mem_of_getElem? (i := 4) rfl))) (by decide) (backOf (W := 0) (rm_pick1 l Z a0 hw [] w_INTEGRAL h0 n0 O0 S1_) hZ (hw _ (List.mem_of_getElem? (i := 4) rfl)) (hw _ (List.mem_of_getElem? (i := 3) rfl)) (by decide) (by decide)) (g := (mkF m 20 #[iv p0, iv p1, iv (1 : Int32), iv (0 : Int32), .unset, .unset] [(.int (1 : Int32))])) rfl (by rw [hml]; rfl) (argsL := [(.int (1 : Int32))]) (rest := []) (lenOf pd_0 rfl) rfl (by show 2 * 0 + _ ≤ _; exact Nat.le_of_eq rfl) (hb hby at_20) (fun _ _ => ⟨rfl, e0, (by decide : 0 + 0 ≤ _), (by decide : 0 + 0 ≤ _)⟩)
      dsimp only [Pt.U, Pt.locs, Pt.cells, Pt.slots] at X116 l116 y116 z116 st116 hQ116
      subst l116 y116 z116
      obtain ⟨rfl, M116, e116⟩ := hQ116
      have N116 := Fr.app N0 M116
      have g117 : Go p e below T116 (mkF m 23 #[iv p0, iv p1, iv (1 : Int32), iv (0 : Int32), .unset, .unset] [(.ref w_INTEGRAL)]) A0 := fun t kont => g106 t (st116 t kont)
      have g118 : Go p e below T116 (mkF m 52 #[iv p0, iv p1, iv (1 : Int32), iv (0 : Int32), rv w_INTEGRAL, iv (0 : Int32)] [(.int (0 : Int32)), (.ref w_INTEGRAL)]) A0 := by
        intro t kont
        refine g117 t ?_
        refine XS.astore X116.here hx rfl (hb hby at_23) rfl rfl (l' := #[iv p0, iv p1, iv (1 : Int32), iv (0 : Int32), rv w_INTEGRAL, .unset]) rfl ?_
        show Steps p.tables e below (T116.setTop (mkF m 25 #[iv p0, iv p1, iv (1 : Int32), iv (0 : Int32), rv w_INTEGRAL, .unset] [])) _
        refine XS.iloadN X116.here hx rfl (hb hby at_25) rfl ?_
        show Steps p.tables e below (T116.setTop (mkF m 26 #[iv p0, iv p1, iv (1 : Int32), iv (0 : Int32), rv w_INTEGRAL, .unset] [(.int (1 : Int32))])) _
        refine XS.ifYes X116.here hx rfl (pc0 := 26) (pc' := 35) rfl (hb hby at_26) rfl ((if0 _ _).trans (feq (by decide : ¬ ((1 : Int32) = (0 : Int32)))).2) (by decide) (by decide) ?_
        show Steps p.tables e below (T116.setTop (mkF m 35 #[iv p0, iv p1, iv (1 : Int32), iv (0 : Int32), rv w_INTEGRAL, .unset] [])) _
        refine XS.iloadN X116.here hx rfl (hb hby at_35) rfl ?_
        show Steps p.tables e below (T116.setTop (mkF m 36 #[iv p0, iv p1, iv (1 : Int32), iv (0 : Int32), rv w_INTEGRAL, .unset] [(.int (1 : Int32))])) _
        refine XS.iconst X116.here hx rfl (hb hby at_36) ?_
        show Steps p.tables e below (T116.setTop (mkF m 37 #[iv p0, iv p1, iv (1 : Int32), iv (0 : Int32), rv w_INTEGRAL, .unset] [(.int (1 : Int32)), (.int (1 : Int32))])) _
        refine XS.icmpNo X116.here hx rfl (hb hby at_37) rfl (teq (by decide : (1 : Int32) = (1 : Int32))).2 ?_
        show Steps p.tables e below (T116.setTop (mkF m 40 #[iv p0, iv p1, iv (1 : Int32), iv (0 : Int32), rv w_INTEGRAL, .unset] [])) _
        refine XS.iloadN X116.here hx rfl (hb hby at_40) rfl ?_
        show Steps p.tables e below (T116.setTop (mkF m 41 #[iv p0, iv p1, iv (1 : Int32), iv (0 : Int32), rv w_INTEGRAL, .unset] [(.int (0 : Int32))])) _
        refine XS.istore X116.here hx rfl (hb hby at_41) rfl (l' := #[iv p0, iv p1, iv (1 : Int32), iv (0 : Int32), rv w_INTEGRAL, iv (0 : Int32)]) rfl ?_
        show Steps p.tables e below (T116.setTop (mkF m 43 #[iv p0, iv p1, iv (1 : Int32), iv (0 : Int32), rv w_INTEGRAL, iv (0 : Int32)] [])) _
        refine XS.goto X116.here hx rfl (pc0 := 43) (pc' := 49) rfl (hb hby at_43) (by decide) (by decide) ?_
        show Steps p.tables e below (T116.setTop (mkF m 49 #[iv p0, iv p1, iv (1 : Int32), iv (0 : Int32), rv w_INTEGRAL, iv (0 : Int32)] [])) _
        refine XS.aload X116.here hx rfl (hb hby at_49) rfl rfl ?_
        show Steps p.tables e below (T116.setTop (mkF m 51 #[iv p0, iv p1, iv (1 : Int32), iv (0 : Int32), rv w_INTEGRAL, iv (0 : Int32)] [(.ref w_INTEGRAL)])) _
        refine XS.iloadN X116.here hx rfl (hb hby at_51) rfl ?_
        show Steps p.tables e below (T116.setTop (mkF m 52 #[iv p0, iv p1, iv (1 : Int32), iv (0 : Int32), rv w_INTEGRAL, iv (0 : Int32)] [(.int (0 : Int32)), (.ref w_INTEGRAL)])) _
        exact kont
      have y120 : Exa Z h0 w_INTEGRAL "com/example/rolegate/rolegate/TransportGuarantee" := ZE4_.ext O0.2
      have y121 : Exa Z h0 w_INTEGRAL "com/example/rolegate/rolegate/TransportGuarantee" := ZE4_.ext O0.2
      obtain ⟨cq119, kq119, q119a, q119b, q119c⟩ := isOf hZ e116 y121
      obtain ⟨_, _, ⟨T119, L119, k119, n119⟩, -, X119, ⟨Lc119, hQ119, l119, y119, z119⟩, st119⟩ := X116.virtualBack hx (y := (⟨"com/example/rolegate/rolegate/TransportGuarantee", "metBy", "(Z)Z"⟩ : MethodName)) (z := (⟨"com/example/rolegate/rolegate/TransportGuarantee", "metBy", "(Z)Z"⟩ : MethodName)) hown (mvT hZ (hw _ (List.mem_of_getElem? (i := 8) rfl))) (mvT hZ (hw _ (List.mem_of_getElem? (i := 9) rfl))) (notFace_of_selects (args := #[]) (mvT hZ (hw _ (List.mem_of_getElem? (i := 11) rfl)))) (mvT hZ (hw _ (List.mem_of_getElem? (i := 11) rfl))) (mvT hZ (hw _ (List.mem_of_getElem? (i := 10) rfl))) (by decide) (backOf (W := 0) (rm_metO0 l Z a0 hw [] w_INTEGRAL w_NONE h0 n0 O0 S0_ NE6_) hZ (hw _ (List.mem_of_getElem? (i := 12) rfl)) (hw _ (List.mem_of_getElem? (i := 6) rfl)) (by decide) (by decide)) q119a q119c (g := (mkF m 52 #[iv p0, iv p1, iv (1 : Int32), iv (0 : Int32), rv w_INTEGRAL, iv (0 : Int32)] [(.int (0 : Int32)), (.ref w_INTEGRAL)])) rfl (by rw [hml]; rfl) (Steps.refl _) (argsL := [(.int (0 : Int32))]) (rest := []) (lenOf pd_1 rfl) rfl (by show 2 * 0 + _ ≤ _; exact Nat.le_of_eq rfl) (hb hby at_52) (fun _ _ => ⟨rfl, e116, (by decide : 0 + 0 ≤ _), (by decide : 0 + 0 ≤ _)⟩)
      dsimp only [Pt.U, Pt.locs, Pt.cells, Pt.slots] at X119 l119 y119 z119 st119 hQ119
      subst l119 y119 z119
      obtain ⟨rfl, M119, e119⟩ := hQ119
      have N119 := Fr.app N116 M119
      have g122 : Go p e below T119 (mkF m 55 #[iv p0, iv p1, iv (1 : Int32), iv (0 : Int32), rv w_INTEGRAL, iv (0 : Int32)] [(.int (0 : Int32))]) A0 := fun t kont => g118 t (st119.trans kont)
      have g123 : Go p e below T119 (mkF m 65 #[iv p0, iv p1, iv (1 : Int32), iv (0 : Int32), rv w_INTEGRAL, iv (0 : Int32)] [(.int (1 : Int32))]) A0 := by
        intro t kont
        refine g122 t ?_
        refine XS.iload X119.here hx rfl (hb hby at_55) rfl ?_
        show Steps p.tables e below (T119.setTop (mkF m 57 #[iv p0, iv p1, iv (1 : Int32), iv (0 : Int32), rv w_INTEGRAL, iv (0 : Int32)] [(.int (0 : Int32)), (.int (0 : Int32))])) _
        refine XS.icmpNo X119.here hx rfl (hb hby at_57) rfl (teq (by decide : (0 : Int32) = (0 : Int32))).2 ?_
        show Steps p.tables e below (T119.setTop (mkF m 60 #[iv p0, iv p1, iv (1 : Int32), iv (0 : Int32), rv w_INTEGRAL, iv (0 : Int32)] [])) _
        refine XS.iconst X119.here hx rfl (hb hby at_60) ?_
        show Steps p.tables e below (T119.setTop (mkF m 61 #[iv p0, iv p1, iv (1 : Int32), iv (0 : Int32), rv w_INTEGRAL, iv (0 : Int32)] [(.int (1 : Int32))])) _
        refine XS.goto X119.here hx rfl (pc0 := 61) (pc' := 65) rfl (hb hby at_61) (by decide) (by decide) ?_
        show Steps p.tables e below (T119.setTop (mkF m 65 #[iv p0, iv p1, iv (1 : Int32), iv (0 : Int32), rv w_INTEGRAL, iv (0 : Int32)] [(.int (1 : Int32))])) _
        exact kont
      obtain ⟨fs, hr, hrun, hended, hW, hsame⟩ := X119.leave (v := some (.int (1 : Int32))) (fun h => by rw [Bd.returns] at h; cases h)
      refine ⟨_, _, g123 _ (retN X119 hx (t := .boolean) Bd.returns (by simp) (hb hby at_65) hr), hrun, hended, _, _, rfl, ?_, ⟨_, rfl⟩, hW, hsame.mono (by decide) (by decide)⟩
      show Q_law Z p0 p1 w_NONE w_INTEGRAL w_CONFIDENTIAL h0 n0 _ T119.heap _
      rw [e119]
      exact ⟨rfl, N119⟩
    obtain ⟨_, _, ⟨T124, L124, k124, n124⟩, -, X124, ⟨Lc124, hQ124, l124, y124, z124⟩, st124⟩ := Jvm.LawKit.callS X0 hx (y := (⟨"com/example/rolegate/rolegate/TransportGuaranteeMetByPinLaw", "pick", "(I)Lcom/example/rolegate/rolegate/TransportGuarantee;"⟩ : MethodName)) hown (mvT hZ (hw _ (List.mem_of_getElem? (i := 1) rfl))) (mvT hZ (hw _ (List.mem_of_getElem? (i := 2) rfl))) (mvT hZ (hw _ (List.mem_of_getElem? (i := 3) rfl))) (mvT hZ (hw _ (List.mem_of_getElem? (i := 4) rfl))) (by decide) (backOf (W := 0) (rm_pick2 l Z a0 hw [] k w_CONFIDENTIAL h0 n0 O0 S2_ c105 c115) hZ (hw _ (List.mem_of_getElem? (i := 4) rfl)) (hw _ (List.mem_of_getElem? (i := 3) rfl)) (by decide) (by decide)) (g := (mkF m 20 #[iv p0, iv p1, iv k, iv (0 : Int32), .unset, .unset] [(.int k)])) rfl (by rw [hml]; rfl) (argsL := [(.int k)]) (rest := []) (lenOf pd_0 rfl) rfl (by show 2 * 0 + _ ≤ _; exact Nat.le_of_eq rfl) (hb hby at_20) (fun _ _ => ⟨rfl, e0, (by decide : 0 + 0 ≤ _), (by decide : 0 + 0 ≤ _)⟩)
    dsimp only [Pt.U, Pt.locs, Pt.cells, Pt.slots] at X124 l124 y124 z124 st124 hQ124
    subst l124 y124 z124
    obtain ⟨rfl, M124, e124⟩ := hQ124
    have N124 := Fr.app N0 M124
    have g125 : Go p e below T124 (mkF m 23 #[iv p0, iv p1, iv k, iv (0 : Int32), .unset, .unset] [(.ref w_CONFIDENTIAL)]) A0 := fun t kont => g106 t (st124 t kont)
    have g126 : Go p e below T124 (mkF m 52 #[iv p0, iv p1, iv k, iv (0 : Int32), rv w_CONFIDENTIAL, iv (0 : Int32)] [(.int (0 : Int32)), (.ref w_CONFIDENTIAL)]) A0 := by
      intro t kont
      refine g125 t ?_
      refine XS.astore X124.here hx rfl (hb hby at_23) rfl rfl (l' := #[iv p0, iv p1, iv k, iv (0 : Int32), rv w_CONFIDENTIAL, .unset]) rfl ?_
      show Steps p.tables e below (T124.setTop (mkF m 25 #[iv p0, iv p1, iv k, iv (0 : Int32), rv w_CONFIDENTIAL, .unset] [])) _
      refine XS.iloadN X124.here hx rfl (hb hby at_25) rfl ?_
      show Steps p.tables e below (T124.setTop (mkF m 26 #[iv p0, iv p1, iv k, iv (0 : Int32), rv w_CONFIDENTIAL, .unset] [(.int k)])) _
      refine XS.ifYes X124.here hx rfl (pc0 := 26) (pc' := 35) rfl (hb hby at_26) rfl ((if0 _ _).trans (feq c105).2) (by decide) (by decide) ?_
      show Steps p.tables e below (T124.setTop (mkF m 35 #[iv p0, iv p1, iv k, iv (0 : Int32), rv w_CONFIDENTIAL, .unset] [])) _
      refine XS.iloadN X124.here hx rfl (hb hby at_35) rfl ?_
      show Steps p.tables e below (T124.setTop (mkF m 36 #[iv p0, iv p1, iv k, iv (0 : Int32), rv w_CONFIDENTIAL, .unset] [(.int k)])) _
      refine XS.iconst X124.here hx rfl (hb hby at_36) ?_
      show Steps p.tables e below (T124.setTop (mkF m 37 #[iv p0, iv p1, iv k, iv (0 : Int32), rv w_CONFIDENTIAL, .unset] [(.int (1 : Int32)), (.int k)])) _
      refine XS.icmpYes X124.here hx rfl (pc0 := 37) (pc' := 46) rfl (hb hby at_37) rfl (feq c115).2 (by decide) (by decide) ?_
      show Steps p.tables e below (T124.setTop (mkF m 46 #[iv p0, iv p1, iv k, iv (0 : Int32), rv w_CONFIDENTIAL, .unset] [])) _
      refine XS.iloadN X124.here hx rfl (hb hby at_46) rfl ?_
      show Steps p.tables e below (T124.setTop (mkF m 47 #[iv p0, iv p1, iv k, iv (0 : Int32), rv w_CONFIDENTIAL, .unset] [(.int (0 : Int32))])) _
      refine XS.istore X124.here hx rfl (hb hby at_47) rfl (l' := #[iv p0, iv p1, iv k, iv (0 : Int32), rv w_CONFIDENTIAL, iv (0 : Int32)]) rfl ?_
      show Steps p.tables e below (T124.setTop (mkF m 49 #[iv p0, iv p1, iv k, iv (0 : Int32), rv w_CONFIDENTIAL, iv (0 : Int32)] [])) _
      refine XS.aload X124.here hx rfl (hb hby at_49) rfl rfl ?_
      show Steps p.tables e below (T124.setTop (mkF m 51 #[iv p0, iv p1, iv k, iv (0 : Int32), rv w_CONFIDENTIAL, iv (0 : Int32)] [(.ref w_CONFIDENTIAL)])) _
      refine XS.iloadN X124.here hx rfl (hb hby at_51) rfl ?_
      show Steps p.tables e below (T124.setTop (mkF m 52 #[iv p0, iv p1, iv k, iv (0 : Int32), rv w_CONFIDENTIAL, iv (0 : Int32)] [(.int (0 : Int32)), (.ref w_CONFIDENTIAL)])) _
      exact kont
    have y128 : Exa Z h0 w_CONFIDENTIAL "com/example/rolegate/rolegate/TransportGuarantee" := ZE5_.ext O0.2
    have y129 : Exa Z h0 w_CONFIDENTIAL "com/example/rolegate/rolegate/TransportGuarantee" := ZE5_.ext O0.2
    obtain ⟨cq127, kq127, q127a, q127b, q127c⟩ := isOf hZ e124 y129
    obtain ⟨_, _, ⟨T127, L127, k127, n127⟩, -, X127, ⟨Lc127, hQ127, l127, y127, z127⟩, st127⟩ := X124.virtualBack hx (y := (⟨"com/example/rolegate/rolegate/TransportGuarantee", "metBy", "(Z)Z"⟩ : MethodName)) (z := (⟨"com/example/rolegate/rolegate/TransportGuarantee", "metBy", "(Z)Z"⟩ : MethodName)) hown (mvT hZ (hw _ (List.mem_of_getElem? (i := 8) rfl))) (mvT hZ (hw _ (List.mem_of_getElem? (i := 9) rfl))) (notFace_of_selects (args := #[]) (mvT hZ (hw _ (List.mem_of_getElem? (i := 11) rfl)))) (mvT hZ (hw _ (List.mem_of_getElem? (i := 11) rfl))) (mvT hZ (hw _ (List.mem_of_getElem? (i := 10) rfl))) (by decide) (backOf (W := 0) (rm_metO0 l Z a0 hw [] w_CONFIDENTIAL w_NONE h0 n0 O0 S0_ NE7_) hZ (hw _ (List.mem_of_getElem? (i := 12) rfl)) (hw _ (List.mem_of_getElem? (i := 6) rfl)) (by decide) (by decide)) q127a q127c (g := (mkF m 52 #[iv p0, iv p1, iv k, iv (0 : Int32), rv w_CONFIDENTIAL, iv (0 : Int32)] [(.int (0 : Int32)), (.ref w_CONFIDENTIAL)])) rfl (by rw [hml]; rfl) (Steps.refl _) (argsL := [(.int (0 : Int32))]) (rest := []) (lenOf pd_1 rfl) rfl (by show 2 * 0 + _ ≤ _; exact Nat.le_of_eq rfl) (hb hby at_52) (fun _ _ => ⟨rfl, e124, (by decide : 0 + 0 ≤ _), (by decide : 0 + 0 ≤ _)⟩)
    dsimp only [Pt.U, Pt.locs, Pt.cells, Pt.slots] at X127 l127 y127 z127 st127 hQ127
    subst l127 y127 z127
    obtain ⟨rfl, M127, e127⟩ := hQ127
    have N127 := Fr.app N124 M127
    have g130 : Go p e below T127 (mkF m 55 #[iv p0, iv p1, iv k, iv (0 : Int32), rv w_CONFIDENTIAL, iv (0 : Int32)] [(.int (0 : Int32))]) A0 := fun t kont => g126 t (st127.trans kont)
    have g131 : Go p e below T127 (mkF m 65 #[iv p0, iv p1, iv k, iv (0 : Int32), rv w_CONFIDENTIAL, iv (0 : Int32)] [(.int (1 : Int32))]) A0 := by
      intro t kont
      refine g130 t ?_
      refine XS.iload X127.here hx rfl (hb hby at_55) rfl ?_
      show Steps p.tables e below (T127.setTop (mkF m 57 #[iv p0, iv p1, iv k, iv (0 : Int32), rv w_CONFIDENTIAL, iv (0 : Int32)] [(.int (0 : Int32)), (.int (0 : Int32))])) _
      refine XS.icmpNo X127.here hx rfl (hb hby at_57) rfl (teq (by decide : (0 : Int32) = (0 : Int32))).2 ?_
      show Steps p.tables e below (T127.setTop (mkF m 60 #[iv p0, iv p1, iv k, iv (0 : Int32), rv w_CONFIDENTIAL, iv (0 : Int32)] [])) _
      refine XS.iconst X127.here hx rfl (hb hby at_60) ?_
      show Steps p.tables e below (T127.setTop (mkF m 61 #[iv p0, iv p1, iv k, iv (0 : Int32), rv w_CONFIDENTIAL, iv (0 : Int32)] [(.int (1 : Int32))])) _
      refine XS.goto X127.here hx rfl (pc0 := 61) (pc' := 65) rfl (hb hby at_61) (by decide) (by decide) ?_
      show Steps p.tables e below (T127.setTop (mkF m 65 #[iv p0, iv p1, iv k, iv (0 : Int32), rv w_CONFIDENTIAL, iv (0 : Int32)] [(.int (1 : Int32))])) _
      exact kont
    obtain ⟨fs, hr, hrun, hended, hW, hsame⟩ := X127.leave (v := some (.int (1 : Int32))) (fun h => by rw [Bd.returns] at h; cases h)
    refine ⟨_, _, g131 _ (retN X127 hx (t := .boolean) Bd.returns (by simp) (hb hby at_65) hr), hrun, hended, _, _, rfl, ?_, ⟨_, rfl⟩, hW, hsame.mono (by decide) (by decide)⟩
    show Q_law Z p0 p1 w_NONE w_INTEGRAL w_CONFIDENTIAL h0 n0 _ T127.heap _
    rw [e127]
    exact ⟨rfl, N127⟩
  have g133 : Go p e below s₁ (mkF m 20 #[iv p0, iv p1, iv k, iv (1 : Int32), .unset, .unset] [(.int k)]) A0 := by
    intro t kont
    refine g104 t ?_
    refine XS.ifNo X0.here hx rfl (hb hby at_10) rfl ((if0 _ _).trans (feq c103).1) ?_
    show Steps p.tables e below (s₁.setTop (mkF m 13 #[iv p0, iv p1, iv k, .unset, .unset, .unset] [])) _
    refine XS.iconst X0.here hx rfl (hb hby at_13) ?_
    show Steps p.tables e below (s₁.setTop (mkF m 14 #[iv p0, iv p1, iv k, .unset, .unset, .unset] [(.int (1 : Int32))])) _
    refine XS.goto X0.here hx rfl (pc0 := 14) (pc' := 18) rfl (hb hby at_14) (by decide) (by decide) ?_
    show Steps p.tables e below (s₁.setTop (mkF m 18 #[iv p0, iv p1, iv k, .unset, .unset, .unset] [(.int (1 : Int32))])) _
    refine XS.istoreN X0.here hx rfl (hb hby at_18) rfl (l' := #[iv p0, iv p1, iv k, iv (1 : Int32), .unset, .unset]) rfl ?_
    show Steps p.tables e below (s₁.setTop (mkF m 19 #[iv p0, iv p1, iv k, iv (1 : Int32), .unset, .unset] [])) _
    refine XS.iloadN X0.here hx rfl (hb hby at_19) rfl ?_
    show Steps p.tables e below (s₁.setTop (mkF m 20 #[iv p0, iv p1, iv k, iv (1 : Int32), .unset, .unset] [(.int k)])) _
    exact kont
  by_cases c132 : k = (0 : Int32)
  ·
    subst c132
    obtain ⟨_, _, ⟨T134, L134, k134, n134⟩, -, X134, ⟨Lc134, hQ134, l134, y134, z134⟩, st134⟩ := Jvm.LawKit.callS X0 hx (y := (⟨"com/example/rolegate/rolegate/TransportGuaranteeMetByPinLaw", "pick", "(I)Lcom/example/rolegate/rolegate/TransportGuarantee;"⟩ : MethodName)) hown (mvT hZ (hw _ (List.mem_of_getElem? (i := 1) rfl))) (mvT hZ (hw _ (List.mem_of_getElem? (i := 2) rfl))) (mvT hZ (hw _ (List.mem_of_getElem? (i := 3) rfl))) (mvT hZ (hw _ (List.mem_of_getElem? (i := 4) rfl))) (by decide) (backOf (W := 0) (rm_pick0 l Z a0 hw [] w_NONE h0 n0 O0 S0_) hZ (hw _ (List.mem_of_getElem? (i := 4) rfl)) (hw _ (List.mem_of_getElem? (i := 3) rfl)) (by decide) (by decide)) (g := (mkF m 20 #[iv p0, iv p1, iv (0 : Int32), iv (1 : Int32), .unset, .unset] [(.int (0 : Int32))])) rfl (by rw [hml]; rfl) (argsL := [(.int (0 : Int32))]) (rest := []) (lenOf pd_0 rfl) rfl (by show 2 * 0 + _ ≤ _; exact Nat.le_of_eq rfl) (hb hby at_20) (fun _ _ => ⟨rfl, e0, (by decide : 0 + 0 ≤ _), (by decide : 0 + 0 ≤ _)⟩)
    dsimp only [Pt.U, Pt.locs, Pt.cells, Pt.slots] at X134 l134 y134 z134 st134 hQ134
    subst l134 y134 z134
    obtain ⟨rfl, M134, e134⟩ := hQ134
    have N134 := Fr.app N0 M134
    have g135 : Go p e below T134 (mkF m 23 #[iv p0, iv p1, iv (0 : Int32), iv (1 : Int32), .unset, .unset] [(.ref w_NONE)]) A0 := fun t kont => g133 t (st134 t kont)
    have g136 : Go p e below T134 (mkF m 52 #[iv p0, iv p1, iv (0 : Int32), iv (1 : Int32), rv w_NONE, iv (1 : Int32)] [(.int (1 : Int32)), (.ref w_NONE)]) A0 := by
      intro t kont
      refine g135 t ?_
      refine XS.astore X134.here hx rfl (hb hby at_23) rfl rfl (l' := #[iv p0, iv p1, iv (0 : Int32), iv (1 : Int32), rv w_NONE, .unset]) rfl ?_
      show Steps p.tables e below (T134.setTop (mkF m 25 #[iv p0, iv p1, iv (0 : Int32), iv (1 : Int32), rv w_NONE, .unset] [])) _
      refine XS.iloadN X134.here hx rfl (hb hby at_25) rfl ?_
      show Steps p.tables e below (T134.setTop (mkF m 26 #[iv p0, iv p1, iv (0 : Int32), iv (1 : Int32), rv w_NONE, .unset] [(.int (0 : Int32))])) _
      refine XS.ifNo X134.here hx rfl (hb hby at_26) rfl ((if0 _ _).trans (teq (by decide : (0 : Int32) = (0 : Int32))).2) ?_
      show Steps p.tables e below (T134.setTop (mkF m 29 #[iv p0, iv p1, iv (0 : Int32), iv (1 : Int32), rv w_NONE, .unset] [])) _
      refine XS.iconst X134.here hx rfl (hb hby at_29) ?_
      show Steps p.tables e below (T134.setTop (mkF m 30 #[iv p0, iv p1, iv (0 : Int32), iv (1 : Int32), rv w_NONE, .unset] [(.int (1 : Int32))])) _
      refine XS.istore X134.here hx rfl (hb hby at_30) rfl (l' := #[iv p0, iv p1, iv (0 : Int32), iv (1 : Int32), rv w_NONE, iv (1 : Int32)]) rfl ?_
      show Steps p.tables e below (T134.setTop (mkF m 32 #[iv p0, iv p1, iv (0 : Int32), iv (1 : Int32), rv w_NONE, iv (1 : Int32)] [])) _
      refine XS.goto X134.here hx rfl (pc0 := 32) (pc' := 49) rfl (hb hby at_32) (by decide) (by decide) ?_
      show Steps p.tables e below (T134.setTop (mkF m 49 #[iv p0, iv p1, iv (0 : Int32), iv (1 : Int32), rv w_NONE, iv (1 : Int32)] [])) _
      refine XS.aload X134.here hx rfl (hb hby at_49) rfl rfl ?_
      show Steps p.tables e below (T134.setTop (mkF m 51 #[iv p0, iv p1, iv (0 : Int32), iv (1 : Int32), rv w_NONE, iv (1 : Int32)] [(.ref w_NONE)])) _
      refine XS.iloadN X134.here hx rfl (hb hby at_51) rfl ?_
      show Steps p.tables e below (T134.setTop (mkF m 52 #[iv p0, iv p1, iv (0 : Int32), iv (1 : Int32), rv w_NONE, iv (1 : Int32)] [(.int (1 : Int32)), (.ref w_NONE)])) _
      exact kont
    have y138 : Exa Z h0 w_NONE "com/example/rolegate/rolegate/TransportGuarantee" := ZE3_.ext O0.2
    have y139 : Exa Z h0 w_NONE "com/example/rolegate/rolegate/TransportGuarantee" := ZE3_.ext O0.2
    obtain ⟨cq137, kq137, q137a, q137b, q137c⟩ := isOf hZ e134 y139
    obtain ⟨_, _, ⟨T137, L137, k137, n137⟩, -, X137, ⟨Lc137, hQ137, l137, y137, z137⟩, st137⟩ := X134.virtualBack hx (y := (⟨"com/example/rolegate/rolegate/TransportGuarantee", "metBy", "(Z)Z"⟩ : MethodName)) (z := (⟨"com/example/rolegate/rolegate/TransportGuarantee", "metBy", "(Z)Z"⟩ : MethodName)) hown (mvT hZ (hw _ (List.mem_of_getElem? (i := 8) rfl))) (mvT hZ (hw _ (List.mem_of_getElem? (i := 9) rfl))) (notFace_of_selects (args := #[]) (mvT hZ (hw _ (List.mem_of_getElem? (i := 11) rfl)))) (mvT hZ (hw _ (List.mem_of_getElem? (i := 11) rfl))) (mvT hZ (hw _ (List.mem_of_getElem? (i := 10) rfl))) (by decide) (backOf (W := 0) (rm_metN1 l Z a0 hw [] w_NONE h0 n0 O0 S0_) hZ (hw _ (List.mem_of_getElem? (i := 12) rfl)) (hw _ (List.mem_of_getElem? (i := 6) rfl)) (by decide) (by decide)) q137a q137c (g := (mkF m 52 #[iv p0, iv p1, iv (0 : Int32), iv (1 : Int32), rv w_NONE, iv (1 : Int32)] [(.int (1 : Int32)), (.ref w_NONE)])) rfl (by rw [hml]; rfl) (Steps.refl _) (argsL := [(.int (1 : Int32))]) (rest := []) (lenOf pd_1 rfl) rfl (by show 2 * 0 + _ ≤ _; exact Nat.le_of_eq rfl) (hb hby at_52) (fun _ _ => ⟨rfl, e134, (by decide : 0 + 0 ≤ _), (by decide : 0 + 0 ≤ _)⟩)
    dsimp only [Pt.U, Pt.locs, Pt.cells, Pt.slots] at X137 l137 y137 z137 st137 hQ137
    subst l137 y137 z137
    obtain ⟨rfl, M137, e137⟩ := hQ137
    have N137 := Fr.app N134 M137
    have g140 : Go p e below T137 (mkF m 55 #[iv p0, iv p1, iv (0 : Int32), iv (1 : Int32), rv w_NONE, iv (1 : Int32)] [(.int (1 : Int32))]) A0 := fun t kont => g136 t (st137.trans kont)
    have g141 : Go p e below T137 (mkF m 65 #[iv p0, iv p1, iv (0 : Int32), iv (1 : Int32), rv w_NONE, iv (1 : Int32)] [(.int (1 : Int32))]) A0 := by
      intro t kont
      refine g140 t ?_
      refine XS.iload X137.here hx rfl (hb hby at_55) rfl ?_
      show Steps p.tables e below (T137.setTop (mkF m 57 #[iv p0, iv p1, iv (0 : Int32), iv (1 : Int32), rv w_NONE, iv (1 : Int32)] [(.int (1 : Int32)), (.int (1 : Int32))])) _
      refine XS.icmpNo X137.here hx rfl (hb hby at_57) rfl (teq (by decide : (1 : Int32) = (1 : Int32))).2 ?_
      show Steps p.tables e below (T137.setTop (mkF m 60 #[iv p0, iv p1, iv (0 : Int32), iv (1 : Int32), rv w_NONE, iv (1 : Int32)] [])) _
      refine XS.iconst X137.here hx rfl (hb hby at_60) ?_
      show Steps p.tables e below (T137.setTop (mkF m 61 #[iv p0, iv p1, iv (0 : Int32), iv (1 : Int32), rv w_NONE, iv (1 : Int32)] [(.int (1 : Int32))])) _
      refine XS.goto X137.here hx rfl (pc0 := 61) (pc' := 65) rfl (hb hby at_61) (by decide) (by decide) ?_
      show Steps p.tables e below (T137.setTop (mkF m 65 #[iv p0, iv p1, iv (0 : Int32), iv (1 : Int32), rv w_NONE, iv (1 : Int32)] [(.int (1 : Int32))])) _
      exact kont
    obtain ⟨fs, hr, hrun, hended, hW, hsame⟩ := X137.leave (v := some (.int (1 : Int32))) (fun h => by rw [Bd.returns] at h; cases h)
    refine ⟨_, _, g141 _ (retN X137 hx (t := .boolean) Bd.returns (by simp) (hb hby at_65) hr), hrun, hended, _, _, rfl, ?_, ⟨_, rfl⟩, hW, hsame.mono (by decide) (by decide)⟩
    show Q_law Z p0 p1 w_NONE w_INTEGRAL w_CONFIDENTIAL h0 n0 _ T137.heap _
    rw [e137]
    exact ⟨rfl, N137⟩
  by_cases c142 : k = (1 : Int32)
  ·
    subst c142
    obtain ⟨_, _, ⟨T143, L143, k143, n143⟩, -, X143, ⟨Lc143, hQ143, l143, y143, z143⟩, st143⟩ := Jvm.LawKit.callS X0 hx (y := (⟨"com/example/rolegate/rolegate/TransportGuaranteeMetByPinLaw", "pick", "(I)Lcom/example/rolegate/rolegate/TransportGuarantee;"⟩ : MethodName)) hown (mvT hZ (hw _ (List.mem_of_getElem? (i := 1) rfl))) (mvT hZ (hw _ (List.mem_of_getElem? (i := 2) rfl))) (mvT hZ (hw _ (List.mem_of_getElem? (i := 3) rfl))) (mvT hZ (hw _ (List.mem_of_getElem? (i := 4) rfl))) (by decide) (backOf (W := 0) (rm_pick1 l Z a0 hw [] w_INTEGRAL h0 n0 O0 S1_) hZ (hw _ (List.mem_of_getElem? (i := 4) rfl)) (hw _ (List.mem_of_getElem? (i := 3) rfl)) (by decide) (by decide)) (g := (mkF m 20 #[iv p0, iv p1, iv (1 : Int32), iv (1 : Int32), .unset, .unset] [(.int (1 : Int32))])) rfl (by rw [hml]; rfl) (argsL := [(.int (1 : Int32))]) (rest := []) (lenOf pd_0 rfl) rfl (by show 2 * 0 + _ ≤ _; exact Nat.le_of_eq rfl) (hb hby at_20) (fun _ _ => ⟨rfl, e0, (by decide : 0 + 0 ≤ _), (by decide : 0 + 0 ≤ _)⟩)
    dsimp only [Pt.U, Pt.locs, Pt.cells, Pt.slots] at X143 l143 y143 z143 st143 hQ143
    subst l143 y143 z143
    obtain ⟨rfl, M143, e143⟩ := hQ143
    have N143 := Fr.app N0 M143
    have g144 : Go p e below T143 (mkF m 23 #[iv p0, iv p1, iv (1 : Int32), iv (1 : Int32), .unset, .unset] [(.ref w_INTEGRAL)]) A0 := fun t kont => g133 t (st143 t kont)
    have g145 : Go p e below T143 (mkF m 52 #[iv p0, iv p1, iv (1 : Int32), iv (1 : Int32), rv w_INTEGRAL, iv (1 : Int32)] [(.int (1 : Int32)), (.ref w_INTEGRAL)]) A0 := by
      intro t kont
      refine g144 t ?_
      refine XS.astore X143.here hx rfl (hb hby at_23) rfl rfl (l' := #[iv p0, iv p1, iv (1 : Int32), iv (1 : Int32), rv w_INTEGRAL, .unset]) rfl ?_
      show Steps p.tables e below (T143.setTop (mkF m 25 #[iv p0, iv p1, iv (1 : Int32), iv (1 : Int32), rv w_INTEGRAL, .unset] [])) _
      refine XS.iloadN X143.here hx rfl (hb hby at_25) rfl ?_
      show Steps p.tables e below (T143.setTop (mkF m 26 #[iv p0, iv p1, iv (1 : Int32), iv (1 : Int32), rv w_INTEGRAL, .unset] [(.int (1 : Int32))])) _
      refine XS.ifYes X143.here hx rfl (pc0 := 26) (pc' := 35) rfl (hb hby at_26) rfl ((if0 _ _).trans (feq (by decide : ¬ ((1 : Int32) = (0 : Int32)))).2) (by decide) (by decide) ?_
      show Steps p.tables e below (T143.setTop (mkF m 35 #[iv p0, iv p1, iv (1 : Int32), iv (1 : Int32), rv w_INTEGRAL, .unset] [])) _
      refine XS.iloadN X143.here hx rfl (hb hby at_35) rfl ?_
      show Steps p.tables e below (T143.setTop (mkF m 36 #[iv p0, iv p1, iv (1 : Int32), iv (1 : Int32), rv w_INTEGRAL, .unset] [(.int (1 : Int32))])) _
      refine XS.iconst X143.here hx rfl (hb hby at_36) ?_
      show Steps p.tables e below (T143.setTop (mkF m 37 #[iv p0, iv p1, iv (1 : Int32), iv (1 : Int32), rv w_INTEGRAL, .unset] [(.int (1 : Int32)), (.int (1 : Int32))])) _
      refine XS.icmpNo X143.here hx rfl (hb hby at_37) rfl (teq (by decide : (1 : Int32) = (1 : Int32))).2 ?_
      show Steps p.tables e below (T143.setTop (mkF m 40 #[iv p0, iv p1, iv (1 : Int32), iv (1 : Int32), rv w_INTEGRAL, .unset] [])) _
      refine XS.iloadN X143.here hx rfl (hb hby at_40) rfl ?_
      show Steps p.tables e below (T143.setTop (mkF m 41 #[iv p0, iv p1, iv (1 : Int32), iv (1 : Int32), rv w_INTEGRAL, .unset] [(.int (1 : Int32))])) _
      refine XS.istore X143.here hx rfl (hb hby at_41) rfl (l' := #[iv p0, iv p1, iv (1 : Int32), iv (1 : Int32), rv w_INTEGRAL, iv (1 : Int32)]) rfl ?_
      show Steps p.tables e below (T143.setTop (mkF m 43 #[iv p0, iv p1, iv (1 : Int32), iv (1 : Int32), rv w_INTEGRAL, iv (1 : Int32)] [])) _
      refine XS.goto X143.here hx rfl (pc0 := 43) (pc' := 49) rfl (hb hby at_43) (by decide) (by decide) ?_
      show Steps p.tables e below (T143.setTop (mkF m 49 #[iv p0, iv p1, iv (1 : Int32), iv (1 : Int32), rv w_INTEGRAL, iv (1 : Int32)] [])) _
      refine XS.aload X143.here hx rfl (hb hby at_49) rfl rfl ?_
      show Steps p.tables e below (T143.setTop (mkF m 51 #[iv p0, iv p1, iv (1 : Int32), iv (1 : Int32), rv w_INTEGRAL, iv (1 : Int32)] [(.ref w_INTEGRAL)])) _
      refine XS.iloadN X143.here hx rfl (hb hby at_51) rfl ?_
      show Steps p.tables e below (T143.setTop (mkF m 52 #[iv p0, iv p1, iv (1 : Int32), iv (1 : Int32), rv w_INTEGRAL, iv (1 : Int32)] [(.int (1 : Int32)), (.ref w_INTEGRAL)])) _
      exact kont
    have y147 : Exa Z h0 w_INTEGRAL "com/example/rolegate/rolegate/TransportGuarantee" := ZE4_.ext O0.2
    have y148 : Exa Z h0 w_INTEGRAL "com/example/rolegate/rolegate/TransportGuarantee" := ZE4_.ext O0.2
    obtain ⟨cq146, kq146, q146a, q146b, q146c⟩ := isOf hZ e143 y148
    obtain ⟨_, _, ⟨T146, L146, k146, n146⟩, -, X146, ⟨Lc146, hQ146, l146, y146, z146⟩, st146⟩ := X143.virtualBack hx (y := (⟨"com/example/rolegate/rolegate/TransportGuarantee", "metBy", "(Z)Z"⟩ : MethodName)) (z := (⟨"com/example/rolegate/rolegate/TransportGuarantee", "metBy", "(Z)Z"⟩ : MethodName)) hown (mvT hZ (hw _ (List.mem_of_getElem? (i := 8) rfl))) (mvT hZ (hw _ (List.mem_of_getElem? (i := 9) rfl))) (notFace_of_selects (args := #[]) (mvT hZ (hw _ (List.mem_of_getElem? (i := 11) rfl)))) (mvT hZ (hw _ (List.mem_of_getElem? (i := 11) rfl))) (mvT hZ (hw _ (List.mem_of_getElem? (i := 10) rfl))) (by decide) (backOf (W := 0) (rm_metO1 l Z a0 hw [] w_INTEGRAL w_NONE h0 n0 O0 S0_ NE6_) hZ (hw _ (List.mem_of_getElem? (i := 12) rfl)) (hw _ (List.mem_of_getElem? (i := 6) rfl)) (by decide) (by decide)) q146a q146c (g := (mkF m 52 #[iv p0, iv p1, iv (1 : Int32), iv (1 : Int32), rv w_INTEGRAL, iv (1 : Int32)] [(.int (1 : Int32)), (.ref w_INTEGRAL)])) rfl (by rw [hml]; rfl) (Steps.refl _) (argsL := [(.int (1 : Int32))]) (rest := []) (lenOf pd_1 rfl) rfl (by show 2 * 0 + _ ≤ _; exact Nat.le_of_eq rfl) (hb hby at_52) (fun _ _ => ⟨rfl, e143, (by decide : 0 + 0 ≤ _), (by decide : 0 + 0 ≤ _)⟩)
    dsimp only [Pt.U, Pt.locs, Pt.cells, Pt.slots] at X146 l146 y146 z146 st146 hQ146
    subst l146 y146 z146
    obtain ⟨rfl, M146, e146⟩ := hQ146
    have N146 := Fr.app N143 M146
    have g149 : Go p e below T146 (mkF m 55 #[iv p0, iv p1, iv (1 : Int32), iv (1 : Int32), rv w_INTEGRAL, iv (1 : Int32)] [(.int (1 : Int32))]) A0 := fun t kont => g145 t (st146.trans kont)
    have g150 : Go p e below T146 (mkF m 65 #[iv p0, iv p1, iv (1 : Int32), iv (1 : Int32), rv w_INTEGRAL, iv (1 : Int32)] [(.int (1 : Int32))]) A0 := by
      intro t kont
      refine g149 t ?_
      refine XS.iload X146.here hx rfl (hb hby at_55) rfl ?_
      show Steps p.tables e below (T146.setTop (mkF m 57 #[iv p0, iv p1, iv (1 : Int32), iv (1 : Int32), rv w_INTEGRAL, iv (1 : Int32)] [(.int (1 : Int32)), (.int (1 : Int32))])) _
      refine XS.icmpNo X146.here hx rfl (hb hby at_57) rfl (teq (by decide : (1 : Int32) = (1 : Int32))).2 ?_
      show Steps p.tables e below (T146.setTop (mkF m 60 #[iv p0, iv p1, iv (1 : Int32), iv (1 : Int32), rv w_INTEGRAL, iv (1 : Int32)] [])) _
      refine XS.iconst X146.here hx rfl (hb hby at_60) ?_
      show Steps p.tables e below (T146.setTop (mkF m 61 #[iv p0, iv p1, iv (1 : Int32), iv (1 : Int32), rv w_INTEGRAL, iv (1 : Int32)] [(.int (1 : Int32))])) _
      refine XS.goto X146.here hx rfl (pc0 := 61) (pc' := 65) rfl (hb hby at_61) (by decide) (by decide) ?_
      show Steps p.tables e below (T146.setTop (mkF m 65 #[iv p0, iv p1, iv (1 : Int32), iv (1 : Int32), rv w_INTEGRAL, iv (1 : Int32)] [(.int (1 : Int32))])) _
      exact kont
    obtain ⟨fs, hr, hrun, hended, hW, hsame⟩ := X146.leave (v := some (.int (1 : Int32))) (fun h => by rw [Bd.returns] at h; cases h)
    refine ⟨_, _, g150 _ (retN X146 hx (t := .boolean) Bd.returns (by simp) (hb hby at_65) hr), hrun, hended, _, _, rfl, ?_, ⟨_, rfl⟩, hW, hsame.mono (by decide) (by decide)⟩
    show Q_law Z p0 p1 w_NONE w_INTEGRAL w_CONFIDENTIAL h0 n0 _ T146.heap _
    rw [e146]
    exact ⟨rfl, N146⟩
  obtain ⟨_, _, ⟨T151, L151, k151, n151⟩, -, X151, ⟨Lc151, hQ151, l151, y151, z151⟩, st151⟩ := Jvm.LawKit.callS X0 hx (y := (⟨"com/example/rolegate/rolegate/TransportGuaranteeMetByPinLaw", "pick", "(I)Lcom/example/rolegate/rolegate/TransportGuarantee;"⟩ : MethodName)) hown (mvT hZ (hw _ (List.mem_of_getElem? (i := 1) rfl))) (mvT hZ (hw _ (List.mem_of_getElem? (i := 2) rfl))) (mvT hZ (hw _ (List.mem_of_getElem? (i := 3) rfl))) (mvT hZ (hw _ (List.mem_of_getElem? (i := 4) rfl))) (by decide) (backOf (W := 0) (rm_pick2 l Z a0 hw [] k w_CONFIDENTIAL h0 n0 O0 S2_ c132 c142) hZ (hw _ (List.mem_of_getElem? (i := 4) rfl)) (hw _ (List.mem_of_getElem? (i := 3) rfl)) (by decide) (by decide)) (g := (mkF m 20 #[iv p0, iv p1, iv k, iv (1 : Int32), .unset, .unset] [(.int k)])) rfl (by rw [hml]; rfl) (argsL := [(.int k)]) (rest := []) (lenOf pd_0 rfl) rfl (by show 2 * 0 + _ ≤ _; exact Nat.le_of_eq rfl) (hb hby at_20) (fun _ _ => ⟨rfl, e0, (by decide : 0 + 0 ≤ _), (by decide : 0 + 0 ≤ _)⟩)
  dsimp only [Pt.U, Pt.locs, Pt.cells, Pt.slots] at X151 l151 y151 z151 st151 hQ151
  subst l151 y151 z151
  obtain ⟨rfl, M151, e151⟩ := hQ151
  have N151 := Fr.app N0 M151
  have g152 : Go p e below T151 (mkF m 23 #[iv p0, iv p1, iv k, iv (1 : Int32), .unset, .unset] [(.ref w_CONFIDENTIAL)]) A0 := fun t kont => g133 t (st151 t kont)
  have g153 : Go p e below T151 (mkF m 52 #[iv p0, iv p1, iv k, iv (1 : Int32), rv w_CONFIDENTIAL, iv (1 : Int32)] [(.int (1 : Int32)), (.ref w_CONFIDENTIAL)]) A0 := by
    intro t kont
    refine g152 t ?_
    refine XS.astore X151.here hx rfl (hb hby at_23) rfl rfl (l' := #[iv p0, iv p1, iv k, iv (1 : Int32), rv w_CONFIDENTIAL, .unset]) rfl ?_
    show Steps p.tables e below (T151.setTop (mkF m 25 #[iv p0, iv p1, iv k, iv (1 : Int32), rv w_CONFIDENTIAL, .unset] [])) _
    refine XS.iloadN X151.here hx rfl (hb hby at_25) rfl ?_
    show Steps p.tables e below (T151.setTop (mkF m 26 #[iv p0, iv p1, iv k, iv (1 : Int32), rv w_CONFIDENTIAL, .unset] [(.int k)])) _
    refine XS.ifYes X151.here hx rfl (pc0 := 26) (pc' := 35) rfl (hb hby at_26) rfl ((if0 _ _).trans (feq c132).2) (by decide) (by decide) ?_
    show Steps p.tables e below (T151.setTop (mkF m 35 #[iv p0, iv p1, iv k, iv (1 : Int32), rv w_CONFIDENTIAL, .unset] [])) _
    refine XS.iloadN X151.here hx rfl (hb hby at_35) rfl ?_
    show Steps p.tables e below (T151.setTop (mkF m 36 #[iv p0, iv p1, iv k, iv (1 : Int32), rv w_CONFIDENTIAL, .unset] [(.int k)])) _
    refine XS.iconst X151.here hx rfl (hb hby at_36) ?_
    show Steps p.tables e below (T151.setTop (mkF m 37 #[iv p0, iv p1, iv k, iv (1 : Int32), rv w_CONFIDENTIAL, .unset] [(.int (1 : Int32)), (.int k)])) _
    refine XS.icmpYes X151.here hx rfl (pc0 := 37) (pc' := 46) rfl (hb hby at_37) rfl (feq c142).2 (by decide) (by decide) ?_
    show Steps p.tables e below (T151.setTop (mkF m 46 #[iv p0, iv p1, iv k, iv (1 : Int32), rv w_CONFIDENTIAL, .unset] [])) _
    refine XS.iloadN X151.here hx rfl (hb hby at_46) rfl ?_
    show Steps p.tables e below (T151.setTop (mkF m 47 #[iv p0, iv p1, iv k, iv (1 : Int32), rv w_CONFIDENTIAL, .unset] [(.int (1 : Int32))])) _
    refine XS.istore X151.here hx rfl (hb hby at_47) rfl (l' := #[iv p0, iv p1, iv k, iv (1 : Int32), rv w_CONFIDENTIAL, iv (1 : Int32)]) rfl ?_
    show Steps p.tables e below (T151.setTop (mkF m 49 #[iv p0, iv p1, iv k, iv (1 : Int32), rv w_CONFIDENTIAL, iv (1 : Int32)] [])) _
    refine XS.aload X151.here hx rfl (hb hby at_49) rfl rfl ?_
    show Steps p.tables e below (T151.setTop (mkF m 51 #[iv p0, iv p1, iv k, iv (1 : Int32), rv w_CONFIDENTIAL, iv (1 : Int32)] [(.ref w_CONFIDENTIAL)])) _
    refine XS.iloadN X151.here hx rfl (hb hby at_51) rfl ?_
    show Steps p.tables e below (T151.setTop (mkF m 52 #[iv p0, iv p1, iv k, iv (1 : Int32), rv w_CONFIDENTIAL, iv (1 : Int32)] [(.int (1 : Int32)), (.ref w_CONFIDENTIAL)])) _
    exact kont
  have y155 : Exa Z h0 w_CONFIDENTIAL "com/example/rolegate/rolegate/TransportGuarantee" := ZE5_.ext O0.2
  have y156 : Exa Z h0 w_CONFIDENTIAL "com/example/rolegate/rolegate/TransportGuarantee" := ZE5_.ext O0.2
  obtain ⟨cq154, kq154, q154a, q154b, q154c⟩ := isOf hZ e151 y156
  obtain ⟨_, _, ⟨T154, L154, k154, n154⟩, -, X154, ⟨Lc154, hQ154, l154, y154, z154⟩, st154⟩ := X151.virtualBack hx (y := (⟨"com/example/rolegate/rolegate/TransportGuarantee", "metBy", "(Z)Z"⟩ : MethodName)) (z := (⟨"com/example/rolegate/rolegate/TransportGuarantee", "metBy", "(Z)Z"⟩ : MethodName)) hown (mvT hZ (hw _ (List.mem_of_getElem? (i := 8) rfl))) (mvT hZ (hw _ (List.mem_of_getElem? (i := 9) rfl))) (notFace_of_selects (args := #[]) (mvT hZ (hw _ (List.mem_of_getElem? (i := 11) rfl)))) (mvT hZ (hw _ (List.mem_of_getElem? (i := 11) rfl))) (mvT hZ (hw _ (List.mem_of_getElem? (i := 10) rfl))) (by decide) (backOf (W := 0) (rm_metO1 l Z a0 hw [] w_CONFIDENTIAL w_NONE h0 n0 O0 S0_ NE7_) hZ (hw _ (List.mem_of_getElem? (i := 12) rfl)) (hw _ (List.mem_of_getElem? (i := 6) rfl)) (by decide) (by decide)) q154a q154c (g := (mkF m 52 #[iv p0, iv p1, iv k, iv (1 : Int32), rv w_CONFIDENTIAL, iv (1 : Int32)] [(.int (1 : Int32)), (.ref w_CONFIDENTIAL)])) rfl (by rw [hml]; rfl) (Steps.refl _) (argsL := [(.int (1 : Int32))]) (rest := []) (lenOf pd_1 rfl) rfl (by show 2 * 0 + _ ≤ _; exact Nat.le_of_eq rfl) (hb hby at_52) (fun _ _ => ⟨rfl, e151, (by decide : 0 + 0 ≤ _), (by decide : 0 + 0 ≤ _)⟩)
  dsimp only [Pt.U, Pt.locs, Pt.cells, Pt.slots] at X154 l154 y154 z154 st154 hQ154
  subst l154 y154 z154
  obtain ⟨rfl, M154, e154⟩ := hQ154
  have N154 := Fr.app N151 M154
  have g157 : Go p e below T154 (mkF m 55 #[iv p0, iv p1, iv k, iv (1 : Int32), rv w_CONFIDENTIAL, iv (1 : Int32)] [(.int (1 : Int32))]) A0 := fun t kont => g153 t (st154.trans kont)
  have g158 : Go p e below T154 (mkF m 65 #[iv p0, iv p1, iv k, iv (1 : Int32), rv w_CONFIDENTIAL, iv (1 : Int32)] [(.int (1 : Int32))]) A0 := by
    intro t kont
    refine g157 t ?_
    refine XS.iload X154.here hx rfl (hb hby at_55) rfl ?_
    show Steps p.tables e below (T154.setTop (mkF m 57 #[iv p0, iv p1, iv k, iv (1 : Int32), rv w_CONFIDENTIAL, iv (1 : Int32)] [(.int (1 : Int32)), (.int (1 : Int32))])) _
    refine XS.icmpNo X154.here hx rfl (hb hby at_57) rfl (teq (by decide : (1 : Int32) = (1 : Int32))).2 ?_
    show Steps p.tables e below (T154.setTop (mkF m 60 #[iv p0, iv p1, iv k, iv (1 : Int32), rv w_CONFIDENTIAL, iv (1 : Int32)] [])) _
    refine XS.iconst X154.here hx rfl (hb hby at_60) ?_
    show Steps p.tables e below (T154.setTop (mkF m 61 #[iv p0, iv p1, iv k, iv (1 : Int32), rv w_CONFIDENTIAL, iv (1 : Int32)] [(.int (1 : Int32))])) _
    refine XS.goto X154.here hx rfl (pc0 := 61) (pc' := 65) rfl (hb hby at_61) (by decide) (by decide) ?_
    show Steps p.tables e below (T154.setTop (mkF m 65 #[iv p0, iv p1, iv k, iv (1 : Int32), rv w_CONFIDENTIAL, iv (1 : Int32)] [(.int (1 : Int32))])) _
    exact kont
  obtain ⟨fs, hr, hrun, hended, hW, hsame⟩ := X154.leave (v := some (.int (1 : Int32))) (fun h => by rw [Bd.returns] at h; cases h)
  refine ⟨_, _, g158 _ (retN X154 hx (t := .boolean) Bd.returns (by simp) (hb hby at_65) hr), hrun, hended, _, _, rfl, ?_, ⟨_, rfl⟩, hW, hsame.mono (by decide) (by decide)⟩
  show Q_law Z p0 p1 w_NONE w_INTEGRAL w_CONFIDENTIAL h0 n0 _ T154.heap _
  rw [e154]
  exact ⟨rfl, N154⟩
set_option maxRecDepth 65536 in
set_option maxHeartbeats 40000000 in
theorem comes_1 {Post : Tables → Env → Array Value → State → Outcome → State → Prop} (hpost : ∀ tb e args s v u, (limb_1_1.after args s (.returned v) u = true ∧ limb_1_2.after args s (.returned v) u = true ∧ True) → FrameEnd s (.returned v) u (Jvm.fieldLocs frame_1_writes args s ++ Jvm.arrayLocs frame_1_arrays args s ++ Jvm.staticLocs frame_1_statics s) 0 0 → Post tb e args s (.returned v) u) :
    ArmFor flags0 classFile x code maxLocals ret World_1 tables_1 room_1 Calls_1 rest_1 Pre_1 Post := by
  intro l hfl _ _ p e ha hc hk s m args below hf hA hF happ hP
  obtain ⟨hcalls, hrest, hpre⟩ := hP
  obtain ⟨-, -, -, hnamed, -, -, -, hat⟩ := (Spec.applies_iff hf).mp happ
  obtain ⟨hg, hn⟩ := and_e (Cond.before_iff.mp (show (Jvm.Cond.and given_1 narrow_1).before args s = true from hpre))
  obtain ⟨hcount, hg⟩ := and_e hg
  obtain ⟨ha0, hg⟩ := and_e hg
  have ha1 := hg
  obtain ⟨w0, w1, rfl⟩ : ∃ w0 w1 : Value, args = #[w0, w1] := by
    have hs : args.size = 2 := by simpa [Cond.value, given_1] using hcount
    obtain ⟨L⟩ := args
    match L, hs with
    | [w0, w1], _ => exact ⟨w0, w1, rfl⟩
  have hw := fun d (hd : d ∈ tables_1) => atoms_spec (ws := Jvm.Cond.code x code maxLocals ret :: tables_1) hat d (List.mem_cons_of_mem _ hd)
  have hfit : Fit s := fun {y c} hc i hi => by
    obtain ⟨ha, rfl⟩ := Array.getElem?_eq_some_iff.mp hc
    have q := List.all_eq_true.mp ((Array.all_eq_true_iff_forall_mem.mp hF) _ (Array.getElem_mem ha)) i (List.mem_range.mpr hi)
    simpa [Array.getElem?_eq_getElem hi] using q
  obtain ⟨p0, ea0⟩ := is_v ha0
  obtain rfl : w0 = (.int p0) := Option.some.inj ea0
  obtain ⟨p1, ea1⟩ := is_v ha1
  obtain rfl : w1 = (.int p1) := Option.some.inj ea1
  obtain ⟨hn0, hn⟩ := and_e hn
  obtain ⟨hn1, hn⟩ := and_e hn
  obtain ⟨hn2, hn⟩ := and_e hn
  obtain ⟨hn3, hn⟩ := and_e hn
  obtain ⟨hn4, hn⟩ := and_e hn
  have hn5 := hn
  obtain ⟨w_NONE, ev_NONE⟩ := exa_v hn0
  have S_NONE : Sta s s.heap "com/example/rolegate/rolegate/TransportGuarantee" "NONE" "Lcom/example/rolegate/rolegate/TransportGuarantee;" (.ref w_NONE) := Sta.start ev_NONE (Or.inr ⟨(hw _ (List.mem_of_getElem? (i := 6) rfl)), (hw _ (List.mem_of_getElem? (i := 7) rfl))⟩)
  have E_NONE : Exa s s.heap w_NONE "com/example/rolegate/rolegate/TransportGuarantee" := Exa.start ev_NONE hn0
  obtain ⟨w_CONFIDENTIAL, ev_CONFIDENTIAL⟩ := exa_v hn1
  have S_CONFIDENTIAL : Sta s s.heap "com/example/rolegate/rolegate/TransportGuarantee" "CONFIDENTIAL" "Lcom/example/rolegate/rolegate/TransportGuarantee;" (.ref w_CONFIDENTIAL) := Sta.start ev_CONFIDENTIAL (Or.inr ⟨(hw _ (List.mem_of_getElem? (i := 6) rfl)), (hw _ (List.mem_of_getElem? (i := 15) rfl))⟩)
  have E_CONFIDENTIAL : Exa s s.heap w_CONFIDENTIAL "com/example/rolegate/rolegate/TransportGuarantee" := Exa.start ev_CONFIDENTIAL hn1
  obtain ⟨w_INTEGRAL, ev_INTEGRAL⟩ := exa_v hn4
  have S_INTEGRAL : Sta s s.heap "com/example/rolegate/rolegate/TransportGuarantee" "INTEGRAL" "Lcom/example/rolegate/rolegate/TransportGuarantee;" (.ref w_INTEGRAL) := Sta.start ev_INTEGRAL (Or.inr ⟨(hw _ (List.mem_of_getElem? (i := 6) rfl)), (hw _ (List.mem_of_getElem? (i := 17) rfl))⟩)
  have E_INTEGRAL : Exa s s.heap w_INTEGRAL "com/example/rolegate/rolegate/TransportGuarantee" := Exa.start ev_INTEGRAL hn4
  have F_CONFIDENTIAL := own_fld_int hn2 ev_CONFIDENTIAL
  have F_NONE := own_fld_int hn3 ev_NONE
  have F_INTEGRAL := own_fld_int hn5 ev_INTEGRAL
  have ne0 : ¬ (w_INTEGRAL = w_NONE) := Fld.ne F_INTEGRAL F_NONE (by decide)
  have ne1 : ¬ (w_CONFIDENTIAL = w_NONE) := Fld.ne F_CONFIDENTIAL F_NONE (by decide)
  obtain ⟨n, o, h1, h2, h3, _, L, rfl, ⟨rfl, N⟩, hq⟩ := rm_law l s _ hw tables_1 p0 p1 w_NONE w_INTEGRAL w_CONFIDENTIAL s.heap s.heap.size (Old.start s) S_NONE S_INTEGRAL S_CONFIDENTIAL E_NONE E_INTEGRAL E_CONFIDENTIAL ne0 ne1 p e ha hc hk s m _ below hf ((Spec.applies_iff_loose hf).mp happ).1 ⟨rfl, State.Warmed39.refl s, rfl⟩ trivial
  refine ⟨n, _, h1, h2, h3, hpost _ _ _ _ _ _ ⟨Cond.after_iff.mpr rfl, Cond.after_iff.mpr (eq_i res_at (Term.int_eval (1)) rfl), trivial⟩ ⟨hq.1, hq.2.1, (hq.2.2.sift fun y hy => Or.inr (N y hy)).mono (by decide) (by decide)⟩⟩
theorem main_1_1 : Claimed_1_1 := comes_1 fun _ _ _ _ _ _ h hF => ⟨h.1, hF⟩
theorem main_1_2 : Claimed_1_2 := comes_1 fun _ _ _ _ _ _ h hF => ⟨h.2.1, hF⟩
end Jvm.Pilot.@@N@@
namespace Jvm.Pilot.@@N@@
open Jvm Jvm.ClassFile Sem Op Lib Jvm.Free Jvm.Stand Jvm.Pilot.@@N@@.Jvm.D
/-! MADE BY PROGRAM (witnessworld.py) out of the Statement's table words and the real class files: 12 classes; the members and pool entries that the words name. The judged class is class 1, her method 2. -/
namespace start1
open Jvm.ClassFile
def u (s : String) : CpInfo := .utf8 (stringToUtf16 s)
/-- a pool by its gaps: so many unusable entries, then the entry; so many at the end -/
def gap : Nat → List CpInfo → List CpInfo
  | 0, r => r
  | n + 1, r => .unusable :: gap n r
def poolList (es : List (Nat × CpInfo)) (last : Nat) : List CpInfo := es.foldr (fun e r => gap e.1 (e.2 :: r)) (gap last [])
def pool (es : List (Nat × CpInfo)) (last : Nat) : Array CpInfo := ⟨poolList es last⟩
def fileOf (pool : Array CpInfo) (this : Nat) (attrs : Array Attribute := #[]) (ms : Array MethodInfo := #[]) (fl : Nat := 33) (sup : Nat := 0) (ifs : Array Nat := #[]) (fds : Array FieldInfo := #[]) : ClassFile where
  minorVersion := 0
  majorVersion := 65
  constantPool := pool
  accessFlags := fl
  thisClass := this
  superClass := sup
  interfaces := ifs
  fields := fds
  methods := ms
  attributes := attrs
def plain (name : String) (sup : Option ClassId) : Class where
  name := name
  kind := .ordinary
  loader := none
  accessFlags := 33
  super := sup
  interfaces := #[]
  cf := none
  fields := #[]
  methods := #[]
  instanceTypes := #[]
  staticTypes := #[]
  resolved := #[]
  callSites := []
  init := .initialized
  statics := none
  mirror := none

def pool0 : Array CpInfo := pool [(5, u "<init>"), (0, u "()V"), (1, .class_ 10), (1, u "java/lang/Object")] 113

def k0m0 : Method := { name := "<init>", desc := "()V", sig := { parameters := [], returnType := none }, accessFlags := 1, code := none }
/-- java/lang/Object -/
def k0 : Class := { plain "java/lang/Object" none with
  accessFlags := 33
  interfaces := #[]
  cf := some (fileOf pool0 8 #[] #[{ accessFlags := 1, nameIndex := 5, descriptorIndex := 6, attributes := #[] }] 33 0 #[] #[])
  fields := #[]
  methods := #[k0m0]
  instanceTypes := #[]
  staticTypes := #[]
  resolved := Array.replicate 124 none
  statics := none }

def pool1 : Array CpInfo := pool [(2, .class_ 4), (1, u "java/lang/Object"), (0, u "<init>"), (0, u "()V"), (0, .fieldref 8 9), (0, .class_ 10), (0, .nameAndType 11 12), (0, u "com/example/rolegate/rolegate/TransportGuarantee"), (0, u "NONE"), (0, u "Lcom/example/rolegate/rolegate/TransportGuarantee;"), (0, .fieldref 8 14), (0, .nameAndType 15 12), (0, u "INTEGRAL"), (0, .fieldref 8 17), (0, .nameAndType 18 12), (0, u "CONFIDENTIAL"), (0, .integer 2147483647), (0, .methodref 21 22), (0, .class_ 23), (0, .nameAndType 24 25), (0, u "com/example/rolegate/rolegate/TransportGuaranteeMetByPinLaw"), (0, u "pick"), (0, u "(I)Lcom/example/rolegate/rolegate/TransportGuarantee;"), (0, .methodref 8 27), (0, .nameAndType 28 29), (0, u "metBy"), (0, u "(Z)Z"), (3, u "law"), (0, u "(II)Z")] 2

def k1m0 : Method := { name := "<init>", desc := "()V", sig := { parameters := [], returnType := none }, accessFlags := 2, code := none }
def k1c1 : Code := { maxStack := 2, maxLocals := 1, code := method_2_code, exceptionTable := #[], attributes := #[] }
def k1m1 : Method := { name := "pick", desc := "(I)Lcom/example/rolegate/rolegate/TransportGuarantee;", sig := { parameters := [.int], returnType := some (.object "com/example/rolegate/rolegate/TransportGuarantee") }, accessFlags := 10, code := some k1c1 }
def k1c2 : Code := { maxStack := 2, maxLocals := 6, code := code, exceptionTable := #[], attributes := #[] }
def k1m2 : Method := { name := "law", desc := "(II)Z", sig := { parameters := [.int, .int], returnType := some .boolean }, accessFlags := 9, code := some k1c2 }
/-- com/example/rolegate/rolegate/TransportGuaranteeMetByPinLaw -/
def k1 : Class := { plain "com/example/rolegate/rolegate/TransportGuaranteeMetByPinLaw" (some 0) with
  accessFlags := 49
  interfaces := #[]
  cf := some (fileOf pool1 21 #[] #[{ accessFlags := 2, nameIndex := 5, descriptorIndex := 6, attributes := #[] }, { accessFlags := 10, nameIndex := 24, descriptorIndex := 25, attributes := #[] }, { accessFlags := 9, nameIndex := 33, descriptorIndex := 34, attributes := #[] }] 49 2 #[] #[])
  fields := #[]
  methods := #[k1m0, k1m1, k1m2]
  instanceTypes := #[]
  staticTypes := #[]
  resolved := Array.replicate 37 none
  statics := none }

def pool2 : Array CpInfo := pool [(1, .class_ 2), (0, u "java/lang/constant/Constable"), (0, .class_ 4), (0, u "java/lang/Object")] 6

/-- java/lang/constant/Constable -/
def k2 : Class := { plain "java/lang/constant/Constable" (some 0) with
  accessFlags := 1537
  interfaces := #[]
  cf := some (fileOf pool2 1 #[] #[] 1537 3 #[] #[])
  fields := #[]
  methods := #[]
  instanceTypes := #[]
  staticTypes := #[]
  resolved := Array.replicate 11 none
  statics := none }

def pool3 : Array CpInfo := pool [(1, .class_ 2), (0, u "java/lang/Comparable"), (0, .class_ 4), (0, u "java/lang/Object")] 7

/-- java/lang/Comparable -/
def k3 : Class := { plain "java/lang/Comparable" (some 0) with
  accessFlags := 1537
  interfaces := #[]
  cf := some (fileOf pool3 1 #[] #[] 1537 3 #[] #[])
  fields := #[]
  methods := #[]
  instanceTypes := #[]
  staticTypes := #[]
  resolved := Array.replicate 12 none
  statics := none }

def pool4 : Array CpInfo := pool [(1, .class_ 2), (0, u "java/io/Serializable"), (0, .class_ 4), (0, u "java/lang/Object")] 2

/-- java/io/Serializable -/
def k4 : Class := { plain "java/io/Serializable" (some 0) with
  accessFlags := 1537
  interfaces := #[]
  cf := some (fileOf pool4 1 #[] #[] 1537 3 #[] #[])
  fields := #[]
  methods := #[]
  instanceTypes := #[]
  staticTypes := #[]
  resolved := Array.replicate 7 none
  statics := none }

def pool5 : Array CpInfo := pool [(2, .class_ 4), (1, u "java/lang/Enum"), (0, u "name"), (0, u "Ljava/lang/String;"), (2, u "ordinal"), (0, u "I"), (1, .class_ 14), (1, u "java/lang/Object"), (4, u "hash"), (86, .class_ 108), (1, u "java/lang/Enum$EnumDesc"), (2, .class_ 112), (0, u "java/lang/constant/Constable"), (0, .class_ 114), (0, u "java/lang/Comparable"), (0, .class_ 116), (0, u "java/io/Serializable")] 87

/-- java/lang/Enum -/
def k5 : Class := { plain "java/lang/Enum" (some 0) with
  accessFlags := 1057
  interfaces := #[2, 3, 4]
  cf := some (fileOf pool5 2 #[.nestMembers #[106]] #[] 1057 12 #[111, 113, 115] #[{ accessFlags := 18, nameIndex := 5, descriptorIndex := 6, attributes := #[] }, { accessFlags := 18, nameIndex := 9, descriptorIndex := 10, attributes := #[] }, { accessFlags := 2, nameIndex := 19, descriptorIndex := 10, attributes := #[] }])
  fields := #[{ name := "name", type := (.object "java/lang/String"), accessFlags := 18, slot := 0, constantValue := 0 }, { name := "ordinal", type := .int, accessFlags := 18, slot := 1, constantValue := 0 }, { name := "hash", type := .int, accessFlags := 2, slot := 2, constantValue := 0 }]
  methods := #[]
  instanceTypes := #[(.object "java/lang/String"), .int, .int]
  staticTypes := #[]
  resolved := Array.replicate 204 none
  statics := none }

def pool6 : Array CpInfo := pool [(1, .class_ 2), (0, u "com/example/rolegate/rolegate/TransportGuarantee"), (0, .fieldref 1 4), (0, .nameAndType 5 6), (0, u "NONE"), (0, u "Lcom/example/rolegate/rolegate/TransportGuarantee;"), (2, u "INTEGRAL"), (2, u "CONFIDENTIAL"), (2, u "$VALUES"), (0, u "[Lcom/example/rolegate/rolegate/TransportGuarantee;"), (6, .class_ 25), (1, u "java/lang/Enum"), (8, u "connectionPart"), (0, u "Ljava/lang/String;"), (34, u "metBy"), (0, u "(Z)Z")] 5

def k6c0 : Code := { maxStack := 2, maxLocals := 2, code := prog_30_method_6_code, exceptionTable := #[], attributes := #[] }
def k6m0 : Method := { name := "metBy", desc := "(Z)Z", sig := { parameters := [.boolean], returnType := some .boolean }, accessFlags := 0, code := some k6c0 }
/-- com/example/rolegate/rolegate/TransportGuarantee -/
def k6 : Class := { plain "com/example/rolegate/rolegate/TransportGuarantee" (some 5) with
  accessFlags := 16432
  interfaces := #[]
  cf := some (fileOf pool6 1 #[] #[{ accessFlags := 0, nameIndex := 70, descriptorIndex := 71, attributes := #[] }] 16432 23 #[] #[{ accessFlags := 16409, nameIndex := 5, descriptorIndex := 6, attributes := #[] }, { accessFlags := 16409, nameIndex := 9, descriptorIndex := 6, attributes := #[] }, { accessFlags := 16409, nameIndex := 12, descriptorIndex := 6, attributes := #[] }, { accessFlags := 18, nameIndex := 34, descriptorIndex := 35, attributes := #[] }, { accessFlags := 4122, nameIndex := 15, descriptorIndex := 16, attributes := #[] }])
  fields := #[{ name := "NONE", type := (.object "com/example/rolegate/rolegate/TransportGuarantee"), accessFlags := 16409, slot := 0, constantValue := 0 }, { name := "INTEGRAL", type := (.object "com/example/rolegate/rolegate/TransportGuarantee"), accessFlags := 16409, slot := 1, constantValue := 0 }, { name := "CONFIDENTIAL", type := (.object "com/example/rolegate/rolegate/TransportGuarantee"), accessFlags := 16409, slot := 2, constantValue := 0 }, { name := "connectionPart", type := (.object "java/lang/String"), accessFlags := 18, slot := 3, constantValue := 0 }, { name := "$VALUES", type := (.array (.object "com/example/rolegate/rolegate/TransportGuarantee")), accessFlags := 4122, slot := 3, constantValue := 0 }]
  methods := #[k6m0]
  instanceTypes := #[(.object "java/lang/String"), .int, .int, (.object "java/lang/String")]
  staticTypes := #[(.object "com/example/rolegate/rolegate/TransportGuarantee"), (.object "com/example/rolegate/rolegate/TransportGuarantee"), (.object "com/example/rolegate/rolegate/TransportGuarantee"), (.array (.object "com/example/rolegate/rolegate/TransportGuarantee"))]
  resolved := Array.replicate 77 none
  statics := some 0 }

def pool7 : Array CpInfo := pool [(1, u "java/lang/Cloneable"), (0, .class_ 1), (0, u "java/lang/Object"), (0, .class_ 3)] 3

/-- java/lang/Cloneable -/
def k7 : Class := { plain "java/lang/Cloneable" (some 0) with
  accessFlags := 1537
  interfaces := #[]
  cf := some (fileOf pool7 2 #[] #[] 1537 4 #[] #[])
  fields := #[]
  methods := #[]
  instanceTypes := #[]
  staticTypes := #[]
  resolved := Array.replicate 8 none
  statics := none }

/-- the primitive byte -/
def k8 : Class := { plain "byte" none with kind := .primitive 'B', accessFlags := 0x411 }
/-- [B -/
def k9 : Class := { plain "[B" (some 0) with kind := .array 8 .byte, interfaces := #[7, 4], accessFlags := 1041 }

/-- the primitive int -/
def k10 : Class := { plain "int" none with kind := .primitive 'I', accessFlags := 0x411 }
/-- [I -/
def k11 : Class := { plain "[I" (some 0) with kind := .array 10 .int, interfaces := #[7, 4], accessFlags := 1041 }

def heap : Heap := #[{ cls := 6, slots := #[.ref 1, .ref 2, .ref 3, .null], vm := .statics 6 },
  { cls := 6, slots := #[.null, .int 0, .int 0, .null], vm := .none },
  { cls := 6, slots := #[.null, .int 1, .int 0, .null], vm := .none },
  { cls := 6, slots := #[.null, .int 2, .int 0, .null], vm := .none }]
def classes : Array Class := #[k0, k1, k2, k3, k4, k5, k6, k7, k8, k9, k10, k11]
def interned : List (Array UInt16 × Addr) := []
def slotsUsed : Nat := 16
def theMethod : MethodId := ⟨1, 2⟩
def args0 : Array Value := #[.int 1, .int 1]
def aboutOver (below : List Frame) : State where
  vm := { classes := classes, interned := interned.toArray }
  heap := heap
  slotsUsed := slotsUsed
  threads := #[{ frames := .invoking theMethod args0 :: below }]
def below0 : List Frame := [.native { method := ⟨0, 0⟩, args := #[] }]
def about1 : State := aboutOver below0
def p0 : Program := .bare "" "" ""
def e0 : Env := launch0.env 0 0 0
theorem w_frames : about1.frames = Frame.invoking theMethod args0 :: below0 := rfl
set_option maxRecDepth 65536 in
theorem w_args : argsFit about1.vm theMethod args0 = true := by decide +kernel
set_option maxRecDepth 65536 in
theorem w_heap : heapFits about1 = true := by decide +kernel
set_option maxRecDepth 65536 in
theorem w_runnable : about1.curStatus? = some .runnable := by decide +kernel
set_option maxRecDepth 65536 in
theorem w_alone : about1.alone = true := by decide +kernel
set_option maxRecDepth 65536 in
theorem w_named : about1.methodNamed? x = some theMethod := by decide +kernel
set_option maxRecDepth 65536 in
theorem w_hears : about1.hears theMethod below0 = true := by decide +kernel
set_option maxRecDepth 65536 in
theorem w_ripe : about1.ripe theMethod args0 below0 = true := by decide +kernel
theorem w_running : about1.status = .running := rfl
set_option maxRecDepth 65536 in
theorem w_room : about1.hasRoom e0.platform room_1 = true :=
  launch0.hasRoom_least _ room_1 (by decide +kernel) (by decide +kernel) (by decide +kernel) (by decide +kernel) (by decide +kernel) (by decide +kernel)
theorem allAtoms_all (ts : List Jvm.Cond) (a : Array Jvm.Value) (st : Jvm.State) : (allAtoms ts).before a st = ts.all (fun c => c.before a st) := by
  induction ts with
  | nil => rfl
  | cons c t ih =>
    show (Jvm.Cond.and c (allAtoms t)).before a st = _
    rw [Jvm.Cond.before_and, ih, List.all_cons]
def words1 : List Jvm.Cond := Jvm.Cond.code x code maxLocals ret :: tables_1
/-- a 'code' word, met by the world's own term for the bytes: nothing is compared byte by byte -/
theorem code_word {y : MethodName} {bytes : ByteArray} {mx : Nat} {rt : Option FieldType} {a : Array Value} {s : State} {m : MethodId} {meth : Method} {c : Code} (h1 : s.methodNamed? y = some m) (h2 : s.vm.method? m = some meth) (h3 : meth.code = some c) (h4 : c.code = bytes)
    (h5 : (c.maxLocals == mx && c.exceptionTable.isEmpty && decide (c.maxStack ≤ mostOperands) && decide (meth.sig.returnType = rt) && !meth.locks && decide (parseMethodDescriptor y.desc = some meth.sig)) = true) : (Jvm.Cond.code y bytes mx rt).before a s = true := by
  simp only [Bool.and_eq_true, beq_iff_eq, Bool.not_eq_true', decide_eq_true_eq] at h5
  obtain ⟨⟨⟨⟨⟨g1, g2⟩, g3⟩, g4⟩, g5⟩, g6⟩ := h5
  simp [Cond.before, Cond.holds, Cond.value, h1, h2, h3, h4, g1, g2, g3, g4, g5, g6]
def isCode : Jvm.Cond → Bool
  | .code _ _ _ _ => true
  | _ => false
theorem all_split {L : List Jvm.Cond} {P : Jvm.Cond → Bool} (h1 : L.all (fun c => isCode c || P c) = true) (h2 : ∀ c ∈ L.filter isCode, P c = true) : L.all P = true := by
  refine List.all_eq_true.mpr fun c hc => ?_
  have h := List.all_eq_true.mp h1 c hc
  rcases Bool.eq_false_or_eq_true (isCode c) with hi | hi
  · exact h2 c (List.mem_filter.mpr ⟨hc, hi⟩)
  · simpa [hi] using h
set_option maxRecDepth 65536 in
theorem w_c0 : (Jvm.Cond.code x code maxLocals ret).before args0 about1 = true := code_word (m := ⟨1, 2⟩) (meth := k1m2) (c := k1c2) (by decide +kernel) rfl rfl rfl (by decide +kernel)
set_option maxRecDepth 65536 in
theorem w_c1 : (Jvm.Cond.code ({ cls := "com/example/rolegate/rolegate/TransportGuaranteeMetByPinLaw", name := "pick", desc := "(I)Lcom/example/rolegate/rolegate/TransportGuarantee;" } : Jvm.MethodName) method_2_code (1 : Nat) (Option.some (Jvm.ClassFile.FieldType.object "com/example/rolegate/rolegate/TransportGuarantee"))).before args0 about1 = true := code_word (m := ⟨1, 1⟩) (meth := k1m1) (c := k1c1) (by decide +kernel) rfl rfl rfl (by decide +kernel)
set_option maxRecDepth 65536 in
theorem w_c2 : (Jvm.Cond.code ({ cls := "com/example/rolegate/rolegate/TransportGuarantee", name := "metBy", desc := "(Z)Z" } : Jvm.MethodName) prog_30_method_6_code (2 : Nat) (Option.some Jvm.ClassFile.FieldType.boolean)).before args0 about1 = true := code_word (m := ⟨6, 0⟩) (meth := k6m0) (c := k6c0) (by decide +kernel) rfl rfl rfl (by decide +kernel)
def codes1 : List Jvm.Cond := [Jvm.Cond.code x code maxLocals ret, Jvm.Cond.code ({ cls := "com/example/rolegate/rolegate/TransportGuaranteeMetByPinLaw", name := "pick", desc := "(I)Lcom/example/rolegate/rolegate/TransportGuarantee;" } : Jvm.MethodName) method_2_code (1 : Nat) (Option.some (Jvm.ClassFile.FieldType.object "com/example/rolegate/rolegate/TransportGuarantee")), Jvm.Cond.code ({ cls := "com/example/rolegate/rolegate/TransportGuarantee", name := "metBy", desc := "(Z)Z" } : Jvm.MethodName) prog_30_method_6_code (2 : Nat) (Option.some Jvm.ClassFile.FieldType.boolean)]
set_option maxRecDepth 65536 in
theorem codes_eq : words1.filter isCode = codes1 := rfl
theorem w_codes : ∀ c ∈ words1.filter isCode, c.before args0 about1 = true := by
  rw [codes_eq]
  intro c hc
  simp only [codes1, List.mem_cons, List.not_mem_nil, or_false] at hc
  rcases hc with rfl | rfl | rfl
  · exact w_c0
  · exact w_c1
  · exact w_c2
set_option maxRecDepth 65536 in
theorem w_t1 : words1.all (fun c => isCode c || c.before args0 about1) = true := by decide +kernel
theorem w_tables : (allAtoms (Jvm.Cond.code x code maxLocals ret :: tables_1)).before args0 about1 = true := by
  rw [allAtoms_all]
  show words1.all (fun c => c.before args0 about1) = true
  refine all_split ?_ w_codes
  rw [w_t1]
set_option maxRecDepth 65536 in
theorem w_case : (Jvm.Cond.and given_1 narrow_1).before args0 about1 = true := by decide +kernel
theorem w_applies : (headSpec (Jvm.Cond.code x code maxLocals ret :: tables_1) room_1).applies x e0.platform about1 = true :=
  (Spec.applies_iff w_frames).mpr ⟨w_running, w_runnable, w_alone, w_named, w_hears, w_ripe, w_room, w_tables⟩
theorem atStart : AtStart classFile x code maxLocals ret World_1 tables_1 room_1 Calls_1 rest_1 Pre_1 launch0 p0 e0 about1 theMethod args0 below0 :=
  ⟨lists_1, trivial, launch0.admits_env _ _ _, launch0.least_env, fairChoices_fair.cas, fairChoices_fair.clock, w_frames, w_args, w_heap, w_applies, trivial, trivial, w_case⟩
end start1
theorem witness_1 : WitnessClaimed_1 := ⟨start1.p0, start1.e0, start1.about1, start1.theMethod, start1.args0, start1.below0, start1.atStart⟩
end Jvm.Pilot.@@N@@
