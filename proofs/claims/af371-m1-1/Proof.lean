import JvmDerived
import JvmDerived.Pilot.@@N@@Statement
import JvmDerived.Pilot.@@N@@Code
set_option linter.unusedVariables false
set_option linter.unusedSimpArgs false
namespace Jvm.RoadKit
open Sem ClassFile Op Lib Jvm.Stand Jvm.Free Jvm.LawKit
section New
variable {p : Program} {l : Launch} {e : Env} {R : Room} {s : State} {m : MethodId} {args : Array Value} {below : List Frame} {meth : Method} {c : Code} {T : State} {locs : List Loc} {cells slots : Nat}
theorem retI (X : Stand p l e R s m args below meth c T locs cells slots) (hx : p.tables.exec = Jvm.exec) {pc : Nat} {Ls : Array Slot} {z : Int32} {rest : List Value} (hret : meth.sig.returnType = some .int) (hd : decode c.code pc = .ok (.ireturn, 1)) {fs : List Frame}
    (hl : ∀ (f : JFrame) (acts : List Action), f.method = m → f.locked = none → f.entered = [] → (doReturn e (T.setTop f) acts (some (.int z))).1 = T.setFrames fs) : Steps p.tables e below (T.setTop (mkF m pc Ls (.int z :: rest))) (T.setFrames fs) := by
  have hm' : T.vm.method? m = some meth := X.method'
  have hn : narrow .int (.int z) = .int z := rfl
  show Steps p.tables e below (T.setTop { method := m, pc := pc, locals := Ls, stack := _ :: rest, locked := none }) _
  jvm_step X.here [X.here.top, hx, hd, hm', hret, hn]
  first | (intro acts; rw [hl _ acts rfl rfl rfl]) | rw [hl _ _ rfl rfl rfl]
  exact Steps.refl _
end New
abbrev Go (p : Program) (e : Env) (below : List Frame) (T : State) (f : JFrame) (A : State) : Prop := ∀ t, Steps p.tables e below (T.setTop f) t → Steps p.tables e below A t
theorem own_retA (w : Value) (h : w.isRef = true) (t : FieldType) (ht : t.isReference = true) : narrow t w = w := by
  cases w <;> simp [Value.isRef] at h <;> cases t <;> simp [FieldType.isReference] at ht <;> rfl
theorem own_fitA (w : Value) (h : w.isRef = true) (t : FieldType) (ht : t.isReference = true) : fits t w = true := by
  cases w <;> simp [Value.isRef] at h <;> cases t <;> simp [FieldType.isReference] at ht <;> rfl
theorem own_narb (x : Int32) : nar .byte (x.toInt8.toInt32) = x.toInt8.toInt32 := by
  show x.toInt8.toInt32.toInt8.toInt32 = _
  simp
theorem own_ft_byte {z y : Int32} (e : nar .byte z = y) : fits .byte (.int y) = true := by rw [← e]; exact fits_nar_byte z
theorem own_ft_char {z y : Int32} (e : nar .char z = y) : fits .char (.int y) = true := by rw [← e]; exact fits_nar_char z
theorem own_ft_short {z y : Int32} (e : nar .short z = y) : fits .short (.int y) = true := by rw [← e]; exact fits_nar_short z
theorem own_ft_boolean {z y : Int32} (e : nar .boolean z = y) : fits .boolean (.int y) = true := by rw [← e]; exact fits_nar_bool z
theorem own_nw_byte {z y : Int32} (e : nar .byte z = y) : narrow .byte (.int z) = .int y := by rw [← e]; rfl
theorem own_nw_char {z y : Int32} (e : nar .char z = y) : narrow .char (.int z) = .int y := by rw [← e]; rfl
theorem own_nw_short {z y : Int32} (e : nar .short z = y) : narrow .short (.int z) = .int y := by rw [← e]; rfl
theorem own_nw_boolean {z y : Int32} (e : nar .boolean z = y) : narrow .boolean (.int z) = .int y := by rw [← e]; rfl
theorem own_narc (x : Int32) : nar .char (x.toUInt32.toUInt16.toUInt32.toInt32) = x.toUInt32.toUInt16.toUInt32.toInt32 := by
  show x.toUInt32.toUInt16.toUInt32.toInt32.toUInt32.toUInt16.toUInt32.toInt32 = _
  have q := c_i2c x
  have r := c_i2c x.toUInt32.toUInt16.toUInt32.toInt32
  apply Int32.toInt_inj.mp
  omega
theorem own_ext_refl {h : Heap} : Ext h h := ⟨Nat.le_refl _, fun _ _ q => q⟩
theorem own_ext_trans {h h' h2 : Heap} (A : Ext h h') (B : Ext h' h2) : Ext h h2 := ⟨Nat.le_trans A.1 B.1, fun a c q => B.2 a c (A.2 a c q)⟩
theorem own_ext_keep {h h' : Heap} (K : Keep h h' []) : Ext h h' := ⟨K.1, fun a c q => K.2.1 a c q nin0⟩
theorem own_lcmp_self (x : Int64) : lcmpW x x = (0 : Int32) := by rw [lcW]; exact (lc_eq x x).mpr rfl
theorem own_catV {v : Value} (h : v.isRef = true) : v.category = 1 := by cases v <;> simp [Value.isRef] at h <;> rfl
end Jvm.RoadKit
namespace Jvm.RoadKit
open Sem ClassFile Op Lib Jvm.Stand Jvm.Free Jvm.LawKit
theorem own_old_le {Z : State} {n0 : Nat} {h : Heap} (O : Old Z n0 h) : n0 ≤ h.size := O.1 ▸ O.2.1
theorem own_fld_int {args : Array Value} {s : State} {t : Term} {C n d : String} {k : Int32} {a : Addr} (h : (Cond.eq (.field t C n d) (.int k)).value args s none s [] = some true) (ev : t.eval args s none [] s = some (.ref a)) : Fld s s.heap a C n d (.int k) := by
  obtain ⟨x, y, h1, h2, -, k2⟩ := cmp_v (Or.inl h)
  cases h2.symm.trans (Term.int_eval k)
  obtain ⟨z, rfl⟩ := k2
  have e : z = k := gotT (Cond.eq_ints h1 h2) h
  subst e
  exact Fld.start ((fld_at ev).symm.trans h1)
theorem own_eqint {args : Array Value} {s : State} {t : Term} {k : Int32} (h : (Cond.eq t (.int k)).value args s none s [] = some true) : t.eval args s none [] s = some (.int k) := by
  obtain ⟨x, y, h1, h2, -, k2⟩ := cmp_v (Or.inl h)
  cases h2.symm.trans (Term.int_eval k)
  obtain ⟨z, rfl⟩ := k2
  have e : z = k := gotT (Cond.eq_ints h1 h2) h
  subst e
  exact h1
end Jvm.RoadKit
namespace Jvm.Pilot.@@N@@
open Jvm Jvm.ClassFile Sem Op Lib Jvm.Free Jvm.Stand Jvm.LawKit Jvm.RoadKit Bundle Jvm.Pilot.@@N@@.Jvm.D
theorem d1_0 : decode prog_22_method_4_code 0 = .ok (.aload_n 0, 1) := by decide +kernel
theorem d1_1 : decode prog_22_method_4_code 1 = .ok (.getstatic 3, 3) := by decide +kernel
theorem d1_4 : decode prog_22_method_4_code 4 = .ok (.if_acmp .eq 10, 3) := by decide +kernel
theorem d1_14 : decode prog_22_method_4_code 14 = .ok (.iconst 1, 1) := by decide +kernel
theorem d1_15 : decode prog_22_method_4_code 15 = .ok (.goto 4, 3) := by decide +kernel
theorem d1_19 : decode prog_22_method_4_code 19 = .ok (.ireturn, 1) := by decide +kernel
theorem pn_com_example_fetch_from_near_fetchfromnear_Strategy : plainName "com/example/fetch_from_near/fetchfromnear/Strategy" = true := by first | (simp [plainName, overriddenIn]; done) | decide +kernel
theorem ef_rdN (m : MethodId) (x0 : Addr)  : entryFrame m #[(.ref x0)] 1 = mkF m 0 #[.val (.ref x0)] [] := by first | (simp [entryFrame, mkF, argsToLocals, Value.category]; done) | rfl
def Q_rdN (Z : State) (w_NEAREST : Addr) (h0 : Heap) (n0 : Nat) (v : Option Value) (h : Heap) (L : List Loc) : Prop := v = some (.int (1 : Int32)) ∧ Fr n0 L ∧ h = h0
set_option maxRecDepth 65536 in
set_option maxHeartbeats 40000000 in
theorem rm_rdN (l : Launch) (Z : State) (a0 : Array Value) (hw : ∀ d ∈ tables_1, d.before a0 Z = true) (ws : List Jvm.Cond) (w_NEAREST : Addr) (h0 : Heap) (n0 : Nat) (O0 : Old Z n0 h0) (S0_ : Sta Z Z.heap "com/example/fetch_from_near/fetchfromnear/Strategy" "NEAREST" "Lcom/example/fetch_from_near/fetchfromnear/Strategy;" (.ref w_NEAREST)) :
    MetFree l (⟨"com/example/fetch_from_near/fetchfromnear/Strategy", "readsTheMap", "()Z"⟩ : MethodName) (head1 (Jvm.Cond.code (⟨"com/example/fetch_from_near/fetchfromnear/Strategy", "readsTheMap", "()Z"⟩ : MethodName) prog_22_method_4_code 1 (some .boolean) :: ws) ({ frames := 0, cells := 0, slots := 0, locals := 0 } : Room)) (fun a U => a = #[(.ref w_NEAREST)] ∧ Z.Warmed39 U.vm ∧ U.heap = h0) (fun _ _ _ _ _ => True) (fun _ U o U' => ∃ v L, o = .returned v ∧ Q_rdN Z w_NEAREST h0 n0 v U'.heap L ∧ FrameEnd U o U' L ({ frames := 0, cells := 0, slots := 0, locals := 0 } : Room).cells ({ frames := 0, cells := 0, slots := 0, locals := 0 } : Room).slots) := by
  refine MetFree.of_bodySF (plainFor_of_name pn_com_example_fetch_from_near_fetchfromnear_Strategy) hisR ?_
  intro p e s m args below meth c s₁ Bd hml0 hP hK
  obtain ⟨rfl, hZ, hh⟩ := hP
  have hx := Bd.exec
  have hby := Bd.bytes
  have hml : c.maxLocals = 1 := hml0
  have hown : s.vm.findClass "com/example/fetch_from_near/fetchfromnear/Strategy" = some m.cls := findClass_of_methodNamed Bd.named
  have hnm := (name_of_methodNamed Bd.named Bd.method).1
  have X0 : Stand p l e ({ frames := 0, cells := 0, slots := 0, locals := 0 } : Room) s m #[(.ref w_NEAREST)] below meth c s₁ [] 0 0 := Stand.of_body Bd
  have e0 : s₁.heap = h0 := by rw [← hh, Bd.state]; rfl
  have N0 := Fr.nil n0
  have g0 : Go p e below s₁ (mkF m 0 #[rv w_NEAREST] []) (s₁.setTop (entryFrame m #[(.ref w_NEAREST)] 1)) := fun t kont => castTop (ef_rdN m w_NEAREST ) kont
  generalize s₁.setTop (entryFrame m #[(.ref w_NEAREST)] 1) = A0 at g0 ⊢
  have g101 : Go p e below s₁ (mkF m 1 #[rv w_NEAREST] [(.ref w_NEAREST)]) A0 := by
    intro t kont
    refine g0 t ?_
    refine XS.aloadN X0.here hx rfl (hb hby d1_0) rfl rfl ?_
    show Steps p.tables e below (s₁.setTop (mkF m 1 #[rv w_NEAREST] [(.ref w_NEAREST)])) _
    exact kont
  have y102 : Sta Z h0 "com/example/fetch_from_near/fetchfromnear/Strategy" "NEAREST" "Lcom/example/fetch_from_near/fetchfromnear/Strategy;" (.ref w_NEAREST) := S0_.ext O0.2
  obtain ⟨T103, X103, e103, st103⟩ := getS2 X0 hx hZ hown (host := "") (Or.inl (hw _ (List.mem_of_getElem? (i := 8) rfl))) Via.refl e0 y102 (g := (mkF m 1 #[rv w_NEAREST] [(.ref w_NEAREST)])) rfl (hb hby d1_1)
  have g104 : Go p e below T103 (mkF m 4 #[rv w_NEAREST] [(.ref w_NEAREST), (.ref w_NEAREST)]) A0 := fun t kont => g101 t (st103 t kont)
  have g105 : Go p e below T103 (mkF m 19 #[rv w_NEAREST] [(.int (1 : Int32))]) A0 := by
    intro t kont
    refine g104 t ?_
    refine Jvm.RoadKit.acmp (g := (mkF m 4 #[rv w_NEAREST] [(.ref w_NEAREST), (.ref w_NEAREST)])) X103 hx rfl rfl rfl (pc0 := 4) (pc' := 14) (same := true) rfl (hb hby d1_4) rfl (decide_eq_true rfl) (by decide) (by decide) ?_
    show Steps p.tables e below (T103.setTop (mkF m 14 #[rv w_NEAREST] [])) _
    refine XS.iconst X103.here hx rfl (hb hby d1_14) ?_
    show Steps p.tables e below (T103.setTop (mkF m 15 #[rv w_NEAREST] [(.int (1 : Int32))])) _
    refine XS.goto X103.here hx rfl (pc0 := 15) (pc' := 19) rfl (hb hby d1_15) (by decide) (by decide) ?_
    show Steps p.tables e below (T103.setTop (mkF m 19 #[rv w_NEAREST] [(.int (1 : Int32))])) _
    exact kont
  obtain ⟨fs, hr, hrun, hended, hW, hsame⟩ := X103.leave (v := some (.int (1 : Int32))) (fun h => by rw [Bd.returns] at h; cases h)
  refine ⟨_, _, g105 _ (retN X103 hx (t := .boolean) Bd.returns (by simp) (hb hby d1_19) hr), hrun, hended, _, _, rfl, ?_, ⟨_, rfl⟩, hW, hsame.mono (by decide) (by decide)⟩
  show Q_rdN Z w_NEAREST h0 n0 _ T103.heap _
  rw [e103]
  exact ⟨rfl, N0, rfl⟩
theorem d1_7 : decode prog_22_method_4_code 7 = .ok (.aload_n 0, 1) := by decide +kernel
theorem d1_8 : decode prog_22_method_4_code 8 = .ok (.getstatic 10, 3) := by decide +kernel
theorem d1_11 : decode prog_22_method_4_code 11 = .ok (.if_acmp .ne 7, 3) := by decide +kernel
theorem ef_rdG (m : MethodId) (x0 : Addr)  : entryFrame m #[(.ref x0)] 1 = mkF m 0 #[.val (.ref x0)] [] := by first | (simp [entryFrame, mkF, argsToLocals, Value.category]; done) | rfl
def Q_rdG (Z : State) (w_GEOGRAPHIC : Addr) (w_NEAREST : Addr) (h0 : Heap) (n0 : Nat) (v : Option Value) (h : Heap) (L : List Loc) : Prop := v = some (.int (1 : Int32)) ∧ Fr n0 L ∧ h = h0
set_option maxRecDepth 65536 in
set_option maxHeartbeats 40000000 in
theorem rm_rdG (l : Launch) (Z : State) (a0 : Array Value) (hw : ∀ d ∈ tables_1, d.before a0 Z = true) (ws : List Jvm.Cond) (w_GEOGRAPHIC : Addr) (w_NEAREST : Addr) (h0 : Heap) (n0 : Nat) (O0 : Old Z n0 h0) (S0_ : Sta Z Z.heap "com/example/fetch_from_near/fetchfromnear/Strategy" "NEAREST" "Lcom/example/fetch_from_near/fetchfromnear/Strategy;" (.ref w_NEAREST)) (S1_ : Sta Z Z.heap "com/example/fetch_from_near/fetchfromnear/Strategy" "GEOGRAPHIC" "Lcom/example/fetch_from_near/fetchfromnear/Strategy;" (.ref w_GEOGRAPHIC)) (NE2_ : ¬ (w_GEOGRAPHIC = w_NEAREST)) :
    MetFree l (⟨"com/example/fetch_from_near/fetchfromnear/Strategy", "readsTheMap", "()Z"⟩ : MethodName) (head1 (Jvm.Cond.code (⟨"com/example/fetch_from_near/fetchfromnear/Strategy", "readsTheMap", "()Z"⟩ : MethodName) prog_22_method_4_code 1 (some .boolean) :: ws) ({ frames := 0, cells := 0, slots := 0, locals := 0 } : Room)) (fun a U => a = #[(.ref w_GEOGRAPHIC)] ∧ Z.Warmed39 U.vm ∧ U.heap = h0) (fun _ _ _ _ _ => True) (fun _ U o U' => ∃ v L, o = .returned v ∧ Q_rdG Z w_GEOGRAPHIC w_NEAREST h0 n0 v U'.heap L ∧ FrameEnd U o U' L ({ frames := 0, cells := 0, slots := 0, locals := 0 } : Room).cells ({ frames := 0, cells := 0, slots := 0, locals := 0 } : Room).slots) := by
  refine MetFree.of_bodySF (plainFor_of_name pn_com_example_fetch_from_near_fetchfromnear_Strategy) hisR ?_
  intro p e s m args below meth c s₁ Bd hml0 hP hK
  obtain ⟨rfl, hZ, hh⟩ := hP
  have hx := Bd.exec
  have hby := Bd.bytes
  have hml : c.maxLocals = 1 := hml0
  have hown : s.vm.findClass "com/example/fetch_from_near/fetchfromnear/Strategy" = some m.cls := findClass_of_methodNamed Bd.named
  have hnm := (name_of_methodNamed Bd.named Bd.method).1
  have X0 : Stand p l e ({ frames := 0, cells := 0, slots := 0, locals := 0 } : Room) s m #[(.ref w_GEOGRAPHIC)] below meth c s₁ [] 0 0 := Stand.of_body Bd
  have e0 : s₁.heap = h0 := by rw [← hh, Bd.state]; rfl
  have N0 := Fr.nil n0
  have g0 : Go p e below s₁ (mkF m 0 #[rv w_GEOGRAPHIC] []) (s₁.setTop (entryFrame m #[(.ref w_GEOGRAPHIC)] 1)) := fun t kont => castTop (ef_rdG m w_GEOGRAPHIC ) kont
  generalize s₁.setTop (entryFrame m #[(.ref w_GEOGRAPHIC)] 1) = A0 at g0 ⊢
  have g101 : Go p e below s₁ (mkF m 1 #[rv w_GEOGRAPHIC] [(.ref w_GEOGRAPHIC)]) A0 := by
    intro t kont
    refine g0 t ?_
    refine XS.aloadN X0.here hx rfl (hb hby d1_0) rfl rfl ?_
    show Steps p.tables e below (s₁.setTop (mkF m 1 #[rv w_GEOGRAPHIC] [(.ref w_GEOGRAPHIC)])) _
    exact kont
  have y102 : Sta Z h0 "com/example/fetch_from_near/fetchfromnear/Strategy" "NEAREST" "Lcom/example/fetch_from_near/fetchfromnear/Strategy;" (.ref w_NEAREST) := S0_.ext O0.2
  obtain ⟨T103, X103, e103, st103⟩ := getS2 X0 hx hZ hown (host := "") (Or.inl (hw _ (List.mem_of_getElem? (i := 8) rfl))) Via.refl e0 y102 (g := (mkF m 1 #[rv w_GEOGRAPHIC] [(.ref w_GEOGRAPHIC)])) rfl (hb hby d1_1)
  have g104 : Go p e below T103 (mkF m 4 #[rv w_GEOGRAPHIC] [(.ref w_NEAREST), (.ref w_GEOGRAPHIC)]) A0 := fun t kont => g101 t (st103 t kont)
  have g105 : Go p e below T103 (mkF m 8 #[rv w_GEOGRAPHIC] [(.ref w_GEOGRAPHIC)]) A0 := by
    intro t kont
    refine g104 t ?_
    refine Jvm.RoadKit.acmp (g := (mkF m 4 #[rv w_GEOGRAPHIC] [(.ref w_NEAREST), (.ref w_GEOGRAPHIC)])) X103 hx rfl rfl rfl (pc0 := 4) (pc' := 7) (same := false) rfl (hb hby d1_4) rfl (decide_eq_false fun q => NE2_ (Value.ref.inj q)) (by decide) (by decide) ?_
    show Steps p.tables e below (T103.setTop (mkF m 7 #[rv w_GEOGRAPHIC] [])) _
    refine XS.aloadN X103.here hx rfl (hb hby d1_7) rfl rfl ?_
    show Steps p.tables e below (T103.setTop (mkF m 8 #[rv w_GEOGRAPHIC] [(.ref w_GEOGRAPHIC)])) _
    exact kont
  have y106 : Sta Z h0 "com/example/fetch_from_near/fetchfromnear/Strategy" "GEOGRAPHIC" "Lcom/example/fetch_from_near/fetchfromnear/Strategy;" (.ref w_GEOGRAPHIC) := S1_.ext O0.2
  obtain ⟨T107, X107, e107, st107⟩ := getS2 X103 hx hZ hown (host := "") (Or.inl (hw _ (List.mem_of_getElem? (i := 11) rfl))) Via.refl e103 y106 (g := (mkF m 8 #[rv w_GEOGRAPHIC] [(.ref w_GEOGRAPHIC)])) rfl (hb hby d1_8)
  have g108 : Go p e below T107 (mkF m 11 #[rv w_GEOGRAPHIC] [(.ref w_GEOGRAPHIC), (.ref w_GEOGRAPHIC)]) A0 := fun t kont => g105 t (st107 t kont)
  have g109 : Go p e below T107 (mkF m 19 #[rv w_GEOGRAPHIC] [(.int (1 : Int32))]) A0 := by
    intro t kont
    refine g108 t ?_
    refine Jvm.RoadKit.acmp (g := (mkF m 11 #[rv w_GEOGRAPHIC] [(.ref w_GEOGRAPHIC), (.ref w_GEOGRAPHIC)])) X107 hx rfl rfl rfl (pc0 := 11) (pc' := 14) (same := true) rfl (hb hby d1_11) rfl (decide_eq_true rfl) (by decide) (by decide) ?_
    show Steps p.tables e below (T107.setTop (mkF m 14 #[rv w_GEOGRAPHIC] [])) _
    refine XS.iconst X107.here hx rfl (hb hby d1_14) ?_
    show Steps p.tables e below (T107.setTop (mkF m 15 #[rv w_GEOGRAPHIC] [(.int (1 : Int32))])) _
    refine XS.goto X107.here hx rfl (pc0 := 15) (pc' := 19) rfl (hb hby d1_15) (by decide) (by decide) ?_
    show Steps p.tables e below (T107.setTop (mkF m 19 #[rv w_GEOGRAPHIC] [(.int (1 : Int32))])) _
    exact kont
  obtain ⟨fs, hr, hrun, hended, hW, hsame⟩ := X107.leave (v := some (.int (1 : Int32))) (fun h => by rw [Bd.returns] at h; cases h)
  refine ⟨_, _, g109 _ (retN X107 hx (t := .boolean) Bd.returns (by simp) (hb hby d1_19) hr), hrun, hended, _, _, rfl, ?_, ⟨_, rfl⟩, hW, hsame.mono (by decide) (by decide)⟩
  show Q_rdG Z w_GEOGRAPHIC w_NEAREST h0 n0 _ T107.heap _
  rw [e107]
  exact ⟨rfl, N0, rfl⟩
theorem d1_18 : decode prog_22_method_4_code 18 = .ok (.iconst 0, 1) := by decide +kernel
theorem ef_rdO (m : MethodId) (x0 : Addr)  : entryFrame m #[(.ref x0)] 1 = mkF m 0 #[.val (.ref x0)] [] := by first | (simp [entryFrame, mkF, argsToLocals, Value.category]; done) | rfl
def Q_rdO (Z : State) (a1 : Addr) (w_GEOGRAPHIC : Addr) (w_NEAREST : Addr) (h0 : Heap) (n0 : Nat) (v : Option Value) (h : Heap) (L : List Loc) : Prop := v = some (.int (0 : Int32)) ∧ Fr n0 L ∧ h = h0
set_option maxRecDepth 65536 in
set_option maxHeartbeats 40000000 in
theorem rm_rdO (l : Launch) (Z : State) (a0 : Array Value) (hw : ∀ d ∈ tables_1, d.before a0 Z = true) (ws : List Jvm.Cond) (a1 : Addr) (w_GEOGRAPHIC : Addr) (w_NEAREST : Addr) (h0 : Heap) (n0 : Nat) (O0 : Old Z n0 h0) (S0_ : Sta Z Z.heap "com/example/fetch_from_near/fetchfromnear/Strategy" "NEAREST" "Lcom/example/fetch_from_near/fetchfromnear/Strategy;" (.ref w_NEAREST)) (S1_ : Sta Z Z.heap "com/example/fetch_from_near/fetchfromnear/Strategy" "GEOGRAPHIC" "Lcom/example/fetch_from_near/fetchfromnear/Strategy;" (.ref w_GEOGRAPHIC)) (NE2_ : ¬ (a1 = w_NEAREST)) (NE3_ : ¬ (a1 = w_GEOGRAPHIC)) :
    MetFree l (⟨"com/example/fetch_from_near/fetchfromnear/Strategy", "readsTheMap", "()Z"⟩ : MethodName) (head1 (Jvm.Cond.code (⟨"com/example/fetch_from_near/fetchfromnear/Strategy", "readsTheMap", "()Z"⟩ : MethodName) prog_22_method_4_code 1 (some .boolean) :: ws) ({ frames := 0, cells := 0, slots := 0, locals := 0 } : Room)) (fun a U => a = #[(.ref a1)] ∧ Z.Warmed39 U.vm ∧ U.heap = h0) (fun _ _ _ _ _ => True) (fun _ U o U' => ∃ v L, o = .returned v ∧ Q_rdO Z a1 w_GEOGRAPHIC w_NEAREST h0 n0 v U'.heap L ∧ FrameEnd U o U' L ({ frames := 0, cells := 0, slots := 0, locals := 0 } : Room).cells ({ frames := 0, cells := 0, slots := 0, locals := 0 } : Room).slots) := by
  refine MetFree.of_bodySF (plainFor_of_name pn_com_example_fetch_from_near_fetchfromnear_Strategy) hisR ?_
  intro p e s m args below meth c s₁ Bd hml0 hP hK
  obtain ⟨rfl, hZ, hh⟩ := hP
  have hx := Bd.exec
  have hby := Bd.bytes
  have hml : c.maxLocals = 1 := hml0
  have hown : s.vm.findClass "com/example/fetch_from_near/fetchfromnear/Strategy" = some m.cls := findClass_of_methodNamed Bd.named
  have hnm := (name_of_methodNamed Bd.named Bd.method).1
  have X0 : Stand p l e ({ frames := 0, cells := 0, slots := 0, locals := 0 } : Room) s m #[(.ref a1)] below meth c s₁ [] 0 0 := Stand.of_body Bd
  have e0 : s₁.heap = h0 := by rw [← hh, Bd.state]; rfl
  have N0 := Fr.nil n0
  have g0 : Go p e below s₁ (mkF m 0 #[rv a1] []) (s₁.setTop (entryFrame m #[(.ref a1)] 1)) := fun t kont => castTop (ef_rdO m a1 ) kont
  generalize s₁.setTop (entryFrame m #[(.ref a1)] 1) = A0 at g0 ⊢
  have g101 : Go p e below s₁ (mkF m 1 #[rv a1] [(.ref a1)]) A0 := by
    intro t kont
    refine g0 t ?_
    refine XS.aloadN X0.here hx rfl (hb hby d1_0) rfl rfl ?_
    show Steps p.tables e below (s₁.setTop (mkF m 1 #[rv a1] [(.ref a1)])) _
    exact kont
  have y102 : Sta Z h0 "com/example/fetch_from_near/fetchfromnear/Strategy" "NEAREST" "Lcom/example/fetch_from_near/fetchfromnear/Strategy;" (.ref w_NEAREST) := S0_.ext O0.2
  obtain ⟨T103, X103, e103, st103⟩ := getS2 X0 hx hZ hown (host := "") (Or.inl (hw _ (List.mem_of_getElem? (i := 8) rfl))) Via.refl e0 y102 (g := (mkF m 1 #[rv a1] [(.ref a1)])) rfl (hb hby d1_1)
  have g104 : Go p e below T103 (mkF m 4 #[rv a1] [(.ref w_NEAREST), (.ref a1)]) A0 := fun t kont => g101 t (st103 t kont)
  have g105 : Go p e below T103 (mkF m 8 #[rv a1] [(.ref a1)]) A0 := by
    intro t kont
    refine g104 t ?_
    refine Jvm.RoadKit.acmp (g := (mkF m 4 #[rv a1] [(.ref w_NEAREST), (.ref a1)])) X103 hx rfl rfl rfl (pc0 := 4) (pc' := 7) (same := false) rfl (hb hby d1_4) rfl (decide_eq_false fun q => NE2_ (Value.ref.inj q)) (by decide) (by decide) ?_
    show Steps p.tables e below (T103.setTop (mkF m 7 #[rv a1] [])) _
    refine XS.aloadN X103.here hx rfl (hb hby d1_7) rfl rfl ?_
    show Steps p.tables e below (T103.setTop (mkF m 8 #[rv a1] [(.ref a1)])) _
    exact kont
  have y106 : Sta Z h0 "com/example/fetch_from_near/fetchfromnear/Strategy" "GEOGRAPHIC" "Lcom/example/fetch_from_near/fetchfromnear/Strategy;" (.ref w_GEOGRAPHIC) := S1_.ext O0.2
  obtain ⟨T107, X107, e107, st107⟩ := getS2 X103 hx hZ hown (host := "") (Or.inl (hw _ (List.mem_of_getElem? (i := 11) rfl))) Via.refl e103 y106 (g := (mkF m 8 #[rv a1] [(.ref a1)])) rfl (hb hby d1_8)
  have g108 : Go p e below T107 (mkF m 11 #[rv a1] [(.ref w_GEOGRAPHIC), (.ref a1)]) A0 := fun t kont => g105 t (st107 t kont)
  have g109 : Go p e below T107 (mkF m 19 #[rv a1] [(.int (0 : Int32))]) A0 := by
    intro t kont
    refine g108 t ?_
    refine Jvm.RoadKit.acmp (g := (mkF m 11 #[rv a1] [(.ref w_GEOGRAPHIC), (.ref a1)])) X107 hx rfl rfl rfl (pc0 := 11) (pc' := 18) (same := false) rfl (hb hby d1_11) rfl (decide_eq_false fun q => NE3_ (Value.ref.inj q)) (by decide) (by decide) ?_
    show Steps p.tables e below (T107.setTop (mkF m 18 #[rv a1] [])) _
    refine XS.iconst X107.here hx rfl (hb hby d1_18) ?_
    show Steps p.tables e below (T107.setTop (mkF m 19 #[rv a1] [(.int (0 : Int32))])) _
    exact kont
  obtain ⟨fs, hr, hrun, hended, hW, hsame⟩ := X107.leave (v := some (.int (0 : Int32))) (fun h => by rw [Bd.returns] at h; cases h)
  refine ⟨_, _, g109 _ (retN X107 hx (t := .boolean) Bd.returns (by simp) (hb hby d1_19) hr), hrun, hended, _, _, rfl, ?_, ⟨_, rfl⟩, hW, hsame.mono (by decide) (by decide)⟩
  show Q_rdO Z a1 w_GEOGRAPHIC w_NEAREST h0 n0 _ T107.heap _
  rw [e107]
  exact ⟨rfl, N0, rfl⟩
theorem pd_0 : parseMethodDescriptor "()Z" = some ⟨[], some .boolean⟩ := by decide +kernel
theorem pn_com_example_fetch_from_near_fetchfromnear_StrategyReadsTheMapPinLaw : plainName "com/example/fetch_from_near/fetchfromnear/StrategyReadsTheMapPinLaw" = true := by first | (simp [plainName, overriddenIn]; done) | decide +kernel
theorem ef_law (m : MethodId) (x0 : Int32)  : entryFrame m #[(.int x0)] maxLocals = mkF m 0 #[.val (.int x0), .unset, .unset, .unset] [] := by first | (simp [entryFrame, mkF, argsToLocals, Value.category, maxLocals]; done) | rfl
def Q_law (Z : State) (p0 : Int32) (w_NEAREST : Addr) (w_RANDOM : Addr) (w_GEOGRAPHIC : Addr) (w_HASH : Addr) (h0 : Heap) (n0 : Nat) (v : Option Value) (h : Heap) (L : List Loc) : Prop := v = some (.int (1 : Int32)) ∧ Fr n0 L
set_option maxRecDepth 65536 in
set_option maxHeartbeats 40000000 in
theorem rm_law (l : Launch) (Z : State) (a0 : Array Value) (hw : ∀ d ∈ tables_1, d.before a0 Z = true) (ws : List Jvm.Cond) (p0 : Int32) (w_NEAREST : Addr) (w_RANDOM : Addr) (w_GEOGRAPHIC : Addr) (w_HASH : Addr) (h0 : Heap) (n0 : Nat) (O0 : Old Z n0 h0) (S0_ : Sta Z Z.heap "com/example/fetch_from_near/fetchfromnear/Strategy" "NEAREST" "Lcom/example/fetch_from_near/fetchfromnear/Strategy;" (.ref w_NEAREST)) (S1_ : Sta Z Z.heap "com/example/fetch_from_near/fetchfromnear/Strategy" "RANDOM" "Lcom/example/fetch_from_near/fetchfromnear/Strategy;" (.ref w_RANDOM)) (S2_ : Sta Z Z.heap "com/example/fetch_from_near/fetchfromnear/Strategy" "GEOGRAPHIC" "Lcom/example/fetch_from_near/fetchfromnear/Strategy;" (.ref w_GEOGRAPHIC)) (S3_ : Sta Z Z.heap "com/example/fetch_from_near/fetchfromnear/Strategy" "HASH" "Lcom/example/fetch_from_near/fetchfromnear/Strategy;" (.ref w_HASH)) (ZE4_ : Exa Z Z.heap w_NEAREST "com/example/fetch_from_near/fetchfromnear/Strategy") (ZE5_ : Exa Z Z.heap w_RANDOM "com/example/fetch_from_near/fetchfromnear/Strategy") (ZE6_ : Exa Z Z.heap w_GEOGRAPHIC "com/example/fetch_from_near/fetchfromnear/Strategy") (ZE7_ : Exa Z Z.heap w_HASH "com/example/fetch_from_near/fetchfromnear/Strategy") (NE8_ : ¬ (w_GEOGRAPHIC = w_NEAREST)) (NE9_ : ¬ (w_RANDOM = w_NEAREST)) (NE10_ : ¬ (w_RANDOM = w_GEOGRAPHIC)) (NE11_ : ¬ (w_HASH = w_NEAREST)) (NE12_ : ¬ (w_HASH = w_GEOGRAPHIC)) :
    MetFree l x (head1 (Jvm.Cond.code x code maxLocals ret :: ws) room_1) (fun a U => a = #[(.int p0)] ∧ Z.Warmed39 U.vm ∧ U.heap = h0) (fun _ _ _ _ _ => True) (fun _ U o U' => ∃ v L, o = .returned v ∧ Q_law Z p0 w_NEAREST w_RANDOM w_GEOGRAPHIC w_HASH h0 n0 v U'.heap L ∧ FrameEnd U o U' L room_1.cells room_1.slots) := by
  refine MetFree.of_bodySF (plainFor_of_name pn_com_example_fetch_from_near_fetchfromnear_StrategyReadsTheMapPinLaw) hisR ?_
  intro p e s m args below meth c s₁ Bd hml0 hP hK
  obtain ⟨rfl, hZ, hh⟩ := hP
  have hx := Bd.exec
  have hby := Bd.bytes
  have hml : c.maxLocals = 4 := hml0
  have hown : s.vm.findClass "com/example/fetch_from_near/fetchfromnear/StrategyReadsTheMapPinLaw" = some m.cls := findClass_of_methodNamed Bd.named
  have hnm := (name_of_methodNamed Bd.named Bd.method).1
  have X0 : Stand p l e room_1 s m #[(.int p0)] below meth c s₁ [] 0 0 := Stand.of_body Bd
  have e0 : s₁.heap = h0 := by rw [← hh, Bd.state]; rfl
  have N0 := Fr.nil n0
  have g0 : Go p e below s₁ (mkF m 0 #[iv p0, .unset, .unset, .unset] []) (s₁.setTop (entryFrame m #[(.int p0)] maxLocals)) := fun t kont => castTop (ef_law m p0 ) kont
  generalize s₁.setTop (entryFrame m #[(.int p0)] maxLocals) = A0 at g0 ⊢
  have g101 : Go p e below s₁ (mkF m 3 #[iv p0, .unset, .unset, .unset] [(.int (p0 &&& (3 : Int32)))]) A0 := by
    intro t kont
    refine g0 t ?_
    refine XS.iloadN X0.here hx rfl (hb hby at_0) rfl ?_
    show Steps p.tables e below (s₁.setTop (mkF m 1 #[iv p0, .unset, .unset, .unset] [(.int p0)])) _
    refine XS.iconst X0.here hx rfl (hb hby at_1) ?_
    show Steps p.tables e below (s₁.setTop (mkF m 2 #[iv p0, .unset, .unset, .unset] [(.int (3 : Int32)), (.int p0)])) _
    refine XS.iand X0.here hx rfl (hb hby at_2) rfl ?_
    show Steps p.tables e below (s₁.setTop (mkF m 3 #[iv p0, .unset, .unset, .unset] [(.int (p0 &&& (3 : Int32)))])) _
    exact kont
  obtain ⟨k, e_k⟩ : ∃ z, z = (p0 &&& (3 : Int32)) := ⟨_, rfl⟩
  have g102 : Go p e below s₁ (mkF m 3 #[iv p0, .unset, .unset, .unset] [(.int k)]) A0 := by rw [e_k]; exact g101
  have g104 : Go p e below s₁ (mkF m 5 #[iv p0, iv k, .unset, .unset] [(.int k)]) A0 := by
    intro t kont
    refine g102 t ?_
    refine XS.istoreN X0.here hx rfl (hb hby at_3) rfl (l' := #[iv p0, iv k, .unset, .unset]) rfl ?_
    show Steps p.tables e below (s₁.setTop (mkF m 4 #[iv p0, iv k, .unset, .unset] [])) _
    refine XS.iloadN X0.here hx rfl (hb hby at_4) rfl ?_
    show Steps p.tables e below (s₁.setTop (mkF m 5 #[iv p0, iv k, .unset, .unset] [(.int k)])) _
    exact kont
  by_cases c103 : k = (0 : Int32)
  ·
    subst c103
    have g105 : Go p e below s₁ (mkF m 8 #[iv p0, iv (0 : Int32), .unset, .unset] []) A0 := by
      intro t kont
      refine g104 t ?_
      refine XS.ifNo X0.here hx rfl (hb hby at_5) rfl ((if0 _ _).trans (teq (rfl : (0 : Int32) = (0 : Int32))).2) ?_
      show Steps p.tables e below (s₁.setTop (mkF m 8 #[iv p0, iv (0 : Int32), .unset, .unset] [])) _
      exact kont
    have y106 : Sta Z h0 "com/example/fetch_from_near/fetchfromnear/Strategy" "NEAREST" "Lcom/example/fetch_from_near/fetchfromnear/Strategy;" (.ref w_NEAREST) := S0_.ext O0.2
    obtain ⟨T107, X107, e107, st107⟩ := getS2 X0 hx hZ hown (host := "") (Or.inl (hw _ (List.mem_of_getElem? (i := 0) rfl))) Via.refl e0 y106 (g := (mkF m 8 #[iv p0, iv (0 : Int32), .unset, .unset] [])) rfl (hb hby at_8)
    have g108 : Go p e below T107 (mkF m 11 #[iv p0, iv (0 : Int32), .unset, .unset] [(.ref w_NEAREST)]) A0 := fun t kont => g105 t (st107 t kont)
    have g109 : Go p e below T107 (mkF m 52 #[iv p0, iv (0 : Int32), rv w_NEAREST, iv (1 : Int32)] [(.ref w_NEAREST)]) A0 := by
      intro t kont
      refine g108 t ?_
      refine XS.astoreN X107.here hx rfl (hb hby at_11) rfl rfl (l' := #[iv p0, iv (0 : Int32), rv w_NEAREST, .unset]) rfl ?_
      show Steps p.tables e below (T107.setTop (mkF m 12 #[iv p0, iv (0 : Int32), rv w_NEAREST, .unset] [])) _
      refine XS.iconst X107.here hx rfl (hb hby at_12) ?_
      show Steps p.tables e below (T107.setTop (mkF m 13 #[iv p0, iv (0 : Int32), rv w_NEAREST, .unset] [(.int (1 : Int32))])) _
      refine XS.istoreN X107.here hx rfl (hb hby at_13) rfl (l' := #[iv p0, iv (0 : Int32), rv w_NEAREST, iv (1 : Int32)]) rfl ?_
      show Steps p.tables e below (T107.setTop (mkF m 14 #[iv p0, iv (0 : Int32), rv w_NEAREST, iv (1 : Int32)] [])) _
      refine XS.goto X107.here hx rfl (pc0 := 14) (pc' := 51) rfl (hb hby at_14) (by decide) (by decide) ?_
      show Steps p.tables e below (T107.setTop (mkF m 51 #[iv p0, iv (0 : Int32), rv w_NEAREST, iv (1 : Int32)] [])) _
      refine XS.aloadN X107.here hx rfl (hb hby at_51) rfl rfl ?_
      show Steps p.tables e below (T107.setTop (mkF m 52 #[iv p0, iv (0 : Int32), rv w_NEAREST, iv (1 : Int32)] [(.ref w_NEAREST)])) _
      exact kont
    have y111 : Exa Z h0 w_NEAREST "com/example/fetch_from_near/fetchfromnear/Strategy" := ZE4_.ext O0.2
    have y112 : Exa Z h0 w_NEAREST "com/example/fetch_from_near/fetchfromnear/Strategy" := ZE4_.ext O0.2
    obtain ⟨cq110, kq110, q110a, q110b, q110c⟩ := isOf hZ e107 y112
    obtain ⟨_, _, ⟨T110, L110, k110, n110⟩, -, X110, ⟨Lc110, hQ110, l110, y110, z110⟩, st110⟩ := X107.virtualBack hx (y := (⟨"com/example/fetch_from_near/fetchfromnear/Strategy", "readsTheMap", "()Z"⟩ : MethodName)) (z := (⟨"com/example/fetch_from_near/fetchfromnear/Strategy", "readsTheMap", "()Z"⟩ : MethodName)) hown (mvT hZ (hw _ (List.mem_of_getElem? (i := 3) rfl))) (mvT hZ (hw _ (List.mem_of_getElem? (i := 4) rfl))) (notFace_of_selects (args := #[]) (mvT hZ (hw _ (List.mem_of_getElem? (i := 6) rfl)))) (mvT hZ (hw _ (List.mem_of_getElem? (i := 6) rfl))) (mvT hZ (hw _ (List.mem_of_getElem? (i := 5) rfl))) (by decide) (backOf (W := 0) (rm_rdN l Z a0 hw [] w_NEAREST h0 n0 O0 S0_) hZ (hw _ (List.mem_of_getElem? (i := 7) rfl)) (hw _ (List.mem_of_getElem? (i := 1) rfl)) (by decide) (by decide)) q110a q110c (g := (mkF m 52 #[iv p0, iv (0 : Int32), rv w_NEAREST, iv (1 : Int32)] [(.ref w_NEAREST)])) rfl (by rw [hml]; rfl) (Steps.refl _) (argsL := []) (rest := []) (lenOf pd_0 rfl) rfl (by show 2 * 0 + _ ≤ _; exact Nat.le_of_eq rfl) (hb hby at_52) (fun _ _ => ⟨rfl, e107, (by decide : 0 + 0 ≤ _), (by decide : 0 + 0 ≤ _)⟩)
    dsimp only [Pt.U, Pt.locs, Pt.cells, Pt.slots] at X110 l110 y110 z110 st110 hQ110
    subst l110 y110 z110
    obtain ⟨rfl, M110, e110⟩ := hQ110
    have N110 := Fr.app N0 M110
    have g113 : Go p e below T110 (mkF m 55 #[iv p0, iv (0 : Int32), rv w_NEAREST, iv (1 : Int32)] [(.int (1 : Int32))]) A0 := fun t kont => g109 t (st110.trans kont)
    have g114 : Go p e below T110 (mkF m 64 #[iv p0, iv (0 : Int32), rv w_NEAREST, iv (1 : Int32)] [(.int (1 : Int32))]) A0 := by
      intro t kont
      refine g113 t ?_
      refine XS.iloadN X110.here hx rfl (hb hby at_55) rfl ?_
      show Steps p.tables e below (T110.setTop (mkF m 56 #[iv p0, iv (0 : Int32), rv w_NEAREST, iv (1 : Int32)] [(.int (1 : Int32)), (.int (1 : Int32))])) _
      refine XS.icmpNo X110.here hx rfl (hb hby at_56) rfl (teq (by decide : (1 : Int32) = (1 : Int32))).2 ?_
      show Steps p.tables e below (T110.setTop (mkF m 59 #[iv p0, iv (0 : Int32), rv w_NEAREST, iv (1 : Int32)] [])) _
      refine XS.iconst X110.here hx rfl (hb hby at_59) ?_
      show Steps p.tables e below (T110.setTop (mkF m 60 #[iv p0, iv (0 : Int32), rv w_NEAREST, iv (1 : Int32)] [(.int (1 : Int32))])) _
      refine XS.goto X110.here hx rfl (pc0 := 60) (pc' := 64) rfl (hb hby at_60) (by decide) (by decide) ?_
      show Steps p.tables e below (T110.setTop (mkF m 64 #[iv p0, iv (0 : Int32), rv w_NEAREST, iv (1 : Int32)] [(.int (1 : Int32))])) _
      exact kont
    obtain ⟨fs, hr, hrun, hended, hW, hsame⟩ := X110.leave (v := some (.int (1 : Int32))) (fun h => by rw [Bd.returns] at h; cases h)
    refine ⟨_, _, g114 _ (retN X110 hx (t := .boolean) Bd.returns (by simp) (hb hby at_64) hr), hrun, hended, _, _, rfl, ?_, ⟨_, rfl⟩, hW, hsame.mono (by decide) (by decide)⟩
    show Q_law Z p0 w_NEAREST w_RANDOM w_GEOGRAPHIC w_HASH h0 n0 _ T110.heap _
    rw [e110]
    exact ⟨rfl, N110⟩
  have g116 : Go p e below s₁ (mkF m 19 #[iv p0, iv k, .unset, .unset] [(.int (1 : Int32)), (.int k)]) A0 := by
    intro t kont
    refine g104 t ?_
    refine XS.ifYes X0.here hx rfl (pc0 := 5) (pc' := 17) rfl (hb hby at_5) rfl ((if0 _ _).trans (feq c103).2) (by decide) (by decide) ?_
    show Steps p.tables e below (s₁.setTop (mkF m 17 #[iv p0, iv k, .unset, .unset] [])) _
    refine XS.iloadN X0.here hx rfl (hb hby at_17) rfl ?_
    show Steps p.tables e below (s₁.setTop (mkF m 18 #[iv p0, iv k, .unset, .unset] [(.int k)])) _
    refine XS.iconst X0.here hx rfl (hb hby at_18) ?_
    show Steps p.tables e below (s₁.setTop (mkF m 19 #[iv p0, iv k, .unset, .unset] [(.int (1 : Int32)), (.int k)])) _
    exact kont
  by_cases c115 : k = (1 : Int32)
  ·
    subst c115
    have g117 : Go p e below s₁ (mkF m 22 #[iv p0, iv (1 : Int32), .unset, .unset] []) A0 := by
      intro t kont
      refine g116 t ?_
      refine XS.icmpNo X0.here hx rfl (hb hby at_19) rfl (teq (rfl : (1 : Int32) = (1 : Int32))).2 ?_
      show Steps p.tables e below (s₁.setTop (mkF m 22 #[iv p0, iv (1 : Int32), .unset, .unset] [])) _
      exact kont
    have y118 : Sta Z h0 "com/example/fetch_from_near/fetchfromnear/Strategy" "RANDOM" "Lcom/example/fetch_from_near/fetchfromnear/Strategy;" (.ref w_RANDOM) := S1_.ext O0.2
    obtain ⟨T119, X119, e119, st119⟩ := getS2 X0 hx hZ hown (host := "") (Or.inl (hw _ (List.mem_of_getElem? (i := 14) rfl))) Via.refl e0 y118 (g := (mkF m 22 #[iv p0, iv (1 : Int32), .unset, .unset] [])) rfl (hb hby at_22)
    have g120 : Go p e below T119 (mkF m 25 #[iv p0, iv (1 : Int32), .unset, .unset] [(.ref w_RANDOM)]) A0 := fun t kont => g117 t (st119 t kont)
    have g121 : Go p e below T119 (mkF m 52 #[iv p0, iv (1 : Int32), rv w_RANDOM, iv (0 : Int32)] [(.ref w_RANDOM)]) A0 := by
      intro t kont
      refine g120 t ?_
      refine XS.astoreN X119.here hx rfl (hb hby at_25) rfl rfl (l' := #[iv p0, iv (1 : Int32), rv w_RANDOM, .unset]) rfl ?_
      show Steps p.tables e below (T119.setTop (mkF m 26 #[iv p0, iv (1 : Int32), rv w_RANDOM, .unset] [])) _
      refine XS.iconst X119.here hx rfl (hb hby at_26) ?_
      show Steps p.tables e below (T119.setTop (mkF m 27 #[iv p0, iv (1 : Int32), rv w_RANDOM, .unset] [(.int (0 : Int32))])) _
      refine XS.istoreN X119.here hx rfl (hb hby at_27) rfl (l' := #[iv p0, iv (1 : Int32), rv w_RANDOM, iv (0 : Int32)]) rfl ?_
      show Steps p.tables e below (T119.setTop (mkF m 28 #[iv p0, iv (1 : Int32), rv w_RANDOM, iv (0 : Int32)] [])) _
      refine XS.goto X119.here hx rfl (pc0 := 28) (pc' := 51) rfl (hb hby at_28) (by decide) (by decide) ?_
      show Steps p.tables e below (T119.setTop (mkF m 51 #[iv p0, iv (1 : Int32), rv w_RANDOM, iv (0 : Int32)] [])) _
      refine XS.aloadN X119.here hx rfl (hb hby at_51) rfl rfl ?_
      show Steps p.tables e below (T119.setTop (mkF m 52 #[iv p0, iv (1 : Int32), rv w_RANDOM, iv (0 : Int32)] [(.ref w_RANDOM)])) _
      exact kont
    have y123 : Exa Z h0 w_RANDOM "com/example/fetch_from_near/fetchfromnear/Strategy" := ZE5_.ext O0.2
    have y124 : Exa Z h0 w_RANDOM "com/example/fetch_from_near/fetchfromnear/Strategy" := ZE5_.ext O0.2
    obtain ⟨cq122, kq122, q122a, q122b, q122c⟩ := isOf hZ e119 y124
    obtain ⟨_, _, ⟨T122, L122, k122, n122⟩, -, X122, ⟨Lc122, hQ122, l122, y122, z122⟩, st122⟩ := X119.virtualBack hx (y := (⟨"com/example/fetch_from_near/fetchfromnear/Strategy", "readsTheMap", "()Z"⟩ : MethodName)) (z := (⟨"com/example/fetch_from_near/fetchfromnear/Strategy", "readsTheMap", "()Z"⟩ : MethodName)) hown (mvT hZ (hw _ (List.mem_of_getElem? (i := 3) rfl))) (mvT hZ (hw _ (List.mem_of_getElem? (i := 4) rfl))) (notFace_of_selects (args := #[]) (mvT hZ (hw _ (List.mem_of_getElem? (i := 6) rfl)))) (mvT hZ (hw _ (List.mem_of_getElem? (i := 6) rfl))) (mvT hZ (hw _ (List.mem_of_getElem? (i := 5) rfl))) (by decide) (backOf (W := 0) (rm_rdO l Z a0 hw [] w_RANDOM w_GEOGRAPHIC w_NEAREST h0 n0 O0 S0_ S2_ NE9_ NE10_) hZ (hw _ (List.mem_of_getElem? (i := 7) rfl)) (hw _ (List.mem_of_getElem? (i := 1) rfl)) (by decide) (by decide)) q122a q122c (g := (mkF m 52 #[iv p0, iv (1 : Int32), rv w_RANDOM, iv (0 : Int32)] [(.ref w_RANDOM)])) rfl (by rw [hml]; rfl) (Steps.refl _) (argsL := []) (rest := []) (lenOf pd_0 rfl) rfl (by show 2 * 0 + _ ≤ _; exact Nat.le_of_eq rfl) (hb hby at_52) (fun _ _ => ⟨rfl, e119, (by decide : 0 + 0 ≤ _), (by decide : 0 + 0 ≤ _)⟩)
    dsimp only [Pt.U, Pt.locs, Pt.cells, Pt.slots] at X122 l122 y122 z122 st122 hQ122
    subst l122 y122 z122
    obtain ⟨rfl, M122, e122⟩ := hQ122
    have N122 := Fr.app N0 M122
    have g125 : Go p e below T122 (mkF m 55 #[iv p0, iv (1 : Int32), rv w_RANDOM, iv (0 : Int32)] [(.int (0 : Int32))]) A0 := fun t kont => g121 t (st122.trans kont)
    have g126 : Go p e below T122 (mkF m 64 #[iv p0, iv (1 : Int32), rv w_RANDOM, iv (0 : Int32)] [(.int (1 : Int32))]) A0 := by
      intro t kont
      refine g125 t ?_
      refine XS.iloadN X122.here hx rfl (hb hby at_55) rfl ?_
      show Steps p.tables e below (T122.setTop (mkF m 56 #[iv p0, iv (1 : Int32), rv w_RANDOM, iv (0 : Int32)] [(.int (0 : Int32)), (.int (0 : Int32))])) _
      refine XS.icmpNo X122.here hx rfl (hb hby at_56) rfl (teq (by decide : (0 : Int32) = (0 : Int32))).2 ?_
      show Steps p.tables e below (T122.setTop (mkF m 59 #[iv p0, iv (1 : Int32), rv w_RANDOM, iv (0 : Int32)] [])) _
      refine XS.iconst X122.here hx rfl (hb hby at_59) ?_
      show Steps p.tables e below (T122.setTop (mkF m 60 #[iv p0, iv (1 : Int32), rv w_RANDOM, iv (0 : Int32)] [(.int (1 : Int32))])) _
      refine XS.goto X122.here hx rfl (pc0 := 60) (pc' := 64) rfl (hb hby at_60) (by decide) (by decide) ?_
      show Steps p.tables e below (T122.setTop (mkF m 64 #[iv p0, iv (1 : Int32), rv w_RANDOM, iv (0 : Int32)] [(.int (1 : Int32))])) _
      exact kont
    obtain ⟨fs, hr, hrun, hended, hW, hsame⟩ := X122.leave (v := some (.int (1 : Int32))) (fun h => by rw [Bd.returns] at h; cases h)
    refine ⟨_, _, g126 _ (retN X122 hx (t := .boolean) Bd.returns (by simp) (hb hby at_64) hr), hrun, hended, _, _, rfl, ?_, ⟨_, rfl⟩, hW, hsame.mono (by decide) (by decide)⟩
    show Q_law Z p0 w_NEAREST w_RANDOM w_GEOGRAPHIC w_HASH h0 n0 _ T122.heap _
    rw [e122]
    exact ⟨rfl, N122⟩
  have g128 : Go p e below s₁ (mkF m 33 #[iv p0, iv k, .unset, .unset] [(.int (2 : Int32)), (.int k)]) A0 := by
    intro t kont
    refine g116 t ?_
    refine XS.icmpYes X0.here hx rfl (pc0 := 19) (pc' := 31) rfl (hb hby at_19) rfl (feq c115).2 (by decide) (by decide) ?_
    show Steps p.tables e below (s₁.setTop (mkF m 31 #[iv p0, iv k, .unset, .unset] [])) _
    refine XS.iloadN X0.here hx rfl (hb hby at_31) rfl ?_
    show Steps p.tables e below (s₁.setTop (mkF m 32 #[iv p0, iv k, .unset, .unset] [(.int k)])) _
    refine XS.iconst X0.here hx rfl (hb hby at_32) ?_
    show Steps p.tables e below (s₁.setTop (mkF m 33 #[iv p0, iv k, .unset, .unset] [(.int (2 : Int32)), (.int k)])) _
    exact kont
  by_cases c127 : k = (2 : Int32)
  ·
    subst c127
    have g129 : Go p e below s₁ (mkF m 36 #[iv p0, iv (2 : Int32), .unset, .unset] []) A0 := by
      intro t kont
      refine g128 t ?_
      refine XS.icmpNo X0.here hx rfl (hb hby at_33) rfl (teq (rfl : (2 : Int32) = (2 : Int32))).2 ?_
      show Steps p.tables e below (s₁.setTop (mkF m 36 #[iv p0, iv (2 : Int32), .unset, .unset] [])) _
      exact kont
    have y130 : Sta Z h0 "com/example/fetch_from_near/fetchfromnear/Strategy" "GEOGRAPHIC" "Lcom/example/fetch_from_near/fetchfromnear/Strategy;" (.ref w_GEOGRAPHIC) := S2_.ext O0.2
    obtain ⟨T131, X131, e131, st131⟩ := getS2 X0 hx hZ hown (host := "") (Or.inl (hw _ (List.mem_of_getElem? (i := 13) rfl))) Via.refl e0 y130 (g := (mkF m 36 #[iv p0, iv (2 : Int32), .unset, .unset] [])) rfl (hb hby at_36)
    have g132 : Go p e below T131 (mkF m 39 #[iv p0, iv (2 : Int32), .unset, .unset] [(.ref w_GEOGRAPHIC)]) A0 := fun t kont => g129 t (st131 t kont)
    have g133 : Go p e below T131 (mkF m 52 #[iv p0, iv (2 : Int32), rv w_GEOGRAPHIC, iv (1 : Int32)] [(.ref w_GEOGRAPHIC)]) A0 := by
      intro t kont
      refine g132 t ?_
      refine XS.astoreN X131.here hx rfl (hb hby at_39) rfl rfl (l' := #[iv p0, iv (2 : Int32), rv w_GEOGRAPHIC, .unset]) rfl ?_
      show Steps p.tables e below (T131.setTop (mkF m 40 #[iv p0, iv (2 : Int32), rv w_GEOGRAPHIC, .unset] [])) _
      refine XS.iconst X131.here hx rfl (hb hby at_40) ?_
      show Steps p.tables e below (T131.setTop (mkF m 41 #[iv p0, iv (2 : Int32), rv w_GEOGRAPHIC, .unset] [(.int (1 : Int32))])) _
      refine XS.istoreN X131.here hx rfl (hb hby at_41) rfl (l' := #[iv p0, iv (2 : Int32), rv w_GEOGRAPHIC, iv (1 : Int32)]) rfl ?_
      show Steps p.tables e below (T131.setTop (mkF m 42 #[iv p0, iv (2 : Int32), rv w_GEOGRAPHIC, iv (1 : Int32)] [])) _
      refine XS.goto X131.here hx rfl (pc0 := 42) (pc' := 51) rfl (hb hby at_42) (by decide) (by decide) ?_
      show Steps p.tables e below (T131.setTop (mkF m 51 #[iv p0, iv (2 : Int32), rv w_GEOGRAPHIC, iv (1 : Int32)] [])) _
      refine XS.aloadN X131.here hx rfl (hb hby at_51) rfl rfl ?_
      show Steps p.tables e below (T131.setTop (mkF m 52 #[iv p0, iv (2 : Int32), rv w_GEOGRAPHIC, iv (1 : Int32)] [(.ref w_GEOGRAPHIC)])) _
      exact kont
    have y135 : Exa Z h0 w_GEOGRAPHIC "com/example/fetch_from_near/fetchfromnear/Strategy" := ZE6_.ext O0.2
    have y136 : Exa Z h0 w_GEOGRAPHIC "com/example/fetch_from_near/fetchfromnear/Strategy" := ZE6_.ext O0.2
    obtain ⟨cq134, kq134, q134a, q134b, q134c⟩ := isOf hZ e131 y136
    obtain ⟨_, _, ⟨T134, L134, k134, n134⟩, -, X134, ⟨Lc134, hQ134, l134, y134, z134⟩, st134⟩ := X131.virtualBack hx (y := (⟨"com/example/fetch_from_near/fetchfromnear/Strategy", "readsTheMap", "()Z"⟩ : MethodName)) (z := (⟨"com/example/fetch_from_near/fetchfromnear/Strategy", "readsTheMap", "()Z"⟩ : MethodName)) hown (mvT hZ (hw _ (List.mem_of_getElem? (i := 3) rfl))) (mvT hZ (hw _ (List.mem_of_getElem? (i := 4) rfl))) (notFace_of_selects (args := #[]) (mvT hZ (hw _ (List.mem_of_getElem? (i := 6) rfl)))) (mvT hZ (hw _ (List.mem_of_getElem? (i := 6) rfl))) (mvT hZ (hw _ (List.mem_of_getElem? (i := 5) rfl))) (by decide) (backOf (W := 0) (rm_rdG l Z a0 hw [] w_GEOGRAPHIC w_NEAREST h0 n0 O0 S0_ S2_ NE8_) hZ (hw _ (List.mem_of_getElem? (i := 7) rfl)) (hw _ (List.mem_of_getElem? (i := 1) rfl)) (by decide) (by decide)) q134a q134c (g := (mkF m 52 #[iv p0, iv (2 : Int32), rv w_GEOGRAPHIC, iv (1 : Int32)] [(.ref w_GEOGRAPHIC)])) rfl (by rw [hml]; rfl) (Steps.refl _) (argsL := []) (rest := []) (lenOf pd_0 rfl) rfl (by show 2 * 0 + _ ≤ _; exact Nat.le_of_eq rfl) (hb hby at_52) (fun _ _ => ⟨rfl, e131, (by decide : 0 + 0 ≤ _), (by decide : 0 + 0 ≤ _)⟩)
    dsimp only [Pt.U, Pt.locs, Pt.cells, Pt.slots] at X134 l134 y134 z134 st134 hQ134
    subst l134 y134 z134
    obtain ⟨rfl, M134, e134⟩ := hQ134
    have N134 := Fr.app N0 M134
    have g137 : Go p e below T134 (mkF m 55 #[iv p0, iv (2 : Int32), rv w_GEOGRAPHIC, iv (1 : Int32)] [(.int (1 : Int32))]) A0 := fun t kont => g133 t (st134.trans kont)
    have g138 : Go p e below T134 (mkF m 64 #[iv p0, iv (2 : Int32), rv w_GEOGRAPHIC, iv (1 : Int32)] [(.int (1 : Int32))]) A0 := by
      intro t kont
      refine g137 t ?_
      refine XS.iloadN X134.here hx rfl (hb hby at_55) rfl ?_
      show Steps p.tables e below (T134.setTop (mkF m 56 #[iv p0, iv (2 : Int32), rv w_GEOGRAPHIC, iv (1 : Int32)] [(.int (1 : Int32)), (.int (1 : Int32))])) _
      refine XS.icmpNo X134.here hx rfl (hb hby at_56) rfl (teq (by decide : (1 : Int32) = (1 : Int32))).2 ?_
      show Steps p.tables e below (T134.setTop (mkF m 59 #[iv p0, iv (2 : Int32), rv w_GEOGRAPHIC, iv (1 : Int32)] [])) _
      refine XS.iconst X134.here hx rfl (hb hby at_59) ?_
      show Steps p.tables e below (T134.setTop (mkF m 60 #[iv p0, iv (2 : Int32), rv w_GEOGRAPHIC, iv (1 : Int32)] [(.int (1 : Int32))])) _
      refine XS.goto X134.here hx rfl (pc0 := 60) (pc' := 64) rfl (hb hby at_60) (by decide) (by decide) ?_
      show Steps p.tables e below (T134.setTop (mkF m 64 #[iv p0, iv (2 : Int32), rv w_GEOGRAPHIC, iv (1 : Int32)] [(.int (1 : Int32))])) _
      exact kont
    obtain ⟨fs, hr, hrun, hended, hW, hsame⟩ := X134.leave (v := some (.int (1 : Int32))) (fun h => by rw [Bd.returns] at h; cases h)
    refine ⟨_, _, g138 _ (retN X134 hx (t := .boolean) Bd.returns (by simp) (hb hby at_64) hr), hrun, hended, _, _, rfl, ?_, ⟨_, rfl⟩, hW, hsame.mono (by decide) (by decide)⟩
    show Q_law Z p0 w_NEAREST w_RANDOM w_GEOGRAPHIC w_HASH h0 n0 _ T134.heap _
    rw [e134]
    exact ⟨rfl, N134⟩
  have g139 : Go p e below s₁ (mkF m 45 #[iv p0, iv k, .unset, .unset] []) A0 := by
    intro t kont
    refine g128 t ?_
    refine XS.icmpYes X0.here hx rfl (pc0 := 33) (pc' := 45) rfl (hb hby at_33) rfl (feq c127).2 (by decide) (by decide) ?_
    show Steps p.tables e below (s₁.setTop (mkF m 45 #[iv p0, iv k, .unset, .unset] [])) _
    exact kont
  have y140 : Sta Z h0 "com/example/fetch_from_near/fetchfromnear/Strategy" "HASH" "Lcom/example/fetch_from_near/fetchfromnear/Strategy;" (.ref w_HASH) := S3_.ext O0.2
  obtain ⟨T141, X141, e141, st141⟩ := getS2 X0 hx hZ hown (host := "") (Or.inl (hw _ (List.mem_of_getElem? (i := 9) rfl))) Via.refl e0 y140 (g := (mkF m 45 #[iv p0, iv k, .unset, .unset] [])) rfl (hb hby at_45)
  have g142 : Go p e below T141 (mkF m 48 #[iv p0, iv k, .unset, .unset] [(.ref w_HASH)]) A0 := fun t kont => g139 t (st141 t kont)
  have g143 : Go p e below T141 (mkF m 52 #[iv p0, iv k, rv w_HASH, iv (0 : Int32)] [(.ref w_HASH)]) A0 := by
    intro t kont
    refine g142 t ?_
    refine XS.astoreN X141.here hx rfl (hb hby at_48) rfl rfl (l' := #[iv p0, iv k, rv w_HASH, .unset]) rfl ?_
    show Steps p.tables e below (T141.setTop (mkF m 49 #[iv p0, iv k, rv w_HASH, .unset] [])) _
    refine XS.iconst X141.here hx rfl (hb hby at_49) ?_
    show Steps p.tables e below (T141.setTop (mkF m 50 #[iv p0, iv k, rv w_HASH, .unset] [(.int (0 : Int32))])) _
    refine XS.istoreN X141.here hx rfl (hb hby at_50) rfl (l' := #[iv p0, iv k, rv w_HASH, iv (0 : Int32)]) rfl ?_
    show Steps p.tables e below (T141.setTop (mkF m 51 #[iv p0, iv k, rv w_HASH, iv (0 : Int32)] [])) _
    refine XS.aloadN X141.here hx rfl (hb hby at_51) rfl rfl ?_
    show Steps p.tables e below (T141.setTop (mkF m 52 #[iv p0, iv k, rv w_HASH, iv (0 : Int32)] [(.ref w_HASH)])) _
    exact kont
  have y145 : Exa Z h0 w_HASH "com/example/fetch_from_near/fetchfromnear/Strategy" := ZE7_.ext O0.2
  have y146 : Exa Z h0 w_HASH "com/example/fetch_from_near/fetchfromnear/Strategy" := ZE7_.ext O0.2
  obtain ⟨cq144, kq144, q144a, q144b, q144c⟩ := isOf hZ e141 y146
  obtain ⟨_, _, ⟨T144, L144, k144, n144⟩, -, X144, ⟨Lc144, hQ144, l144, y144, z144⟩, st144⟩ := X141.virtualBack hx (y := (⟨"com/example/fetch_from_near/fetchfromnear/Strategy", "readsTheMap", "()Z"⟩ : MethodName)) (z := (⟨"com/example/fetch_from_near/fetchfromnear/Strategy", "readsTheMap", "()Z"⟩ : MethodName)) hown (mvT hZ (hw _ (List.mem_of_getElem? (i := 3) rfl))) (mvT hZ (hw _ (List.mem_of_getElem? (i := 4) rfl))) (notFace_of_selects (args := #[]) (mvT hZ (hw _ (List.mem_of_getElem? (i := 6) rfl)))) (mvT hZ (hw _ (List.mem_of_getElem? (i := 6) rfl))) (mvT hZ (hw _ (List.mem_of_getElem? (i := 5) rfl))) (by decide) (backOf (W := 0) (rm_rdO l Z a0 hw [] w_HASH w_GEOGRAPHIC w_NEAREST h0 n0 O0 S0_ S2_ NE11_ NE12_) hZ (hw _ (List.mem_of_getElem? (i := 7) rfl)) (hw _ (List.mem_of_getElem? (i := 1) rfl)) (by decide) (by decide)) q144a q144c (g := (mkF m 52 #[iv p0, iv k, rv w_HASH, iv (0 : Int32)] [(.ref w_HASH)])) rfl (by rw [hml]; rfl) (Steps.refl _) (argsL := []) (rest := []) (lenOf pd_0 rfl) rfl (by show 2 * 0 + _ ≤ _; exact Nat.le_of_eq rfl) (hb hby at_52) (fun _ _ => ⟨rfl, e141, (by decide : 0 + 0 ≤ _), (by decide : 0 + 0 ≤ _)⟩)
  dsimp only [Pt.U, Pt.locs, Pt.cells, Pt.slots] at X144 l144 y144 z144 st144 hQ144
  subst l144 y144 z144
  obtain ⟨rfl, M144, e144⟩ := hQ144
  have N144 := Fr.app N0 M144
  have g147 : Go p e below T144 (mkF m 55 #[iv p0, iv k, rv w_HASH, iv (0 : Int32)] [(.int (0 : Int32))]) A0 := fun t kont => g143 t (st144.trans kont)
  have g148 : Go p e below T144 (mkF m 64 #[iv p0, iv k, rv w_HASH, iv (0 : Int32)] [(.int (1 : Int32))]) A0 := by
    intro t kont
    refine g147 t ?_
    refine XS.iloadN X144.here hx rfl (hb hby at_55) rfl ?_
    show Steps p.tables e below (T144.setTop (mkF m 56 #[iv p0, iv k, rv w_HASH, iv (0 : Int32)] [(.int (0 : Int32)), (.int (0 : Int32))])) _
    refine XS.icmpNo X144.here hx rfl (hb hby at_56) rfl (teq (by decide : (0 : Int32) = (0 : Int32))).2 ?_
    show Steps p.tables e below (T144.setTop (mkF m 59 #[iv p0, iv k, rv w_HASH, iv (0 : Int32)] [])) _
    refine XS.iconst X144.here hx rfl (hb hby at_59) ?_
    show Steps p.tables e below (T144.setTop (mkF m 60 #[iv p0, iv k, rv w_HASH, iv (0 : Int32)] [(.int (1 : Int32))])) _
    refine XS.goto X144.here hx rfl (pc0 := 60) (pc' := 64) rfl (hb hby at_60) (by decide) (by decide) ?_
    show Steps p.tables e below (T144.setTop (mkF m 64 #[iv p0, iv k, rv w_HASH, iv (0 : Int32)] [(.int (1 : Int32))])) _
    exact kont
  obtain ⟨fs, hr, hrun, hended, hW, hsame⟩ := X144.leave (v := some (.int (1 : Int32))) (fun h => by rw [Bd.returns] at h; cases h)
  refine ⟨_, _, g148 _ (retN X144 hx (t := .boolean) Bd.returns (by simp) (hb hby at_64) hr), hrun, hended, _, _, rfl, ?_, ⟨_, rfl⟩, hW, hsame.mono (by decide) (by decide)⟩
  show Q_law Z p0 w_NEAREST w_RANDOM w_GEOGRAPHIC w_HASH h0 n0 _ T144.heap _
  rw [e144]
  exact ⟨rfl, N144⟩
set_option maxRecDepth 65536 in
set_option maxHeartbeats 40000000 in
theorem comes_1 {Post : Tables → Env → Array Value → State → Outcome → State → Prop} (hpost : ∀ tb e args s v u, (limb_1_1.after args s (.returned v) u = true ∧ limb_1_2.after args s (.returned v) u = true ∧ True) → FrameEnd s (.returned v) u (Jvm.fieldLocs frame_1_writes args s ++ Jvm.arrayLocs frame_1_arrays args s ++ Jvm.staticLocs frame_1_statics s) 0 0 → Post tb e args s (.returned v) u) :
    ArmFor flags0 classFile x code maxLocals ret World_1 tables_1 room_1 Calls_1 rest_1 Pre_1 Post := by
  intro l hfl _ _ p e ha hc hk s m args below hf hA hF happ hP
  obtain ⟨hcalls, hrest, hpre⟩ := hP
  obtain ⟨-, -, -, hnamed, -, -, -, hat⟩ := (Spec.applies_iff hf).mp happ
  obtain ⟨hg, hn⟩ := and_e (Cond.before_iff.mp (show (Jvm.Cond.and given_1 narrow_1).before args s = true from hpre))
  obtain ⟨hcount, hg⟩ := and_e hg
  have ha0 := hg
  obtain ⟨w0, rfl⟩ : ∃ w0 : Value, args = #[w0] := by
    have hs : args.size = 1 := by simpa [Cond.value, given_1] using hcount
    obtain ⟨L⟩ := args
    match L, hs with
    | [w0], _ => exact ⟨w0, rfl⟩
  have hw := fun d (hd : d ∈ tables_1) => atoms_spec (ws := Jvm.Cond.code x code maxLocals ret :: tables_1) hat d (List.mem_cons_of_mem _ hd)
  have hfit : Fit s := fun {y c} hc i hi => by
    obtain ⟨ha, rfl⟩ := Array.getElem?_eq_some_iff.mp hc
    have q := List.all_eq_true.mp ((Array.all_eq_true_iff_forall_mem.mp hF) _ (Array.getElem_mem ha)) i (List.mem_range.mpr hi)
    simpa [Array.getElem?_eq_getElem hi] using q
  obtain ⟨p0, ea0⟩ := is_v ha0
  obtain rfl : w0 = (.int p0) := Option.some.inj ea0
  obtain ⟨hn0, hn⟩ := and_e hn
  obtain ⟨hn1, hn⟩ := and_e hn
  obtain ⟨hn2, hn⟩ := and_e hn
  obtain ⟨hn3, hn⟩ := and_e hn
  obtain ⟨hn4, hn⟩ := and_e hn
  obtain ⟨hn5, hn⟩ := and_e hn
  obtain ⟨hn6, hn⟩ := and_e hn
  have hn7 := hn
  obtain ⟨w_NEAREST, ev_NEAREST⟩ := exa_v hn0
  have S_NEAREST : Sta s s.heap "com/example/fetch_from_near/fetchfromnear/Strategy" "NEAREST" "Lcom/example/fetch_from_near/fetchfromnear/Strategy;" (.ref w_NEAREST) := Sta.start ev_NEAREST (Or.inr ⟨(hw _ (List.mem_of_getElem? (i := 1) rfl)), (hw _ (List.mem_of_getElem? (i := 2) rfl))⟩)
  have E_NEAREST : Exa s s.heap w_NEAREST "com/example/fetch_from_near/fetchfromnear/Strategy" := Exa.start ev_NEAREST hn0
  obtain ⟨w_HASH, ev_HASH⟩ := exa_v hn1
  have S_HASH : Sta s s.heap "com/example/fetch_from_near/fetchfromnear/Strategy" "HASH" "Lcom/example/fetch_from_near/fetchfromnear/Strategy;" (.ref w_HASH) := Sta.start ev_HASH (Or.inr ⟨(hw _ (List.mem_of_getElem? (i := 1) rfl)), (hw _ (List.mem_of_getElem? (i := 10) rfl))⟩)
  have E_HASH : Exa s s.heap w_HASH "com/example/fetch_from_near/fetchfromnear/Strategy" := Exa.start ev_HASH hn1
  obtain ⟨w_GEOGRAPHIC, ev_GEOGRAPHIC⟩ := exa_v hn4
  have S_GEOGRAPHIC : Sta s s.heap "com/example/fetch_from_near/fetchfromnear/Strategy" "GEOGRAPHIC" "Lcom/example/fetch_from_near/fetchfromnear/Strategy;" (.ref w_GEOGRAPHIC) := Sta.start ev_GEOGRAPHIC (Or.inr ⟨(hw _ (List.mem_of_getElem? (i := 1) rfl)), (hw _ (List.mem_of_getElem? (i := 12) rfl))⟩)
  have E_GEOGRAPHIC : Exa s s.heap w_GEOGRAPHIC "com/example/fetch_from_near/fetchfromnear/Strategy" := Exa.start ev_GEOGRAPHIC hn4
  obtain ⟨w_RANDOM, ev_RANDOM⟩ := exa_v hn6
  have S_RANDOM : Sta s s.heap "com/example/fetch_from_near/fetchfromnear/Strategy" "RANDOM" "Lcom/example/fetch_from_near/fetchfromnear/Strategy;" (.ref w_RANDOM) := Sta.start ev_RANDOM (Or.inr ⟨(hw _ (List.mem_of_getElem? (i := 1) rfl)), (hw _ (List.mem_of_getElem? (i := 15) rfl))⟩)
  have E_RANDOM : Exa s s.heap w_RANDOM "com/example/fetch_from_near/fetchfromnear/Strategy" := Exa.start ev_RANDOM hn6
  have F_HASH := own_fld_int hn2 ev_HASH
  have F_NEAREST := own_fld_int hn3 ev_NEAREST
  have F_GEOGRAPHIC := own_fld_int hn5 ev_GEOGRAPHIC
  have F_RANDOM := own_fld_int hn7 ev_RANDOM
  have ne0 : ¬ (w_GEOGRAPHIC = w_NEAREST) := Fld.ne F_GEOGRAPHIC F_NEAREST (by decide)
  have ne1 : ¬ (w_RANDOM = w_NEAREST) := Fld.ne F_RANDOM F_NEAREST (by decide)
  have ne2 : ¬ (w_RANDOM = w_GEOGRAPHIC) := Fld.ne F_RANDOM F_GEOGRAPHIC (by decide)
  have ne3 : ¬ (w_HASH = w_NEAREST) := Fld.ne F_HASH F_NEAREST (by decide)
  have ne4 : ¬ (w_HASH = w_GEOGRAPHIC) := Fld.ne F_HASH F_GEOGRAPHIC (by decide)
  obtain ⟨n, o, h1, h2, h3, _, L, rfl, ⟨rfl, N⟩, hq⟩ := rm_law l s _ hw tables_1 p0 w_NEAREST w_RANDOM w_GEOGRAPHIC w_HASH s.heap s.heap.size (Old.start s) S_NEAREST S_RANDOM S_GEOGRAPHIC S_HASH E_NEAREST E_RANDOM E_GEOGRAPHIC E_HASH ne0 ne1 ne2 ne3 ne4 p e ha hc hk s m _ below hf ((Spec.applies_iff_loose hf).mp happ).1 ⟨rfl, State.Warmed39.refl s, rfl⟩ trivial
  refine ⟨n, _, h1, h2, h3, hpost _ _ _ _ _ _ ⟨Cond.after_iff.mpr rfl, Cond.after_iff.mpr (eq_i res_at (Term.int_eval (1)) rfl), trivial⟩ ⟨hq.1, hq.2.1, (hq.2.2.sift fun y hy => Or.inr (N y hy)).mono (by decide) (by decide)⟩⟩
theorem main_1_1 : Claimed_1_1 := comes_1 fun _ _ _ _ _ _ h hF => ⟨h.1, hF⟩
theorem main_1_2 : Claimed_1_2 := comes_1 fun _ _ _ _ _ _ h hF => ⟨h.2.1, hF⟩
end Jvm.Pilot.@@N@@
namespace Jvm.Pilot.@@N@@
open Jvm Jvm.ClassFile Sem Op Lib Jvm.Free Jvm.Stand Jvm.Pilot.@@N@@.Jvm.D
/-! MADE BY PROGRAM (witnessworld.py) out of the Statement's table words and the real class files: 12 classes; the members and pool entries that the words name. The judged class is class 1, her method 1. -/
namespace start1
open Jvm.ClassFile
def u (s : String) : CpInfo := .utf8 (stringToUtf16 s)
/-- a pool by its gaps: so many unusable entries, then the entry; so many at the end -/
def gap : Nat → List CpInfo → List CpInfo
  | 0, r => r
  | n + 1, r => .unusable :: gap n r
def poolList (es : List (Nat × CpInfo)) (last : Nat) : List CpInfo := es.foldr (fun e r => gap e.1 (e.2 :: r)) (gap last [])
def pool (es : List (Nat × CpInfo)) (last : Nat) : Array CpInfo := ⟨poolList es last⟩
def fileOf (pool : Array CpInfo) (this : Nat) (attrs : Array Attribute := #[]) (ms : Array MethodInfo := #[]) (fl : Nat := 33) (sup : Nat := 0) (ifs : Array Nat := #[]) (fds : Array FieldInfo := #[]) : ClassFile where
  minorVersion := 0
  majorVersion := 65
  constantPool := pool
  accessFlags := fl
  thisClass := this
  superClass := sup
  interfaces := ifs
  fields := fds
  methods := ms
  attributes := attrs
def plain (name : String) (sup : Option ClassId) : Class where
  name := name
  kind := .ordinary
  loader := none
  accessFlags := 33
  super := sup
  interfaces := #[]
  cf := none
  fields := #[]
  methods := #[]
  instanceTypes := #[]
  staticTypes := #[]
  resolved := #[]
  callSites := []
  init := .initialized
  statics := none
  mirror := none

def pool0 : Array CpInfo := pool [(5, u "<init>"), (0, u "()V"), (1, .class_ 10), (1, u "java/lang/Object")] 113

def k0m0 : Method := { name := "<init>", desc := "()V", sig := { parameters := [], returnType := none }, accessFlags := 1, code := none }
/-- java/lang/Object -/
def k0 : Class := { plain "java/lang/Object" none with
  accessFlags := 33
  interfaces := #[]
  cf := some (fileOf pool0 8 #[] #[{ accessFlags := 1, nameIndex := 5, descriptorIndex := 6, attributes := #[] }] 33 0 #[] #[])
  fields := #[]
  methods := #[k0m0]
  instanceTypes := #[]
  staticTypes := #[]
  resolved := Array.replicate 124 none
  statics := none }

def pool1 : Array CpInfo := pool [(2, .class_ 4), (1, u "java/lang/Object"), (0, u "<init>"), (0, u "()V"), (0, .fieldref 8 9), (0, .class_ 10), (0, .nameAndType 11 12), (0, u "com/example/fetch_from_near/fetchfromnear/Strategy"), (0, u "NEAREST"), (0, u "Lcom/example/fetch_from_near/fetchfromnear/Strategy;"), (0, .fieldref 8 14), (0, .nameAndType 15 12), (0, u "RANDOM"), (0, .fieldref 8 17), (0, .nameAndType 18 12), (0, u "GEOGRAPHIC"), (0, .fieldref 8 20), (0, .nameAndType 21 12), (0, u "HASH"), (0, .methodref 8 23), (0, .nameAndType 24 25), (0, u "readsTheMap"), (0, u "()Z"), (0, .class_ 27), (0, u "com/example/fetch_from_near/fetchfromnear/StrategyReadsTheMapPinLaw"), (2, u "law"), (0, u "(I)Z")] 3

def k1m0 : Method := { name := "<init>", desc := "()V", sig := { parameters := [], returnType := none }, accessFlags := 1, code := none }
def k1c1 : Code := { maxStack := 2, maxLocals := 4, code := code, exceptionTable := #[], attributes := #[] }
def k1m1 : Method := { name := "law", desc := "(I)Z", sig := { parameters := [.int], returnType := some .boolean }, accessFlags := 9, code := some k1c1 }
/-- com/example/fetch_from_near/fetchfromnear/StrategyReadsTheMapPinLaw -/
def k1 : Class := { plain "com/example/fetch_from_near/fetchfromnear/StrategyReadsTheMapPinLaw" (some 0) with
  accessFlags := 49
  interfaces := #[]
  cf := some (fileOf pool1 26 #[] #[{ accessFlags := 1, nameIndex := 5, descriptorIndex := 6, attributes := #[] }, { accessFlags := 9, nameIndex := 30, descriptorIndex := 31, attributes := #[] }] 49 2 #[] #[])
  fields := #[]
  methods := #[k1m0, k1m1]
  instanceTypes := #[]
  staticTypes := #[]
  resolved := Array.replicate 35 none
  statics := none }

def pool2 : Array CpInfo := pool [(1, .class_ 2), (0, u "java/lang/constant/Constable"), (0, .class_ 4), (0, u "java/lang/Object")] 6

/-- java/lang/constant/Constable -/
def k2 : Class := { plain "java/lang/constant/Constable" (some 0) with
  accessFlags := 1537
  interfaces := #[]
  cf := some (fileOf pool2 1 #[] #[] 1537 3 #[] #[])
  fields := #[]
  methods := #[]
  instanceTypes := #[]
  staticTypes := #[]
  resolved := Array.replicate 11 none
  statics := none }

def pool3 : Array CpInfo := pool [(1, .class_ 2), (0, u "java/lang/Comparable"), (0, .class_ 4), (0, u "java/lang/Object")] 7

/-- java/lang/Comparable -/
def k3 : Class := { plain "java/lang/Comparable" (some 0) with
  accessFlags := 1537
  interfaces := #[]
  cf := some (fileOf pool3 1 #[] #[] 1537 3 #[] #[])
  fields := #[]
  methods := #[]
  instanceTypes := #[]
  staticTypes := #[]
  resolved := Array.replicate 12 none
  statics := none }

def pool4 : Array CpInfo := pool [(1, .class_ 2), (0, u "java/io/Serializable"), (0, .class_ 4), (0, u "java/lang/Object")] 2

/-- java/io/Serializable -/
def k4 : Class := { plain "java/io/Serializable" (some 0) with
  accessFlags := 1537
  interfaces := #[]
  cf := some (fileOf pool4 1 #[] #[] 1537 3 #[] #[])
  fields := #[]
  methods := #[]
  instanceTypes := #[]
  staticTypes := #[]
  resolved := Array.replicate 7 none
  statics := none }

def pool5 : Array CpInfo := pool [(2, .class_ 4), (1, u "java/lang/Enum"), (0, u "name"), (0, u "Ljava/lang/String;"), (2, u "ordinal"), (0, u "I"), (1, .class_ 14), (1, u "java/lang/Object"), (4, u "hash"), (86, .class_ 108), (1, u "java/lang/Enum$EnumDesc"), (2, .class_ 112), (0, u "java/lang/constant/Constable"), (0, .class_ 114), (0, u "java/lang/Comparable"), (0, .class_ 116), (0, u "java/io/Serializable")] 87

/-- java/lang/Enum -/
def k5 : Class := { plain "java/lang/Enum" (some 0) with
  accessFlags := 1057
  interfaces := #[2, 3, 4]
  cf := some (fileOf pool5 2 #[.nestMembers #[106]] #[] 1057 12 #[111, 113, 115] #[{ accessFlags := 18, nameIndex := 5, descriptorIndex := 6, attributes := #[] }, { accessFlags := 18, nameIndex := 9, descriptorIndex := 10, attributes := #[] }, { accessFlags := 2, nameIndex := 19, descriptorIndex := 10, attributes := #[] }])
  fields := #[{ name := "name", type := (.object "java/lang/String"), accessFlags := 18, slot := 0, constantValue := 0 }, { name := "ordinal", type := .int, accessFlags := 18, slot := 1, constantValue := 0 }, { name := "hash", type := .int, accessFlags := 2, slot := 2, constantValue := 0 }]
  methods := #[]
  instanceTypes := #[(.object "java/lang/String"), .int, .int]
  staticTypes := #[]
  resolved := Array.replicate 204 none
  statics := none }

def pool6 : Array CpInfo := pool [(1, .class_ 2), (0, u "com/example/fetch_from_near/fetchfromnear/Strategy"), (0, .fieldref 1 4), (0, .nameAndType 5 6), (0, u "NEAREST"), (0, u "Lcom/example/fetch_from_near/fetchfromnear/Strategy;"), (2, u "RANDOM"), (0, .fieldref 1 11), (0, .nameAndType 12 6), (0, u "GEOGRAPHIC"), (2, u "HASH"), (2, u "$VALUES"), (0, u "[Lcom/example/fetch_from_near/fetchfromnear/Strategy;"), (6, .class_ 28), (1, u "java/lang/Enum"), (72, u "readsTheMap"), (0, u "()Z")] 9

def k6c0 : Code := { maxStack := 2, maxLocals := 1, code := prog_22_method_4_code, exceptionTable := #[], attributes := #[] }
def k6m0 : Method := { name := "readsTheMap", desc := "()Z", sig := { parameters := [], returnType := some .boolean }, accessFlags := 0, code := some k6c0 }
/-- com/example/fetch_from_near/fetchfromnear/Strategy -/
def k6 : Class := { plain "com/example/fetch_from_near/fetchfromnear/Strategy" (some 5) with
  accessFlags := 16432
  interfaces := #[]
  cf := some (fileOf pool6 1 #[] #[{ accessFlags := 0, nameIndex := 101, descriptorIndex := 102, attributes := #[] }] 16432 26 #[] #[{ accessFlags := 16409, nameIndex := 5, descriptorIndex := 6, attributes := #[] }, { accessFlags := 16409, nameIndex := 9, descriptorIndex := 6, attributes := #[] }, { accessFlags := 16409, nameIndex := 12, descriptorIndex := 6, attributes := #[] }, { accessFlags := 16409, nameIndex := 15, descriptorIndex := 6, attributes := #[] }, { accessFlags := 4122, nameIndex := 18, descriptorIndex := 19, attributes := #[] }])
  fields := #[{ name := "NEAREST", type := (.object "com/example/fetch_from_near/fetchfromnear/Strategy"), accessFlags := 16409, slot := 0, constantValue := 0 }, { name := "RANDOM", type := (.object "com/example/fetch_from_near/fetchfromnear/Strategy"), accessFlags := 16409, slot := 1, constantValue := 0 }, { name := "GEOGRAPHIC", type := (.object "com/example/fetch_from_near/fetchfromnear/Strategy"), accessFlags := 16409, slot := 2, constantValue := 0 }, { name := "HASH", type := (.object "com/example/fetch_from_near/fetchfromnear/Strategy"), accessFlags := 16409, slot := 3, constantValue := 0 }, { name := "$VALUES", type := (.array (.object "com/example/fetch_from_near/fetchfromnear/Strategy")), accessFlags := 4122, slot := 4, constantValue := 0 }]
  methods := #[k6m0]
  instanceTypes := #[(.object "java/lang/String"), .int, .int]
  staticTypes := #[(.object "com/example/fetch_from_near/fetchfromnear/Strategy"), (.object "com/example/fetch_from_near/fetchfromnear/Strategy"), (.object "com/example/fetch_from_near/fetchfromnear/Strategy"), (.object "com/example/fetch_from_near/fetchfromnear/Strategy"), (.array (.object "com/example/fetch_from_near/fetchfromnear/Strategy"))]
  resolved := Array.replicate 112 none
  statics := some 0 }

def pool7 : Array CpInfo := pool [(1, u "java/lang/Cloneable"), (0, .class_ 1), (0, u "java/lang/Object"), (0, .class_ 3)] 3

/-- java/lang/Cloneable -/
def k7 : Class := { plain "java/lang/Cloneable" (some 0) with
  accessFlags := 1537
  interfaces := #[]
  cf := some (fileOf pool7 2 #[] #[] 1537 4 #[] #[])
  fields := #[]
  methods := #[]
  instanceTypes := #[]
  staticTypes := #[]
  resolved := Array.replicate 8 none
  statics := none }

/-- the primitive byte -/
def k8 : Class := { plain "byte" none with kind := .primitive 'B', accessFlags := 0x411 }
/-- [B -/
def k9 : Class := { plain "[B" (some 0) with kind := .array 8 .byte, interfaces := #[7, 4], accessFlags := 1041 }

/-- the primitive int -/
def k10 : Class := { plain "int" none with kind := .primitive 'I', accessFlags := 0x411 }
/-- [I -/
def k11 : Class := { plain "[I" (some 0) with kind := .array 10 .int, interfaces := #[7, 4], accessFlags := 1041 }

def heap : Heap := #[{ cls := 6, slots := #[.ref 1, .ref 2, .ref 3, .ref 4, .null], vm := .statics 6 },
  { cls := 6, slots := #[.null, .int 0, .int 0], vm := .none },
  { cls := 6, slots := #[.null, .int 1, .int 0], vm := .none },
  { cls := 6, slots := #[.null, .int 2, .int 0], vm := .none },
  { cls := 6, slots := #[.null, .int 3, .int 0], vm := .none }]
def classes : Array Class := #[k0, k1, k2, k3, k4, k5, k6, k7, k8, k9, k10, k11]
def interned : List (Array UInt16 × Addr) := []
def slotsUsed : Nat := 17
def theMethod : MethodId := ⟨1, 1⟩
def args0 : Array Value := #[.int 1]
def aboutOver (below : List Frame) : State where
  vm := { classes := classes, interned := interned.toArray }
  heap := heap
  slotsUsed := slotsUsed
  threads := #[{ frames := .invoking theMethod args0 :: below }]
def below0 : List Frame := [.native { method := ⟨0, 0⟩, args := #[] }]
def about1 : State := aboutOver below0
def p0 : Program := .bare "" "" ""
def e0 : Env := launch0.env 0 0 0
theorem w_frames : about1.frames = Frame.invoking theMethod args0 :: below0 := rfl
set_option maxRecDepth 65536 in
theorem w_args : argsFit about1.vm theMethod args0 = true := by decide +kernel
set_option maxRecDepth 65536 in
theorem w_heap : heapFits about1 = true := by decide +kernel
set_option maxRecDepth 65536 in
theorem w_runnable : about1.curStatus? = some .runnable := by decide +kernel
set_option maxRecDepth 65536 in
theorem w_alone : about1.alone = true := by decide +kernel
set_option maxRecDepth 65536 in
theorem w_named : about1.methodNamed? x = some theMethod := by decide +kernel
set_option maxRecDepth 65536 in
theorem w_hears : about1.hears theMethod below0 = true := by decide +kernel
set_option maxRecDepth 65536 in
theorem w_ripe : about1.ripe theMethod args0 below0 = true := by decide +kernel
theorem w_running : about1.status = .running := rfl
set_option maxRecDepth 65536 in
theorem w_room : about1.hasRoom e0.platform room_1 = true :=
  launch0.hasRoom_least _ room_1 (by decide +kernel) (by decide +kernel) (by decide +kernel) (by decide +kernel) (by decide +kernel) (by decide +kernel)
theorem allAtoms_all (ts : List Jvm.Cond) (a : Array Jvm.Value) (st : Jvm.State) : (allAtoms ts).before a st = ts.all (fun c => c.before a st) := by
  induction ts with
  | nil => rfl
  | cons c t ih =>
    show (Jvm.Cond.and c (allAtoms t)).before a st = _
    rw [Jvm.Cond.before_and, ih, List.all_cons]
def words1 : List Jvm.Cond := Jvm.Cond.code x code maxLocals ret :: tables_1
/-- a 'code' word, met by the world's own term for the bytes: nothing is compared byte by byte -/
theorem code_word {y : MethodName} {bytes : ByteArray} {mx : Nat} {rt : Option FieldType} {a : Array Value} {s : State} {m : MethodId} {meth : Method} {c : Code} (h1 : s.methodNamed? y = some m) (h2 : s.vm.method? m = some meth) (h3 : meth.code = some c) (h4 : c.code = bytes)
    (h5 : (c.maxLocals == mx && c.exceptionTable.isEmpty && decide (c.maxStack ≤ mostOperands) && decide (meth.sig.returnType = rt) && !meth.locks && decide (parseMethodDescriptor y.desc = some meth.sig)) = true) : (Jvm.Cond.code y bytes mx rt).before a s = true := by
  simp only [Bool.and_eq_true, beq_iff_eq, Bool.not_eq_true', decide_eq_true_eq] at h5
  obtain ⟨⟨⟨⟨⟨g1, g2⟩, g3⟩, g4⟩, g5⟩, g6⟩ := h5
  simp [Cond.before, Cond.holds, Cond.value, h1, h2, h3, h4, g1, g2, g3, g4, g5, g6]
def isCode : Jvm.Cond → Bool
  | .code _ _ _ _ => true
  | _ => false
theorem all_split {L : List Jvm.Cond} {P : Jvm.Cond → Bool} (h1 : L.all (fun c => isCode c || P c) = true) (h2 : ∀ c ∈ L.filter isCode, P c = true) : L.all P = true := by
  refine List.all_eq_true.mpr fun c hc => ?_
  have h := List.all_eq_true.mp h1 c hc
  rcases Bool.eq_false_or_eq_true (isCode c) with hi | hi
  · exact h2 c (List.mem_filter.mpr ⟨hc, hi⟩)
  · simpa [hi] using h
set_option maxRecDepth 65536 in
theorem w_c0 : (Jvm.Cond.code x code maxLocals ret).before args0 about1 = true := code_word (m := ⟨1, 1⟩) (meth := k1m1) (c := k1c1) (by decide +kernel) rfl rfl rfl (by decide +kernel)
set_option maxRecDepth 65536 in
theorem w_c1 : (Jvm.Cond.code ({ cls := "com/example/fetch_from_near/fetchfromnear/Strategy", name := "readsTheMap", desc := "()Z" } : Jvm.MethodName) prog_22_method_4_code (1 : Nat) (Option.some Jvm.ClassFile.FieldType.boolean)).before args0 about1 = true := code_word (m := ⟨6, 0⟩) (meth := k6m0) (c := k6c0) (by decide +kernel) rfl rfl rfl (by decide +kernel)
def codes1 : List Jvm.Cond := [Jvm.Cond.code x code maxLocals ret, Jvm.Cond.code ({ cls := "com/example/fetch_from_near/fetchfromnear/Strategy", name := "readsTheMap", desc := "()Z" } : Jvm.MethodName) prog_22_method_4_code (1 : Nat) (Option.some Jvm.ClassFile.FieldType.boolean)]
set_option maxRecDepth 65536 in
theorem codes_eq : words1.filter isCode = codes1 := rfl
theorem w_codes : ∀ c ∈ words1.filter isCode, c.before args0 about1 = true := by
  rw [codes_eq]
  intro c hc
  simp only [codes1, List.mem_cons, List.not_mem_nil, or_false] at hc
  rcases hc with rfl | rfl
  · exact w_c0
  · exact w_c1
set_option maxRecDepth 65536 in
theorem w_t1 : words1.all (fun c => isCode c || c.before args0 about1) = true := by decide +kernel
theorem w_tables : (allAtoms (Jvm.Cond.code x code maxLocals ret :: tables_1)).before args0 about1 = true := by
  rw [allAtoms_all]
  show words1.all (fun c => c.before args0 about1) = true
  refine all_split ?_ w_codes
  rw [w_t1]
set_option maxRecDepth 65536 in
theorem w_case : (Jvm.Cond.and given_1 narrow_1).before args0 about1 = true := by decide +kernel
theorem w_applies : (headSpec (Jvm.Cond.code x code maxLocals ret :: tables_1) room_1).applies x e0.platform about1 = true :=
  (Spec.applies_iff w_frames).mpr ⟨w_running, w_runnable, w_alone, w_named, w_hears, w_ripe, w_room, w_tables⟩
theorem atStart : AtStart classFile x code maxLocals ret World_1 tables_1 room_1 Calls_1 rest_1 Pre_1 launch0 p0 e0 about1 theMethod args0 below0 :=
  ⟨lists_1, trivial, launch0.admits_env _ _ _, launch0.least_env, fairChoices_fair.cas, fairChoices_fair.clock, w_frames, w_args, w_heap, w_applies, trivial, trivial, w_case⟩
end start1
theorem witness_1 : WitnessClaimed_1 := ⟨start1.p0, start1.e0, start1.about1, start1.theMethod, start1.args0, start1.below0, start1.atStart⟩
end Jvm.Pilot.@@N@@
