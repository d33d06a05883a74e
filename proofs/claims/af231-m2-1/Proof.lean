import JvmDerived
import JvmDerived.Pilot.@@N@@Statement
import JvmDerived.Pilot.@@N@@Code
set_option linter.unusedVariables false
set_option linter.unusedSimpArgs false
namespace Jvm.RoadKit
open Sem ClassFile Op Lib Jvm.Stand Jvm.Free Jvm.LawKit
section New
variable {p : Program} {l : Launch} {e : Env} {R : Room} {s : State} {m : MethodId} {args : Array Value} {below : List Frame} {meth : Method} {c : Code} {T : State} {locs : List Loc} {cells slots : Nat}
theorem retI (X : Stand p l e R s m args below meth c T locs cells slots) (hx : p.tables.exec = Jvm.exec) {pc : Nat} {Ls : Array Slot} {z : Int32} {rest : List Value} (hret : meth.sig.returnType = some .int) (hd : decode c.code pc = .ok (.ireturn, 1)) {fs : List Frame}
    (hl : ∀ (f : JFrame) (acts : List Action), f.method = m → f.locked = none → f.entered = [] → (doReturn e (T.setTop f) acts (some (.int z))).1 = T.setFrames fs) : Steps p.tables e below (T.setTop (mkF m pc Ls (.int z :: rest))) (T.setFrames fs) := by
  have hm' : T.vm.method? m = some meth := X.method'
  have hn : narrow .int (.int z) = .int z := rfl
  show Steps p.tables e below (T.setTop { method := m, pc := pc, locals := Ls, stack := _ :: rest, locked := none }) _
  jvm_step X.here [X.here.top, hx, hd, hm', hret, hn]
  first | (intro acts; rw [hl _ acts rfl rfl rfl]) | rw [hl _ _ rfl rfl rfl]
  exact Steps.refl _
end New
abbrev Go (p : Program) (e : Env) (below : List Frame) (T : State) (f : JFrame) (A : State) : Prop := ∀ t, Steps p.tables e below (T.setTop f) t → Steps p.tables e below A t
theorem own_retA (w : Value) (h : w.isRef = true) (t : FieldType) (ht : t.isReference = true) : narrow t w = w := by
  cases w <;> simp [Value.isRef] at h <;> cases t <;> simp [FieldType.isReference] at ht <;> rfl
theorem own_fitA (w : Value) (h : w.isRef = true) (t : FieldType) (ht : t.isReference = true) : fits t w = true := by
  cases w <;> simp [Value.isRef] at h <;> cases t <;> simp [FieldType.isReference] at ht <;> rfl
theorem own_narb (x : Int32) : nar .byte (x.toInt8.toInt32) = x.toInt8.toInt32 := by
  show x.toInt8.toInt32.toInt8.toInt32 = _
  simp
theorem own_narc (x : Int32) : nar .char (x.toUInt32.toUInt16.toUInt32.toInt32) = x.toUInt32.toUInt16.toUInt32.toInt32 := by
  show x.toUInt32.toUInt16.toUInt32.toInt32.toUInt32.toUInt16.toUInt32.toInt32 = _
  have q := c_i2c x
  have r := c_i2c x.toUInt32.toUInt16.toUInt32.toInt32
  apply Int32.toInt_inj.mp
  omega
theorem own_ext_refl {h : Heap} : Ext h h := ⟨Nat.le_refl _, fun _ _ q => q⟩
theorem own_ext_trans {h h' h2 : Heap} (A : Ext h h') (B : Ext h' h2) : Ext h h2 := ⟨Nat.le_trans A.1 B.1, fun a c q => B.2 a c (A.2 a c q)⟩
theorem own_ext_keep {h h' : Heap} (K : Keep h h' []) : Ext h h' := ⟨K.1, fun a c q => K.2.1 a c q nin0⟩
theorem own_lcmp_self (x : Int64) : lcmpW x x = (0 : Int32) := by rw [lcW]; exact (lc_eq x x).mpr rfl
theorem own_catV {v : Value} (h : v.isRef = true) : v.category = 1 := by cases v <;> simp [Value.isRef] at h <;> rfl
end Jvm.RoadKit
namespace Jvm.RoadKit
open Sem ClassFile Op Lib Jvm.Stand Jvm.Free Jvm.LawKit
theorem own_old_le {Z : State} {n0 : Nat} {h : Heap} (O : Old Z n0 h) : n0 ≤ h.size := O.1 ▸ O.2.1
theorem own_fld_int {args : Array Value} {s : State} {t : Term} {C n d : String} {k : Int32} {a : Addr} (h : (Cond.eq (.field t C n d) (.int k)).value args s none s [] = some true) (ev : t.eval args s none [] s = some (.ref a)) : Fld s s.heap a C n d (.int k) := by
  obtain ⟨x, y, h1, h2, -, k2⟩ := cmp_v (Or.inl h)
  cases h2.symm.trans (Term.int_eval k)
  obtain ⟨z, rfl⟩ := k2
  have e : z = k := gotT (Cond.eq_ints h1 h2) h
  subst e
  exact Fld.start ((fld_at ev).symm.trans h1)
theorem own_eqint {args : Array Value} {s : State} {t : Term} {k : Int32} (h : (Cond.eq t (.int k)).value args s none s [] = some true) : t.eval args s none [] s = some (.int k) := by
  obtain ⟨x, y, h1, h2, -, k2⟩ := cmp_v (Or.inl h)
  cases h2.symm.trans (Term.int_eval k)
  obtain ⟨z, rfl⟩ := k2
  have e : z = k := gotT (Cond.eq_ints h1 h2) h
  subst e
  exact h1
end Jvm.RoadKit
namespace Jvm.RoadKit
theorem own_ge {p n : Int32} (e : n = (p &&& (2147483647 : Int32))) (h : ¬ (n = (0 : Int32))) : ¬ (n - (1 : Int32) < (0 : Int32)) := by
  rw [Int32.lt_iff_toInt_lt]
  show ¬ ((n - 1).toInt < 0)
  have a : 0 ≤ n.toInt := by rw [e]; exact (c_and p 2147483647 (by decide)).1
  have b : ((n - 1).toInt - (n.toInt - 1)) % 4294967296 = 0 := c_isub n 1
  have r := rng32 (n - 1)
  have r2 := rng32 n
  have hn : ¬ (n.toInt = 0) := fun q => h (Int32.toInt_inj.mp q)
  omega
theorem own_back (n : Int32) : (n - (1 : Int32)) + (1 : Int32) = n := Int32.sub_add_cancel n 1
end Jvm.RoadKit
namespace Jvm.Pilot.@@N@@
open Jvm Jvm.ClassFile Sem Op Lib Jvm.Free Jvm.Stand Jvm.LawKit Jvm.RoadKit Bundle Jvm.Pilot.@@N@@.Jvm.D
theorem d1_0 : decode prog_6_method_5_code 0 = .ok (.aload_n 0, 1) := by decide +kernel
theorem d1_1 : decode prog_6_method_5_code 1 = .ok (.getstatic 7, 3) := by decide +kernel
theorem d1_4 : decode prog_6_method_5_code 4 = .ok (.if_acmp .ne 9, 3) := by decide +kernel
theorem d1_7 : decode prog_6_method_5_code 7 = .ok (.iload_n 1, 1) := by decide +kernel
theorem d1_8 : decode prog_6_method_5_code 8 = .ok (.iconst 1, 1) := by decide +kernel
theorem d1_9 : decode prog_6_method_5_code 9 = .ok (.isub, 1) := by decide +kernel
theorem d1_10 : decode prog_6_method_5_code 10 = .ok (.goto 5, 3) := by decide +kernel
theorem d1_15 : decode prog_6_method_5_code 15 = .ok (.ireturn, 1) := by decide +kernel
theorem pn_com_example_evenhand_evenhand_Characteristic : plainName "com/example/evenhand/evenhand/Characteristic" = true := by first | (simp [plainName, overriddenIn]; done) | decide +kernel
theorem ef_maxD (m : MethodId) (x0 : Addr) (x1 : Int32)  : entryFrame m #[(.ref x0), (.int x1)] 2 = mkF m 0 #[.val (.ref x0), .val (.int x1)] [] := by first | (simp [entryFrame, mkF, argsToLocals, Value.category]; done) | rfl
def Q_maxD (Z : State) (w : Addr) (i1 : Int32) (h0 : Heap) (n0 : Nat) (v : Option Value) (h : Heap) (L : List Loc) : Prop := v = some (.int (i1 - (1 : Int32))) ∧ Fr n0 L ∧ h = h0
set_option maxRecDepth 65536 in
set_option maxHeartbeats 40000000 in
theorem rm_maxD (l : Launch) (Z : State) (a0 : Array Value) (hw : ∀ d ∈ tables_1, d.before a0 Z = true) (ws : List Jvm.Cond) (w : Addr) (i1 : Int32) (h0 : Heap) (n0 : Nat) (O0 : Old Z n0 h0) (S0_ : Sta Z Z.heap "com/example/evenhand/evenhand/Characteristic" "DEPENDENCIES" "Lcom/example/evenhand/evenhand/Characteristic;" (.ref w)) :
    MetFree l (⟨"com/example/evenhand/evenhand/Characteristic", "max", "(I)I"⟩ : MethodName) (head1 (Jvm.Cond.code (⟨"com/example/evenhand/evenhand/Characteristic", "max", "(I)I"⟩ : MethodName) prog_6_method_5_code 2 (some .int) :: ws) ({ frames := 0, cells := 0, slots := 0, locals := 0 } : Room)) (fun a U => a = #[(.ref w), (.int i1)] ∧ Z.Warmed39 U.vm ∧ U.heap = h0) (fun _ _ _ _ _ => True) (fun _ U o U' => ∃ v L, o = .returned v ∧ Q_maxD Z w i1 h0 n0 v U'.heap L ∧ FrameEnd U o U' L ({ frames := 0, cells := 0, slots := 0, locals := 0 } : Room).cells ({ frames := 0, cells := 0, slots := 0, locals := 0 } : Room).slots) := by
  refine MetFree.of_bodySF (plainFor_of_name pn_com_example_evenhand_evenhand_Characteristic) hisR ?_
  intro p e s m args below meth c s₁ Bd hml0 hP hK
  obtain ⟨rfl, hZ, hh⟩ := hP
  have hx := Bd.exec
  have hby := Bd.bytes
  have hml : c.maxLocals = 2 := hml0
  have hown : s.vm.findClass "com/example/evenhand/evenhand/Characteristic" = some m.cls := findClass_of_methodNamed Bd.named
  have hnm := (name_of_methodNamed Bd.named Bd.method).1
  have X0 : Stand p l e ({ frames := 0, cells := 0, slots := 0, locals := 0 } : Room) s m #[(.ref w), (.int i1)] below meth c s₁ [] 0 0 := Stand.of_body Bd
  have e0 : s₁.heap = h0 := by rw [← hh, Bd.state]; rfl
  have N0 := Fr.nil n0
  have g0 : Go p e below s₁ (mkF m 0 #[rv w, iv i1] []) (s₁.setTop (entryFrame m #[(.ref w), (.int i1)] 2)) := fun t kont => castTop (ef_maxD m w i1 ) kont
  generalize s₁.setTop (entryFrame m #[(.ref w), (.int i1)] 2) = A0 at g0 ⊢
  have g1 : Go p e below s₁ (mkF m 1 #[rv w, iv i1] [(.ref w)]) A0 := by
    intro t kont
    refine g0 t ?_
    refine XS.aloadN X0.here hx rfl (hb hby d1_0) rfl rfl ?_
    show Steps p.tables e below (s₁.setTop (mkF m 1 #[rv w, iv i1] [(.ref w)])) _
    exact kont
  have y2 : Sta Z h0 "com/example/evenhand/evenhand/Characteristic" "DEPENDENCIES" "Lcom/example/evenhand/evenhand/Characteristic;" (.ref w) := S0_.ext O0.2
  obtain ⟨T3, X3, e3, st3⟩ := getS2 X0 hx hZ hown (host := "") (Or.inl (hw _ (List.mem_of_getElem? (i := 9) rfl))) Via.refl e0 y2 (g := (mkF m 1 #[rv w, iv i1] [(.ref w)])) rfl (hb hby d1_1)
  have g4 : Go p e below T3 (mkF m 4 #[rv w, iv i1] [(.ref w), (.ref w)]) A0 := fun t kont => g1 t (st3 t kont)
  have g5 : Go p e below T3 (mkF m 15 #[rv w, iv i1] [(.int (i1 - (1 : Int32)))]) A0 := by
    intro t kont
    refine g4 t ?_
    refine Jvm.RoadKit.acmp (g := (mkF m 4 #[rv w, iv i1] [(.ref w), (.ref w)])) X3 hx rfl rfl rfl (pc0 := 4) (pc' := 7) (same := true) rfl (hb hby d1_4) rfl (decide_eq_true rfl) (by decide) (by decide) ?_
    show Steps p.tables e below (T3.setTop (mkF m 7 #[rv w, iv i1] [])) _
    refine XS.iloadN X3.here hx rfl (hb hby d1_7) rfl ?_
    show Steps p.tables e below (T3.setTop (mkF m 8 #[rv w, iv i1] [(.int i1)])) _
    refine XS.iconst X3.here hx rfl (hb hby d1_8) ?_
    show Steps p.tables e below (T3.setTop (mkF m 9 #[rv w, iv i1] [(.int (1 : Int32)), (.int i1)])) _
    refine XS.isub X3.here hx rfl (hb hby d1_9) rfl ?_
    show Steps p.tables e below (T3.setTop (mkF m 10 #[rv w, iv i1] [(.int (i1 - (1 : Int32)))])) _
    refine XS.goto X3.here hx rfl (pc0 := 10) (pc' := 15) rfl (hb hby d1_10) (by decide) (by decide) ?_
    show Steps p.tables e below (T3.setTop (mkF m 15 #[rv w, iv i1] [(.int (i1 - (1 : Int32)))])) _
    exact kont
  obtain ⟨fs, hr, hrun, hended, hW, hsame⟩ := X3.leave (v := some (.int (i1 - (1 : Int32)))) (fun h => by rw [Bd.returns] at h; cases h)
  refine ⟨_, _, g5 _ (retI X3 hx Bd.returns (hb hby d1_15) hr), hrun, hended, _, _, rfl, ?_, ⟨_, rfl⟩, hW, hsame.mono (by decide) (by decide)⟩
  show Q_maxD Z w i1 h0 n0 _ T3.heap _
  rw [e3]
  exact ⟨rfl, N0, rfl⟩
theorem d1_13 : decode prog_6_method_5_code 13 = .ok (.bipush 9, 2) := by decide +kernel
theorem ef_maxN (m : MethodId) (x0 : Addr) (x1 : Int32)  : entryFrame m #[(.ref x0), (.int x1)] 2 = mkF m 0 #[.val (.ref x0), .val (.int x1)] [] := by first | (simp [entryFrame, mkF, argsToLocals, Value.category]; done) | rfl
def Q_maxN (Z : State) (a1 : Addr) (i1 : Int32) (w : Addr) (h0 : Heap) (n0 : Nat) (v : Option Value) (h : Heap) (L : List Loc) : Prop := v = some (.int (9 : Int32)) ∧ Fr n0 L ∧ h = h0
set_option maxRecDepth 65536 in
set_option maxHeartbeats 40000000 in
theorem rm_maxN (l : Launch) (Z : State) (a0 : Array Value) (hw : ∀ d ∈ tables_1, d.before a0 Z = true) (ws : List Jvm.Cond) (a1 : Addr) (i1 : Int32) (w : Addr) (h0 : Heap) (n0 : Nat) (O0 : Old Z n0 h0) (S0_ : Sta Z Z.heap "com/example/evenhand/evenhand/Characteristic" "DEPENDENCIES" "Lcom/example/evenhand/evenhand/Characteristic;" (.ref w)) (NE1_ : ¬ (a1 = w)) :
    MetFree l (⟨"com/example/evenhand/evenhand/Characteristic", "max", "(I)I"⟩ : MethodName) (head1 (Jvm.Cond.code (⟨"com/example/evenhand/evenhand/Characteristic", "max", "(I)I"⟩ : MethodName) prog_6_method_5_code 2 (some .int) :: ws) ({ frames := 0, cells := 0, slots := 0, locals := 0 } : Room)) (fun a U => a = #[(.ref a1), (.int i1)] ∧ Z.Warmed39 U.vm ∧ U.heap = h0) (fun _ _ _ _ _ => True) (fun _ U o U' => ∃ v L, o = .returned v ∧ Q_maxN Z a1 i1 w h0 n0 v U'.heap L ∧ FrameEnd U o U' L ({ frames := 0, cells := 0, slots := 0, locals := 0 } : Room).cells ({ frames := 0, cells := 0, slots := 0, locals := 0 } : Room).slots) := by
  refine MetFree.of_bodySF (plainFor_of_name pn_com_example_evenhand_evenhand_Characteristic) hisR ?_
  intro p e s m args below meth c s₁ Bd hml0 hP hK
  obtain ⟨rfl, hZ, hh⟩ := hP
  have hx := Bd.exec
  have hby := Bd.bytes
  have hml : c.maxLocals = 2 := hml0
  have hown : s.vm.findClass "com/example/evenhand/evenhand/Characteristic" = some m.cls := findClass_of_methodNamed Bd.named
  have hnm := (name_of_methodNamed Bd.named Bd.method).1
  have X0 : Stand p l e ({ frames := 0, cells := 0, slots := 0, locals := 0 } : Room) s m #[(.ref a1), (.int i1)] below meth c s₁ [] 0 0 := Stand.of_body Bd
  have e0 : s₁.heap = h0 := by rw [← hh, Bd.state]; rfl
  have N0 := Fr.nil n0
  have g0 : Go p e below s₁ (mkF m 0 #[rv a1, iv i1] []) (s₁.setTop (entryFrame m #[(.ref a1), (.int i1)] 2)) := fun t kont => castTop (ef_maxN m a1 i1 ) kont
  generalize s₁.setTop (entryFrame m #[(.ref a1), (.int i1)] 2) = A0 at g0 ⊢
  have g1 : Go p e below s₁ (mkF m 1 #[rv a1, iv i1] [(.ref a1)]) A0 := by
    intro t kont
    refine g0 t ?_
    refine XS.aloadN X0.here hx rfl (hb hby d1_0) rfl rfl ?_
    show Steps p.tables e below (s₁.setTop (mkF m 1 #[rv a1, iv i1] [(.ref a1)])) _
    exact kont
  have y2 : Sta Z h0 "com/example/evenhand/evenhand/Characteristic" "DEPENDENCIES" "Lcom/example/evenhand/evenhand/Characteristic;" (.ref w) := S0_.ext O0.2
  obtain ⟨T3, X3, e3, st3⟩ := getS2 X0 hx hZ hown (host := "") (Or.inl (hw _ (List.mem_of_getElem? (i := 9) rfl))) Via.refl e0 y2 (g := (mkF m 1 #[rv a1, iv i1] [(.ref a1)])) rfl (hb hby d1_1)
  have g4 : Go p e below T3 (mkF m 4 #[rv a1, iv i1] [(.ref w), (.ref a1)]) A0 := fun t kont => g1 t (st3 t kont)
  have g5 : Go p e below T3 (mkF m 15 #[rv a1, iv i1] [(.int (9 : Int32))]) A0 := by
    intro t kont
    refine g4 t ?_
    refine Jvm.RoadKit.acmp (g := (mkF m 4 #[rv a1, iv i1] [(.ref w), (.ref a1)])) X3 hx rfl rfl rfl (pc0 := 4) (pc' := 13) (same := false) rfl (hb hby d1_4) rfl (decide_eq_false fun q => NE1_ (Value.ref.inj q)) (by decide) (by decide) ?_
    show Steps p.tables e below (T3.setTop (mkF m 13 #[rv a1, iv i1] [])) _
    refine XS.bipush X3.here hx rfl (hb hby d1_13) ?_
    show Steps p.tables e below (T3.setTop (mkF m 15 #[rv a1, iv i1] [(.int (9 : Int32))])) _
    exact kont
  obtain ⟨fs, hr, hrun, hended, hW, hsame⟩ := X3.leave (v := some (.int (9 : Int32))) (fun h => by rw [Bd.returns] at h; cases h)
  refine ⟨_, _, g5 _ (retI X3 hx Bd.returns (hb hby d1_15) hr), hrun, hended, _, _, rfl, ?_, ⟨_, rfl⟩, hW, hsame.mono (by decide) (by decide)⟩
  show Q_maxN Z a1 i1 w h0 n0 _ T3.heap _
  rw [e3]
  exact ⟨rfl, N0, rfl⟩
theorem pd_0 : parseMethodDescriptor "(I)I" = some ⟨[.int], some .int⟩ := by decide +kernel
theorem pn_com_example_evenhand_evenhand_CharacteristicMaxPinLaw : plainName "com/example/evenhand/evenhand/CharacteristicMaxPinLaw" = true := by first | (simp [plainName, overriddenIn]; done) | decide +kernel
theorem ef_law (m : MethodId) (x0 : Int32) (x1 : Int32) (x2 : Int32)  : entryFrame m #[(.int x0), (.int x1), (.int x2)] maxLocals = mkF m 0 #[.val (.int x0), .val (.int x1), .val (.int x2), .unset, .unset, .unset, .unset, .unset] [] := by first | (simp [entryFrame, mkF, argsToLocals, Value.category, maxLocals]; done) | rfl
def Q_law (Z : State) (p0 : Int32) (p1 : Int32) (p2 : Int32) (w_COMPLEXITY : Addr) (w_DEPENDENCIES : Addr) (w_IMPORTANCE : Addr) (h0 : Heap) (n0 : Nat) (v : Option Value) (h : Heap) (L : List Loc) : Prop := v = some (.int (1 : Int32)) ∧ Fr n0 L
set_option maxRecDepth 65536 in
set_option maxHeartbeats 40000000 in
theorem rm_law (l : Launch) (Z : State) (a0 : Array Value) (hw : ∀ d ∈ tables_1, d.before a0 Z = true) (ws : List Jvm.Cond) (p0 : Int32) (p1 : Int32) (p2 : Int32) (w_COMPLEXITY : Addr) (w_DEPENDENCIES : Addr) (w_IMPORTANCE : Addr) (h0 : Heap) (n0 : Nat) (O0 : Old Z n0 h0) (S0_ : Sta Z Z.heap "com/example/evenhand/evenhand/Characteristic" "COMPLEXITY" "Lcom/example/evenhand/evenhand/Characteristic;" (.ref w_COMPLEXITY)) (S1_ : Sta Z Z.heap "com/example/evenhand/evenhand/Characteristic" "DEPENDENCIES" "Lcom/example/evenhand/evenhand/Characteristic;" (.ref w_DEPENDENCIES)) (S2_ : Sta Z Z.heap "com/example/evenhand/evenhand/Characteristic" "IMPORTANCE" "Lcom/example/evenhand/evenhand/Characteristic;" (.ref w_IMPORTANCE)) (ZE3_ : Exa Z Z.heap w_COMPLEXITY "com/example/evenhand/evenhand/Characteristic") (ZE4_ : Exa Z Z.heap w_DEPENDENCIES "com/example/evenhand/evenhand/Characteristic") (ZE5_ : Exa Z Z.heap w_IMPORTANCE "com/example/evenhand/evenhand/Characteristic") (NE6_ : ¬ (w_COMPLEXITY = w_DEPENDENCIES)) (NE7_ : ¬ (w_IMPORTANCE = w_DEPENDENCIES)) :
    MetFree l x (head1 (Jvm.Cond.code x code maxLocals ret :: ws) room_1) (fun a U => a = #[(.int p0), (.int p1), (.int p2)] ∧ Z.Warmed39 U.vm ∧ U.heap = h0) (fun _ _ _ _ _ => True) (fun _ U o U' => ∃ v L, o = .returned v ∧ Q_law Z p0 p1 p2 w_COMPLEXITY w_DEPENDENCIES w_IMPORTANCE h0 n0 v U'.heap L ∧ FrameEnd U o U' L room_1.cells room_1.slots) := by
  refine MetFree.of_bodySF (plainFor_of_name pn_com_example_evenhand_evenhand_CharacteristicMaxPinLaw) hisR ?_
  intro p e s m args below meth c s₁ Bd hml0 hP hK
  obtain ⟨rfl, hZ, hh⟩ := hP
  have hx := Bd.exec
  have hby := Bd.bytes
  have hml : c.maxLocals = 8 := hml0
  have hown : s.vm.findClass "com/example/evenhand/evenhand/CharacteristicMaxPinLaw" = some m.cls := findClass_of_methodNamed Bd.named
  have hnm := (name_of_methodNamed Bd.named Bd.method).1
  have X0 : Stand p l e room_1 s m #[(.int p0), (.int p1), (.int p2)] below meth c s₁ [] 0 0 := Stand.of_body Bd
  have e0 : s₁.heap = h0 := by rw [← hh, Bd.state]; rfl
  have N0 := Fr.nil n0
  have g0 : Go p e below s₁ (mkF m 0 #[iv p0, iv p1, iv p2, .unset, .unset, .unset, .unset, .unset] []) (s₁.setTop (entryFrame m #[(.int p0), (.int p1), (.int p2)] maxLocals)) := fun t kont => castTop (ef_law m p0 p1 p2 ) kont
  generalize s₁.setTop (entryFrame m #[(.int p0), (.int p1), (.int p2)] maxLocals) = A0 at g0 ⊢
  have g1 : Go p e below s₁ (mkF m 6 #[iv p0, iv p1, iv p2, .unset, .unset, .unset, .unset, .unset] [(.int ((p0 &&& (2147483647 : Int32)) % (3 : Int32)))]) A0 := by
    intro t kont
    refine g0 t ?_
    refine XS.iloadN X0.here hx rfl (hb hby at_0) rfl ?_
    show Steps p.tables e below (s₁.setTop (mkF m 1 #[iv p0, iv p1, iv p2, .unset, .unset, .unset, .unset, .unset] [(.int p0)])) _
    refine X0.ldcInt hx hown (mvT hZ (hw _ (List.mem_of_getElem? (i := 0) rfl))) (g := (mkF m 1 #[iv p0, iv p1, iv p2, .unset, .unset, .unset, .unset, .unset] [(.int p0)])) rfl (hb hby at_1) _ ?_
    show Steps p.tables e below (s₁.setTop (mkF m 3 #[iv p0, iv p1, iv p2, .unset, .unset, .unset, .unset, .unset] [(.int (2147483647 : Int32)), (.int p0)])) _
    refine XS.iand X0.here hx rfl (hb hby at_3) rfl ?_
    show Steps p.tables e below (s₁.setTop (mkF m 4 #[iv p0, iv p1, iv p2, .unset, .unset, .unset, .unset, .unset] [(.int (p0 &&& (2147483647 : Int32)))])) _
    refine XS.iconst X0.here hx rfl (hb hby at_4) ?_
    show Steps p.tables e below (s₁.setTop (mkF m 5 #[iv p0, iv p1, iv p2, .unset, .unset, .unset, .unset, .unset] [(.int (3 : Int32)), (.int (p0 &&& (2147483647 : Int32)))])) _
    refine iremM X0 hx rfl (hb hby at_5) rfl (by decide) ?_
    show Steps p.tables e below (s₁.setTop (mkF m 6 #[iv p0, iv p1, iv p2, .unset, .unset, .unset, .unset, .unset] [(.int ((p0 &&& (2147483647 : Int32)) % (3 : Int32)))])) _
    exact kont
  obtain ⟨k, e_k⟩ : ∃ z, z = ((p0 &&& (2147483647 : Int32)) % (3 : Int32)) := ⟨_, rfl⟩
  have g2 : Go p e below s₁ (mkF m 6 #[iv p0, iv p1, iv p2, .unset, .unset, .unset, .unset, .unset] [(.int k)]) A0 := by rw [e_k]; exact g1
  have g4 : Go p e below s₁ (mkF m 8 #[iv p0, iv p1, iv p2, iv k, .unset, .unset, .unset, .unset] [(.int k)]) A0 := by
    intro t kont
    refine g2 t ?_
    refine XS.istoreN X0.here hx rfl (hb hby at_6) rfl (l' := #[iv p0, iv p1, iv p2, iv k, .unset, .unset, .unset, .unset]) rfl ?_
    show Steps p.tables e below (s₁.setTop (mkF m 7 #[iv p0, iv p1, iv p2, iv k, .unset, .unset, .unset, .unset] [])) _
    refine XS.iloadN X0.here hx rfl (hb hby at_7) rfl ?_
    show Steps p.tables e below (s₁.setTop (mkF m 8 #[iv p0, iv p1, iv p2, iv k, .unset, .unset, .unset, .unset] [(.int k)])) _
    exact kont
  by_cases c3 : k = (0 : Int32)
  ·
    subst c3
    have g5 : Go p e below s₁ (mkF m 11 #[iv p0, iv p1, iv p2, iv (0 : Int32), .unset, .unset, .unset, .unset] []) A0 := by
      intro t kont
      refine g4 t ?_
      refine XS.ifNo X0.here hx rfl (hb hby at_8) rfl ((if0 _ _).trans (teq (rfl : (0 : Int32) = (0 : Int32))).2) ?_
      show Steps p.tables e below (s₁.setTop (mkF m 11 #[iv p0, iv p1, iv p2, iv (0 : Int32), .unset, .unset, .unset, .unset] [])) _
      exact kont
    have y6 : Sta Z h0 "com/example/evenhand/evenhand/Characteristic" "COMPLEXITY" "Lcom/example/evenhand/evenhand/Characteristic;" (.ref w_COMPLEXITY) := S0_.ext O0.2
    obtain ⟨T7, X7, e7, st7⟩ := getS2 X0 hx hZ hown (host := "") (Or.inl (hw _ (List.mem_of_getElem? (i := 1) rfl))) Via.refl e0 y6 (g := (mkF m 11 #[iv p0, iv p1, iv p2, iv (0 : Int32), .unset, .unset, .unset, .unset] [])) rfl (hb hby at_11)
    have g8 : Go p e below T7 (mkF m 14 #[iv p0, iv p1, iv p2, iv (0 : Int32), .unset, .unset, .unset, .unset] [(.ref w_COMPLEXITY)]) A0 := fun t kont => g5 t (st7 t kont)
    have g9 : Go p e below T7 (mkF m 37 #[iv p0, iv p1, iv p2, iv (0 : Int32), rv w_COMPLEXITY, .unset, .unset, .unset] [(.int (p1 &&& (2147483647 : Int32)))]) A0 := by
      intro t kont
      refine g8 t ?_
      refine XS.goto X7.here hx rfl (pc0 := 14) (pc' := 31) rfl (hb hby at_14) (by decide) (by decide) ?_
      show Steps p.tables e below (T7.setTop (mkF m 31 #[iv p0, iv p1, iv p2, iv (0 : Int32), .unset, .unset, .unset, .unset] [(.ref w_COMPLEXITY)])) _
      refine XS.astore X7.here hx rfl (hb hby at_31) rfl rfl (l' := #[iv p0, iv p1, iv p2, iv (0 : Int32), rv w_COMPLEXITY, .unset, .unset, .unset]) rfl ?_
      show Steps p.tables e below (T7.setTop (mkF m 33 #[iv p0, iv p1, iv p2, iv (0 : Int32), rv w_COMPLEXITY, .unset, .unset, .unset] [])) _
      refine XS.iloadN X7.here hx rfl (hb hby at_33) rfl ?_
      show Steps p.tables e below (T7.setTop (mkF m 34 #[iv p0, iv p1, iv p2, iv (0 : Int32), rv w_COMPLEXITY, .unset, .unset, .unset] [(.int p1)])) _
      refine X7.ldcInt hx hown (mvT hZ (hw _ (List.mem_of_getElem? (i := 0) rfl))) (g := (mkF m 34 #[iv p0, iv p1, iv p2, iv (0 : Int32), rv w_COMPLEXITY, .unset, .unset, .unset] [(.int p1)])) rfl (hb hby at_34) _ ?_
      show Steps p.tables e below (T7.setTop (mkF m 36 #[iv p0, iv p1, iv p2, iv (0 : Int32), rv w_COMPLEXITY, .unset, .unset, .unset] [(.int (2147483647 : Int32)), (.int p1)])) _
      refine XS.iand X7.here hx rfl (hb hby at_36) rfl ?_
      show Steps p.tables e below (T7.setTop (mkF m 37 #[iv p0, iv p1, iv p2, iv (0 : Int32), rv w_COMPLEXITY, .unset, .unset, .unset] [(.int (p1 &&& (2147483647 : Int32)))])) _
      exact kont
    obtain ⟨n, e_n⟩ : ∃ z, z = (p1 &&& (2147483647 : Int32)) := ⟨_, rfl⟩
    have g10 : Go p e below T7 (mkF m 37 #[iv p0, iv p1, iv p2, iv (0 : Int32), rv w_COMPLEXITY, .unset, .unset, .unset] [(.int n)]) A0 := by rw [e_n]; exact g9
    have g12 : Go p e below T7 (mkF m 41 #[iv p0, iv p1, iv p2, iv (0 : Int32), rv w_COMPLEXITY, iv n, .unset, .unset] [(.int n)]) A0 := by
      intro t kont
      refine g10 t ?_
      refine XS.istore X7.here hx rfl (hb hby at_37) rfl (l' := #[iv p0, iv p1, iv p2, iv (0 : Int32), rv w_COMPLEXITY, iv n, .unset, .unset]) rfl ?_
      show Steps p.tables e below (T7.setTop (mkF m 39 #[iv p0, iv p1, iv p2, iv (0 : Int32), rv w_COMPLEXITY, iv n, .unset, .unset] [])) _
      refine XS.iload X7.here hx rfl (hb hby at_39) rfl ?_
      show Steps p.tables e below (T7.setTop (mkF m 41 #[iv p0, iv p1, iv p2, iv (0 : Int32), rv w_COMPLEXITY, iv n, .unset, .unset] [(.int n)])) _
      exact kont
    by_cases c11 : n = (0 : Int32)
    ·
      have g13 : Go p e below T7 (mkF m 51 #[iv p0, iv p1, iv p2, iv (0 : Int32), rv w_COMPLEXITY, iv (1 : Int32), .unset, .unset] [(.int (1 : Int32)), (.ref w_COMPLEXITY)]) A0 := by
        intro t kont
        refine g12 t ?_
        refine XS.ifNo X7.here hx rfl (hb hby at_41) rfl ((if0 _ _).trans (teq c11).2) ?_
        show Steps p.tables e below (T7.setTop (mkF m 44 #[iv p0, iv p1, iv p2, iv (0 : Int32), rv w_COMPLEXITY, iv n, .unset, .unset] [])) _
        refine XS.iconst X7.here hx rfl (hb hby at_44) ?_
        show Steps p.tables e below (T7.setTop (mkF m 45 #[iv p0, iv p1, iv p2, iv (0 : Int32), rv w_COMPLEXITY, iv n, .unset, .unset] [(.int (1 : Int32))])) _
        refine XS.istore X7.here hx rfl (hb hby at_45) rfl (l' := #[iv p0, iv p1, iv p2, iv (0 : Int32), rv w_COMPLEXITY, iv (1 : Int32), .unset, .unset]) rfl ?_
        show Steps p.tables e below (T7.setTop (mkF m 47 #[iv p0, iv p1, iv p2, iv (0 : Int32), rv w_COMPLEXITY, iv (1 : Int32), .unset, .unset] [])) _
        refine XS.aload X7.here hx rfl (hb hby at_47) rfl rfl ?_
        show Steps p.tables e below (T7.setTop (mkF m 49 #[iv p0, iv p1, iv p2, iv (0 : Int32), rv w_COMPLEXITY, iv (1 : Int32), .unset, .unset] [(.ref w_COMPLEXITY)])) _
        refine XS.iload X7.here hx rfl (hb hby at_49) rfl ?_
        show Steps p.tables e below (T7.setTop (mkF m 51 #[iv p0, iv p1, iv p2, iv (0 : Int32), rv w_COMPLEXITY, iv (1 : Int32), .unset, .unset] [(.int (1 : Int32)), (.ref w_COMPLEXITY)])) _
        exact kont
      have y15 : Exa Z h0 w_COMPLEXITY "com/example/evenhand/evenhand/Characteristic" := ZE3_.ext O0.2
      have y16 : Exa Z h0 w_COMPLEXITY "com/example/evenhand/evenhand/Characteristic" := ZE3_.ext O0.2
      obtain ⟨cq14, kq14, q14a, q14b, q14c⟩ := isOf hZ e7 y16
      obtain ⟨_, _, ⟨T14, L14, k14, n14⟩, -, X14, ⟨Lc14, hQ14, l14, y14, z14⟩, st14⟩ := X7.virtualBack hx (y := (⟨"com/example/evenhand/evenhand/Characteristic", "max", "(I)I"⟩ : MethodName)) (z := (⟨"com/example/evenhand/evenhand/Characteristic", "max", "(I)I"⟩ : MethodName)) hown (mvT hZ (hw _ (List.mem_of_getElem? (i := 4) rfl))) (mvT hZ (hw _ (List.mem_of_getElem? (i := 5) rfl))) (notFace_of_selects (args := #[]) (mvT hZ (hw _ (List.mem_of_getElem? (i := 7) rfl)))) (mvT hZ (hw _ (List.mem_of_getElem? (i := 7) rfl))) (mvT hZ (hw _ (List.mem_of_getElem? (i := 6) rfl))) (by decide) (backOf (W := 0) (rm_maxN l Z a0 hw [] w_COMPLEXITY (1 : Int32) w_DEPENDENCIES h0 n0 O0 S1_ NE6_) hZ (hw _ (List.mem_of_getElem? (i := 8) rfl)) (hw _ (List.mem_of_getElem? (i := 2) rfl)) (by decide) (by decide)) q14a q14c (g := (mkF m 51 #[iv p0, iv p1, iv p2, iv (0 : Int32), rv w_COMPLEXITY, iv (1 : Int32), .unset, .unset] [(.int (1 : Int32)), (.ref w_COMPLEXITY)])) rfl (by rw [hml]; rfl) (Steps.refl _) (argsL := [(.int (1 : Int32))]) (rest := []) (lenOf pd_0 rfl) rfl (by show 2 * 0 + _ ≤ _; exact Nat.le_of_eq rfl) (hb hby at_51) (fun _ _ => ⟨rfl, e7, (by decide : 0 + 0 ≤ _), (by decide : 0 + 0 ≤ _)⟩)
      dsimp only [Pt.U, Pt.locs, Pt.cells, Pt.slots] at X14 l14 y14 z14 st14 hQ14
      subst l14 y14 z14
      obtain ⟨rfl, M14, e14⟩ := hQ14
      have N14 := Fr.app N0 M14
      have g17 : Go p e below T14 (mkF m 54 #[iv p0, iv p1, iv p2, iv (0 : Int32), rv w_COMPLEXITY, iv (1 : Int32), .unset, .unset] [(.int (9 : Int32))]) A0 := fun t kont => g13 t (st14.trans kont)
      have g18 : Go p e below T14 (mkF m 84 #[iv p0, iv p1, iv p2, iv (0 : Int32), rv w_COMPLEXITY, iv (1 : Int32), iv (9 : Int32), .unset] [(.int p2), (.ref w_COMPLEXITY)]) A0 := by
        intro t kont
        refine g17 t ?_
        refine XS.istore X14.here hx rfl (hb hby at_54) rfl (l' := #[iv p0, iv p1, iv p2, iv (0 : Int32), rv w_COMPLEXITY, iv (1 : Int32), iv (9 : Int32), .unset]) rfl ?_
        show Steps p.tables e below (T14.setTop (mkF m 56 #[iv p0, iv p1, iv p2, iv (0 : Int32), rv w_COMPLEXITY, iv (1 : Int32), iv (9 : Int32), .unset] [])) _
        refine XS.iloadN X14.here hx rfl (hb hby at_56) rfl ?_
        show Steps p.tables e below (T14.setTop (mkF m 57 #[iv p0, iv p1, iv p2, iv (0 : Int32), rv w_COMPLEXITY, iv (1 : Int32), iv (9 : Int32), .unset] [(.int (0 : Int32))])) _
        refine XS.iconst X14.here hx rfl (hb hby at_57) ?_
        show Steps p.tables e below (T14.setTop (mkF m 58 #[iv p0, iv p1, iv p2, iv (0 : Int32), rv w_COMPLEXITY, iv (1 : Int32), iv (9 : Int32), .unset] [(.int (1 : Int32)), (.int (0 : Int32))])) _
        refine XS.icmpYes X14.here hx rfl (pc0 := 58) (pc' := 81) rfl (hb hby at_58) rfl (feq (by decide : ¬ ((0 : Int32) = (1 : Int32)))).2 (by decide) (by decide) ?_
        show Steps p.tables e below (T14.setTop (mkF m 81 #[iv p0, iv p1, iv p2, iv (0 : Int32), rv w_COMPLEXITY, iv (1 : Int32), iv (9 : Int32), .unset] [])) _
        refine XS.aload X14.here hx rfl (hb hby at_81) rfl rfl ?_
        show Steps p.tables e below (T14.setTop (mkF m 83 #[iv p0, iv p1, iv p2, iv (0 : Int32), rv w_COMPLEXITY, iv (1 : Int32), iv (9 : Int32), .unset] [(.ref w_COMPLEXITY)])) _
        refine XS.iloadN X14.here hx rfl (hb hby at_83) rfl ?_
        show Steps p.tables e below (T14.setTop (mkF m 84 #[iv p0, iv p1, iv p2, iv (0 : Int32), rv w_COMPLEXITY, iv (1 : Int32), iv (9 : Int32), .unset] [(.int p2), (.ref w_COMPLEXITY)])) _
        exact kont
      have y20 : Exa Z h0 w_COMPLEXITY "com/example/evenhand/evenhand/Characteristic" := ZE3_.ext O0.2
      have y21 : Exa Z h0 w_COMPLEXITY "com/example/evenhand/evenhand/Characteristic" := ZE3_.ext O0.2
      obtain ⟨cq19, kq19, q19a, q19b, q19c⟩ := isOf hZ e14 y21
      obtain ⟨_, _, ⟨T19, L19, k19, n19⟩, -, X19, ⟨Lc19, hQ19, l19, y19, z19⟩, st19⟩ := X14.virtualBack hx (y := (⟨"com/example/evenhand/evenhand/Characteristic", "max", "(I)I"⟩ : MethodName)) (z := (⟨"com/example/evenhand/evenhand/Characteristic", "max", "(I)I"⟩ : MethodName)) hown (mvT hZ (hw _ (List.mem_of_getElem? (i := 4) rfl))) (mvT hZ (hw _ (List.mem_of_getElem? (i := 5) rfl))) (notFace_of_selects (args := #[]) (mvT hZ (hw _ (List.mem_of_getElem? (i := 7) rfl)))) (mvT hZ (hw _ (List.mem_of_getElem? (i := 7) rfl))) (mvT hZ (hw _ (List.mem_of_getElem? (i := 6) rfl))) (by decide) (backOf (W := 0) (rm_maxN l Z a0 hw [] w_COMPLEXITY p2 w_DEPENDENCIES h0 n0 O0 S1_ NE6_) hZ (hw _ (List.mem_of_getElem? (i := 8) rfl)) (hw _ (List.mem_of_getElem? (i := 2) rfl)) (by decide) (by decide)) q19a q19c (g := (mkF m 84 #[iv p0, iv p1, iv p2, iv (0 : Int32), rv w_COMPLEXITY, iv (1 : Int32), iv (9 : Int32), .unset] [(.int p2), (.ref w_COMPLEXITY)])) rfl (by rw [hml]; rfl) (Steps.refl _) (argsL := [(.int p2)]) (rest := []) (lenOf pd_0 rfl) rfl (by show 2 * 0 + _ ≤ _; exact Nat.le_of_eq rfl) (hb hby at_84) (fun _ _ => ⟨rfl, e14, (by decide : 0 + 0 ≤ _), (by decide : 0 + 0 ≤ _)⟩)
      dsimp only [Pt.U, Pt.locs, Pt.cells, Pt.slots] at X19 l19 y19 z19 st19 hQ19
      subst l19 y19 z19
      obtain ⟨rfl, M19, e19⟩ := hQ19
      have N19 := Fr.app N14 M19
      have g22 : Go p e below T19 (mkF m 87 #[iv p0, iv p1, iv p2, iv (0 : Int32), rv w_COMPLEXITY, iv (1 : Int32), iv (9 : Int32), .unset] [(.int (9 : Int32))]) A0 := fun t kont => g18 t (st19.trans kont)
      have g23 : Go p e below T19 (mkF m 108 #[iv p0, iv p1, iv p2, iv (0 : Int32), rv w_COMPLEXITY, iv (1 : Int32), iv (9 : Int32), iv (9 : Int32)] [(.int (1 : Int32))]) A0 := by
        intro t kont
        refine g22 t ?_
        refine XS.istore X19.here hx rfl (hb hby at_87) rfl (l' := #[iv p0, iv p1, iv p2, iv (0 : Int32), rv w_COMPLEXITY, iv (1 : Int32), iv (9 : Int32), iv (9 : Int32)]) rfl ?_
        show Steps p.tables e below (T19.setTop (mkF m 89 #[iv p0, iv p1, iv p2, iv (0 : Int32), rv w_COMPLEXITY, iv (1 : Int32), iv (9 : Int32), iv (9 : Int32)] [])) _
        refine XS.iload X19.here hx rfl (hb hby at_89) rfl ?_
        show Steps p.tables e below (T19.setTop (mkF m 91 #[iv p0, iv p1, iv p2, iv (0 : Int32), rv w_COMPLEXITY, iv (1 : Int32), iv (9 : Int32), iv (9 : Int32)] [(.int (9 : Int32))])) _
        refine XS.bipush X19.here hx rfl (hb hby at_91) ?_
        show Steps p.tables e below (T19.setTop (mkF m 93 #[iv p0, iv p1, iv p2, iv (0 : Int32), rv w_COMPLEXITY, iv (1 : Int32), iv (9 : Int32), iv (9 : Int32)] [(.int (9 : Int32)), (.int (9 : Int32))])) _
        refine XS.icmpNo X19.here hx rfl (hb hby at_93) rfl (teq (by decide : (9 : Int32) = (9 : Int32))).2 ?_
        show Steps p.tables e below (T19.setTop (mkF m 96 #[iv p0, iv p1, iv p2, iv (0 : Int32), rv w_COMPLEXITY, iv (1 : Int32), iv (9 : Int32), iv (9 : Int32)] [])) _
        refine XS.iload X19.here hx rfl (hb hby at_96) rfl ?_
        show Steps p.tables e below (T19.setTop (mkF m 98 #[iv p0, iv p1, iv p2, iv (0 : Int32), rv w_COMPLEXITY, iv (1 : Int32), iv (9 : Int32), iv (9 : Int32)] [(.int (9 : Int32))])) _
        refine XS.bipush X19.here hx rfl (hb hby at_98) ?_
        show Steps p.tables e below (T19.setTop (mkF m 100 #[iv p0, iv p1, iv p2, iv (0 : Int32), rv w_COMPLEXITY, iv (1 : Int32), iv (9 : Int32), iv (9 : Int32)] [(.int (9 : Int32)), (.int (9 : Int32))])) _
        refine XS.icmpNo X19.here hx rfl (hb hby at_100) rfl (teq (by decide : (9 : Int32) = (9 : Int32))).2 ?_
        show Steps p.tables e below (T19.setTop (mkF m 103 #[iv p0, iv p1, iv p2, iv (0 : Int32), rv w_COMPLEXITY, iv (1 : Int32), iv (9 : Int32), iv (9 : Int32)] [])) _
        refine XS.iconst X19.here hx rfl (hb hby at_103) ?_
        show Steps p.tables e below (T19.setTop (mkF m 104 #[iv p0, iv p1, iv p2, iv (0 : Int32), rv w_COMPLEXITY, iv (1 : Int32), iv (9 : Int32), iv (9 : Int32)] [(.int (1 : Int32))])) _
        refine XS.goto X19.here hx rfl (pc0 := 104) (pc' := 108) rfl (hb hby at_104) (by decide) (by decide) ?_
        show Steps p.tables e below (T19.setTop (mkF m 108 #[iv p0, iv p1, iv p2, iv (0 : Int32), rv w_COMPLEXITY, iv (1 : Int32), iv (9 : Int32), iv (9 : Int32)] [(.int (1 : Int32))])) _
        exact kont
      obtain ⟨fs, hr, hrun, hended, hW, hsame⟩ := X19.leave (v := some (.int (1 : Int32))) (fun h => by rw [Bd.returns] at h; cases h)
      refine ⟨_, _, g23 _ (retN X19 hx (t := .boolean) Bd.returns (by simp) (hb hby at_108) hr), hrun, hended, _, _, rfl, ?_, ⟨_, rfl⟩, hW, hsame.mono (by decide) (by decide)⟩
      show Q_law Z p0 p1 p2 w_COMPLEXITY w_DEPENDENCIES w_IMPORTANCE h0 n0 _ T19.heap _
      rw [e19]
      exact ⟨rfl, N19⟩
    have g24 : Go p e below T7 (mkF m 51 #[iv p0, iv p1, iv p2, iv (0 : Int32), rv w_COMPLEXITY, iv n, .unset, .unset] [(.int n), (.ref w_COMPLEXITY)]) A0 := by
      intro t kont
      refine g12 t ?_
      refine XS.ifYes X7.here hx rfl (pc0 := 41) (pc' := 47) rfl (hb hby at_41) rfl ((if0 _ _).trans (feq c11).2) (by decide) (by decide) ?_
      show Steps p.tables e below (T7.setTop (mkF m 47 #[iv p0, iv p1, iv p2, iv (0 : Int32), rv w_COMPLEXITY, iv n, .unset, .unset] [])) _
      refine XS.aload X7.here hx rfl (hb hby at_47) rfl rfl ?_
      show Steps p.tables e below (T7.setTop (mkF m 49 #[iv p0, iv p1, iv p2, iv (0 : Int32), rv w_COMPLEXITY, iv n, .unset, .unset] [(.ref w_COMPLEXITY)])) _
      refine XS.iload X7.here hx rfl (hb hby at_49) rfl ?_
      show Steps p.tables e below (T7.setTop (mkF m 51 #[iv p0, iv p1, iv p2, iv (0 : Int32), rv w_COMPLEXITY, iv n, .unset, .unset] [(.int n), (.ref w_COMPLEXITY)])) _
      exact kont
    have y26 : Exa Z h0 w_COMPLEXITY "com/example/evenhand/evenhand/Characteristic" := ZE3_.ext O0.2
    have y27 : Exa Z h0 w_COMPLEXITY "com/example/evenhand/evenhand/Characteristic" := ZE3_.ext O0.2
    obtain ⟨cq25, kq25, q25a, q25b, q25c⟩ := isOf hZ e7 y27
    obtain ⟨_, _, ⟨T25, L25, k25, n25⟩, -, X25, ⟨Lc25, hQ25, l25, y25, z25⟩, st25⟩ := X7.virtualBack hx (y := (⟨"com/example/evenhand/evenhand/Characteristic", "max", "(I)I"⟩ : MethodName)) (z := (⟨"com/example/evenhand/evenhand/Characteristic", "max", "(I)I"⟩ : MethodName)) hown (mvT hZ (hw _ (List.mem_of_getElem? (i := 4) rfl))) (mvT hZ (hw _ (List.mem_of_getElem? (i := 5) rfl))) (notFace_of_selects (args := #[]) (mvT hZ (hw _ (List.mem_of_getElem? (i := 7) rfl)))) (mvT hZ (hw _ (List.mem_of_getElem? (i := 7) rfl))) (mvT hZ (hw _ (List.mem_of_getElem? (i := 6) rfl))) (by decide) (backOf (W := 0) (rm_maxN l Z a0 hw [] w_COMPLEXITY n w_DEPENDENCIES h0 n0 O0 S1_ NE6_) hZ (hw _ (List.mem_of_getElem? (i := 8) rfl)) (hw _ (List.mem_of_getElem? (i := 2) rfl)) (by decide) (by decide)) q25a q25c (g := (mkF m 51 #[iv p0, iv p1, iv p2, iv (0 : Int32), rv w_COMPLEXITY, iv n, .unset, .unset] [(.int n), (.ref w_COMPLEXITY)])) rfl (by rw [hml]; rfl) (Steps.refl _) (argsL := [(.int n)]) (rest := []) (lenOf pd_0 rfl) rfl (by show 2 * 0 + _ ≤ _; exact Nat.le_of_eq rfl) (hb hby at_51) (fun _ _ => ⟨rfl, e7, (by decide : 0 + 0 ≤ _), (by decide : 0 + 0 ≤ _)⟩)
    dsimp only [Pt.U, Pt.locs, Pt.cells, Pt.slots] at X25 l25 y25 z25 st25 hQ25
    subst l25 y25 z25
    obtain ⟨rfl, M25, e25⟩ := hQ25
    have N25 := Fr.app N0 M25
    have g28 : Go p e below T25 (mkF m 54 #[iv p0, iv p1, iv p2, iv (0 : Int32), rv w_COMPLEXITY, iv n, .unset, .unset] [(.int (9 : Int32))]) A0 := fun t kont => g24 t (st25.trans kont)
    have g29 : Go p e below T25 (mkF m 84 #[iv p0, iv p1, iv p2, iv (0 : Int32), rv w_COMPLEXITY, iv n, iv (9 : Int32), .unset] [(.int p2), (.ref w_COMPLEXITY)]) A0 := by
      intro t kont
      refine g28 t ?_
      refine XS.istore X25.here hx rfl (hb hby at_54) rfl (l' := #[iv p0, iv p1, iv p2, iv (0 : Int32), rv w_COMPLEXITY, iv n, iv (9 : Int32), .unset]) rfl ?_
      show Steps p.tables e below (T25.setTop (mkF m 56 #[iv p0, iv p1, iv p2, iv (0 : Int32), rv w_COMPLEXITY, iv n, iv (9 : Int32), .unset] [])) _
      refine XS.iloadN X25.here hx rfl (hb hby at_56) rfl ?_
      show Steps p.tables e below (T25.setTop (mkF m 57 #[iv p0, iv p1, iv p2, iv (0 : Int32), rv w_COMPLEXITY, iv n, iv (9 : Int32), .unset] [(.int (0 : Int32))])) _
      refine XS.iconst X25.here hx rfl (hb hby at_57) ?_
      show Steps p.tables e below (T25.setTop (mkF m 58 #[iv p0, iv p1, iv p2, iv (0 : Int32), rv w_COMPLEXITY, iv n, iv (9 : Int32), .unset] [(.int (1 : Int32)), (.int (0 : Int32))])) _
      refine XS.icmpYes X25.here hx rfl (pc0 := 58) (pc' := 81) rfl (hb hby at_58) rfl (feq (by decide : ¬ ((0 : Int32) = (1 : Int32)))).2 (by decide) (by decide) ?_
      show Steps p.tables e below (T25.setTop (mkF m 81 #[iv p0, iv p1, iv p2, iv (0 : Int32), rv w_COMPLEXITY, iv n, iv (9 : Int32), .unset] [])) _
      refine XS.aload X25.here hx rfl (hb hby at_81) rfl rfl ?_
      show Steps p.tables e below (T25.setTop (mkF m 83 #[iv p0, iv p1, iv p2, iv (0 : Int32), rv w_COMPLEXITY, iv n, iv (9 : Int32), .unset] [(.ref w_COMPLEXITY)])) _
      refine XS.iloadN X25.here hx rfl (hb hby at_83) rfl ?_
      show Steps p.tables e below (T25.setTop (mkF m 84 #[iv p0, iv p1, iv p2, iv (0 : Int32), rv w_COMPLEXITY, iv n, iv (9 : Int32), .unset] [(.int p2), (.ref w_COMPLEXITY)])) _
      exact kont
    have y31 : Exa Z h0 w_COMPLEXITY "com/example/evenhand/evenhand/Characteristic" := ZE3_.ext O0.2
    have y32 : Exa Z h0 w_COMPLEXITY "com/example/evenhand/evenhand/Characteristic" := ZE3_.ext O0.2
    obtain ⟨cq30, kq30, q30a, q30b, q30c⟩ := isOf hZ e25 y32
    obtain ⟨_, _, ⟨T30, L30, k30, n30⟩, -, X30, ⟨Lc30, hQ30, l30, y30, z30⟩, st30⟩ := X25.virtualBack hx (y := (⟨"com/example/evenhand/evenhand/Characteristic", "max", "(I)I"⟩ : MethodName)) (z := (⟨"com/example/evenhand/evenhand/Characteristic", "max", "(I)I"⟩ : MethodName)) hown (mvT hZ (hw _ (List.mem_of_getElem? (i := 4) rfl))) (mvT hZ (hw _ (List.mem_of_getElem? (i := 5) rfl))) (notFace_of_selects (args := #[]) (mvT hZ (hw _ (List.mem_of_getElem? (i := 7) rfl)))) (mvT hZ (hw _ (List.mem_of_getElem? (i := 7) rfl))) (mvT hZ (hw _ (List.mem_of_getElem? (i := 6) rfl))) (by decide) (backOf (W := 0) (rm_maxN l Z a0 hw [] w_COMPLEXITY p2 w_DEPENDENCIES h0 n0 O0 S1_ NE6_) hZ (hw _ (List.mem_of_getElem? (i := 8) rfl)) (hw _ (List.mem_of_getElem? (i := 2) rfl)) (by decide) (by decide)) q30a q30c (g := (mkF m 84 #[iv p0, iv p1, iv p2, iv (0 : Int32), rv w_COMPLEXITY, iv n, iv (9 : Int32), .unset] [(.int p2), (.ref w_COMPLEXITY)])) rfl (by rw [hml]; rfl) (Steps.refl _) (argsL := [(.int p2)]) (rest := []) (lenOf pd_0 rfl) rfl (by show 2 * 0 + _ ≤ _; exact Nat.le_of_eq rfl) (hb hby at_84) (fun _ _ => ⟨rfl, e25, (by decide : 0 + 0 ≤ _), (by decide : 0 + 0 ≤ _)⟩)
    dsimp only [Pt.U, Pt.locs, Pt.cells, Pt.slots] at X30 l30 y30 z30 st30 hQ30
    subst l30 y30 z30
    obtain ⟨rfl, M30, e30⟩ := hQ30
    have N30 := Fr.app N25 M30
    have g33 : Go p e below T30 (mkF m 87 #[iv p0, iv p1, iv p2, iv (0 : Int32), rv w_COMPLEXITY, iv n, iv (9 : Int32), .unset] [(.int (9 : Int32))]) A0 := fun t kont => g29 t (st30.trans kont)
    have g34 : Go p e below T30 (mkF m 108 #[iv p0, iv p1, iv p2, iv (0 : Int32), rv w_COMPLEXITY, iv n, iv (9 : Int32), iv (9 : Int32)] [(.int (1 : Int32))]) A0 := by
      intro t kont
      refine g33 t ?_
      refine XS.istore X30.here hx rfl (hb hby at_87) rfl (l' := #[iv p0, iv p1, iv p2, iv (0 : Int32), rv w_COMPLEXITY, iv n, iv (9 : Int32), iv (9 : Int32)]) rfl ?_
      show Steps p.tables e below (T30.setTop (mkF m 89 #[iv p0, iv p1, iv p2, iv (0 : Int32), rv w_COMPLEXITY, iv n, iv (9 : Int32), iv (9 : Int32)] [])) _
      refine XS.iload X30.here hx rfl (hb hby at_89) rfl ?_
      show Steps p.tables e below (T30.setTop (mkF m 91 #[iv p0, iv p1, iv p2, iv (0 : Int32), rv w_COMPLEXITY, iv n, iv (9 : Int32), iv (9 : Int32)] [(.int (9 : Int32))])) _
      refine XS.bipush X30.here hx rfl (hb hby at_91) ?_
      show Steps p.tables e below (T30.setTop (mkF m 93 #[iv p0, iv p1, iv p2, iv (0 : Int32), rv w_COMPLEXITY, iv n, iv (9 : Int32), iv (9 : Int32)] [(.int (9 : Int32)), (.int (9 : Int32))])) _
      refine XS.icmpNo X30.here hx rfl (hb hby at_93) rfl (teq (by decide : (9 : Int32) = (9 : Int32))).2 ?_
      show Steps p.tables e below (T30.setTop (mkF m 96 #[iv p0, iv p1, iv p2, iv (0 : Int32), rv w_COMPLEXITY, iv n, iv (9 : Int32), iv (9 : Int32)] [])) _
      refine XS.iload X30.here hx rfl (hb hby at_96) rfl ?_
      show Steps p.tables e below (T30.setTop (mkF m 98 #[iv p0, iv p1, iv p2, iv (0 : Int32), rv w_COMPLEXITY, iv n, iv (9 : Int32), iv (9 : Int32)] [(.int (9 : Int32))])) _
      refine XS.bipush X30.here hx rfl (hb hby at_98) ?_
      show Steps p.tables e below (T30.setTop (mkF m 100 #[iv p0, iv p1, iv p2, iv (0 : Int32), rv w_COMPLEXITY, iv n, iv (9 : Int32), iv (9 : Int32)] [(.int (9 : Int32)), (.int (9 : Int32))])) _
      refine XS.icmpNo X30.here hx rfl (hb hby at_100) rfl (teq (by decide : (9 : Int32) = (9 : Int32))).2 ?_
      show Steps p.tables e below (T30.setTop (mkF m 103 #[iv p0, iv p1, iv p2, iv (0 : Int32), rv w_COMPLEXITY, iv n, iv (9 : Int32), iv (9 : Int32)] [])) _
      refine XS.iconst X30.here hx rfl (hb hby at_103) ?_
      show Steps p.tables e below (T30.setTop (mkF m 104 #[iv p0, iv p1, iv p2, iv (0 : Int32), rv w_COMPLEXITY, iv n, iv (9 : Int32), iv (9 : Int32)] [(.int (1 : Int32))])) _
      refine XS.goto X30.here hx rfl (pc0 := 104) (pc' := 108) rfl (hb hby at_104) (by decide) (by decide) ?_
      show Steps p.tables e below (T30.setTop (mkF m 108 #[iv p0, iv p1, iv p2, iv (0 : Int32), rv w_COMPLEXITY, iv n, iv (9 : Int32), iv (9 : Int32)] [(.int (1 : Int32))])) _
      exact kont
    obtain ⟨fs, hr, hrun, hended, hW, hsame⟩ := X30.leave (v := some (.int (1 : Int32))) (fun h => by rw [Bd.returns] at h; cases h)
    refine ⟨_, _, g34 _ (retN X30 hx (t := .boolean) Bd.returns (by simp) (hb hby at_108) hr), hrun, hended, _, _, rfl, ?_, ⟨_, rfl⟩, hW, hsame.mono (by decide) (by decide)⟩
    show Q_law Z p0 p1 p2 w_COMPLEXITY w_DEPENDENCIES w_IMPORTANCE h0 n0 _ T30.heap _
    rw [e30]
    exact ⟨rfl, N30⟩
  have g36 : Go p e below s₁ (mkF m 19 #[iv p0, iv p1, iv p2, iv k, .unset, .unset, .unset, .unset] [(.int (1 : Int32)), (.int k)]) A0 := by
    intro t kont
    refine g4 t ?_
    refine XS.ifYes X0.here hx rfl (pc0 := 8) (pc' := 17) rfl (hb hby at_8) rfl ((if0 _ _).trans (feq c3).2) (by decide) (by decide) ?_
    show Steps p.tables e below (s₁.setTop (mkF m 17 #[iv p0, iv p1, iv p2, iv k, .unset, .unset, .unset, .unset] [])) _
    refine XS.iloadN X0.here hx rfl (hb hby at_17) rfl ?_
    show Steps p.tables e below (s₁.setTop (mkF m 18 #[iv p0, iv p1, iv p2, iv k, .unset, .unset, .unset, .unset] [(.int k)])) _
    refine XS.iconst X0.here hx rfl (hb hby at_18) ?_
    show Steps p.tables e below (s₁.setTop (mkF m 19 #[iv p0, iv p1, iv p2, iv k, .unset, .unset, .unset, .unset] [(.int (1 : Int32)), (.int k)])) _
    exact kont
  by_cases c35 : k = (1 : Int32)
  ·
    subst c35
    have g37 : Go p e below s₁ (mkF m 22 #[iv p0, iv p1, iv p2, iv (1 : Int32), .unset, .unset, .unset, .unset] []) A0 := by
      intro t kont
      refine g36 t ?_
      refine XS.icmpNo X0.here hx rfl (hb hby at_19) rfl (teq (rfl : (1 : Int32) = (1 : Int32))).2 ?_
      show Steps p.tables e below (s₁.setTop (mkF m 22 #[iv p0, iv p1, iv p2, iv (1 : Int32), .unset, .unset, .unset, .unset] [])) _
      exact kont
    have y38 : Sta Z h0 "com/example/evenhand/evenhand/Characteristic" "DEPENDENCIES" "Lcom/example/evenhand/evenhand/Characteristic;" (.ref w_DEPENDENCIES) := S1_.ext O0.2
    obtain ⟨T39, X39, e39, st39⟩ := getS2 X0 hx hZ hown (host := "") (Or.inl (hw _ (List.mem_of_getElem? (i := 11) rfl))) Via.refl e0 y38 (g := (mkF m 22 #[iv p0, iv p1, iv p2, iv (1 : Int32), .unset, .unset, .unset, .unset] [])) rfl (hb hby at_22)
    have g40 : Go p e below T39 (mkF m 25 #[iv p0, iv p1, iv p2, iv (1 : Int32), .unset, .unset, .unset, .unset] [(.ref w_DEPENDENCIES)]) A0 := fun t kont => g37 t (st39 t kont)
    have g41 : Go p e below T39 (mkF m 37 #[iv p0, iv p1, iv p2, iv (1 : Int32), rv w_DEPENDENCIES, .unset, .unset, .unset] [(.int (p1 &&& (2147483647 : Int32)))]) A0 := by
      intro t kont
      refine g40 t ?_
      refine XS.goto X39.here hx rfl (pc0 := 25) (pc' := 31) rfl (hb hby at_25) (by decide) (by decide) ?_
      show Steps p.tables e below (T39.setTop (mkF m 31 #[iv p0, iv p1, iv p2, iv (1 : Int32), .unset, .unset, .unset, .unset] [(.ref w_DEPENDENCIES)])) _
      refine XS.astore X39.here hx rfl (hb hby at_31) rfl rfl (l' := #[iv p0, iv p1, iv p2, iv (1 : Int32), rv w_DEPENDENCIES, .unset, .unset, .unset]) rfl ?_
      show Steps p.tables e below (T39.setTop (mkF m 33 #[iv p0, iv p1, iv p2, iv (1 : Int32), rv w_DEPENDENCIES, .unset, .unset, .unset] [])) _
      refine XS.iloadN X39.here hx rfl (hb hby at_33) rfl ?_
      show Steps p.tables e below (T39.setTop (mkF m 34 #[iv p0, iv p1, iv p2, iv (1 : Int32), rv w_DEPENDENCIES, .unset, .unset, .unset] [(.int p1)])) _
      refine X39.ldcInt hx hown (mvT hZ (hw _ (List.mem_of_getElem? (i := 0) rfl))) (g := (mkF m 34 #[iv p0, iv p1, iv p2, iv (1 : Int32), rv w_DEPENDENCIES, .unset, .unset, .unset] [(.int p1)])) rfl (hb hby at_34) _ ?_
      show Steps p.tables e below (T39.setTop (mkF m 36 #[iv p0, iv p1, iv p2, iv (1 : Int32), rv w_DEPENDENCIES, .unset, .unset, .unset] [(.int (2147483647 : Int32)), (.int p1)])) _
      refine XS.iand X39.here hx rfl (hb hby at_36) rfl ?_
      show Steps p.tables e below (T39.setTop (mkF m 37 #[iv p0, iv p1, iv p2, iv (1 : Int32), rv w_DEPENDENCIES, .unset, .unset, .unset] [(.int (p1 &&& (2147483647 : Int32)))])) _
      exact kont
    obtain ⟨n, e_n⟩ : ∃ z, z = (p1 &&& (2147483647 : Int32)) := ⟨_, rfl⟩
    have g42 : Go p e below T39 (mkF m 37 #[iv p0, iv p1, iv p2, iv (1 : Int32), rv w_DEPENDENCIES, .unset, .unset, .unset] [(.int n)]) A0 := by rw [e_n]; exact g41
    have g44 : Go p e below T39 (mkF m 41 #[iv p0, iv p1, iv p2, iv (1 : Int32), rv w_DEPENDENCIES, iv n, .unset, .unset] [(.int n)]) A0 := by
      intro t kont
      refine g42 t ?_
      refine XS.istore X39.here hx rfl (hb hby at_37) rfl (l' := #[iv p0, iv p1, iv p2, iv (1 : Int32), rv w_DEPENDENCIES, iv n, .unset, .unset]) rfl ?_
      show Steps p.tables e below (T39.setTop (mkF m 39 #[iv p0, iv p1, iv p2, iv (1 : Int32), rv w_DEPENDENCIES, iv n, .unset, .unset] [])) _
      refine XS.iload X39.here hx rfl (hb hby at_39) rfl ?_
      show Steps p.tables e below (T39.setTop (mkF m 41 #[iv p0, iv p1, iv p2, iv (1 : Int32), rv w_DEPENDENCIES, iv n, .unset, .unset] [(.int n)])) _
      exact kont
    by_cases c43 : n = (0 : Int32)
    ·
      have g45 : Go p e below T39 (mkF m 51 #[iv p0, iv p1, iv p2, iv (1 : Int32), rv w_DEPENDENCIES, iv (1 : Int32), .unset, .unset] [(.int (1 : Int32)), (.ref w_DEPENDENCIES)]) A0 := by
        intro t kont
        refine g44 t ?_
        refine XS.ifNo X39.here hx rfl (hb hby at_41) rfl ((if0 _ _).trans (teq c43).2) ?_
        show Steps p.tables e below (T39.setTop (mkF m 44 #[iv p0, iv p1, iv p2, iv (1 : Int32), rv w_DEPENDENCIES, iv n, .unset, .unset] [])) _
        refine XS.iconst X39.here hx rfl (hb hby at_44) ?_
        show Steps p.tables e below (T39.setTop (mkF m 45 #[iv p0, iv p1, iv p2, iv (1 : Int32), rv w_DEPENDENCIES, iv n, .unset, .unset] [(.int (1 : Int32))])) _
        refine XS.istore X39.here hx rfl (hb hby at_45) rfl (l' := #[iv p0, iv p1, iv p2, iv (1 : Int32), rv w_DEPENDENCIES, iv (1 : Int32), .unset, .unset]) rfl ?_
        show Steps p.tables e below (T39.setTop (mkF m 47 #[iv p0, iv p1, iv p2, iv (1 : Int32), rv w_DEPENDENCIES, iv (1 : Int32), .unset, .unset] [])) _
        refine XS.aload X39.here hx rfl (hb hby at_47) rfl rfl ?_
        show Steps p.tables e below (T39.setTop (mkF m 49 #[iv p0, iv p1, iv p2, iv (1 : Int32), rv w_DEPENDENCIES, iv (1 : Int32), .unset, .unset] [(.ref w_DEPENDENCIES)])) _
        refine XS.iload X39.here hx rfl (hb hby at_49) rfl ?_
        show Steps p.tables e below (T39.setTop (mkF m 51 #[iv p0, iv p1, iv p2, iv (1 : Int32), rv w_DEPENDENCIES, iv (1 : Int32), .unset, .unset] [(.int (1 : Int32)), (.ref w_DEPENDENCIES)])) _
        exact kont
      have y47 : Exa Z h0 w_DEPENDENCIES "com/example/evenhand/evenhand/Characteristic" := ZE4_.ext O0.2
      have y48 : Exa Z h0 w_DEPENDENCIES "com/example/evenhand/evenhand/Characteristic" := ZE4_.ext O0.2
      obtain ⟨cq46, kq46, q46a, q46b, q46c⟩ := isOf hZ e39 y48
      obtain ⟨_, _, ⟨T46, L46, k46, n46⟩, -, X46, ⟨Lc46, hQ46, l46, y46, z46⟩, st46⟩ := X39.virtualBack hx (y := (⟨"com/example/evenhand/evenhand/Characteristic", "max", "(I)I"⟩ : MethodName)) (z := (⟨"com/example/evenhand/evenhand/Characteristic", "max", "(I)I"⟩ : MethodName)) hown (mvT hZ (hw _ (List.mem_of_getElem? (i := 4) rfl))) (mvT hZ (hw _ (List.mem_of_getElem? (i := 5) rfl))) (notFace_of_selects (args := #[]) (mvT hZ (hw _ (List.mem_of_getElem? (i := 7) rfl)))) (mvT hZ (hw _ (List.mem_of_getElem? (i := 7) rfl))) (mvT hZ (hw _ (List.mem_of_getElem? (i := 6) rfl))) (by decide) (backOf (W := 0) (rm_maxD l Z a0 hw [] w_DEPENDENCIES (1 : Int32) h0 n0 O0 S1_) hZ (hw _ (List.mem_of_getElem? (i := 8) rfl)) (hw _ (List.mem_of_getElem? (i := 2) rfl)) (by decide) (by decide)) q46a q46c (g := (mkF m 51 #[iv p0, iv p1, iv p2, iv (1 : Int32), rv w_DEPENDENCIES, iv (1 : Int32), .unset, .unset] [(.int (1 : Int32)), (.ref w_DEPENDENCIES)])) rfl (by rw [hml]; rfl) (Steps.refl _) (argsL := [(.int (1 : Int32))]) (rest := []) (lenOf pd_0 rfl) rfl (by show 2 * 0 + _ ≤ _; exact Nat.le_of_eq rfl) (hb hby at_51) (fun _ _ => ⟨rfl, e39, (by decide : 0 + 0 ≤ _), (by decide : 0 + 0 ≤ _)⟩)
      dsimp only [Pt.U, Pt.locs, Pt.cells, Pt.slots] at X46 l46 y46 z46 st46 hQ46
      subst l46 y46 z46
      obtain ⟨rfl, M46, e46⟩ := hQ46
      have N46 := Fr.app N0 M46
      have g49 : Go p e below T46 (mkF m 54 #[iv p0, iv p1, iv p2, iv (1 : Int32), rv w_DEPENDENCIES, iv (1 : Int32), .unset, .unset] [(.int (0 : Int32))]) A0 := fun t kont => g45 t (st46.trans kont)
      have g50 : Go p e below T46 (mkF m 80 #[iv p0, iv p1, iv p2, iv (1 : Int32), rv w_DEPENDENCIES, iv (1 : Int32), iv (0 : Int32), .unset] [(.int (1 : Int32))]) A0 := by
        intro t kont
        refine g49 t ?_
        refine XS.istore X46.here hx rfl (hb hby at_54) rfl (l' := #[iv p0, iv p1, iv p2, iv (1 : Int32), rv w_DEPENDENCIES, iv (1 : Int32), iv (0 : Int32), .unset]) rfl ?_
        show Steps p.tables e below (T46.setTop (mkF m 56 #[iv p0, iv p1, iv p2, iv (1 : Int32), rv w_DEPENDENCIES, iv (1 : Int32), iv (0 : Int32), .unset] [])) _
        refine XS.iloadN X46.here hx rfl (hb hby at_56) rfl ?_
        show Steps p.tables e below (T46.setTop (mkF m 57 #[iv p0, iv p1, iv p2, iv (1 : Int32), rv w_DEPENDENCIES, iv (1 : Int32), iv (0 : Int32), .unset] [(.int (1 : Int32))])) _
        refine XS.iconst X46.here hx rfl (hb hby at_57) ?_
        show Steps p.tables e below (T46.setTop (mkF m 58 #[iv p0, iv p1, iv p2, iv (1 : Int32), rv w_DEPENDENCIES, iv (1 : Int32), iv (0 : Int32), .unset] [(.int (1 : Int32)), (.int (1 : Int32))])) _
        refine XS.icmpNo X46.here hx rfl (hb hby at_58) rfl (teq (by decide : (1 : Int32) = (1 : Int32))).2 ?_
        show Steps p.tables e below (T46.setTop (mkF m 61 #[iv p0, iv p1, iv p2, iv (1 : Int32), rv w_DEPENDENCIES, iv (1 : Int32), iv (0 : Int32), .unset] [])) _
        refine XS.iload X46.here hx rfl (hb hby at_61) rfl ?_
        show Steps p.tables e below (T46.setTop (mkF m 63 #[iv p0, iv p1, iv p2, iv (1 : Int32), rv w_DEPENDENCIES, iv (1 : Int32), iv (0 : Int32), .unset] [(.int (0 : Int32))])) _
        refine XS.ifNo X46.here hx rfl (hb hby at_63) rfl ((if0 _ _).trans (flt (by decide : ¬ ((0 : Int32) < (0 : Int32)))).1) ?_
        show Steps p.tables e below (T46.setTop (mkF m 66 #[iv p0, iv p1, iv p2, iv (1 : Int32), rv w_DEPENDENCIES, iv (1 : Int32), iv (0 : Int32), .unset] [])) _
        refine XS.iload X46.here hx rfl (hb hby at_66) rfl ?_
        show Steps p.tables e below (T46.setTop (mkF m 68 #[iv p0, iv p1, iv p2, iv (1 : Int32), rv w_DEPENDENCIES, iv (1 : Int32), iv (0 : Int32), .unset] [(.int (0 : Int32))])) _
        refine XS.iconst X46.here hx rfl (hb hby at_68) ?_
        show Steps p.tables e below (T46.setTop (mkF m 69 #[iv p0, iv p1, iv p2, iv (1 : Int32), rv w_DEPENDENCIES, iv (1 : Int32), iv (0 : Int32), .unset] [(.int (1 : Int32)), (.int (0 : Int32))])) _
        refine XS.iadd X46.here hx rfl (hb hby at_69) rfl ?_
        show Steps p.tables e below (T46.setTop (mkF m 70 #[iv p0, iv p1, iv p2, iv (1 : Int32), rv w_DEPENDENCIES, iv (1 : Int32), iv (0 : Int32), .unset] [(.int (1 : Int32))])) _
        refine XS.iload X46.here hx rfl (hb hby at_70) rfl ?_
        show Steps p.tables e below (T46.setTop (mkF m 72 #[iv p0, iv p1, iv p2, iv (1 : Int32), rv w_DEPENDENCIES, iv (1 : Int32), iv (0 : Int32), .unset] [(.int (1 : Int32)), (.int (1 : Int32))])) _
        refine XS.icmpNo X46.here hx rfl (hb hby at_72) rfl (teq (by decide : (1 : Int32) = (1 : Int32))).2 ?_
        show Steps p.tables e below (T46.setTop (mkF m 75 #[iv p0, iv p1, iv p2, iv (1 : Int32), rv w_DEPENDENCIES, iv (1 : Int32), iv (0 : Int32), .unset] [])) _
        refine XS.iconst X46.here hx rfl (hb hby at_75) ?_
        show Steps p.tables e below (T46.setTop (mkF m 76 #[iv p0, iv p1, iv p2, iv (1 : Int32), rv w_DEPENDENCIES, iv (1 : Int32), iv (0 : Int32), .unset] [(.int (1 : Int32))])) _
        refine XS.goto X46.here hx rfl (pc0 := 76) (pc' := 80) rfl (hb hby at_76) (by decide) (by decide) ?_
        show Steps p.tables e below (T46.setTop (mkF m 80 #[iv p0, iv p1, iv p2, iv (1 : Int32), rv w_DEPENDENCIES, iv (1 : Int32), iv (0 : Int32), .unset] [(.int (1 : Int32))])) _
        exact kont
      obtain ⟨fs, hr, hrun, hended, hW, hsame⟩ := X46.leave (v := some (.int (1 : Int32))) (fun h => by rw [Bd.returns] at h; cases h)
      refine ⟨_, _, g50 _ (retN X46 hx (t := .boolean) Bd.returns (by simp) (hb hby at_80) hr), hrun, hended, _, _, rfl, ?_, ⟨_, rfl⟩, hW, hsame.mono (by decide) (by decide)⟩
      show Q_law Z p0 p1 p2 w_COMPLEXITY w_DEPENDENCIES w_IMPORTANCE h0 n0 _ T46.heap _
      rw [e46]
      exact ⟨rfl, N46⟩
    have g51 : Go p e below T39 (mkF m 51 #[iv p0, iv p1, iv p2, iv (1 : Int32), rv w_DEPENDENCIES, iv n, .unset, .unset] [(.int n), (.ref w_DEPENDENCIES)]) A0 := by
      intro t kont
      refine g44 t ?_
      refine XS.ifYes X39.here hx rfl (pc0 := 41) (pc' := 47) rfl (hb hby at_41) rfl ((if0 _ _).trans (feq c43).2) (by decide) (by decide) ?_
      show Steps p.tables e below (T39.setTop (mkF m 47 #[iv p0, iv p1, iv p2, iv (1 : Int32), rv w_DEPENDENCIES, iv n, .unset, .unset] [])) _
      refine XS.aload X39.here hx rfl (hb hby at_47) rfl rfl ?_
      show Steps p.tables e below (T39.setTop (mkF m 49 #[iv p0, iv p1, iv p2, iv (1 : Int32), rv w_DEPENDENCIES, iv n, .unset, .unset] [(.ref w_DEPENDENCIES)])) _
      refine XS.iload X39.here hx rfl (hb hby at_49) rfl ?_
      show Steps p.tables e below (T39.setTop (mkF m 51 #[iv p0, iv p1, iv p2, iv (1 : Int32), rv w_DEPENDENCIES, iv n, .unset, .unset] [(.int n), (.ref w_DEPENDENCIES)])) _
      exact kont
    have y53 : Exa Z h0 w_DEPENDENCIES "com/example/evenhand/evenhand/Characteristic" := ZE4_.ext O0.2
    have y54 : Exa Z h0 w_DEPENDENCIES "com/example/evenhand/evenhand/Characteristic" := ZE4_.ext O0.2
    obtain ⟨cq52, kq52, q52a, q52b, q52c⟩ := isOf hZ e39 y54
    obtain ⟨_, _, ⟨T52, L52, k52, n52⟩, -, X52, ⟨Lc52, hQ52, l52, y52, z52⟩, st52⟩ := X39.virtualBack hx (y := (⟨"com/example/evenhand/evenhand/Characteristic", "max", "(I)I"⟩ : MethodName)) (z := (⟨"com/example/evenhand/evenhand/Characteristic", "max", "(I)I"⟩ : MethodName)) hown (mvT hZ (hw _ (List.mem_of_getElem? (i := 4) rfl))) (mvT hZ (hw _ (List.mem_of_getElem? (i := 5) rfl))) (notFace_of_selects (args := #[]) (mvT hZ (hw _ (List.mem_of_getElem? (i := 7) rfl)))) (mvT hZ (hw _ (List.mem_of_getElem? (i := 7) rfl))) (mvT hZ (hw _ (List.mem_of_getElem? (i := 6) rfl))) (by decide) (backOf (W := 0) (rm_maxD l Z a0 hw [] w_DEPENDENCIES n h0 n0 O0 S1_) hZ (hw _ (List.mem_of_getElem? (i := 8) rfl)) (hw _ (List.mem_of_getElem? (i := 2) rfl)) (by decide) (by decide)) q52a q52c (g := (mkF m 51 #[iv p0, iv p1, iv p2, iv (1 : Int32), rv w_DEPENDENCIES, iv n, .unset, .unset] [(.int n), (.ref w_DEPENDENCIES)])) rfl (by rw [hml]; rfl) (Steps.refl _) (argsL := [(.int n)]) (rest := []) (lenOf pd_0 rfl) rfl (by show 2 * 0 + _ ≤ _; exact Nat.le_of_eq rfl) (hb hby at_51) (fun _ _ => ⟨rfl, e39, (by decide : 0 + 0 ≤ _), (by decide : 0 + 0 ≤ _)⟩)
    dsimp only [Pt.U, Pt.locs, Pt.cells, Pt.slots] at X52 l52 y52 z52 st52 hQ52
    subst l52 y52 z52
    obtain ⟨rfl, M52, e52⟩ := hQ52
    have N52 := Fr.app N0 M52
    have g55 : Go p e below T52 (mkF m 54 #[iv p0, iv p1, iv p2, iv (1 : Int32), rv w_DEPENDENCIES, iv n, .unset, .unset] [(.int (n - (1 : Int32)))]) A0 := fun t kont => g51 t (st52.trans kont)
    have g56 : Go p e below T52 (mkF m 80 #[iv p0, iv p1, iv p2, iv (1 : Int32), rv w_DEPENDENCIES, iv n, iv (n - (1 : Int32)), .unset] [(.int (1 : Int32))]) A0 := by
      intro t kont
      refine g55 t ?_
      refine XS.istore X52.here hx rfl (hb hby at_54) rfl (l' := #[iv p0, iv p1, iv p2, iv (1 : Int32), rv w_DEPENDENCIES, iv n, iv (n - (1 : Int32)), .unset]) rfl ?_
      show Steps p.tables e below (T52.setTop (mkF m 56 #[iv p0, iv p1, iv p2, iv (1 : Int32), rv w_DEPENDENCIES, iv n, iv (n - (1 : Int32)), .unset] [])) _
      refine XS.iloadN X52.here hx rfl (hb hby at_56) rfl ?_
      show Steps p.tables e below (T52.setTop (mkF m 57 #[iv p0, iv p1, iv p2, iv (1 : Int32), rv w_DEPENDENCIES, iv n, iv (n - (1 : Int32)), .unset] [(.int (1 : Int32))])) _
      refine XS.iconst X52.here hx rfl (hb hby at_57) ?_
      show Steps p.tables e below (T52.setTop (mkF m 58 #[iv p0, iv p1, iv p2, iv (1 : Int32), rv w_DEPENDENCIES, iv n, iv (n - (1 : Int32)), .unset] [(.int (1 : Int32)), (.int (1 : Int32))])) _
      refine XS.icmpNo X52.here hx rfl (hb hby at_58) rfl (teq (by decide : (1 : Int32) = (1 : Int32))).2 ?_
      show Steps p.tables e below (T52.setTop (mkF m 61 #[iv p0, iv p1, iv p2, iv (1 : Int32), rv w_DEPENDENCIES, iv n, iv (n - (1 : Int32)), .unset] [])) _
      refine XS.iload X52.here hx rfl (hb hby at_61) rfl ?_
      show Steps p.tables e below (T52.setTop (mkF m 63 #[iv p0, iv p1, iv p2, iv (1 : Int32), rv w_DEPENDENCIES, iv n, iv (n - (1 : Int32)), .unset] [(.int (n - (1 : Int32)))])) _
      refine XS.ifNo X52.here hx rfl (hb hby at_63) rfl ((if0 _ _).trans (flt (own_ge (p := p1) e_n c43 : ¬ ((n - (1 : Int32)) < (0 : Int32)))).1) ?_
      show Steps p.tables e below (T52.setTop (mkF m 66 #[iv p0, iv p1, iv p2, iv (1 : Int32), rv w_DEPENDENCIES, iv n, iv (n - (1 : Int32)), .unset] [])) _
      refine XS.iload X52.here hx rfl (hb hby at_66) rfl ?_
      show Steps p.tables e below (T52.setTop (mkF m 68 #[iv p0, iv p1, iv p2, iv (1 : Int32), rv w_DEPENDENCIES, iv n, iv (n - (1 : Int32)), .unset] [(.int (n - (1 : Int32)))])) _
      refine XS.iconst X52.here hx rfl (hb hby at_68) ?_
      show Steps p.tables e below (T52.setTop (mkF m 69 #[iv p0, iv p1, iv p2, iv (1 : Int32), rv w_DEPENDENCIES, iv n, iv (n - (1 : Int32)), .unset] [(.int (1 : Int32)), (.int (n - (1 : Int32)))])) _
      refine XS.iadd X52.here hx rfl (hb hby at_69) rfl ?_
      show Steps p.tables e below (T52.setTop (mkF m 70 #[iv p0, iv p1, iv p2, iv (1 : Int32), rv w_DEPENDENCIES, iv n, iv (n - (1 : Int32)), .unset] [(.int ((n - (1 : Int32)) + (1 : Int32)))])) _
      refine XS.iload X52.here hx rfl (hb hby at_70) rfl ?_
      show Steps p.tables e below (T52.setTop (mkF m 72 #[iv p0, iv p1, iv p2, iv (1 : Int32), rv w_DEPENDENCIES, iv n, iv (n - (1 : Int32)), .unset] [(.int n), (.int ((n - (1 : Int32)) + (1 : Int32)))])) _
      refine XS.icmpNo X52.here hx rfl (hb hby at_72) rfl (teq (own_back n : ((n - (1 : Int32)) + (1 : Int32)) = n)).2 ?_
      show Steps p.tables e below (T52.setTop (mkF m 75 #[iv p0, iv p1, iv p2, iv (1 : Int32), rv w_DEPENDENCIES, iv n, iv (n - (1 : Int32)), .unset] [])) _
      refine XS.iconst X52.here hx rfl (hb hby at_75) ?_
      show Steps p.tables e below (T52.setTop (mkF m 76 #[iv p0, iv p1, iv p2, iv (1 : Int32), rv w_DEPENDENCIES, iv n, iv (n - (1 : Int32)), .unset] [(.int (1 : Int32))])) _
      refine XS.goto X52.here hx rfl (pc0 := 76) (pc' := 80) rfl (hb hby at_76) (by decide) (by decide) ?_
      show Steps p.tables e below (T52.setTop (mkF m 80 #[iv p0, iv p1, iv p2, iv (1 : Int32), rv w_DEPENDENCIES, iv n, iv (n - (1 : Int32)), .unset] [(.int (1 : Int32))])) _
      exact kont
    obtain ⟨fs, hr, hrun, hended, hW, hsame⟩ := X52.leave (v := some (.int (1 : Int32))) (fun h => by rw [Bd.returns] at h; cases h)
    refine ⟨_, _, g56 _ (retN X52 hx (t := .boolean) Bd.returns (by simp) (hb hby at_80) hr), hrun, hended, _, _, rfl, ?_, ⟨_, rfl⟩, hW, hsame.mono (by decide) (by decide)⟩
    show Q_law Z p0 p1 p2 w_COMPLEXITY w_DEPENDENCIES w_IMPORTANCE h0 n0 _ T52.heap _
    rw [e52]
    exact ⟨rfl, N52⟩
  have g57 : Go p e below s₁ (mkF m 28 #[iv p0, iv p1, iv p2, iv k, .unset, .unset, .unset, .unset] []) A0 := by
    intro t kont
    refine g36 t ?_
    refine XS.icmpYes X0.here hx rfl (pc0 := 19) (pc' := 28) rfl (hb hby at_19) rfl (feq c35).2 (by decide) (by decide) ?_
    show Steps p.tables e below (s₁.setTop (mkF m 28 #[iv p0, iv p1, iv p2, iv k, .unset, .unset, .unset, .unset] [])) _
    exact kont
  have y58 : Sta Z h0 "com/example/evenhand/evenhand/Characteristic" "IMPORTANCE" "Lcom/example/evenhand/evenhand/Characteristic;" (.ref w_IMPORTANCE) := S2_.ext O0.2
  obtain ⟨T59, X59, e59, st59⟩ := getS2 X0 hx hZ hown (host := "") (Or.inl (hw _ (List.mem_of_getElem? (i := 12) rfl))) Via.refl e0 y58 (g := (mkF m 28 #[iv p0, iv p1, iv p2, iv k, .unset, .unset, .unset, .unset] [])) rfl (hb hby at_28)
  have g60 : Go p e below T59 (mkF m 31 #[iv p0, iv p1, iv p2, iv k, .unset, .unset, .unset, .unset] [(.ref w_IMPORTANCE)]) A0 := fun t kont => g57 t (st59 t kont)
  have g61 : Go p e below T59 (mkF m 37 #[iv p0, iv p1, iv p2, iv k, rv w_IMPORTANCE, .unset, .unset, .unset] [(.int (p1 &&& (2147483647 : Int32)))]) A0 := by
    intro t kont
    refine g60 t ?_
    refine XS.astore X59.here hx rfl (hb hby at_31) rfl rfl (l' := #[iv p0, iv p1, iv p2, iv k, rv w_IMPORTANCE, .unset, .unset, .unset]) rfl ?_
    show Steps p.tables e below (T59.setTop (mkF m 33 #[iv p0, iv p1, iv p2, iv k, rv w_IMPORTANCE, .unset, .unset, .unset] [])) _
    refine XS.iloadN X59.here hx rfl (hb hby at_33) rfl ?_
    show Steps p.tables e below (T59.setTop (mkF m 34 #[iv p0, iv p1, iv p2, iv k, rv w_IMPORTANCE, .unset, .unset, .unset] [(.int p1)])) _
    refine X59.ldcInt hx hown (mvT hZ (hw _ (List.mem_of_getElem? (i := 0) rfl))) (g := (mkF m 34 #[iv p0, iv p1, iv p2, iv k, rv w_IMPORTANCE, .unset, .unset, .unset] [(.int p1)])) rfl (hb hby at_34) _ ?_
    show Steps p.tables e below (T59.setTop (mkF m 36 #[iv p0, iv p1, iv p2, iv k, rv w_IMPORTANCE, .unset, .unset, .unset] [(.int (2147483647 : Int32)), (.int p1)])) _
    refine XS.iand X59.here hx rfl (hb hby at_36) rfl ?_
    show Steps p.tables e below (T59.setTop (mkF m 37 #[iv p0, iv p1, iv p2, iv k, rv w_IMPORTANCE, .unset, .unset, .unset] [(.int (p1 &&& (2147483647 : Int32)))])) _
    exact kont
  obtain ⟨n, e_n⟩ : ∃ z, z = (p1 &&& (2147483647 : Int32)) := ⟨_, rfl⟩
  have g62 : Go p e below T59 (mkF m 37 #[iv p0, iv p1, iv p2, iv k, rv w_IMPORTANCE, .unset, .unset, .unset] [(.int n)]) A0 := by rw [e_n]; exact g61
  have g64 : Go p e below T59 (mkF m 41 #[iv p0, iv p1, iv p2, iv k, rv w_IMPORTANCE, iv n, .unset, .unset] [(.int n)]) A0 := by
    intro t kont
    refine g62 t ?_
    refine XS.istore X59.here hx rfl (hb hby at_37) rfl (l' := #[iv p0, iv p1, iv p2, iv k, rv w_IMPORTANCE, iv n, .unset, .unset]) rfl ?_
    show Steps p.tables e below (T59.setTop (mkF m 39 #[iv p0, iv p1, iv p2, iv k, rv w_IMPORTANCE, iv n, .unset, .unset] [])) _
    refine XS.iload X59.here hx rfl (hb hby at_39) rfl ?_
    show Steps p.tables e below (T59.setTop (mkF m 41 #[iv p0, iv p1, iv p2, iv k, rv w_IMPORTANCE, iv n, .unset, .unset] [(.int n)])) _
    exact kont
  by_cases c63 : n = (0 : Int32)
  ·
    have g65 : Go p e below T59 (mkF m 51 #[iv p0, iv p1, iv p2, iv k, rv w_IMPORTANCE, iv (1 : Int32), .unset, .unset] [(.int (1 : Int32)), (.ref w_IMPORTANCE)]) A0 := by
      intro t kont
      refine g64 t ?_
      refine XS.ifNo X59.here hx rfl (hb hby at_41) rfl ((if0 _ _).trans (teq c63).2) ?_
      show Steps p.tables e below (T59.setTop (mkF m 44 #[iv p0, iv p1, iv p2, iv k, rv w_IMPORTANCE, iv n, .unset, .unset] [])) _
      refine XS.iconst X59.here hx rfl (hb hby at_44) ?_
      show Steps p.tables e below (T59.setTop (mkF m 45 #[iv p0, iv p1, iv p2, iv k, rv w_IMPORTANCE, iv n, .unset, .unset] [(.int (1 : Int32))])) _
      refine XS.istore X59.here hx rfl (hb hby at_45) rfl (l' := #[iv p0, iv p1, iv p2, iv k, rv w_IMPORTANCE, iv (1 : Int32), .unset, .unset]) rfl ?_
      show Steps p.tables e below (T59.setTop (mkF m 47 #[iv p0, iv p1, iv p2, iv k, rv w_IMPORTANCE, iv (1 : Int32), .unset, .unset] [])) _
      refine XS.aload X59.here hx rfl (hb hby at_47) rfl rfl ?_
      show Steps p.tables e below (T59.setTop (mkF m 49 #[iv p0, iv p1, iv p2, iv k, rv w_IMPORTANCE, iv (1 : Int32), .unset, .unset] [(.ref w_IMPORTANCE)])) _
      refine XS.iload X59.here hx rfl (hb hby at_49) rfl ?_
      show Steps p.tables e below (T59.setTop (mkF m 51 #[iv p0, iv p1, iv p2, iv k, rv w_IMPORTANCE, iv (1 : Int32), .unset, .unset] [(.int (1 : Int32)), (.ref w_IMPORTANCE)])) _
      exact kont
    have y67 : Exa Z h0 w_IMPORTANCE "com/example/evenhand/evenhand/Characteristic" := ZE5_.ext O0.2
    have y68 : Exa Z h0 w_IMPORTANCE "com/example/evenhand/evenhand/Characteristic" := ZE5_.ext O0.2
    obtain ⟨cq66, kq66, q66a, q66b, q66c⟩ := isOf hZ e59 y68
    obtain ⟨_, _, ⟨T66, L66, k66, n66⟩, -, X66, ⟨Lc66, hQ66, l66, y66, z66⟩, st66⟩ := X59.virtualBack hx (y := (⟨"com/example/evenhand/evenhand/Characteristic", "max", "(I)I"⟩ : MethodName)) (z := (⟨"com/example/evenhand/evenhand/Characteristic", "max", "(I)I"⟩ : MethodName)) hown (mvT hZ (hw _ (List.mem_of_getElem? (i := 4) rfl))) (mvT hZ (hw _ (List.mem_of_getElem? (i := 5) rfl))) (notFace_of_selects (args := #[]) (mvT hZ (hw _ (List.mem_of_getElem? (i := 7) rfl)))) (mvT hZ (hw _ (List.mem_of_getElem? (i := 7) rfl))) (mvT hZ (hw _ (List.mem_of_getElem? (i := 6) rfl))) (by decide) (backOf (W := 0) (rm_maxN l Z a0 hw [] w_IMPORTANCE (1 : Int32) w_DEPENDENCIES h0 n0 O0 S1_ NE7_) hZ (hw _ (List.mem_of_getElem? (i := 8) rfl)) (hw _ (List.mem_of_getElem? (i := 2) rfl)) (by decide) (by decide)) q66a q66c (g := (mkF m 51 #[iv p0, iv p1, iv p2, iv k, rv w_IMPORTANCE, iv (1 : Int32), .unset, .unset] [(.int (1 : Int32)), (.ref w_IMPORTANCE)])) rfl (by rw [hml]; rfl) (Steps.refl _) (argsL := [(.int (1 : Int32))]) (rest := []) (lenOf pd_0 rfl) rfl (by show 2 * 0 + _ ≤ _; exact Nat.le_of_eq rfl) (hb hby at_51) (fun _ _ => ⟨rfl, e59, (by decide : 0 + 0 ≤ _), (by decide : 0 + 0 ≤ _)⟩)
    dsimp only [Pt.U, Pt.locs, Pt.cells, Pt.slots] at X66 l66 y66 z66 st66 hQ66
    subst l66 y66 z66
    obtain ⟨rfl, M66, e66⟩ := hQ66
    have N66 := Fr.app N0 M66
    have g69 : Go p e below T66 (mkF m 54 #[iv p0, iv p1, iv p2, iv k, rv w_IMPORTANCE, iv (1 : Int32), .unset, .unset] [(.int (9 : Int32))]) A0 := fun t kont => g65 t (st66.trans kont)
    have g70 : Go p e below T66 (mkF m 84 #[iv p0, iv p1, iv p2, iv k, rv w_IMPORTANCE, iv (1 : Int32), iv (9 : Int32), .unset] [(.int p2), (.ref w_IMPORTANCE)]) A0 := by
      intro t kont
      refine g69 t ?_
      refine XS.istore X66.here hx rfl (hb hby at_54) rfl (l' := #[iv p0, iv p1, iv p2, iv k, rv w_IMPORTANCE, iv (1 : Int32), iv (9 : Int32), .unset]) rfl ?_
      show Steps p.tables e below (T66.setTop (mkF m 56 #[iv p0, iv p1, iv p2, iv k, rv w_IMPORTANCE, iv (1 : Int32), iv (9 : Int32), .unset] [])) _
      refine XS.iloadN X66.here hx rfl (hb hby at_56) rfl ?_
      show Steps p.tables e below (T66.setTop (mkF m 57 #[iv p0, iv p1, iv p2, iv k, rv w_IMPORTANCE, iv (1 : Int32), iv (9 : Int32), .unset] [(.int k)])) _
      refine XS.iconst X66.here hx rfl (hb hby at_57) ?_
      show Steps p.tables e below (T66.setTop (mkF m 58 #[iv p0, iv p1, iv p2, iv k, rv w_IMPORTANCE, iv (1 : Int32), iv (9 : Int32), .unset] [(.int (1 : Int32)), (.int k)])) _
      refine XS.icmpYes X66.here hx rfl (pc0 := 58) (pc' := 81) rfl (hb hby at_58) rfl (feq c35).2 (by decide) (by decide) ?_
      show Steps p.tables e below (T66.setTop (mkF m 81 #[iv p0, iv p1, iv p2, iv k, rv w_IMPORTANCE, iv (1 : Int32), iv (9 : Int32), .unset] [])) _
      refine XS.aload X66.here hx rfl (hb hby at_81) rfl rfl ?_
      show Steps p.tables e below (T66.setTop (mkF m 83 #[iv p0, iv p1, iv p2, iv k, rv w_IMPORTANCE, iv (1 : Int32), iv (9 : Int32), .unset] [(.ref w_IMPORTANCE)])) _
      refine XS.iloadN X66.here hx rfl (hb hby at_83) rfl ?_
      show Steps p.tables e below (T66.setTop (mkF m 84 #[iv p0, iv p1, iv p2, iv k, rv w_IMPORTANCE, iv (1 : Int32), iv (9 : Int32), .unset] [(.int p2), (.ref w_IMPORTANCE)])) _
      exact kont
    have y72 : Exa Z h0 w_IMPORTANCE "com/example/evenhand/evenhand/Characteristic" := ZE5_.ext O0.2
    have y73 : Exa Z h0 w_IMPORTANCE "com/example/evenhand/evenhand/Characteristic" := ZE5_.ext O0.2
    obtain ⟨cq71, kq71, q71a, q71b, q71c⟩ := isOf hZ e66 y73
    obtain ⟨_, _, ⟨T71, L71, k71, n71⟩, -, X71, ⟨Lc71, hQ71, l71, y71, z71⟩, st71⟩ := X66.virtualBack hx (y := (⟨"com/example/evenhand/evenhand/Characteristic", "max", "(I)I"⟩ : MethodName)) (z := (⟨"com/example/evenhand/evenhand/Characteristic", "max", "(I)I"⟩ : MethodName)) hown (mvT hZ (hw _ (List.mem_of_getElem? (i := 4) rfl))) (mvT hZ (hw _ (List.mem_of_getElem? (i := 5) rfl))) (notFace_of_selects (args := #[]) (mvT hZ (hw _ (List.mem_of_getElem? (i := 7) rfl)))) (mvT hZ (hw _ (List.mem_of_getElem? (i := 7) rfl))) (mvT hZ (hw _ (List.mem_of_getElem? (i := 6) rfl))) (by decide) (backOf (W := 0) (rm_maxN l Z a0 hw [] w_IMPORTANCE p2 w_DEPENDENCIES h0 n0 O0 S1_ NE7_) hZ (hw _ (List.mem_of_getElem? (i := 8) rfl)) (hw _ (List.mem_of_getElem? (i := 2) rfl)) (by decide) (by decide)) q71a q71c (g := (mkF m 84 #[iv p0, iv p1, iv p2, iv k, rv w_IMPORTANCE, iv (1 : Int32), iv (9 : Int32), .unset] [(.int p2), (.ref w_IMPORTANCE)])) rfl (by rw [hml]; rfl) (Steps.refl _) (argsL := [(.int p2)]) (rest := []) (lenOf pd_0 rfl) rfl (by show 2 * 0 + _ ≤ _; exact Nat.le_of_eq rfl) (hb hby at_84) (fun _ _ => ⟨rfl, e66, (by decide : 0 + 0 ≤ _), (by decide : 0 + 0 ≤ _)⟩)
    dsimp only [Pt.U, Pt.locs, Pt.cells, Pt.slots] at X71 l71 y71 z71 st71 hQ71
    subst l71 y71 z71
    obtain ⟨rfl, M71, e71⟩ := hQ71
    have N71 := Fr.app N66 M71
    have g74 : Go p e below T71 (mkF m 87 #[iv p0, iv p1, iv p2, iv k, rv w_IMPORTANCE, iv (1 : Int32), iv (9 : Int32), .unset] [(.int (9 : Int32))]) A0 := fun t kont => g70 t (st71.trans kont)
    have g75 : Go p e below T71 (mkF m 108 #[iv p0, iv p1, iv p2, iv k, rv w_IMPORTANCE, iv (1 : Int32), iv (9 : Int32), iv (9 : Int32)] [(.int (1 : Int32))]) A0 := by
      intro t kont
      refine g74 t ?_
      refine XS.istore X71.here hx rfl (hb hby at_87) rfl (l' := #[iv p0, iv p1, iv p2, iv k, rv w_IMPORTANCE, iv (1 : Int32), iv (9 : Int32), iv (9 : Int32)]) rfl ?_
      show Steps p.tables e below (T71.setTop (mkF m 89 #[iv p0, iv p1, iv p2, iv k, rv w_IMPORTANCE, iv (1 : Int32), iv (9 : Int32), iv (9 : Int32)] [])) _
      refine XS.iload X71.here hx rfl (hb hby at_89) rfl ?_
      show Steps p.tables e below (T71.setTop (mkF m 91 #[iv p0, iv p1, iv p2, iv k, rv w_IMPORTANCE, iv (1 : Int32), iv (9 : Int32), iv (9 : Int32)] [(.int (9 : Int32))])) _
      refine XS.bipush X71.here hx rfl (hb hby at_91) ?_
      show Steps p.tables e below (T71.setTop (mkF m 93 #[iv p0, iv p1, iv p2, iv k, rv w_IMPORTANCE, iv (1 : Int32), iv (9 : Int32), iv (9 : Int32)] [(.int (9 : Int32)), (.int (9 : Int32))])) _
      refine XS.icmpNo X71.here hx rfl (hb hby at_93) rfl (teq (by decide : (9 : Int32) = (9 : Int32))).2 ?_
      show Steps p.tables e below (T71.setTop (mkF m 96 #[iv p0, iv p1, iv p2, iv k, rv w_IMPORTANCE, iv (1 : Int32), iv (9 : Int32), iv (9 : Int32)] [])) _
      refine XS.iload X71.here hx rfl (hb hby at_96) rfl ?_
      show Steps p.tables e below (T71.setTop (mkF m 98 #[iv p0, iv p1, iv p2, iv k, rv w_IMPORTANCE, iv (1 : Int32), iv (9 : Int32), iv (9 : Int32)] [(.int (9 : Int32))])) _
      refine XS.bipush X71.here hx rfl (hb hby at_98) ?_
      show Steps p.tables e below (T71.setTop (mkF m 100 #[iv p0, iv p1, iv p2, iv k, rv w_IMPORTANCE, iv (1 : Int32), iv (9 : Int32), iv (9 : Int32)] [(.int (9 : Int32)), (.int (9 : Int32))])) _
      refine XS.icmpNo X71.here hx rfl (hb hby at_100) rfl (teq (by decide : (9 : Int32) = (9 : Int32))).2 ?_
      show Steps p.tables e below (T71.setTop (mkF m 103 #[iv p0, iv p1, iv p2, iv k, rv w_IMPORTANCE, iv (1 : Int32), iv (9 : Int32), iv (9 : Int32)] [])) _
      refine XS.iconst X71.here hx rfl (hb hby at_103) ?_
      show Steps p.tables e below (T71.setTop (mkF m 104 #[iv p0, iv p1, iv p2, iv k, rv w_IMPORTANCE, iv (1 : Int32), iv (9 : Int32), iv (9 : Int32)] [(.int (1 : Int32))])) _
      refine XS.goto X71.here hx rfl (pc0 := 104) (pc' := 108) rfl (hb hby at_104) (by decide) (by decide) ?_
      show Steps p.tables e below (T71.setTop (mkF m 108 #[iv p0, iv p1, iv p2, iv k, rv w_IMPORTANCE, iv (1 : Int32), iv (9 : Int32), iv (9 : Int32)] [(.int (1 : Int32))])) _
      exact kont
    obtain ⟨fs, hr, hrun, hended, hW, hsame⟩ := X71.leave (v := some (.int (1 : Int32))) (fun h => by rw [Bd.returns] at h; cases h)
    refine ⟨_, _, g75 _ (retN X71 hx (t := .boolean) Bd.returns (by simp) (hb hby at_108) hr), hrun, hended, _, _, rfl, ?_, ⟨_, rfl⟩, hW, hsame.mono (by decide) (by decide)⟩
    show Q_law Z p0 p1 p2 w_COMPLEXITY w_DEPENDENCIES w_IMPORTANCE h0 n0 _ T71.heap _
    rw [e71]
    exact ⟨rfl, N71⟩
  have g76 : Go p e below T59 (mkF m 51 #[iv p0, iv p1, iv p2, iv k, rv w_IMPORTANCE, iv n, .unset, .unset] [(.int n), (.ref w_IMPORTANCE)]) A0 := by
    intro t kont
    refine g64 t ?_
    refine XS.ifYes X59.here hx rfl (pc0 := 41) (pc' := 47) rfl (hb hby at_41) rfl ((if0 _ _).trans (feq c63).2) (by decide) (by decide) ?_
    show Steps p.tables e below (T59.setTop (mkF m 47 #[iv p0, iv p1, iv p2, iv k, rv w_IMPORTANCE, iv n, .unset, .unset] [])) _
    refine XS.aload X59.here hx rfl (hb hby at_47) rfl rfl ?_
    show Steps p.tables e below (T59.setTop (mkF m 49 #[iv p0, iv p1, iv p2, iv k, rv w_IMPORTANCE, iv n, .unset, .unset] [(.ref w_IMPORTANCE)])) _
    refine XS.iload X59.here hx rfl (hb hby at_49) rfl ?_
    show Steps p.tables e below (T59.setTop (mkF m 51 #[iv p0, iv p1, iv p2, iv k, rv w_IMPORTANCE, iv n, .unset, .unset] [(.int n), (.ref w_IMPORTANCE)])) _
    exact kont
  have y78 : Exa Z h0 w_IMPORTANCE "com/example/evenhand/evenhand/Characteristic" := ZE5_.ext O0.2
  have y79 : Exa Z h0 w_IMPORTANCE "com/example/evenhand/evenhand/Characteristic" := ZE5_.ext O0.2
  obtain ⟨cq77, kq77, q77a, q77b, q77c⟩ := isOf hZ e59 y79
  obtain ⟨_, _, ⟨T77, L77, k77, n77⟩, -, X77, ⟨Lc77, hQ77, l77, y77, z77⟩, st77⟩ := X59.virtualBack hx (y := (⟨"com/example/evenhand/evenhand/Characteristic", "max", "(I)I"⟩ : MethodName)) (z := (⟨"com/example/evenhand/evenhand/Characteristic", "max", "(I)I"⟩ : MethodName)) hown (mvT hZ (hw _ (List.mem_of_getElem? (i := 4) rfl))) (mvT hZ (hw _ (List.mem_of_getElem? (i := 5) rfl))) (notFace_of_selects (args := #[]) (mvT hZ (hw _ (List.mem_of_getElem? (i := 7) rfl)))) (mvT hZ (hw _ (List.mem_of_getElem? (i := 7) rfl))) (mvT hZ (hw _ (List.mem_of_getElem? (i := 6) rfl))) (by decide) (backOf (W := 0) (rm_maxN l Z a0 hw [] w_IMPORTANCE n w_DEPENDENCIES h0 n0 O0 S1_ NE7_) hZ (hw _ (List.mem_of_getElem? (i := 8) rfl)) (hw _ (List.mem_of_getElem? (i := 2) rfl)) (by decide) (by decide)) q77a q77c (g := (mkF m 51 #[iv p0, iv p1, iv p2, iv k, rv w_IMPORTANCE, iv n, .unset, .unset] [(.int n), (.ref w_IMPORTANCE)])) rfl (by rw [hml]; rfl) (Steps.refl _) (argsL := [(.int n)]) (rest := []) (lenOf pd_0 rfl) rfl (by show 2 * 0 + _ ≤ _; exact Nat.le_of_eq rfl) (hb hby at_51) (fun _ _ => ⟨rfl, e59, (by decide : 0 + 0 ≤ _), (by decide : 0 + 0 ≤ _)⟩)
  dsimp only [Pt.U, Pt.locs, Pt.cells, Pt.slots] at X77 l77 y77 z77 st77 hQ77
  subst l77 y77 z77
  obtain ⟨rfl, M77, e77⟩ := hQ77
  have N77 := Fr.app N0 M77
  have g80 : Go p e below T77 (mkF m 54 #[iv p0, iv p1, iv p2, iv k, rv w_IMPORTANCE, iv n, .unset, .unset] [(.int (9 : Int32))]) A0 := fun t kont => g76 t (st77.trans kont)
  have g81 : Go p e below T77 (mkF m 84 #[iv p0, iv p1, iv p2, iv k, rv w_IMPORTANCE, iv n, iv (9 : Int32), .unset] [(.int p2), (.ref w_IMPORTANCE)]) A0 := by
    intro t kont
    refine g80 t ?_
    refine XS.istore X77.here hx rfl (hb hby at_54) rfl (l' := #[iv p0, iv p1, iv p2, iv k, rv w_IMPORTANCE, iv n, iv (9 : Int32), .unset]) rfl ?_
    show Steps p.tables e below (T77.setTop (mkF m 56 #[iv p0, iv p1, iv p2, iv k, rv w_IMPORTANCE, iv n, iv (9 : Int32), .unset] [])) _
    refine XS.iloadN X77.here hx rfl (hb hby at_56) rfl ?_
    show Steps p.tables e below (T77.setTop (mkF m 57 #[iv p0, iv p1, iv p2, iv k, rv w_IMPORTANCE, iv n, iv (9 : Int32), .unset] [(.int k)])) _
    refine XS.iconst X77.here hx rfl (hb hby at_57) ?_
    show Steps p.tables e below (T77.setTop (mkF m 58 #[iv p0, iv p1, iv p2, iv k, rv w_IMPORTANCE, iv n, iv (9 : Int32), .unset] [(.int (1 : Int32)), (.int k)])) _
    refine XS.icmpYes X77.here hx rfl (pc0 := 58) (pc' := 81) rfl (hb hby at_58) rfl (feq c35).2 (by decide) (by decide) ?_
    show Steps p.tables e below (T77.setTop (mkF m 81 #[iv p0, iv p1, iv p2, iv k, rv w_IMPORTANCE, iv n, iv (9 : Int32), .unset] [])) _
    refine XS.aload X77.here hx rfl (hb hby at_81) rfl rfl ?_
    show Steps p.tables e below (T77.setTop (mkF m 83 #[iv p0, iv p1, iv p2, iv k, rv w_IMPORTANCE, iv n, iv (9 : Int32), .unset] [(.ref w_IMPORTANCE)])) _
    refine XS.iloadN X77.here hx rfl (hb hby at_83) rfl ?_
    show Steps p.tables e below (T77.setTop (mkF m 84 #[iv p0, iv p1, iv p2, iv k, rv w_IMPORTANCE, iv n, iv (9 : Int32), .unset] [(.int p2), (.ref w_IMPORTANCE)])) _
    exact kont
  have y83 : Exa Z h0 w_IMPORTANCE "com/example/evenhand/evenhand/Characteristic" := ZE5_.ext O0.2
  have y84 : Exa Z h0 w_IMPORTANCE "com/example/evenhand/evenhand/Characteristic" := ZE5_.ext O0.2
  obtain ⟨cq82, kq82, q82a, q82b, q82c⟩ := isOf hZ e77 y84
  obtain ⟨_, _, ⟨T82, L82, k82, n82⟩, -, X82, ⟨Lc82, hQ82, l82, y82, z82⟩, st82⟩ := X77.virtualBack hx (y := (⟨"com/example/evenhand/evenhand/Characteristic", "max", "(I)I"⟩ : MethodName)) (z := (⟨"com/example/evenhand/evenhand/Characteristic", "max", "(I)I"⟩ : MethodName)) hown (mvT hZ (hw _ (List.mem_of_getElem? (i := 4) rfl))) (mvT hZ (hw _ (List.mem_of_getElem? (i := 5) rfl))) (notFace_of_selects (args := #[]) (mvT hZ (hw _ (List.mem_of_getElem? (i := 7) rfl)))) (mvT hZ (hw _ (List.mem_of_getElem? (i := 7) rfl))) (mvT hZ (hw _ (List.mem_of_getElem? (i := 6) rfl))) (by decide) (backOf (W := 0) (rm_maxN l Z a0 hw [] w_IMPORTANCE p2 w_DEPENDENCIES h0 n0 O0 S1_ NE7_) hZ (hw _ (List.mem_of_getElem? (i := 8) rfl)) (hw _ (List.mem_of_getElem? (i := 2) rfl)) (by decide) (by decide)) q82a q82c (g := (mkF m 84 #[iv p0, iv p1, iv p2, iv k, rv w_IMPORTANCE, iv n, iv (9 : Int32), .unset] [(.int p2), (.ref w_IMPORTANCE)])) rfl (by rw [hml]; rfl) (Steps.refl _) (argsL := [(.int p2)]) (rest := []) (lenOf pd_0 rfl) rfl (by show 2 * 0 + _ ≤ _; exact Nat.le_of_eq rfl) (hb hby at_84) (fun _ _ => ⟨rfl, e77, (by decide : 0 + 0 ≤ _), (by decide : 0 + 0 ≤ _)⟩)
  dsimp only [Pt.U, Pt.locs, Pt.cells, Pt.slots] at X82 l82 y82 z82 st82 hQ82
  subst l82 y82 z82
  obtain ⟨rfl, M82, e82⟩ := hQ82
  have N82 := Fr.app N77 M82
  have g85 : Go p e below T82 (mkF m 87 #[iv p0, iv p1, iv p2, iv k, rv w_IMPORTANCE, iv n, iv (9 : Int32), .unset] [(.int (9 : Int32))]) A0 := fun t kont => g81 t (st82.trans kont)
  have g86 : Go p e below T82 (mkF m 108 #[iv p0, iv p1, iv p2, iv k, rv w_IMPORTANCE, iv n, iv (9 : Int32), iv (9 : Int32)] [(.int (1 : Int32))]) A0 := by
    intro t kont
    refine g85 t ?_
    refine XS.istore X82.here hx rfl (hb hby at_87) rfl (l' := #[iv p0, iv p1, iv p2, iv k, rv w_IMPORTANCE, iv n, iv (9 : Int32), iv (9 : Int32)]) rfl ?_
    show Steps p.tables e below (T82.setTop (mkF m 89 #[iv p0, iv p1, iv p2, iv k, rv w_IMPORTANCE, iv n, iv (9 : Int32), iv (9 : Int32)] [])) _
    refine XS.iload X82.here hx rfl (hb hby at_89) rfl ?_
    show Steps p.tables e below (T82.setTop (mkF m 91 #[iv p0, iv p1, iv p2, iv k, rv w_IMPORTANCE, iv n, iv (9 : Int32), iv (9 : Int32)] [(.int (9 : Int32))])) _
    refine XS.bipush X82.here hx rfl (hb hby at_91) ?_
    show Steps p.tables e below (T82.setTop (mkF m 93 #[iv p0, iv p1, iv p2, iv k, rv w_IMPORTANCE, iv n, iv (9 : Int32), iv (9 : Int32)] [(.int (9 : Int32)), (.int (9 : Int32))])) _
    refine XS.icmpNo X82.here hx rfl (hb hby at_93) rfl (teq (by decide : (9 : Int32) = (9 : Int32))).2 ?_
    show Steps p.tables e below (T82.setTop (mkF m 96 #[iv p0, iv p1, iv p2, iv k, rv w_IMPORTANCE, iv n, iv (9 : Int32), iv (9 : Int32)] [])) _
    refine XS.iload X82.here hx rfl (hb hby at_96) rfl ?_
    show Steps p.tables e below (T82.setTop (mkF m 98 #[iv p0, iv p1, iv p2, iv k, rv w_IMPORTANCE, iv n, iv (9 : Int32), iv (9 : Int32)] [(.int (9 : Int32))])) _
    refine XS.bipush X82.here hx rfl (hb hby at_98) ?_
    show Steps p.tables e below (T82.setTop (mkF m 100 #[iv p0, iv p1, iv p2, iv k, rv w_IMPORTANCE, iv n, iv (9 : Int32), iv (9 : Int32)] [(.int (9 : Int32)), (.int (9 : Int32))])) _
    refine XS.icmpNo X82.here hx rfl (hb hby at_100) rfl (teq (by decide : (9 : Int32) = (9 : Int32))).2 ?_
    show Steps p.tables e below (T82.setTop (mkF m 103 #[iv p0, iv p1, iv p2, iv k, rv w_IMPORTANCE, iv n, iv (9 : Int32), iv (9 : Int32)] [])) _
    refine XS.iconst X82.here hx rfl (hb hby at_103) ?_
    show Steps p.tables e below (T82.setTop (mkF m 104 #[iv p0, iv p1, iv p2, iv k, rv w_IMPORTANCE, iv n, iv (9 : Int32), iv (9 : Int32)] [(.int (1 : Int32))])) _
    refine XS.goto X82.here hx rfl (pc0 := 104) (pc' := 108) rfl (hb hby at_104) (by decide) (by decide) ?_
    show Steps p.tables e below (T82.setTop (mkF m 108 #[iv p0, iv p1, iv p2, iv k, rv w_IMPORTANCE, iv n, iv (9 : Int32), iv (9 : Int32)] [(.int (1 : Int32))])) _
    exact kont
  obtain ⟨fs, hr, hrun, hended, hW, hsame⟩ := X82.leave (v := some (.int (1 : Int32))) (fun h => by rw [Bd.returns] at h; cases h)
  refine ⟨_, _, g86 _ (retN X82 hx (t := .boolean) Bd.returns (by simp) (hb hby at_108) hr), hrun, hended, _, _, rfl, ?_, ⟨_, rfl⟩, hW, hsame.mono (by decide) (by decide)⟩
  show Q_law Z p0 p1 p2 w_COMPLEXITY w_DEPENDENCIES w_IMPORTANCE h0 n0 _ T82.heap _
  rw [e82]
  exact ⟨rfl, N82⟩
set_option maxRecDepth 65536 in
set_option maxHeartbeats 40000000 in
theorem comes_1 {Post : Tables → Env → Array Value → State → Outcome → State → Prop} (hpost : ∀ tb e args s v u, (limb_1_1.after args s (.returned v) u = true ∧ limb_1_2.after args s (.returned v) u = true ∧ True) → FrameEnd s (.returned v) u (Jvm.fieldLocs frame_1_writes args s ++ Jvm.arrayLocs frame_1_arrays args s ++ Jvm.staticLocs frame_1_statics s) 0 0 → Post tb e args s (.returned v) u) :
    ArmFor flags0 classFile x code maxLocals ret World_1 tables_1 room_1 Calls_1 rest_1 Pre_1 Post := by
  intro l hfl _ _ p e ha hc hk s m args below hf hA hF happ hP
  obtain ⟨hcalls, hrest, hpre⟩ := hP
  obtain ⟨-, -, -, hnamed, -, -, -, hat⟩ := (Spec.applies_iff hf).mp happ
  obtain ⟨hg, hn⟩ := and_e (Cond.before_iff.mp (show (Jvm.Cond.and given_1 narrow_1).before args s = true from hpre))
  obtain ⟨hcount, hg⟩ := and_e hg
  obtain ⟨ha0, hg⟩ := and_e hg
  obtain ⟨ha1, hg⟩ := and_e hg
  have ha2 := hg
  obtain ⟨w0, w1, w2, rfl⟩ : ∃ w0 w1 w2 : Value, args = #[w0, w1, w2] := by
    have hs : args.size = 3 := by simpa [Cond.value, given_1] using hcount
    obtain ⟨L⟩ := args
    match L, hs with
    | [w0, w1, w2], _ => exact ⟨w0, w1, w2, rfl⟩
  have hw := fun d (hd : d ∈ tables_1) => atoms_spec (ws := Jvm.Cond.code x code maxLocals ret :: tables_1) hat d (List.mem_cons_of_mem _ hd)
  have hfit : Fit s := fun {y c} hc i hi => by
    obtain ⟨ha, rfl⟩ := Array.getElem?_eq_some_iff.mp hc
    have q := List.all_eq_true.mp ((Array.all_eq_true_iff_forall_mem.mp hF) _ (Array.getElem_mem ha)) i (List.mem_range.mpr hi)
    simpa [Array.getElem?_eq_getElem hi] using q
  obtain ⟨p0, ea0⟩ := is_v ha0
  obtain rfl : w0 = (.int p0) := Option.some.inj ea0
  obtain ⟨p1, ea1⟩ := is_v ha1
  obtain rfl : w1 = (.int p1) := Option.some.inj ea1
  obtain ⟨p2, ea2⟩ := is_v ha2
  obtain rfl : w2 = (.int p2) := Option.some.inj ea2
  obtain ⟨hn0, hn⟩ := and_e hn
  obtain ⟨hn1, hn⟩ := and_e hn
  obtain ⟨hn2, hn⟩ := and_e hn
  obtain ⟨hn3, hn⟩ := and_e hn
  obtain ⟨hn4, hn⟩ := and_e hn
  have hn5 := hn
  obtain ⟨w_COMPLEXITY, ev_COMPLEXITY⟩ := exa_v hn0
  have S_COMPLEXITY : Sta s s.heap "com/example/evenhand/evenhand/Characteristic" "COMPLEXITY" "Lcom/example/evenhand/evenhand/Characteristic;" (.ref w_COMPLEXITY) := Sta.start ev_COMPLEXITY (Or.inr ⟨(hw _ (List.mem_of_getElem? (i := 2) rfl)), (hw _ (List.mem_of_getElem? (i := 3) rfl))⟩)
  have E_COMPLEXITY : Exa s s.heap w_COMPLEXITY "com/example/evenhand/evenhand/Characteristic" := Exa.start ev_COMPLEXITY hn0
  obtain ⟨w_DEPENDENCIES, ev_DEPENDENCIES⟩ := exa_v hn1
  have S_DEPENDENCIES : Sta s s.heap "com/example/evenhand/evenhand/Characteristic" "DEPENDENCIES" "Lcom/example/evenhand/evenhand/Characteristic;" (.ref w_DEPENDENCIES) := Sta.start ev_DEPENDENCIES (Or.inr ⟨(hw _ (List.mem_of_getElem? (i := 2) rfl)), (hw _ (List.mem_of_getElem? (i := 10) rfl))⟩)
  have E_DEPENDENCIES : Exa s s.heap w_DEPENDENCIES "com/example/evenhand/evenhand/Characteristic" := Exa.start ev_DEPENDENCIES hn1
  obtain ⟨w_IMPORTANCE, ev_IMPORTANCE⟩ := exa_v hn4
  have S_IMPORTANCE : Sta s s.heap "com/example/evenhand/evenhand/Characteristic" "IMPORTANCE" "Lcom/example/evenhand/evenhand/Characteristic;" (.ref w_IMPORTANCE) := Sta.start ev_IMPORTANCE (Or.inr ⟨(hw _ (List.mem_of_getElem? (i := 2) rfl)), (hw _ (List.mem_of_getElem? (i := 13) rfl))⟩)
  have E_IMPORTANCE : Exa s s.heap w_IMPORTANCE "com/example/evenhand/evenhand/Characteristic" := Exa.start ev_IMPORTANCE hn4
  have F_COMPLEXITY := own_fld_int hn2 ev_COMPLEXITY
  have F_DEPENDENCIES := own_fld_int hn3 ev_DEPENDENCIES
  have F_IMPORTANCE := own_fld_int hn5 ev_IMPORTANCE
  have ne1 : ¬ (w_COMPLEXITY = w_DEPENDENCIES) := Fld.ne F_COMPLEXITY F_DEPENDENCIES (by decide)
  have ne2 : ¬ (w_IMPORTANCE = w_DEPENDENCIES) := Fld.ne F_IMPORTANCE F_DEPENDENCIES (by decide)
  obtain ⟨n, o, h1, h2, h3, _, L, rfl, ⟨rfl, N⟩, hq⟩ := rm_law l s _ hw tables_1 p0 p1 p2 w_COMPLEXITY w_DEPENDENCIES w_IMPORTANCE s.heap s.heap.size (Old.start s) S_COMPLEXITY S_DEPENDENCIES S_IMPORTANCE E_COMPLEXITY E_DEPENDENCIES E_IMPORTANCE ne1 ne2 p e ha hc hk s m _ below hf ((Spec.applies_iff_loose hf).mp happ).1 ⟨rfl, State.Warmed39.refl s, rfl⟩ trivial
  refine ⟨n, _, h1, h2, h3, hpost _ _ _ _ _ _ ⟨Cond.after_iff.mpr rfl, Cond.after_iff.mpr (eq_i res_at (Term.int_eval (1)) rfl), trivial⟩ ⟨hq.1, hq.2.1, (hq.2.2.sift fun y hy => Or.inr (N y hy)).mono (by decide) (by decide)⟩⟩
theorem main_1_1 : Claimed_1_1 := comes_1 fun _ _ _ _ _ _ h hF => ⟨h.1, hF⟩
theorem main_1_2 : Claimed_1_2 := comes_1 fun _ _ _ _ _ _ h hF => ⟨h.2.1, hF⟩
end Jvm.Pilot.@@N@@
namespace Jvm.Pilot.@@N@@
open Jvm Jvm.ClassFile Sem Op Lib Jvm.Free Jvm.Stand Jvm.Pilot.@@N@@.Jvm.D
/-! MADE BY PROGRAM (witnessworld.py) out of the Statement's table words and the real class files: 12 classes; the members and pool entries that the words name. The judged class is class 1, her method 1. -/
namespace start1
open Jvm.ClassFile
def u (s : String) : CpInfo := .utf8 (stringToUtf16 s)
/-- a pool by its gaps: so many unusable entries, then the entry; so many at the end -/
def gap : Nat → List CpInfo → List CpInfo
  | 0, r => r
  | n + 1, r => .unusable :: gap n r
def poolList (es : List (Nat × CpInfo)) (last : Nat) : List CpInfo := es.foldr (fun e r => gap e.1 (e.2 :: r)) (gap last [])
def pool (es : List (Nat × CpInfo)) (last : Nat) : Array CpInfo := ⟨poolList es last⟩
def fileOf (pool : Array CpInfo) (this : Nat) (attrs : Array Attribute := #[]) (ms : Array MethodInfo := #[]) (fl : Nat := 33) (sup : Nat := 0) (ifs : Array Nat := #[]) (fds : Array FieldInfo := #[]) : ClassFile where
  minorVersion := 0
  majorVersion := 65
  constantPool := pool
  accessFlags := fl
  thisClass := this
  superClass := sup
  interfaces := ifs
  fields := fds
  methods := ms
  attributes := attrs
def plain (name : String) (sup : Option ClassId) : Class where
  name := name
  kind := .ordinary
  loader := none
  accessFlags := 33
  super := sup
  interfaces := #[]
  cf := none
  fields := #[]
  methods := #[]
  instanceTypes := #[]
  staticTypes := #[]
  resolved := #[]
  callSites := []
  init := .initialized
  statics := none
  mirror := none

def pool0 : Array CpInfo := pool [(5, u "<init>"), (0, u "()V"), (1, .class_ 10), (1, u "java/lang/Object")] 113

def k0m0 : Method := { name := "<init>", desc := "()V", sig := { parameters := [], returnType := none }, accessFlags := 1, code := none }
/-- java/lang/Object -/
def k0 : Class := { plain "java/lang/Object" none with
  accessFlags := 33
  interfaces := #[]
  cf := some (fileOf pool0 8 #[] #[{ accessFlags := 1, nameIndex := 5, descriptorIndex := 6, attributes := #[] }] 33 0 #[] #[])
  fields := #[]
  methods := #[k0m0]
  instanceTypes := #[]
  staticTypes := #[]
  resolved := Array.replicate 124 none
  statics := none }

def pool1 : Array CpInfo := pool [(2, .class_ 4), (1, u "java/lang/Object"), (0, u "<init>"), (0, u "()V"), (0, .integer 2147483647), (0, .fieldref 9 10), (0, .class_ 11), (0, .nameAndType 12 13), (0, u "com/example/evenhand/evenhand/Characteristic"), (0, u "COMPLEXITY"), (0, u "Lcom/example/evenhand/evenhand/Characteristic;"), (0, .fieldref 9 15), (0, .nameAndType 16 13), (0, u "DEPENDENCIES"), (0, .fieldref 9 18), (0, .nameAndType 19 13), (0, u "IMPORTANCE"), (0, .methodref 9 21), (0, .nameAndType 22 23), (0, u "max"), (0, u "(I)I"), (0, .class_ 25), (0, u "com/example/evenhand/evenhand/CharacteristicMaxPinLaw"), (2, u "law"), (0, u "(III)Z")] 3

def k1m0 : Method := { name := "<init>", desc := "()V", sig := { parameters := [], returnType := none }, accessFlags := 1, code := none }
def k1c1 : Code := { maxStack := 2, maxLocals := 8, code := code, exceptionTable := #[], attributes := #[] }
def k1m1 : Method := { name := "law", desc := "(III)Z", sig := { parameters := [.int, .int, .int], returnType := some .boolean }, accessFlags := 9, code := some k1c1 }
/-- com/example/evenhand/evenhand/CharacteristicMaxPinLaw -/
def k1 : Class := { plain "com/example/evenhand/evenhand/CharacteristicMaxPinLaw" (some 0) with
  accessFlags := 49
  interfaces := #[]
  cf := some (fileOf pool1 24 #[] #[{ accessFlags := 1, nameIndex := 5, descriptorIndex := 6, attributes := #[] }, { accessFlags := 9, nameIndex := 28, descriptorIndex := 29, attributes := #[] }] 49 2 #[] #[])
  fields := #[]
  methods := #[k1m0, k1m1]
  instanceTypes := #[]
  staticTypes := #[]
  resolved := Array.replicate 33 none
  statics := none }

def pool2 : Array CpInfo := pool [(1, .class_ 2), (0, u "java/lang/constant/Constable"), (0, .class_ 4), (0, u "java/lang/Object")] 6

/-- java/lang/constant/Constable -/
def k2 : Class := { plain "java/lang/constant/Constable" (some 0) with
  accessFlags := 1537
  interfaces := #[]
  cf := some (fileOf pool2 1 #[] #[] 1537 3 #[] #[])
  fields := #[]
  methods := #[]
  instanceTypes := #[]
  staticTypes := #[]
  resolved := Array.replicate 11 none
  statics := none }

def pool3 : Array CpInfo := pool [(1, .class_ 2), (0, u "java/lang/Comparable"), (0, .class_ 4), (0, u "java/lang/Object")] 7

/-- java/lang/Comparable -/
def k3 : Class := { plain "java/lang/Comparable" (some 0) with
  accessFlags := 1537
  interfaces := #[]
  cf := some (fileOf pool3 1 #[] #[] 1537 3 #[] #[])
  fields := #[]
  methods := #[]
  instanceTypes := #[]
  staticTypes := #[]
  resolved := Array.replicate 12 none
  statics := none }

def pool4 : Array CpInfo := pool [(1, .class_ 2), (0, u "java/io/Serializable"), (0, .class_ 4), (0, u "java/lang/Object")] 2

/-- java/io/Serializable -/
def k4 : Class := { plain "java/io/Serializable" (some 0) with
  accessFlags := 1537
  interfaces := #[]
  cf := some (fileOf pool4 1 #[] #[] 1537 3 #[] #[])
  fields := #[]
  methods := #[]
  instanceTypes := #[]
  staticTypes := #[]
  resolved := Array.replicate 7 none
  statics := none }

def pool5 : Array CpInfo := pool [(2, .class_ 4), (1, u "java/lang/Enum"), (0, u "name"), (0, u "Ljava/lang/String;"), (2, u "ordinal"), (0, u "I"), (1, .class_ 14), (1, u "java/lang/Object"), (4, u "hash"), (86, .class_ 108), (1, u "java/lang/Enum$EnumDesc"), (2, .class_ 112), (0, u "java/lang/constant/Constable"), (0, .class_ 114), (0, u "java/lang/Comparable"), (0, .class_ 116), (0, u "java/io/Serializable")] 87

/-- java/lang/Enum -/
def k5 : Class := { plain "java/lang/Enum" (some 0) with
  accessFlags := 1057
  interfaces := #[2, 3, 4]
  cf := some (fileOf pool5 2 #[.nestMembers #[106]] #[] 1057 12 #[111, 113, 115] #[{ accessFlags := 18, nameIndex := 5, descriptorIndex := 6, attributes := #[] }, { accessFlags := 18, nameIndex := 9, descriptorIndex := 10, attributes := #[] }, { accessFlags := 2, nameIndex := 19, descriptorIndex := 10, attributes := #[] }])
  fields := #[{ name := "name", type := (.object "java/lang/String"), accessFlags := 18, slot := 0, constantValue := 0 }, { name := "ordinal", type := .int, accessFlags := 18, slot := 1, constantValue := 0 }, { name := "hash", type := .int, accessFlags := 2, slot := 2, constantValue := 0 }]
  methods := #[]
  instanceTypes := #[(.object "java/lang/String"), .int, .int]
  staticTypes := #[]
  resolved := Array.replicate 204 none
  statics := none }

def pool6 : Array CpInfo := pool [(1, .class_ 2), (0, u "com/example/evenhand/evenhand/Characteristic"), (2, u "COMPLEXITY"), (0, u "Lcom/example/evenhand/evenhand/Characteristic;"), (0, .fieldref 1 8), (0, .nameAndType 9 6), (0, u "DEPENDENCIES"), (2, u "IMPORTANCE"), (2, u "$VALUES"), (0, u "[Lcom/example/evenhand/evenhand/Characteristic;"), (6, .class_ 25), (1, u "java/lang/Enum"), (8, u "column"), (0, u "Ljava/lang/String;"), (2, u "max"), (0, u "(I)I"), (16, u "RATING_MAX"), (0, u "I")] 18

def k6c0 : Code := { maxStack := 2, maxLocals := 2, code := prog_6_method_5_code, exceptionTable := #[], attributes := #[] }
def k6m0 : Method := { name := "max", desc := "(I)I", sig := { parameters := [.int], returnType := some .int }, accessFlags := 0, code := some k6c0 }
/-- com/example/evenhand/evenhand/Characteristic -/
def k6 : Class := { plain "com/example/evenhand/evenhand/Characteristic" (some 5) with
  accessFlags := 16432
  interfaces := #[]
  cf := some (fileOf pool6 1 #[] #[{ accessFlags := 0, nameIndex := 38, descriptorIndex := 39, attributes := #[] }] 16432 23 #[] #[{ accessFlags := 16409, nameIndex := 5, descriptorIndex := 6, attributes := #[] }, { accessFlags := 16409, nameIndex := 9, descriptorIndex := 6, attributes := #[] }, { accessFlags := 16409, nameIndex := 12, descriptorIndex := 6, attributes := #[] }, { accessFlags := 24, nameIndex := 56, descriptorIndex := 57, attributes := #[] }, { accessFlags := 18, nameIndex := 34, descriptorIndex := 35, attributes := #[] }, { accessFlags := 4122, nameIndex := 15, descriptorIndex := 16, attributes := #[] }])
  fields := #[{ name := "COMPLEXITY", type := (.object "com/example/evenhand/evenhand/Characteristic"), accessFlags := 16409, slot := 0, constantValue := 0 }, { name := "DEPENDENCIES", type := (.object "com/example/evenhand/evenhand/Characteristic"), accessFlags := 16409, slot := 1, constantValue := 0 }, { name := "IMPORTANCE", type := (.object "com/example/evenhand/evenhand/Characteristic"), accessFlags := 16409, slot := 2, constantValue := 0 }, { name := "RATING_MAX", type := .int, accessFlags := 24, slot := 3, constantValue := 0 }, { name := "column", type := (.object "java/lang/String"), accessFlags := 18, slot := 3, constantValue := 0 }, { name := "$VALUES", type := (.array (.object "com/example/evenhand/evenhand/Characteristic")), accessFlags := 4122, slot := 4, constantValue := 0 }]
  methods := #[k6m0]
  instanceTypes := #[(.object "java/lang/String"), .int, .int, (.object "java/lang/String")]
  staticTypes := #[(.object "com/example/evenhand/evenhand/Characteristic"), (.object "com/example/evenhand/evenhand/Characteristic"), (.object "com/example/evenhand/evenhand/Characteristic"), .int, (.array (.object "com/example/evenhand/evenhand/Characteristic"))]
  resolved := Array.replicate 76 none
  statics := some 0 }

def pool7 : Array CpInfo := pool [(1, u "java/lang/Cloneable"), (0, .class_ 1), (0, u "java/lang/Object"), (0, .class_ 3)] 3

/-- java/lang/Cloneable -/
def k7 : Class := { plain "java/lang/Cloneable" (some 0) with
  accessFlags := 1537
  interfaces := #[]
  cf := some (fileOf pool7 2 #[] #[] 1537 4 #[] #[])
  fields := #[]
  methods := #[]
  instanceTypes := #[]
  staticTypes := #[]
  resolved := Array.replicate 8 none
  statics := none }

/-- the primitive byte -/
def k8 : Class := { plain "byte" none with kind := .primitive 'B', accessFlags := 0x411 }
/-- [B -/
def k9 : Class := { plain "[B" (some 0) with kind := .array 8 .byte, interfaces := #[7, 4], accessFlags := 1041 }

/-- the primitive int -/
def k10 : Class := { plain "int" none with kind := .primitive 'I', accessFlags := 0x411 }
/-- [I -/
def k11 : Class := { plain "[I" (some 0) with kind := .array 10 .int, interfaces := #[7, 4], accessFlags := 1041 }

def heap : Heap := #[{ cls := 6, slots := #[.ref 1, .ref 2, .ref 3, .int 0, .null], vm := .statics 6 },
  { cls := 6, slots := #[.null, .int 0, .int 0, .null], vm := .none },
  { cls := 6, slots := #[.null, .int 1, .int 0, .null], vm := .none },
  { cls := 6, slots := #[.null, .int 2, .int 0, .null], vm := .none }]
def classes : Array Class := #[k0, k1, k2, k3, k4, k5, k6, k7, k8, k9, k10, k11]
def interned : List (Array UInt16 × Addr) := []
def slotsUsed : Nat := 17
def theMethod : MethodId := ⟨1, 1⟩
def args0 : Array Value := #[.int 1, .int 5, .int 7]
def aboutOver (below : List Frame) : State where
  vm := { classes := classes, interned := interned.toArray }
  heap := heap
  slotsUsed := slotsUsed
  threads := #[{ frames := .invoking theMethod args0 :: below }]
def below0 : List Frame := [.native { method := ⟨0, 0⟩, args := #[] }]
def about1 : State := aboutOver below0
def p0 : Program := .bare "" "" ""
def e0 : Env := launch0.env 0 0 0
theorem w_frames : about1.frames = Frame.invoking theMethod args0 :: below0 := rfl
set_option maxRecDepth 65536 in
theorem w_args : argsFit about1.vm theMethod args0 = true := by decide +kernel
set_option maxRecDepth 65536 in
theorem w_heap : heapFits about1 = true := by decide +kernel
set_option maxRecDepth 65536 in
theorem w_runnable : about1.curStatus? = some .runnable := by decide +kernel
set_option maxRecDepth 65536 in
theorem w_alone : about1.alone = true := by decide +kernel
set_option maxRecDepth 65536 in
theorem w_named : about1.methodNamed? x = some theMethod := by decide +kernel
set_option maxRecDepth 65536 in
theorem w_hears : about1.hears theMethod below0 = true := by decide +kernel
set_option maxRecDepth 65536 in
theorem w_ripe : about1.ripe theMethod args0 below0 = true := by decide +kernel
theorem w_running : about1.status = .running := rfl
set_option maxRecDepth 65536 in
theorem w_room : about1.hasRoom e0.platform room_1 = true :=
  launch0.hasRoom_least _ room_1 (by decide +kernel) (by decide +kernel) (by decide +kernel) (by decide +kernel) (by decide +kernel) (by decide +kernel)
theorem allAtoms_all (ts : List Jvm.Cond) (a : Array Jvm.Value) (st : Jvm.State) : (allAtoms ts).before a st = ts.all (fun c => c.before a st) := by
  induction ts with
  | nil => rfl
  | cons c t ih =>
    show (Jvm.Cond.and c (allAtoms t)).before a st = _
    rw [Jvm.Cond.before_and, ih, List.all_cons]
def words1 : List Jvm.Cond := Jvm.Cond.code x code maxLocals ret :: tables_1
/-- a 'code' word, met by the world's own term for the bytes: nothing is compared byte by byte -/
theorem code_word {y : MethodName} {bytes : ByteArray} {mx : Nat} {rt : Option FieldType} {a : Array Value} {s : State} {m : MethodId} {meth : Method} {c : Code} (h1 : s.methodNamed? y = some m) (h2 : s.vm.method? m = some meth) (h3 : meth.code = some c) (h4 : c.code = bytes)
    (h5 : (c.maxLocals == mx && c.exceptionTable.isEmpty && decide (c.maxStack ≤ mostOperands) && decide (meth.sig.returnType = rt) && !meth.locks && decide (parseMethodDescriptor y.desc = some meth.sig)) = true) : (Jvm.Cond.code y bytes mx rt).before a s = true := by
  simp only [Bool.and_eq_true, beq_iff_eq, Bool.not_eq_true', decide_eq_true_eq] at h5
  obtain ⟨⟨⟨⟨⟨g1, g2⟩, g3⟩, g4⟩, g5⟩, g6⟩ := h5
  simp [Cond.before, Cond.holds, Cond.value, h1, h2, h3, h4, g1, g2, g3, g4, g5, g6]
def isCode : Jvm.Cond → Bool
  | .code _ _ _ _ => true
  | _ => false
theorem all_split {L : List Jvm.Cond} {P : Jvm.Cond → Bool} (h1 : L.all (fun c => isCode c || P c) = true) (h2 : ∀ c ∈ L.filter isCode, P c = true) : L.all P = true := by
  refine List.all_eq_true.mpr fun c hc => ?_
  have h := List.all_eq_true.mp h1 c hc
  rcases Bool.eq_false_or_eq_true (isCode c) with hi | hi
  · exact h2 c (List.mem_filter.mpr ⟨hc, hi⟩)
  · simpa [hi] using h
set_option maxRecDepth 65536 in
theorem w_c0 : (Jvm.Cond.code x code maxLocals ret).before args0 about1 = true := code_word (m := ⟨1, 1⟩) (meth := k1m1) (c := k1c1) (by decide +kernel) rfl rfl rfl (by decide +kernel)
set_option maxRecDepth 65536 in
theorem w_c1 : (Jvm.Cond.code ({ cls := "com/example/evenhand/evenhand/Characteristic", name := "max", desc := "(I)I" } : Jvm.MethodName) prog_6_method_5_code (2 : Nat) (Option.some Jvm.ClassFile.FieldType.int)).before args0 about1 = true := code_word (m := ⟨6, 0⟩) (meth := k6m0) (c := k6c0) (by decide +kernel) rfl rfl rfl (by decide +kernel)
def codes1 : List Jvm.Cond := [Jvm.Cond.code x code maxLocals ret, Jvm.Cond.code ({ cls := "com/example/evenhand/evenhand/Characteristic", name := "max", desc := "(I)I" } : Jvm.MethodName) prog_6_method_5_code (2 : Nat) (Option.some Jvm.ClassFile.FieldType.int)]
set_option maxRecDepth 65536 in
theorem codes_eq : words1.filter isCode = codes1 := rfl
theorem w_codes : ∀ c ∈ words1.filter isCode, c.before args0 about1 = true := by
  rw [codes_eq]
  intro c hc
  simp only [codes1, List.mem_cons, List.not_mem_nil, or_false] at hc
  rcases hc with rfl | rfl
  · exact w_c0
  · exact w_c1
set_option maxRecDepth 65536 in
theorem w_t1 : words1.all (fun c => isCode c || c.before args0 about1) = true := by decide +kernel
theorem w_tables : (allAtoms (Jvm.Cond.code x code maxLocals ret :: tables_1)).before args0 about1 = true := by
  rw [allAtoms_all]
  show words1.all (fun c => c.before args0 about1) = true
  refine all_split ?_ w_codes
  rw [w_t1]
set_option maxRecDepth 65536 in
theorem w_case : (Jvm.Cond.and given_1 narrow_1).before args0 about1 = true := by decide +kernel
theorem w_applies : (headSpec (Jvm.Cond.code x code maxLocals ret :: tables_1) room_1).applies x e0.platform about1 = true :=
  (Spec.applies_iff w_frames).mpr ⟨w_running, w_runnable, w_alone, w_named, w_hears, w_ripe, w_room, w_tables⟩
theorem atStart : AtStart classFile x code maxLocals ret World_1 tables_1 room_1 Calls_1 rest_1 Pre_1 launch0 p0 e0 about1 theMethod args0 below0 :=
  ⟨lists_1, trivial, launch0.admits_env _ _ _, launch0.least_env, fairChoices_fair.cas, fairChoices_fair.clock, w_frames, w_args, w_heap, w_applies, trivial, trivial, w_case⟩
end start1
theorem witness_1 : WitnessClaimed_1 := ⟨start1.p0, start1.e0, start1.about1, start1.theMethod, start1.args0, start1.below0, start1.atStart⟩
end Jvm.Pilot.@@N@@
