import JvmDerived
import JvmDerived.Pilot.@@N@@Statement
import JvmDerived.Pilot.@@N@@Code
set_option linter.unusedVariables false
set_option linter.unusedSimpArgs false
namespace Jvm.RoadKit
open Sem ClassFile Op Lib Jvm.Stand Jvm.Free Jvm.LawKit
section New
variable {p : Program} {l : Launch} {e : Env} {R : Room} {s : State} {m : MethodId} {args : Array Value} {below : List Frame} {meth : Method} {c : Code} {T : State} {locs : List Loc} {cells slots : Nat}
theorem retI (X : Stand p l e R s m args below meth c T locs cells slots) (hx : p.tables.exec = Jvm.exec) {pc : Nat} {Ls : Array Slot} {z : Int32} {rest : List Value} (hret : meth.sig.returnType = some .int) (hd : decode c.code pc = .ok (.ireturn, 1)) {fs : List Frame}
    (hl : ∀ (f : JFrame) (acts : List Action), f.method = m → f.locked = none → f.entered = [] → (doReturn e (T.setTop f) acts (some (.int z))).1 = T.setFrames fs) : Steps p.tables e below (T.setTop (mkF m pc Ls (.int z :: rest))) (T.setFrames fs) := by
  have hm' : T.vm.method? m = some meth := X.method'
  have hn : narrow .int (.int z) = .int z := rfl
  show Steps p.tables e below (T.setTop { method := m, pc := pc, locals := Ls, stack := _ :: rest, locked := none }) _
  jvm_step X.here [X.here.top, hx, hd, hm', hret, hn]
  first | (intro acts; rw [hl _ acts rfl rfl rfl]) | rw [hl _ _ rfl rfl rfl]
  exact Steps.refl _
end New
theorem mi {α : Type _} {l : List α} {a : α} (i : Nat) (h : l[i]? = some a) : a ∈ l := List.mem_of_getElem? h
abbrev DK (c : ByteArray) (pc : Nat) (i : Instr) (n : Nat) : Prop := decode c pc = .ok (i, n)
theorem own_hd {c : Code} {code : ByteArray} {D : List (Nat × Instr × Nat)} (h : c.code = code) (E : ∀ x ∈ D, DK code x.1 x.2.1 x.2.2) (i : Nat) {pc : Nat} {I : Instr} {n : Nat} (hi : D[i]? = some (pc, I, n)) : decode c.code pc = .ok (I, n) := by
  rw [h]; exact E (pc, I, n) (List.mem_of_getElem? hi)
abbrev Go (p : Program) (e : Env) (below : List Frame) (T : State) (f : JFrame) (A : State) : Prop := ∀ t, Steps p.tables e below (T.setTop f) t → Steps p.tables e below A t
abbrev own_M (l : Launch) (y : MethodName) (cd : Jvm.Cond) (ws : List Jvm.Cond) (R : Room) (a : Array Value) (Z : State) (h0 : Heap) (Q : Option Value → Heap → List Loc → Prop) : Prop :=
  MetFree l y (head1 (cd :: ws) R) (fun a' U => a' = a ∧ Z.Warmed39 U.vm ∧ U.heap = h0) (fun _ _ _ _ _ => True) (fun _ U o U' => ∃ v L, o = .returned v ∧ Q v U'.heap L ∧ FrameEnd U o U' L R.cells R.slots)
abbrev own_X (p : Program) (e : Env) (below : List Frame) (A0 s : State) (R : Room) (Q : Option Value → Heap → List Loc → Prop) : Prop :=
  ∃ s₂ o, Steps p.tables e below A0 s₂ ∧ s₂.status = .running ∧ Ended s₂ below o ∧ ∃ v L, o = .returned v ∧ Q v s₂.heap L ∧ FrameEnd s o s₂ L R.cells R.slots
theorem own_open {l : Launch} {y : MethodName} {code : ByteArray} {ml : Nat} {ret : Option FieldType} {ws : List Jvm.Cond} {R : Room} {a : Array Value} {Z : State} {h0 : Heap} {Q : Option Value → Heap → List Loc → Prop} (n0 : Nat) (pn : plainFor y = true) {lo : Array Slot} (hef : ∀ m, entryFrame m a ml = mkF m 0 lo [])
    (H : ∀ (p : Program) (e : Env) (s : State) (m : MethodId) (below : List Frame) (meth : Method) (c : Code) (s₁ A0 : State), BodyLoose p l y (head1 (Jvm.Cond.code y code ml ret :: ws) R) code ml ret e s m a below meth c s₁ → p.tables.exec = Jvm.exec → c.code = code → c.maxLocals = ml → s.vm.findClass y.cls = some m.cls → meth.name = y.name → Z.Warmed39 s.vm → s.heap = h0 → Stand p l e R s m a below meth c s₁ [] 0 0 → s₁.heap = h0 → Fr n0 [] → Go p e below s₁ (mkF m 0 lo []) A0 → own_X p e below A0 s R Q) :
    own_M l y (Jvm.Cond.code y code ml ret) ws R a Z h0 Q := by
  refine MetFree.of_bodySF pn hisR ?_
  intro p e s m args below meth c s₁ Bd hml0 hP hK
  obtain ⟨rfl, hZ, hh⟩ := hP
  exact H p e s m below meth c s₁ _ Bd Bd.exec Bd.bytes hml0 (findClass_of_methodNamed Bd.named) (name_of_methodNamed Bd.named Bd.method).1 hZ hh (Stand.of_body Bd) (by rw [← hh, Bd.state]; rfl) (Fr.nil n0) (fun t kont => castTop (hef m) kont)
theorem own_leave {p : Program} {l : Launch} {e : Env} {R R' : Room} {s : State} {m : MethodId} {args : Array Value} {below : List Frame} {meth : Method} {c : Code} {T : State} {locs : List Loc} {cells slots : Nat} {Q : Option Value → Heap → List Loc → Prop} {y : MethodName} {S : Spec} {code : ByteArray} {ml : Nat} {ret : Option FieldType} {s₁ A0 : State} (X : Stand p l e R s m args below meth c T locs cells slots) (Bd : BodyLoose p l y S code ml ret e s m args below meth c s₁) (v : Option Value) (hv : ret = none → v = none) {f : JFrame} (g : Go p e below T f A0)
    (hr : ∀ fs, (∀ (f : JFrame) (acts : List Action), f.method = m → f.locked = none → f.entered = [] → (doReturn e (T.setTop f) acts v).1 = T.setFrames fs) → Steps p.tables e below (T.setTop f) (T.setFrames fs))
    (hc : cells ≤ R'.cells) (hs : slots ≤ R'.slots) (hQ : Q v T.heap locs) : own_X p e below A0 s R' Q := by
  obtain ⟨fs, h1, hrun, hended, hW, hsame⟩ := X.leave (v := v) (fun h => hv (Bd.returns.symm.trans h)) Bd.notSynchronized
  exact ⟨_, _, g _ (hr fs h1), hrun, hended, _, _, rfl, hQ, ⟨_, rfl⟩, hW, hsame.mono hc hs⟩
section Call
variable {p : Program} {l : Launch} {e : Env} {R : Room} {s : State} {m : MethodId} {args : Array Value} {below : List Frame} {meth : Method} {c : Code} {T : State} {locs : List Loc} {cells slots : Nat} {Z A0 : State} {a0 : Array Value} {h : Heap} {own C : String} {index : Nat} {y z : MethodName} {bytes : ByteArray} {maxL : Nat} {ret : Option FieldType} {rm : Room} {Q : Option Value → Heap → List Loc → Prop} {pc : Nat} {Ls : Array Slot} {argsL stk : List Value} {b : Addr}
abbrev own_np (y : MethodName) : Prop := y.cls ≠ "java/lang/invoke/MethodHandle" ∧ y.cls ≠ "java/lang/invoke/VarHandle"
def own_wdS (a0 : Array Value) (Z : State) (y : MethodName) (bytes : ByteArray) (maxL : Nat) (ret : Option FieldType) : Prop := (Cond.static y).before a0 Z = true ∧ (Cond.initialized y.cls).before a0 Z = true ∧ (Cond.code y bytes maxL ret).before a0 Z = true ∧ own_np y
def own_wdV (a0 : Array Value) (Z : State) (C : String) (y z : MethodName) (bytes : ByteArray) (maxL : Nat) (ret : Option FieldType) : Prop := (Cond.declares y).before a0 Z = true ∧ (Cond.selects C y z).before a0 Z = true ∧ (Cond.instanceMethod z).before a0 Z = true ∧ (Cond.initialized z.cls).before a0 Z = true ∧ (Cond.code z bytes maxL ret).before a0 Z = true ∧ own_np y
def own_wdP (a0 : Array Value) (Z : State) (y : MethodName) (bytes : ByteArray) (maxL : Nat) (ret : Option FieldType) : Prop := (Cond.instanceMethod y).before a0 Z = true ∧ (Cond.selects y.cls y y).before a0 Z = true ∧ (Cond.privateMethod y).before a0 Z = true ∧ (Cond.initialized y.cls).before a0 Z = true ∧ (Cond.code y bytes maxL ret).before a0 Z = true ∧ own_np y
def own_wdI (a0 : Array Value) (Z : State) (y : MethodName) (bytes : ByteArray) (maxL : Nat) : Prop := (Cond.instanceMethod y).before a0 Z = true ∧ (Cond.initialized y.cls).before a0 Z = true ∧ (Cond.code y bytes maxL none).before a0 Z = true ∧ own_np y ∧ y.name = "<init>"
theorem own_callS (X : Stand p l e R s m args below meth c T locs cells slots) (hx : p.tables.exec = Jvm.exec) (hZ : Z.Warmed39 s.vm) (hown : s.vm.findClass own = some m.cls)
    (w1 : (Cond.methodLink own index y).before a0 Z = true) (wd : own_wdS a0 Z y bytes maxL ret)
    (hM : own_M l y (Cond.code y bytes maxL ret) [] rm argsL.toArray Z h Q) (g : Go p e below T (mkF m pc Ls stk) A0) (E : T.heap = h) (rest : List Value) (hst : stk = argsL.reverse ++ rest) (hlen : ∀ sig, parseMethodDescriptor y.desc = some sig → argsL.length = sig.parameters.length) (hd : decode c.code pc = .ok (.invokestatic index, 3)) (hsize : Ls.size = c.maxLocals) (W : Nat) (hW : (rest.map fun v => v.category).sum = W) (hR : rm.frames + 1 ≤ R.frames ∧ W + (maxL + 11) + rm.locals ≤ R.locals ∧ cells + rm.cells ≤ R.cells ∧ slots + rm.slots ≤ R.slots) :
    ∃ v L T', Q v T'.heap L ∧ Stand p l e R s m args below meth c T' (locs ++ L) (cells + rm.cells) (slots + rm.slots) ∧ Go p e below T' (mkF m (pc + 3) Ls (v.toList ++ rest)) A0 := by
  obtain ⟨w2, w3, w4, hy⟩ := wd
  obtain ⟨hf, hl, hc, hs⟩ := hR
  obtain ⟨v, _, ⟨T', L', k', n'⟩, -, X', ⟨L, hQ, e1, e2, e3⟩, st⟩ := Jvm.LawKit.callS X hx hown (mvT hZ w1) (mvT hZ w2) (mvT hZ w3) (mvT hZ w4) hy (backOf (W := W) hM hZ w4 w3 hf hl) (g := mkF m pc Ls stk) rfl hsize (argsL := argsL) (rest := rest) hlen hst (by show 2 * 0 + _ ≤ _; omega) hd (fun _ _ => ⟨rfl, E, hc, hs⟩)
  dsimp only [Pt.U, Pt.locs, Pt.cells, Pt.slots] at X' e1 e2 e3 st hQ
  subst e1 e2 e3
  exact ⟨v, L, T', hQ, X', fun t kont => g t (st t kont)⟩
theorem own_callV (X : Stand p l e R s m args below meth c T locs cells slots) (hx : p.tables.exec = Jvm.exec) (hZ : Z.Warmed39 s.vm) (hown : s.vm.findClass own = some m.cls)
    (w1 : (Cond.methodLink own index y).before a0 Z = true) (wd : own_wdV a0 Z C y z bytes maxL ret) (nf : NotFace s y) (Ex : Exa Z h b C)
    (hM : own_M l z (Cond.code z bytes maxL ret) [] rm (Value.ref b :: argsL).toArray Z h Q) (g : Go p e below T (mkF m pc Ls stk) A0) (E : T.heap = h) (rest : List Value) (hst : stk = argsL.reverse ++ .ref b :: rest) (hlen : ∀ sig, parseMethodDescriptor y.desc = some sig → argsL.length = sig.parameters.length) (hd : decode c.code pc = .ok (.invokevirtual index, 3)) (hsize : Ls.size = c.maxLocals) (W : Nat) (hW : (rest.map fun v => v.category).sum = W) (hR : rm.frames + 1 ≤ R.frames ∧ W + (maxL + 11) + rm.locals ≤ R.locals ∧ cells + rm.cells ≤ R.cells ∧ slots + rm.slots ≤ R.slots) :
    ∃ v L T', Q v T'.heap L ∧ Stand p l e R s m args below meth c T' (locs ++ L) (cells + rm.cells) (slots + rm.slots) ∧ Go p e below T' (mkF m (pc + 3) Ls (v.toList ++ rest)) A0 := by
  obtain ⟨w2, w5, w6, w3, w4, hy⟩ := wd
  obtain ⟨hf, hl, hc, hs⟩ := hR
  obtain ⟨_, _, q1, -, q3⟩ := isOf hZ E Ex
  obtain ⟨v, _, ⟨T', L', k', n'⟩, -, X', ⟨L, hQ, e1, e2, e3⟩, st⟩ := X.virtualBack hx hown (mvT hZ w1) (mvT hZ w2) nf (mvT hZ w5) (mvT hZ w6) hy (backOf (W := W) hM hZ w4 w3 hf hl) q1 q3 (g := mkF m pc Ls stk) rfl hsize (Steps.refl _) (argsL := argsL) (rest := rest) hlen hst (by show 2 * 0 + _ ≤ _; omega) hd (fun _ _ => ⟨rfl, E, hc, hs⟩)
  dsimp only [Pt.U, Pt.locs, Pt.cells, Pt.slots] at X' e1 e2 e3 st hQ
  subst e1 e2 e3
  exact ⟨v, L, T', hQ, X', fun t kont => g t (st.trans kont)⟩
theorem own_callP (X : Stand p l e R s m args below meth c T locs cells slots) (hx : p.tables.exec = Jvm.exec) (hZ : Z.Warmed39 s.vm) (hown : s.vm.findClass own = some m.cls)
    (w1 : (Cond.methodLink own index y).before a0 Z = true) (wd : own_wdP a0 Z y bytes maxL ret) (Ex : Exa Z h b C)
    (hM : own_M l y (Cond.code y bytes maxL ret) [] rm (Value.ref b :: argsL).toArray Z h Q) (g : Go p e below T (mkF m pc Ls stk) A0) (E : T.heap = h) (rest : List Value) (hst : stk = argsL.reverse ++ .ref b :: rest) (hlen : ∀ sig, parseMethodDescriptor y.desc = some sig → argsL.length = sig.parameters.length) (hd : decode c.code pc = .ok (.invokevirtual index, 3)) (hsize : Ls.size = c.maxLocals) (W : Nat) (hW : (rest.map fun v => v.category).sum = W) (hR : rm.frames + 1 ≤ R.frames ∧ W + (maxL + 11) + rm.locals ≤ R.locals ∧ cells + rm.cells ≤ R.cells ∧ slots + rm.slots ≤ R.slots) :
    ∃ v L T', Q v T'.heap L ∧ Stand p l e R s m args below meth c T' (locs ++ L) (cells + rm.cells) (slots + rm.slots) ∧ Go p e below T' (mkF m (pc + 3) Ls (v.toList ++ rest)) A0 := by
  obtain ⟨w2, w5, w6, w3, w4, hy⟩ := wd
  obtain ⟨hf, hl, hc, hs⟩ := hR
  obtain ⟨_, q1, q2⟩ := Ex.cell
  obtain ⟨v, _, ⟨T', L', k', n'⟩, -, X', ⟨L, hQ, e1, e2, e3⟩, st⟩ := X.privateBack hx hown (mvT hZ w1) (mvT hZ w2) (mvT hZ w5) (Cond.privateMethod_at (mvP hZ w6 (args := #[]))) (mvT hZ w4) hy (backOf (W := W) hM hZ w4 w3 hf hl) (g := mkF m pc Ls stk) rfl hsize (Steps.refl _) (a := b) (by rw [E]; exact q1) q2 (argsL := argsL) (rest := rest) hlen hst (by show 2 * 0 + _ ≤ _; omega) hd (fun _ _ => ⟨rfl, E, hc, hs⟩)
  dsimp only [Pt.U, Pt.locs, Pt.cells, Pt.slots] at X' e1 e2 e3 st hQ
  subst e1 e2 e3
  exact ⟨v, L, T', hQ, X', fun t kont => g t (st.trans kont)⟩
theorem own_callI (X : Stand p l e R s m args below meth c T locs cells slots) (hx : p.tables.exec = Jvm.exec) (hZ : Z.Warmed39 s.vm) (hown : s.vm.findClass own = some m.cls)
    (w1 : (Cond.methodLink own index y).before a0 Z = true) (wd : own_wdI a0 Z y bytes maxL)
    (hM : own_M l y (Cond.code y bytes maxL none) [] rm (Value.ref b :: argsL).toArray Z h Q) (g : Go p e below T (mkF m pc Ls stk) A0) (E : T.heap = h) (rest : List Value) (hst : stk = argsL.reverse ++ .ref b :: rest) (hlen : ∀ sig, parseMethodDescriptor y.desc = some sig → argsL.length = sig.parameters.length) (hd : decode c.code pc = .ok (.invokespecial index, 3)) (hsize : Ls.size = c.maxLocals) (W : Nat) (hW : (rest.map fun v => v.category).sum = W) (hR : rm.frames + 1 ≤ R.frames ∧ W + (maxL + 11) + rm.locals ≤ R.locals ∧ cells + rm.cells ≤ R.cells ∧ slots + rm.slots ≤ R.slots) :
    ∃ v L T', Q v T'.heap L ∧ Stand p l e R s m args below meth c T' (locs ++ L) (cells + rm.cells) (slots + rm.slots) ∧ Go p e below T' (mkF m (pc + 3) Ls (v.toList ++ rest)) A0 := by
  obtain ⟨w2, w3, w4, hy, hy1⟩ := wd
  obtain ⟨hf, hl, hc, hs⟩ := hR
  obtain ⟨v, _, ⟨T', L', k', n'⟩, -, X', ⟨L, hQ, e1, e2, e3⟩, st⟩ := X.specialBack hx hy1 hown (mvT hZ w1) (mvT hZ w2) (mvT hZ w4) hy (backOf (W := W) hM hZ w4 w3 hf hl) (g := mkF m pc Ls stk) rfl hsize (Steps.refl _) (a := b) (argsL := argsL) (rest := rest) hlen hst (by show 2 * 0 + _ ≤ _; omega) hd (fun _ _ => ⟨rfl, E, hc, hs⟩)
  dsimp only [Pt.U, Pt.locs, Pt.cells, Pt.slots] at X' e1 e2 e3 st hQ
  subst e1 e2 e3
  exact ⟨v, L, T', hQ, X', fun t kont => g t (st.trans kont)⟩
theorem own_getF (X : Stand p l e R s m args below meth c T locs cells slots) (hx : p.tables.exec = Jvm.exec) (hZ : Z.Warmed39 s.vm) {R0 O n d : String} (hown : s.vm.findClass own = some m.cls) (w : (Cond.fieldLink own index R0 n d).before a0 Z = true) (via : Via Z R0 O n d) (eT : T.heap = h) {v : Value} (F : Fld Z h b O n d v) (g : Go p e below T (mkF m pc Ls (.ref b :: stk)) A0) (hd : decode c.code pc = .ok (.getfield index, 3)) :
    ∃ T', Stand p l e R s m args below meth c T' locs cells slots ∧ T'.heap = h ∧ Go p e below T' (mkF m (pc + 3) Ls (v :: stk)) A0 := by
  obtain ⟨T', X', e', st⟩ := getF X hx hZ hown (host := "") (Or.inl w) via eT F (g := mkF m pc Ls (.ref b :: stk)) rfl rfl hd
  exact ⟨T', X', e', fun t kont => g t (st t kont)⟩
theorem jA (X : Stand p l e R s m args below meth c T locs cells slots) (hx : p.tables.exec = Jvm.exec) (g : Go p e below T (mkF m pc Ls stk) A0) {k : Fin 4} {v : Value} (hd : decode c.code pc = .ok (.aload_n k, 1)) (hl : Ls[k.val]? = some (.val v)) (hv : v.isRef = true) : Go p e below T (mkF m (pc + 1) Ls (v :: stk)) A0 := fun _ k => g _ (XS.aloadN X.here hx rfl hd hl hv k)
theorem ja (X : Stand p l e R s m args below meth c T locs cells slots) (hx : p.tables.exec = Jvm.exec) (g : Go p e below T (mkF m pc Ls stk) A0) {k : Nat} {v : Value} (hd : decode c.code pc = .ok (.aload k, 2)) (hl : Ls[k]? = some (.val v)) (hv : v.isRef = true) : Go p e below T (mkF m (pc + 2) Ls (v :: stk)) A0 := fun _ k => g _ (XS.aload X.here hx rfl hd hl hv k)
theorem jI (X : Stand p l e R s m args below meth c T locs cells slots) (hx : p.tables.exec = Jvm.exec) (g : Go p e below T (mkF m pc Ls stk) A0) {k : Fin 4} {v : Int32} (hd : decode c.code pc = .ok (.iload_n k, 1)) (hl : Ls[k.val]? = some (.val (.int v))) : Go p e below T (mkF m (pc + 1) Ls (.int v :: stk)) A0 := fun _ k => g _ (XS.iloadN X.here hx rfl hd hl k)
theorem ji (X : Stand p l e R s m args below meth c T locs cells slots) (hx : p.tables.exec = Jvm.exec) (g : Go p e below T (mkF m pc Ls stk) A0) {k : Nat} {v : Int32} (hd : decode c.code pc = .ok (.iload k, 2)) (hl : Ls[k]? = some (.val (.int v))) : Go p e below T (mkF m (pc + 2) Ls (.int v :: stk)) A0 := fun _ k => g _ (XS.iload X.here hx rfl hd hl k)
theorem jc (X : Stand p l e R s m args below meth c T locs cells slots) (hx : p.tables.exec = Jvm.exec) (g : Go p e below T (mkF m pc Ls stk) A0) {i : Int} (hd : decode c.code pc = .ok (.iconst i, 1)) (v : Int32) (hv : Int32.ofInt i = v) : Go p e below T (mkF m (pc + 1) Ls (.int v :: stk)) A0 := fun _ k => g _ (XS.iconst X.here hx rfl hd (hv ▸ k))
theorem jb (X : Stand p l e R s m args below meth c T locs cells slots) (hx : p.tables.exec = Jvm.exec) (g : Go p e below T (mkF m pc Ls stk) A0) {i : Int} (hd : decode c.code pc = .ok (.bipush i, 2)) (v : Int32) (hv : (Int8.ofInt i).toInt32 = v) : Go p e below T (mkF m (pc + 2) Ls (.int v :: stk)) A0 := fun _ k => g _ (XS.bipush X.here hx rfl hd (hv ▸ k))
theorem jp (X : Stand p l e R s m args below meth c T locs cells slots) (hx : p.tables.exec = Jvm.exec) (g : Go p e below T (mkF m pc Ls stk) A0) {i : Int} (hd : decode c.code pc = .ok (.sipush i, 3)) (v : Int32) (hv : (Int16.ofInt i).toInt32 = v) : Go p e below T (mkF m (pc + 3) Ls (.int v :: stk)) A0 := fun _ k => g _ (XS.sipush X.here hx rfl hd (hv ▸ k))
theorem jS (X : Stand p l e R s m args below meth c T locs cells slots) (hx : p.tables.exec = Jvm.exec) (g : Go p e below T (mkF m pc Ls stk) A0) {k : Fin 4} {x : Int32} {rest : List Value} (hd : decode c.code pc = .ok (.istore_n k, 1)) (hs : stk = .int x :: rest) {l' : Array Slot} (hl : storeLocals Ls k.val (.int x) = some l') : Go p e below T (mkF m (pc + 1) l' rest) A0 := fun _ k => g _ (XS.istoreN X.here hx rfl hd hs hl k)
theorem js (X : Stand p l e R s m args below meth c T locs cells slots) (hx : p.tables.exec = Jvm.exec) (g : Go p e below T (mkF m pc Ls stk) A0) {k : Nat} {x : Int32} {rest : List Value} (hd : decode c.code pc = .ok (.istore k, 2)) (hs : stk = .int x :: rest) {l' : Array Slot} (hl : storeLocals Ls k (.int x) = some l') : Go p e below T (mkF m (pc + 2) l' rest) A0 := fun _ k => g _ (XS.istore X.here hx rfl hd hs hl k)
theorem jT (X : Stand p l e R s m args below meth c T locs cells slots) (hx : p.tables.exec = Jvm.exec) (g : Go p e below T (mkF m pc Ls stk) A0) {k : Fin 4} {x : Value} {rest : List Value} (hd : decode c.code pc = .ok (.astore_n k, 1)) (hs : stk = x :: rest) (hv : x.isRef = true) {l' : Array Slot} (hl : storeLocals Ls k.val x = some l') : Go p e below T (mkF m (pc + 1) l' rest) A0 := fun _ k => g _ (XS.astoreN X.here hx rfl hd hs hv hl k)
theorem jt (X : Stand p l e R s m args below meth c T locs cells slots) (hx : p.tables.exec = Jvm.exec) (g : Go p e below T (mkF m pc Ls stk) A0) {k : Nat} {x : Value} {rest : List Value} (hd : decode c.code pc = .ok (.astore k, 2)) (hs : stk = x :: rest) (hv : x.isRef = true) {l' : Array Slot} (hl : storeLocals Ls k x = some l') : Go p e below T (mkF m (pc + 2) l' rest) A0 := fun _ k => g _ (XS.astore X.here hx rfl hd hs hv hl k)
theorem jP (X : Stand p l e R s m args below meth c T locs cells slots) (hx : p.tables.exec = Jvm.exec) (g : Go p e below T (mkF m pc Ls stk) A0) {x y : Int32} {rest : List Value} (hd : decode c.code pc = .ok (.iadd, 1)) (hs : stk = .int y :: .int x :: rest) : Go p e below T (mkF m (pc + 1) Ls (.int (x + y) :: rest)) A0 := fun _ k => g _ (XS.iadd X.here hx rfl hd hs k)
theorem jM (X : Stand p l e R s m args below meth c T locs cells slots) (hx : p.tables.exec = Jvm.exec) (g : Go p e below T (mkF m pc Ls stk) A0) {x y : Int32} {rest : List Value} (hd : decode c.code pc = .ok (.isub, 1)) (hs : stk = .int y :: .int x :: rest) : Go p e below T (mkF m (pc + 1) Ls (.int (x - y) :: rest)) A0 := fun _ k => g _ (XS.isub X.here hx rfl hd hs k)
theorem jB (X : Stand p l e R s m args below meth c T locs cells slots) (hx : p.tables.exec = Jvm.exec) (g : Go p e below T (mkF m pc Ls stk) A0) {x y : Int32} {rest : List Value} (hd : decode c.code pc = .ok (.iand, 1)) (hs : stk = .int y :: .int x :: rest) : Go p e below T (mkF m (pc + 1) Ls (.int (x &&& y) :: rest)) A0 := fun _ k => g _ (XS.iand X.here hx rfl hd hs k)
theorem jd (X : Stand p l e R s m args below meth c T locs cells slots) (hx : p.tables.exec = Jvm.exec) (g : Go p e below T (mkF m pc Ls stk) A0) {x : Value} {rest : List Value} (hd : decode c.code pc = .ok (.dup, 1)) (hs : stk = x :: rest) (hc : x.category = 1) : Go p e below T (mkF m (pc + 1) Ls (x :: x :: rest)) A0 := fun _ k => g _ (XS.dup X.here hx rfl hd hs hc k)
theorem jo (X : Stand p l e R s m args below meth c T locs cells slots) (hx : p.tables.exec = Jvm.exec) (g : Go p e below T (mkF m pc Ls stk) A0) {x : Value} {rest : List Value} (hd : decode c.code pc = .ok (.pop, 1)) (hs : stk = x :: rest) (hc : x.category = 1) : Go p e below T (mkF m (pc + 1) Ls rest) A0 := fun _ k => g _ (XS.pop X.here hx rfl hd hs hc k)
theorem jg (X : Stand p l e R s m args below meth c T locs cells slots) (hx : p.tables.exec = Jvm.exec) (g : Go p e below T (mkF m pc Ls stk) A0) {o : Int} {pc' : Nat} (hd : decode c.code pc = .ok (.goto o, 3)) (hp : 0 ≤ (pc : Int) + o ∧ ((pc : Int) + o).toNat = pc') : Go p e below T (mkF m pc' Ls stk) A0 := fun _ k => g _ (XS.goto X.here hx rfl rfl hd hp.1 hp.2 k)
theorem jY (X : Stand p l e R s m args below meth c T locs cells slots) (hx : p.tables.exec = Jvm.exec) (g : Go p e below T (mkF m pc Ls stk) A0) {cd : ClassFile.Cond} {x : Int32} {rest : List Value} {o : Int} {pc' : Nat} (hd : decode c.code pc = .ok (.ifCond cd o, 3)) (hs : stk = .int x :: rest) (hc : ifCond.holds cd x = true) (hp : 0 ≤ (pc : Int) + o ∧ ((pc : Int) + o).toNat = pc') : Go p e below T (mkF m pc' Ls rest) A0 := fun _ k => g _ (XS.ifYes X.here hx rfl rfl hd hs hc hp.1 hp.2 k)
theorem jN (X : Stand p l e R s m args below meth c T locs cells slots) (hx : p.tables.exec = Jvm.exec) (g : Go p e below T (mkF m pc Ls stk) A0) {cd : ClassFile.Cond} {x : Int32} {rest : List Value} {o : Int} (hd : decode c.code pc = .ok (.ifCond cd o, 3)) (hs : stk = .int x :: rest) (hc : ifCond.holds cd x = false) : Go p e below T (mkF m (pc + 3) Ls rest) A0 := fun _ k => g _ (XS.ifNo X.here hx rfl hd hs hc k)
theorem jy (X : Stand p l e R s m args below meth c T locs cells slots) (hx : p.tables.exec = Jvm.exec) (g : Go p e below T (mkF m pc Ls stk) A0) {cd : ClassFile.Cond} {x y : Int32} {rest : List Value} {o : Int} {pc' : Nat} (hd : decode c.code pc = .ok (.if_icmp cd o, 3)) (hs : stk = .int y :: .int x :: rest) (hc : if_icmp.holds cd x y = true) (hp : 0 ≤ (pc : Int) + o ∧ ((pc : Int) + o).toNat = pc') : Go p e below T (mkF m pc' Ls rest) A0 := fun _ k => g _ (XS.icmpYes X.here hx rfl rfl hd hs hc hp.1 hp.2 k)
theorem jn (X : Stand p l e R s m args below meth c T locs cells slots) (hx : p.tables.exec = Jvm.exec) (g : Go p e below T (mkF m pc Ls stk) A0) {cd : ClassFile.Cond} {x y : Int32} {rest : List Value} {o : Int} (hd : decode c.code pc = .ok (.if_icmp cd o, 3)) (hs : stk = .int y :: .int x :: rest) (hc : if_icmp.holds cd x y = false) : Go p e below T (mkF m (pc + 3) Ls rest) A0 := fun _ k => g _ (XS.icmpNo X.here hx rfl hd hs hc k)
theorem jk (X : Stand p l e R s m args below meth c T locs cells slots) (hx : p.tables.exec = Jvm.exec) (g : Go p e below T (mkF m pc Ls stk) A0) {k : Nat} {cst : Int} {x : Int32} (hd : decode c.code pc = .ok (.iinc k cst, 3)) (hl : Ls[k]? = some (.val (.int x))) {l' : Array Slot} (hl' : storeLocals Ls k (.int (x + Int32.ofInt cst)) = some l') : Go p e below T (mkF m (pc + 3) l' stk) A0 := fun _ k => g _ (XS.iinc X.here hx rfl hd hl hl' k)
theorem jL (X : Stand p l e R s m args below meth c T locs cells slots) (hx : p.tables.exec = Jvm.exec) (g : Go p e below T (mkF m pc Ls stk) A0) {x y : Int32} {rest : List Value} (hd : decode c.code pc = .ok (.ishl, 1)) (hs : stk = .int y :: .int x :: rest) : Go p e below T (mkF m (pc + 1) Ls (.int (x <<< (y &&& 31)) :: rest)) A0 := fun _ k => g _ (XS.ishl X.here hx rfl hd hs k)
theorem jR (X : Stand p l e R s m args below meth c T locs cells slots) (hx : p.tables.exec = Jvm.exec) (g : Go p e below T (mkF m pc Ls stk) A0) {x y : Int32} {rest : List Value} (hd : decode c.code pc = .ok (.ishr, 1)) (hs : stk = .int y :: .int x :: rest) : Go p e below T (mkF m (pc + 1) Ls (.int (x >>> (y &&& 31)) :: rest)) A0 := fun _ k => g _ (XS.ishr X.here hx rfl hd hs k)
theorem jO (X : Stand p l e R s m args below meth c T locs cells slots) (hx : p.tables.exec = Jvm.exec) (g : Go p e below T (mkF m pc Ls stk) A0) {x y : Int32} {rest : List Value} (hd : decode c.code pc = .ok (.ior, 1)) (hs : stk = .int y :: .int x :: rest) : Go p e below T (mkF m (pc + 1) Ls (.int (x ||| y) :: rest)) A0 := fun _ k => g _ (XS.ior X.here hx rfl hd hs k)
theorem jx (X : Stand p l e R s m args below meth c T locs cells slots) (hx : p.tables.exec = Jvm.exec) (g : Go p e below T (mkF m pc Ls stk) A0) {x : Int32} {rest : List Value} (hd : decode c.code pc = .ok (.i2b, 1)) (hs : stk = .int x :: rest) : Go p e below T (mkF m (pc + 1) Ls (.int (x.toInt8.toInt32) :: rest)) A0 := fun _ k => g _ (XS.i2b X.here hx rfl hd hs k)
theorem jz (X : Stand p l e R s m args below meth c T locs cells slots) (hx : p.tables.exec = Jvm.exec) (g : Go p e below T (mkF m pc Ls stk) A0) {x : Int32} {rest : List Value} (hd : decode c.code pc = .ok (.i2c, 1)) (hs : stk = .int x :: rest) : Go p e below T (mkF m (pc + 1) Ls (.int (x.toUInt32.toUInt16.toUInt32.toInt32) :: rest)) A0 := fun _ k => g _ (XS.i2c X.here hx rfl hd hs k)
theorem jm (X : Stand p l e R s m args below meth c T locs cells slots) (hx : p.tables.exec = Jvm.exec) (g : Go p e below T (mkF m pc Ls stk) A0) {x : Int32} {rest : List Value} (hd : decode c.code pc = .ok (.ineg, 1)) (hs : stk = .int x :: rest) : Go p e below T (mkF m (pc + 1) Ls (.int (-x) :: rest)) A0 := fun _ k => g _ (XS.ineg X.here hx rfl hd hs k)
theorem own_rwS {a b : Int32} (g : Go p e below T (mkF m pc Ls (.int a :: stk)) A0) (h : a = b) : Go p e below T (mkF m pc Ls (.int b :: stk)) A0 := h ▸ g
theorem own_getS (X : Stand p l e R s m args below meth c T locs cells slots) (hx : p.tables.exec = Jvm.exec) (hZ : Z.Warmed39 s.vm) {R0 O n d : String} (hown : s.vm.findClass own = some m.cls) (w : (Cond.fieldLink own index R0 n d).before a0 Z = true) (via : Via Z R0 O n d) (eT : T.heap = h) {v : Value} (F : Sta Z h O n d v) (g : Go p e below T (mkF m pc Ls stk) A0) (hd : decode c.code pc = .ok (.getstatic index, 3)) :
    ∃ T', Stand p l e R s m args below meth c T' locs cells slots ∧ T'.heap = h ∧ Go p e below T' (mkF m (pc + 3) Ls (v :: stk)) A0 := by
  obtain ⟨T', X', e', st⟩ := getS2 X hx hZ hown (host := "") (Or.inl w) via eT F (g := mkF m pc Ls stk) rfl hd
  exact ⟨T', X', e', fun t kont => g t (st t kont)⟩
theorem own_callU (X : Stand p l e R s m args below meth c T locs cells slots) (hx : p.tables.exec = Jvm.exec) (hZ : Z.Warmed39 s.vm) (hown : s.vm.findClass own = some m.cls)
    (w1 : (Cond.methodLink own index y).before a0 Z = true) (w2 : (Cond.sameMethod y.cls y.cls y.name y.desc).before a0 Z = true) (w3 : (Cond.instanceMethod y).before a0 Z = true) (w5 : (Cond.superclass own y.cls).before a0 Z = true) (w6 : (Cond.initialized y.cls).before a0 Z = true) (w4 : (Cond.code y bytes maxL ret).before a0 Z = true) (hn : y.name ≠ "<init>") (Ex : Exa Z h b C)
    (hM : own_M l y (Cond.code y bytes maxL ret) [] rm (Value.ref b :: argsL).toArray Z h Q) (g : Go p e below T (mkF m pc Ls stk) A0) (E : T.heap = h) (rest : List Value) (hst : stk = argsL.reverse ++ .ref b :: rest) (hlen : ∀ sig, parseMethodDescriptor y.desc = some sig → argsL.length = sig.parameters.length) (hd : decode c.code pc = .ok (.invokespecial index, 3)) (hsize : Ls.size = c.maxLocals) (W : Nat) (hW : (rest.map fun v => v.category).sum = W) (hR : rm.frames + 1 ≤ R.frames ∧ W + (maxL + 11) + rm.locals ≤ R.locals ∧ cells + rm.cells ≤ R.cells ∧ slots + rm.slots ≤ R.slots) :
    ∃ v L T', Q v T'.heap L ∧ Stand p l e R s m args below meth c T' (locs ++ L) (cells + rm.cells) (slots + rm.slots) ∧ Go p e below T' (mkF m (pc + 3) Ls (v.toList ++ rest)) A0 := by
  obtain ⟨hf, hl, hc, hs⟩ := hR
  obtain ⟨v, _, ⟨T', L', k', n'⟩, -, X', ⟨L, hQ, e1, e2, e3⟩, st⟩ := superBack X hx hZ hown w1 w2 w3 w5 hn (backOf (W := W) hM hZ w4 w6 hf hl) E (Ins.self Ex) (g := mkF m pc Ls stk) rfl hsize w4 (argsL := argsL) (rest := rest) hlen hst (by show 2 * 0 + _ ≤ _; omega) hd (fun _ _ => ⟨rfl, E, hc, hs⟩)
  dsimp only [Pt.U, Pt.locs, Pt.cells, Pt.slots] at X' e1 e2 e3 st hQ
  subst e1 e2 e3
  exact ⟨v, L, T', hQ, X', fun t kont => g t (st.trans kont)⟩
theorem own_callF (X : Stand p l e R s m args below meth c T locs cells slots) (hx : p.tables.exec = Jvm.exec) (hZ : Z.Warmed39 s.vm) (hown : s.vm.findClass own = some m.cls) {count : Nat}
    (w1 : (Cond.methodLink own index y).before a0 Z = true) (w2 : (Cond.declares y).before a0 Z = true) (w7 : (Cond.interfaceMethod y.cls y.cls y.name y.desc).before args s = true) (w5 : (Cond.selects C y z).before a0 Z = true) (w6 : (Cond.instanceMethod z).before a0 Z = true) (w8 : (Cond.publicMethod z).before a0 Z = true) (w9 : (Cond.unhidden C y.name y.desc).before a0 Z = true) (wa : (Cond.castable C y.cls).before a0 Z = true) (w3 : (Cond.initialized z.cls).before a0 Z = true) (w4 : (Cond.code z bytes maxL ret).before a0 Z = true) (hy : own_np y) (Ex : Exa Z h b C)
    (hM : own_M l z (Cond.code z bytes maxL ret) [] rm (Value.ref b :: argsL).toArray Z h Q) (g : Go p e below T (mkF m pc Ls stk) A0) (E : T.heap = h) (rest : List Value) (hst : stk = argsL.reverse ++ .ref b :: rest) (hlen : ∀ sig, parseMethodDescriptor y.desc = some sig → argsL.length = sig.parameters.length) (hd : decode c.code pc = .ok (.invokeinterface index count, 5)) (hsize : Ls.size = c.maxLocals) (W : Nat) (hW : (rest.map fun v => v.category).sum = W) (hR : rm.frames + 1 ≤ R.frames ∧ W + (maxL + 11) + rm.locals ≤ R.locals ∧ cells + rm.cells ≤ R.cells ∧ slots + rm.slots ≤ R.slots) :
    ∃ v L T', Q v T'.heap L ∧ Stand p l e R s m args below meth c T' (locs ++ L) (cells + rm.cells) (slots + rm.slots) ∧ Go p e below T' (mkF m (pc + 5) Ls (v.toList ++ rest)) A0 := by
  obtain ⟨hf, hl, hc, hs⟩ := hR
  obtain ⟨_, _, q1, q2, q3⟩ := isOf hZ E Ex
  obtain ⟨v, _, ⟨T', L', k', n'⟩, -, X', ⟨L, hQ, e1, e2, e3⟩, st⟩ := X.interfaceBack hx hown (mvT hZ w1) (mvT hZ w2) w7 (mvT hZ w5) (mvT hZ w6) (mvT hZ w8) (mvT hZ w9) (mvT hZ wa) hy (backOf (W := W) hM hZ w4 w3 hf hl) q1 q2 q3 (g := mkF m pc Ls stk) rfl hsize (Steps.refl _) (argsL := argsL) (rest := rest) hlen hst (by show 2 * 0 + _ ≤ _; omega) hd (fun _ _ => ⟨rfl, E, hc, hs⟩)
  dsimp only [Pt.U, Pt.locs, Pt.cells, Pt.slots] at X' e1 e2 e3 st hQ
  subst e1 e2 e3
  exact ⟨v, L, T', hQ, X', fun t kont => g t (st.trans kont)⟩
end Call
theorem own_narb (x : Int32) : nar .byte (x.toInt8.toInt32) = x.toInt8.toInt32 := by
  show x.toInt8.toInt32.toInt8.toInt32 = _
  simp
theorem own_ft_byte {z y : Int32} (e : nar .byte z = y) : fits .byte (.int y) = true := by rw [← e]; exact fits_nar_byte z
theorem own_ft_char {z y : Int32} (e : nar .char z = y) : fits .char (.int y) = true := by rw [← e]; exact fits_nar_char z
theorem own_ft_boolean {z y : Int32} (e : nar .boolean z = y) : fits .boolean (.int y) = true := by rw [← e]; exact fits_nar_bool z
theorem own_nw_byte {z y : Int32} (e : nar .byte z = y) : narrow .byte (.int z) = .int y := by rw [← e]; rfl
theorem own_nw_boolean {z y : Int32} (e : nar .boolean z = y) : narrow .boolean (.int z) = .int y := by rw [← e]; rfl
theorem own_narc (x : Int32) : nar .char (x.toUInt32.toUInt16.toUInt32.toInt32) = x.toUInt32.toUInt16.toUInt32.toInt32 := by
  show x.toUInt32.toUInt16.toUInt32.toInt32.toUInt32.toUInt16.toUInt32.toInt32 = _
  have q := c_i2c x
  have r := c_i2c x.toUInt32.toUInt16.toUInt32.toInt32
  apply Int32.toInt_inj.mp
  omega
end Jvm.RoadKit
namespace Jvm.RoadKit
open Sem ClassFile Op Lib Jvm.Stand Jvm.Free Jvm.LawKit
theorem own_ge_or {n r v k : Nat} (h : r = v ∨ k ≤ r) (hv : n ≤ v) (hk : n ≤ k) : n ≤ r := by rcases h with rfl | h; exact hv; exact Nat.le_trans hk h
theorem own_ne_or {x r v k : Nat} (h : r = v ∨ k ≤ r) (hx : x < k) (hn : ¬ (x = v)) : ¬ (x = r) := by rcases h with rfl | h; exact hn; exact Nat.ne_of_lt (Nat.lt_of_lt_of_le hx h)
theorem own_in_or {r v k j : Nat} {l : List Nat} (h : r = v ∨ k ≤ r) (hv : v ∈ l ∨ j ≤ v) (hj : j ≤ k) : r ∈ l ∨ j ≤ r := by rcases h with rfl | h; exact hv; exact Or.inr (Nat.le_trans hj h)
theorem own_alt_trans {r v u k j : Nat} (h : r = v ∨ k ≤ r) (h2 : v = u ∨ j ≤ v) (hj : j ≤ k) : r = u ∨ j ≤ r := by rcases h with rfl | h; exact h2; exact Or.inr (Nat.le_trans hj h)
theorem own_old_le {Z : State} {n0 : Nat} {h : Heap} (O : Old Z n0 h) : n0 ≤ h.size := O.1 ▸ O.2.1
theorem own_eqint {args : Array Value} {s : State} {t : Term} {k : Int32} (h : (Cond.eq t (.int k)).value args s none s [] = some true) : t.eval args s none [] s = some (.int k) := by
  obtain ⟨x, y, h1, h2, -, k2⟩ := cmp_v (Or.inl h)
  cases h2.symm.trans (Term.int_eval k)
  obtain ⟨z, rfl⟩ := k2
  have e : z = k := gotT (Cond.eq_ints h1 h2) h
  subst e
  exact h1
end Jvm.RoadKit
namespace Jvm.RoadKit
open Sem ClassFile Op Lib Jvm.Stand Jvm.Free Jvm.LawKit
end Jvm.RoadKit
namespace Jvm.RoadKit
open Sem ClassFile Op Lib Jvm.Stand Jvm.Free Jvm.LawKit
end Jvm.RoadKit
namespace Jvm.RoadKit
open Sem ClassFile Op Lib Jvm.Stand Jvm.Free Jvm.LawKit
theorem own_narid {c : Int32} (h0 : ¬ (c < (0 : Int32))) (h1 : ¬ ((65535 : Int32) < c)) : nar .char c = c := by
  show c.toUInt32.toUInt16.toUInt32.toInt32 = c
  have q := c_i2c c
  have a' : ¬ (c.toInt < 0) := fun z => h0 (Int32.lt_iff_toInt_lt.mpr z)
  have b' : ¬ (65535 < c.toInt) := fun z => h1 (Int32.lt_iff_toInt_lt.mpr z)
  apply Int32.toInt_inj.mp
  omega
theorem own_w255 {c : Int32} (h : ¬ ((255 : Int32) < c)) : ¬ ((65535 : Int32) < c) := by
  intro q
  have b' : ¬ (255 < c.toInt) := fun z => h (Int32.lt_iff_toInt_lt.mpr z)
  have q' : 65535 < c.toInt := Int32.lt_iff_toInt_lt.mp q
  omega
theorem own_i2c0 (x : Int32) : ¬ (x.toUInt32.toUInt16.toUInt32.toInt32 < (0 : Int32)) := by
  intro z
  have q := c_i2c x
  have z' : x.toUInt32.toUInt16.toUInt32.toInt32.toInt < 0 := Int32.lt_iff_toInt_lt.mp z
  omega
theorem own_i2c1 (x : Int32) : ¬ ((65535 : Int32) < x.toUInt32.toUInt16.toUInt32.toInt32) := by
  intro z
  have q := c_i2c x
  have z' : 65535 < x.toUInt32.toUInt16.toUInt32.toInt32.toInt := Int32.lt_iff_toInt_lt.mp z
  omega
theorem own_rec8 {c : Int32} (h0 : ¬ (c < (0 : Int32))) (h1 : ¬ ((255 : Int32) < c)) : (c.toInt8.toInt32 &&& (255 : Int32)).toUInt32.toUInt16.toUInt32.toInt32 = c := by
  rw [i2c_mask]
  have q := c_i2b c
  have r : (c.toInt8.toInt32 &&& (255 : Int32)).toInt = c.toInt8.toInt32.toInt % 256 := c_mask c.toInt8.toInt32 255 8 (by decide) (by decide)
  have a' : ¬ (c.toInt < 0) := fun z => h0 (Int32.lt_iff_toInt_lt.mpr z)
  have b' : ¬ (255 < c.toInt) := fun z => h1 (Int32.lt_iff_toInt_lt.mpr z)
  apply Int32.toInt_inj.mp
  omega
theorem own_rec16 {c : Int32} (h0 : ¬ (c < (0 : Int32))) (h1 : ¬ ((65535 : Int32) < c)) :
    ((((c >>> ((0 : Int32) &&& 31)).toInt8.toInt32 &&& (255 : Int32)) <<< ((0 : Int32) &&& 31)) ||| (((c >>> ((8 : Int32) &&& 31)).toInt8.toInt32 &&& (255 : Int32)) <<< ((8 : Int32) &&& 31))).toUInt32.toUInt16.toUInt32.toInt32 = c := by
  have a' : ¬ (c.toInt < 0) := fun z => h0 (Int32.lt_iff_toInt_lt.mpr z)
  have b' : ¬ (65535 < c.toInt) := fun z => h1 (Int32.lt_iff_toInt_lt.mpr z)
  have a1 : (c >>> ((0 : Int32) &&& 31)).toInt = c.toInt / 1 := c_ishr c 0 0 (by decide)
  have a2 : (c >>> ((8 : Int32) &&& 31)).toInt = c.toInt / 256 := c_ishr c 8 8 (by decide)
  have b1 := c_i2b (c >>> ((0 : Int32) &&& 31))
  have b2 := c_i2b (c >>> ((8 : Int32) &&& 31))
  have d1 : ((c >>> ((0 : Int32) &&& 31)).toInt8.toInt32 &&& (255 : Int32)).toInt = (c >>> ((0 : Int32) &&& 31)).toInt8.toInt32.toInt % 256 := c_mask _ 255 8 (by decide) (by decide)
  have d2 : ((c >>> ((8 : Int32) &&& 31)).toInt8.toInt32 &&& (255 : Int32)).toInt = (c >>> ((8 : Int32) &&& 31)).toInt8.toInt32.toInt % 256 := c_mask _ 255 8 (by decide) (by decide)
  generalize (c >>> ((0 : Int32) &&& 31)).toInt8.toInt32 &&& (255 : Int32) = u at *
  generalize (c >>> ((8 : Int32) &&& 31)).toInt8.toInt32 &&& (255 : Int32) = w at *
  have f1 : (u <<< ((0 : Int32) &&& 31)) = u := by rw [shlm (m := 1) (by decide)]; simp
  have f2 : (w <<< ((8 : Int32) &&& 31)) = w * 256 := shlm (by decide)
  rw [f1, f2]
  have g2 : ((w * 256).toInt - (w.toInt * 256)) % 4294967296 = 0 := c_imul w 256
  have r2 := rng32 (w * 256)
  have m1 : (w * 256).toInt = w.toInt * 256 := by omega
  have k := c_or' u (w * 256) 8 (by decide) 256 (by decide)
  have o := c_i2c (u ||| w * 256)
  have ro := rng32 (u ||| w * 256)
  apply Int32.toInt_inj.mp
  have := k (by omega) (by omega) (by omega)
  omega
end Jvm.RoadKit
namespace Jvm.RoadKit
open Sem ClassFile Op Lib Jvm.Stand Jvm.Free Jvm.LawKit
theorem own_nn {k : Nat} (h : k < 2147483648) : (Int32.ofNat k).toInt = k := Int32.toInt_ofNat_of_lt h
theorem own_lt {a b : Nat} (h : a < b) (hb : b < 2147483648) : Int32.ofNat a < Int32.ofNat b := by
  rw [Int32.lt_iff_toInt_lt, own_nn (by omega), own_nn hb]; omega
theorem own_nlt {a b : Nat} (h : b ≤ a) (ha : a < 2147483648) : ¬ (Int32.ofNat a < Int32.ofNat b) := by
  rw [Int32.lt_iff_toInt_lt, own_nn ha, own_nn (by omega)]; omega
theorem own_nonneg {k : Nat} (h : k < 2147483648) : ¬ (Int32.ofNat k < (0 : Int32)) := by
  intro q
  have q' : (Int32.ofNat k).toInt < 0 := Int32.lt_iff_toInt_lt.mp q
  rw [own_nn h] at q'; omega
theorem own_clamp {k : Nat} (h : k < 2147483648) : (Int32.ofNat k).toNatClampNeg = k := by
  simp only [Int32.toNatClampNeg, own_nn h]; rfl
theorem own_succ (k : Nat) : Int32.ofNat k + (1 : Int32) = Int32.ofNat (k + 1) := (Int32.ofNat_add k 1).symm
theorem own_inj {a b : Nat} (ha : a < 2147483648) (hb : b < 2147483648) (h : ¬ (a = b)) : ¬ (Int32.ofNat a = Int32.ofNat b) := fun q => h (by
  have := congrArg Int32.toInt q
  rw [own_nn ha, own_nn hb] at this; omega)
theorem own_getc (ls : List Int32) (i : Nat) : (ls.map Value.int).getD i (.int 0) = .int (ls.getD i 0) := by
  simp only [List.getD_eq_getElem?_getD, List.getElem?_map]
  cases ls[i]? <;> rfl
def own_b8 (c : Int32) : Int32 := c.toInt8.toInt32
def own_lo (c : Int32) : Int32 := (c >>> ((0 : Int32) &&& 31)).toInt8.toInt32
def own_hi (c : Int32) : Int32 := (c >>> ((8 : Int32) &&& 31)).toInt8.toInt32
def own_lb (ls : List Int32) : List Value := ls.map (fun c => .int (own_b8 c))
def own_wb : List Int32 → List Value
  | [] => []
  | c :: r => .int (own_lo c) :: .int (own_hi c) :: own_wb r
theorem own_lb_len (ls : List Int32) : (own_lb ls).length = ls.length := by simp [own_lb]
theorem own_wb_len : ∀ ls : List Int32, (own_wb ls).length = 2 * ls.length
  | [] => rfl
  | c :: r => by simp [own_wb, own_wb_len r]; omega
theorem own_lb_get {ls : List Int32} {i : Nat} (h : i < ls.length) : (own_lb ls).getD i (.int 0) = .int ((ls.getD i 0).toInt8.toInt32) := by
  simp [own_lb, List.getD_eq_getElem?_getD, h, own_b8]
theorem own_wb_get0 : ∀ {ls : List Int32} {i : Nat}, i < ls.length → (own_wb ls).getD (2 * i) (.int 0) = .int (((ls.getD i 0) >>> ((0 : Int32) &&& 31)).toInt8.toInt32)
  | c :: r, 0, _ => by simp [own_wb, own_lo]
  | c :: r, i + 1, h => by
    have := own_wb_get0 (ls := r) (i := i) (by simpa using h)
    simpa [own_wb, Nat.mul_add] using this
theorem own_wb_get1 : ∀ {ls : List Int32} {i : Nat}, i < ls.length → (own_wb ls).getD (2 * i + 1) (.int 0) = .int (((ls.getD i 0) >>> ((8 : Int32) &&& 31)).toInt8.toInt32)
  | c :: r, 0, _ => by simp [own_wb, own_hi]
  | c :: r, i + 1, h => by
    have := own_wb_get1 (ls := r) (i := i) (by simpa using h)
    simpa [own_wb, Nat.mul_add] using this
def own_F (ls : List Int32) (k : Nat) : List Value := own_lb (ls.take k) ++ List.replicate (ls.length - k) (.int 0)
theorem own_F0 (ls : List Int32) : own_F ls 0 = List.replicate ls.length (.int 0) := by simp [own_F, own_lb]
theorem own_Fn (ls : List Int32) : own_F ls ls.length = own_lb ls := by simp [own_F]
theorem own_Flen {ls : List Int32} {k : Nat} (h : k ≤ ls.length) : (own_F ls k).length = ls.length := by simp [own_F, own_lb]; omega
theorem own_FS {ls : List Int32} {k : Nat} (h : k < ls.length) : (own_F ls k).set k (.int ((ls.getD k 0).toInt8.toInt32)) = own_F ls (k + 1) := by
  have e : ls.length - k = (ls.length - (k + 1)) + 1 := by omega
  have t : (own_lb (ls.take k)).length = k := by rw [own_lb_len, List.length_take]; omega
  unfold own_F
  rw [List.set_append_right k _ (by omega), t, Nat.sub_self, e, List.replicate_succ, List.set_cons_zero]
  have u : ls.take (k + 1) = ls.take k ++ [ls.getD k 0] := by
    rw [List.take_add_one, List.getD_eq_getElem?_getD, List.getElem?_eq_getElem h]; rfl
  rw [u]
  simp [own_lb, own_b8]
def own_G (ls : List Int32) (k : Nat) : List Value := own_wb (ls.take k) ++ List.replicate (2 * (ls.length - k)) (.int 0)
theorem own_G0 (ls : List Int32) : own_G ls 0 = List.replicate (2 * ls.length) (.int 0) := by simp [own_G, own_wb]
theorem own_Gn (ls : List Int32) : own_G ls ls.length = own_wb ls := by simp [own_G]
theorem own_Glen {ls : List Int32} {k : Nat} (h : k ≤ ls.length) : (own_G ls k).length = 2 * ls.length := by simp [own_G, own_wb_len]; omega
theorem own_wb_app : ∀ (a b : List Int32), own_wb (a ++ b) = own_wb a ++ own_wb b
  | [], b => rfl
  | c :: r, b => by simp [own_wb, own_wb_app r b]
theorem own_GS {ls : List Int32} {k : Nat} (h : k < ls.length) : ((own_G ls k).set (2 * k) (.int (((ls.getD k 0) >>> ((0 : Int32) &&& 31)).toInt8.toInt32))).set (2 * k + 1) (.int (((ls.getD k 0) >>> ((8 : Int32) &&& 31)).toInt8.toInt32)) = own_G ls (k + 1) := by
  have e : 2 * (ls.length - k) = (2 * (ls.length - (k + 1))) + 1 + 1 := by omega
  have t : (own_wb (ls.take k)).length = 2 * k := by rw [own_wb_len, List.length_take]; omega
  unfold own_G
  rw [List.set_append_right _ _ (by omega), t, Nat.sub_self, e, List.replicate_succ, List.replicate_succ, List.set_cons_zero, List.set_append_right _ _ (by omega), t]
  have u : ls.take (k + 1) = ls.take k ++ [ls.getD k 0] := by
    rw [List.take_add_one, List.getD_eq_getElem?_getD, List.getElem?_eq_getElem h]; rfl
  rw [u, own_wb_app, show 2 * k + 1 - 2 * k = 1 by omega, List.set_cons_succ, List.set_cons_zero]
  simp [own_wb, own_lo, own_hi]
theorem own_first (P : Nat → Prop) (n : Nat) (h : ¬ ∀ i, i < n → ¬ P i) : ∃ r, r < n ∧ P r ∧ ∀ i, i < r → ¬ P i := by
  induction n with
  | zero => exact absurd (fun i hi => absurd hi (Nat.not_lt_zero i)) h
  | succ n ih =>
    by_cases q : ∀ i, i < n → ¬ P i
    · refine ⟨n, by omega, Classical.byContradiction fun z => h fun i hi => ?_, q⟩
      by_cases e : i = n
      · subst e; exact z
      · exact q i (by omega)
    · obtain ⟨r, h1, h2, h3⟩ := ih q
      exact ⟨r, by omega, h2, h3⟩
theorem own_dbl {n : Nat} (h : 2 * n < 2147483648) : Int32.ofNat n <<< ((1 : Int32) &&& 31) = Int32.ofNat (2 * n) := by
  have e : Int32.ofNat n <<< ((1 : Int32) &&& 31) = Int32.ofNat n * 2 := shlm (by decide)
  rw [e, Nat.mul_comm]; exact (Int32.ofNat_mul n 2).symm
theorem own_half {n : Nat} (h : 2 * n < 2147483648) : Int32.ofNat (2 * n) >>> ((1 : Int32) &&& 31) = Int32.ofNat n := by
  apply Int32.toInt_inj.mp
  have e : (Int32.ofNat (2 * n) >>> ((1 : Int32) &&& 31)).toInt = (Int32.ofNat (2 * n)).toInt / 2 := c_ishr _ 1 1 (by decide)
  rw [e, own_nn h, own_nn (by omega)]; omega
theorem own_shr0 (x : Int32) : x >>> ((0 : Int32) &&& 31) = x := by
  apply Int32.toInt_inj.mp
  have e : (x >>> ((0 : Int32) &&& 31)).toInt = x.toInt / 1 := c_ishr _ 0 0 (by decide)
  rw [e]; omega
theorem own_cfa0 (x : Int32) : (((x - x).toUInt32 >>> ((31 : Int32) &&& 31).toUInt32).toInt32).toInt8.toInt32 = (0 : Int32) := by
  rw [Int32.sub_self]; decide
theorem own_cfa1 {n : Nat} (h0 : 0 < n) (h : 2 * n < 2147483648) : (((Int32.ofNat n - Int32.ofNat (2 * n)).toUInt32 >>> ((31 : Int32) &&& 31).toUInt32).toInt32).toInt8.toInt32 = (1 : Int32) := by
  have b := c_isub (Int32.ofNat n) (Int32.ofNat (2 * n))
  rw [own_nn (by omega), own_nn h] at b
  have r := rng32 (Int32.ofNat n - Int32.ofNat (2 * n))
  have u : (((Int32.ofNat n - Int32.ofNat (2 * n)).toUInt32 >>> ((31 : Int32) &&& 31).toUInt32).toInt32).toInt = ((Int32.ofNat n - Int32.ofNat (2 * n)).toInt % 4294967296) / 2147483648 := c_iushr _ 31 31 (by decide) (by decide)
  have v : (((Int32.ofNat n - Int32.ofNat (2 * n)).toUInt32 >>> ((31 : Int32) &&& 31).toUInt32).toInt32) = 1 := by
    apply Int32.toInt_inj.mp
    show _ = 1
    omega
  rw [v]; decide
def own_chars (ls : List Int32) : Prop := ∀ i, i < ls.length → ¬ (ls.getD i 0 < (0 : Int32)) ∧ ¬ ((65535 : Int32) < ls.getD i 0)
def own_lat (ls : List Int32) : Prop := ∀ i, i < ls.length → ¬ ((255 : Int32) < ls.getD i 0)
def own_cod (ls : List Int32) (cd z : Int32) (vs : List Value) : Prop := (cd = (0 : Int32) ∧ z = Int32.ofNat ls.length ∧ vs = own_lb ls ∧ own_lat ls) ∨ (cd = (1 : Int32) ∧ z = Int32.ofNat (2 * ls.length) ∧ vs = own_wb ls)
theorem own_cod01 {ls : List Int32} {cd z : Int32} {vs : List Value} (h : own_cod ls cd z vs) : cd = (0 : Int32) ∨ cd = (1 : Int32) := h.imp (·.1) (·.1)
theorem own_cdlen {ls : List Int32} {cd z : Int32} {vs : List Value} (h : own_cod ls cd z vs) (hB : ls.length ≤ 4000) : z >>> (cd &&& 31) = Int32.ofNat ls.length := by
  rcases h with ⟨rfl, rfl, -⟩ | ⟨rfl, rfl, -⟩
  · exact own_shr0 _
  · exact own_half (by omega)
theorem own_cnil : own_chars [] := fun i h => absurd h (Nat.not_lt_zero i)
theorem own_ccons {c : Int32} {r : List Int32} (h : ¬ (c < (0 : Int32)) ∧ ¬ ((65535 : Int32) < c)) (t : own_chars r) : own_chars (c :: r) := by
  intro i hi
  cases i with
  | zero => exact h
  | succ i => exact t i (by simpa using hi)
theorem own_nar01 {c : Int32} (h : c = (0 : Int32) ∨ c = (1 : Int32)) : nar .byte c = c := by rcases h with rfl | rfl <;> decide
end Jvm.RoadKit
namespace Jvm.RoadKit
open Sem ClassFile Op Lib Jvm.Stand Jvm.Free Jvm.LawKit
def own_PL (ls : List Int32) : List Value := own_lb ls ++ List.replicate (256 - ls.length) (.int 0)
def own_PW (ls : List Int32) : List Value := own_wb ls ++ List.replicate (512 - 2 * ls.length) (.int 0)
theorem own_PLlen {ls : List Int32} (h : ls.length ≤ 256) : (own_PL ls).length = 256 := by simp [own_PL, own_lb_len]; omega
theorem own_PWlen {ls : List Int32} (h : ls.length ≤ 256) : (own_PW ls).length = 512 := by simp [own_PW, own_wb_len]; omega
theorem own_PL0 : own_PL [] = List.replicate 256 (.int 0) := rfl
theorem own_PW0 : own_PW [] = List.replicate 512 (.int 0) := rfl
theorem own_lb_app (a b : List Int32) : own_lb (a ++ b) = own_lb a ++ own_lb b := by simp [own_lb]
theorem own_PLset {ls : List Int32} {c : Int32} (h : ls.length < 256) : (own_PL ls).set ls.length (.int (c.toInt8.toInt32)) = own_PL (ls ++ [c]) := by
  have e : 256 - ls.length = (256 - (ls.length + 1)) + 1 := by omega
  unfold own_PL
  rw [List.set_append_right _ _ (by rw [own_lb_len]; omega), own_lb_len, Nat.sub_self, e, List.replicate_succ, List.set_cons_zero, own_lb_app]
  simp [own_lb, own_b8]
theorem own_PWset {ls : List Int32} {c : Int32} (h : ls.length < 256) : ((own_PW ls).set (2 * ls.length) (.int ((c >>> ((0 : Int32) &&& 31)).toInt8.toInt32))).set (2 * ls.length + 1) (.int ((c >>> ((8 : Int32) &&& 31)).toInt8.toInt32)) = own_PW (ls ++ [c]) := by
  have e : 512 - 2 * ls.length = (512 - 2 * (ls.length + 1)) + 1 + 1 := by omega
  have t : (own_wb ls).length = 2 * ls.length := own_wb_len ls
  unfold own_PW
  rw [List.set_append_right _ _ (by omega), t, Nat.sub_self, e, List.replicate_succ, List.replicate_succ, List.set_cons_zero, List.set_append_right _ _ (by omega), t]
  rw [own_wb_app, show 2 * ls.length + 1 - 2 * ls.length = 1 by omega, List.set_cons_succ, List.set_cons_zero]
  simp [own_wb, own_lo, own_hi]
theorem own_PLget {ls : List Int32} {i : Nat} (h : i < ls.length) : (own_PL ls).getD i (.int 0) = .int ((ls.getD i 0).toInt8.toInt32) := by
  have q := own_lb_get h
  rw [List.getD_eq_getElem?_getD] at q ⊢
  unfold own_PL
  rw [List.getElem?_append_left (by rw [own_lb_len]; exact h)]
  exact q
theorem own_rng {l : List Value} {d : Value} : ∀ {o m : Nat}, o + m ≤ l.length → (List.range m).map (fun i => l.getD (o + i) d) = (l.drop o).take m := by
  intro o m h
  apply List.ext_getElem
  · simp; omega
  · intro i h1 h2
    simp at h1
    simp [List.getD_eq_getElem?_getD, List.getElem?_eq_getElem (show o + i < l.length by omega)]
theorem own_lb_sl (xs : List Int32) (o m : Nat) : ((own_lb xs).drop o).take m = own_lb ((xs.drop o).take m) := by simp [own_lb, List.map_drop, List.map_take]
theorem own_wb_drop : ∀ (xs : List Int32) (o : Nat), (own_wb xs).drop (2 * o) = own_wb (xs.drop o)
  | [], o => by simp [own_wb]
  | c :: r, 0 => rfl
  | c :: r, o + 1 => by
    have q := own_wb_drop r o
    rw [show 2 * (o + 1) = 2 * o + 1 + 1 by omega]
    simpa [own_wb] using q
theorem own_wb_take : ∀ (xs : List Int32) (m : Nat), (own_wb xs).take (2 * m) = own_wb (xs.take m)
  | [], m => by simp [own_wb]
  | c :: r, 0 => rfl
  | c :: r, m + 1 => by
    have q := own_wb_take r m
    rw [show 2 * (m + 1) = 2 * m + 1 + 1 by omega]
    simpa [own_wb] using q
theorem own_mid {A B : List Value} {m n k : Nat} (h : A.length = n) : (A ++ List.replicate k (Value.int 0)).take n ++ B ++ (A ++ List.replicate k (Value.int 0)).drop (n + m) = A ++ B ++ List.replicate (k - m) (.int (0 : Int32)) := by
  subst h
  rw [List.take_left, List.drop_append, Nat.add_sub_cancel_left, List.drop_eq_nil_of_le (by omega), List.nil_append, List.drop_replicate]
theorem own_cpL {ls xs : List Int32} {o m : Nat} (h : o + m ≤ xs.length) (h2 : ls.length + m ≤ 256) : (own_PL ls).take ls.length ++ (List.range m).map (fun i => (own_lb xs).getD (o + i) (.int 0)) ++ (own_PL ls).drop (ls.length + m) = own_PL (ls ++ (xs.drop o).take m) := by
  have l : ((xs.drop o).take m).length = m := by simp; omega
  rw [own_rng (by rw [own_lb_len]; exact h), own_lb_sl]
  unfold own_PL
  rw [own_mid (own_lb_len ls), own_lb_app, List.length_append, l, Nat.sub_sub]
theorem own_cpW {ls xs : List Int32} {o m : Nat} (h : o + m ≤ xs.length) (h2 : ls.length + m ≤ 256) : (own_PW ls).take (2 * ls.length) ++ (List.range (2 * m)).map (fun i => (own_wb xs).getD (2 * o + i) (.int 0)) ++ (own_PW ls).drop (2 * ls.length + 2 * m) = own_PW (ls ++ (xs.drop o).take m) := by
  have l : ((xs.drop o).take m).length = m := by simp; omega
  rw [own_rng (by rw [own_wb_len]; omega), own_wb_drop, own_wb_take]
  unfold own_PW
  rw [own_mid (own_wb_len ls), own_wb_app, List.length_append, l, show 512 - 2 * (ls.length + m) = 512 - 2 * ls.length - 2 * m by omega]
theorem own_cpA {l : List Value} {n : Nat} (h : n ≤ l.length) : (List.replicate n (Value.int (0 : Int32))).take 0 ++ (List.range n).map (fun i => l.getD (0 + i) (.int 0)) ++ (List.replicate n (Value.int 0)).drop (0 + n) = l.take n := by
  rw [own_rng (by omega)]
  simp
theorem own_PLtake (ls : List Int32) : (own_PL ls).take ls.length = own_lb ls := by
  unfold own_PL
  have q := own_lb_len ls
  rw [← q, List.take_left]
theorem own_PWtake (ls : List Int32) : (own_PW ls).take (2 * ls.length) = own_wb ls := by
  unfold own_PW
  have q := own_wb_len ls
  rw [← q, List.take_left]
def own_sb (ls : List Int32) (cd z : Int32) (vs : List Value) : Prop := (cd = (0 : Int32) ∧ z = (256 : Int32) ∧ vs = own_PL ls ∧ own_lat ls ∧ own_chars ls) ∨ (cd = (1 : Int32) ∧ z = (512 : Int32) ∧ vs = own_PW ls)
theorem own_sbz {ls : List Int32} {cd z : Int32} {vs : List Value} (h : own_sb ls cd z vs) : z = (256 : Int32) ∨ z = (512 : Int32) := h.imp (·.2.1) (·.2.1)
theorem own_sbc {ls : List Int32} {cd z : Int32} {vs : List Value} (h : own_sb ls cd z vs) : (cd = (0 : Int32) ∧ z = (256 : Int32)) ∨ (cd = (1 : Int32) ∧ z = (512 : Int32)) := h.imp (fun q => ⟨q.1, q.2.1⟩) (fun q => ⟨q.1, q.2.1⟩)
theorem own_chars_app {a b : List Int32} (ha : own_chars a) (hb : own_chars b) : own_chars (a ++ b) := by
  intro i hi
  rw [List.length_append] at hi
  by_cases h : i < a.length
  · have q := ha i h
    rwa [List.getD_eq_getElem?_getD, List.getElem?_append_left h, ← List.getD_eq_getElem?_getD]
  · have q := hb (i - a.length) (by omega)
    rwa [List.getD_eq_getElem?_getD, List.getElem?_append_right (by omega), ← List.getD_eq_getElem?_getD]
theorem own_chars1 {c : Int32} (h : ¬ (c < (0 : Int32))) (h1 : ¬ ((65535 : Int32) < c)) : own_chars [c] := own_ccons ⟨h, h1⟩ own_cnil
theorem own_lat0 : own_lat [] := fun i h => absurd h (Nat.not_lt_zero i)
def own_sl (xs : List Int32) (o n : Nat) : List Int32 := (xs.drop o).take n
theorem own_sl0 (xs : List Int32) (o : Nat) : own_sl xs o 0 = [] := by simp [own_sl]
theorem own_sll {xs : List Int32} {o n : Nat} (h : o + n ≤ xs.length) : (own_sl xs o n).length = n := by simp [own_sl]; omega
theorem own_slg {xs : List Int32} {o n k : Nat} (hk : k < n) : (own_sl xs o n).getD k 0 = xs.getD (o + k) 0 := by
  simp only [own_sl, List.getD_eq_getElem?_getD]
  rw [List.getElem?_take_of_lt hk, List.getElem?_drop]
theorem own_sls {xs : List Int32} {o k : Nat} (h : o + k < xs.length) : own_sl xs o (k + 1) = own_sl xs o k ++ [xs.getD (o + k) 0] := by
  simp only [own_sl]
  rw [List.take_add_one, List.getElem?_drop, List.getD_eq_getElem?_getD, List.getElem?_eq_getElem h]; rfl
theorem own_slj {xs : List Int32} {o r n : Nat} (h : r ≤ n) : own_sl xs o r ++ own_sl xs (o + r) (n - r) = own_sl xs o n := by
  have e : n = r + (n - r) := by omega
  simp only [own_sl]
  conv => rhs; rw [e, List.take_add, List.drop_drop]
theorem own_sl_lat {xs : List Int32} {o n k : Nat} (h : own_lat (own_sl xs o n)) (hb : o + n ≤ xs.length) (hk : k < n) : ¬ ((255 : Int32) < xs.getD (o + k) 0) := by
  have q := h k (by rw [own_sll hb]; exact hk)
  rwa [own_slg hk] at q
theorem own_sl_chars {xs : List Int32} {o n : Nat} (h : own_chars xs) (hb : o + n ≤ xs.length) : own_chars (own_sl xs o n) := by
  intro i hi
  rw [own_sll hb] at hi
  rw [own_slg hi]
  exact h (o + i) (by omega)
theorem own_sl_latN {xs : List Int32} {o n : Nat} (hb : o + n ≤ xs.length) (h : ∀ i, i < n → ¬ ((255 : Int32) < xs.getD (o + i) 0)) : own_lat (own_sl xs o n) := by
  intro i hi
  rw [own_sll hb] at hi
  rw [own_slg hi]
  exact h i hi
theorem own_sl_first {xs : List Int32} {o n : Nat} (hb : o + n ≤ xs.length) (h : ¬ own_lat (own_sl xs o n)) : ∃ r, r < n ∧ (255 : Int32) < xs.getD (o + r) 0 ∧ ∀ i, i < r → ¬ ((255 : Int32) < xs.getD (o + i) 0) :=
  own_first (fun i => (255 : Int32) < xs.getD (o + i) 0) n (fun q => h (own_sl_latN hb q))
theorem own_lat_app {a b : List Int32} (ha : own_lat a) (hb : own_lat b) : own_lat (a ++ b) := by
  intro i hi
  rw [List.length_append] at hi
  by_cases h : i < a.length
  · have q := ha i h
    rwa [List.getD_eq_getElem?_getD, List.getElem?_append_left h, ← List.getD_eq_getElem?_getD]
  · have q := hb (i - a.length) (by omega)
    rwa [List.getD_eq_getElem?_getD, List.getElem?_append_right (by omega), ← List.getD_eq_getElem?_getD]
theorem own_lat_sl {a : List Int32} (ha : own_lat a) (o m : Nat) : own_lat ((a.drop o).take m) := by
  intro i hi
  simp at hi
  have q := ha (o + i) (by omega)
  rw [List.getD_eq_getElem?_getD] at q ⊢
  rwa [List.getElem?_take_of_lt (by omega), List.getElem?_drop]
theorem own_lat1 {c : Int32} (h : ¬ ((255 : Int32) < c)) : own_lat [c] := by
  intro i hi
  cases i with
  | zero => exact h
  | succ i => simp at hi
theorem own_PLsl {ls xs : List Int32} {o k : Nat} (h : o + k < xs.length) (h2 : ls.length + k < 256) : (own_PL (ls ++ own_sl xs o k)).set (ls.length + k) (.int ((xs.getD (o + k) 0).toInt8.toInt32)) = own_PL (ls ++ own_sl xs o (k + 1)) := by
  have l : (ls ++ own_sl xs o k).length = ls.length + k := by rw [List.length_append, own_sll (by omega)]
  rw [own_sls h, ← List.append_assoc, ← own_PLset (by omega), l]
theorem own_PWsl {ls xs : List Int32} {o k : Nat} (h : o + k < xs.length) (h2 : ls.length + k < 256) : ((own_PW (ls ++ own_sl xs o k)).set (2 * (ls.length + k)) (.int (((xs.getD (o + k) 0) >>> ((0 : Int32) &&& 31)).toInt8.toInt32))).set (2 * (ls.length + k) + 1) (.int (((xs.getD (o + k) 0) >>> ((8 : Int32) &&& 31)).toInt8.toInt32)) = own_PW (ls ++ own_sl xs o (k + 1)) := by
  have l : (ls ++ own_sl xs o k).length = ls.length + k := by rw [List.length_append, own_sll (by omega)]
  rw [own_sls h, ← List.append_assoc, ← own_PWset (by omega), l]
theorem own_PLset2 {ls : List Int32} {a b : Int32} (h : ls.length + 2 ≤ 256) : ((own_PL ls).set (ls.length + 1) (.int (b.toInt8.toInt32))).set ls.length (.int (a.toInt8.toInt32)) = own_PL (ls ++ [a, b]) := by
  have l : (ls ++ [a]).length = ls.length + 1 := by simp
  rw [List.set_comm _ _ (by omega), own_PLset (by omega), ← l, own_PLset (by omega), List.append_assoc]; rfl
theorem own_PWset2 {ls : List Int32} {a b : Int32} (h : ls.length + 2 ≤ 256) : ((((own_PW ls).set (2 * (ls.length + 1)) (.int ((b >>> ((0 : Int32) &&& 31)).toInt8.toInt32))).set (2 * (ls.length + 1) + 1) (.int ((b >>> ((8 : Int32) &&& 31)).toInt8.toInt32))).set (2 * ls.length) (.int ((a >>> ((0 : Int32) &&& 31)).toInt8.toInt32))).set (2 * ls.length + 1) (.int ((a >>> ((8 : Int32) &&& 31)).toInt8.toInt32)) = own_PW (ls ++ [a, b]) := by
  have l : (ls ++ [a]).length = ls.length + 1 := by simp
  rw [List.set_comm (i := 2 * (ls.length + 1) + 1) (j := 2 * ls.length) _ _ (by omega), List.set_comm (i := 2 * (ls.length + 1)) (j := 2 * ls.length) _ _ (by omega), List.set_comm (i := 2 * (ls.length + 1) + 1) (j := 2 * ls.length + 1) _ _ (by omega), List.set_comm (i := 2 * (ls.length + 1)) (j := 2 * ls.length + 1) _ _ (by omega), own_PWset (by omega), ← l, own_PWset (by omega), List.append_assoc]; rfl
end Jvm.RoadKit
namespace Jvm.RoadKit
open Sem ClassFile Op Lib Bundle Jvm.Stand Jvm.Free Jvm.LawKit Jvm.Free.SB Jvm.Free.SBG
theorem own_safe_big {Z : State} {a0 : Array Value} {vm : Vm} {h : Heap} {x : Addr} {k : ClassId} {z : Int32} {vs : List Value} {d : Value} {own text : String} {index : Nat} (hZ : Z.Warmed39 vm) (w : (Cond.stringLink own index text).before a0 Z = true) (ht : ∀ c ∈ text.toList, c.toNat < 256) (F : Arv Z h x k .byte z vs d) (hz : text.toList.length < z.toNatClampNeg) : Safe Z [(own, index)] vm h x := fun B => by
  obtain ⟨cl, ⟨A1, ⟨-, kA, hkA, compA, hkindA⟩, -⟩, -, S, -⟩ := F
  obtain ⟨kA', hkA', ekA⟩ := hZ.alike.2.2 _ _ hkA
  obtain ⟨p, hp, u, a, hb, q, -, F, rfl | rfl⟩ := B
  · cases (show h[q.sa]? = some q.sC from F.ha).symm.trans A1
    obtain ⟨cS, ⟨-, -, e⟩, ⟨kS, g1, g2, -⟩, -⟩ := F
    subst e
    cases (show vm.classes[q.sC.cls]? = some kS from g1).symm.trans hkA'
    rw [ekA] at g2
    have := hkindA.symm.trans g2
    cases this
  · cases (show h[q.sd]? = some q.SA from F.hd).symm.trans A1
    obtain rfl : p = (own, index) := by simpa using hp
    obtain ⟨c, k', cf, i, hc, hk', hcf', hpool, hu, -⟩ := hb
    have w' : (Cond.stringLink own index text).before a0 (Wst Z vm h) = true := mvS (s := { Z with heap := h }) hZ w
    obtain ⟨k0, cf0, i0, units0, hk, hcf, hp0, hu0, -, htext, -⟩ := Cond.stringLink_spec (s := Wst Z vm h) hc w'
    cases (show vm.classes[c]? = some k' from hk').symm.trans hk
    cases hcf'.symm.trans hcf
    cases hpool.symm.trans hp0
    cases hu.symm.trans hu0
    have hlat := Jvm.ClassFile.lat_of_text htext ht
    obtain ⟨cS, -, -, -, hbyt⟩ := F
    rw [hbyt, SBG.stringBytes_lat hlat, Array.size_map] at S
    have e := congrArg List.length (Jvm.ClassFile.units_of_text htext ht)
    rw [List.length_map, Array.length_toList] at e
    omega
end Jvm.RoadKit
namespace Jvm.RoadKit
open Sem ClassFile Op Lib Bundle Jvm.Stand Jvm.Free Jvm.LawKit
theorem own_selP {Z : State} {a0 : Array Value} {C : String} {y : MethodName} (h : (Cond.selects C y y).before a0 Z = true) (hp : (Cond.privateMethod y).before a0 Z = true) (hi : (Cond.instanceMethod y).before a0 Z = true) (hy : y.cls ≠ "java/lang/invoke/MethodHandle" ∧ y.cls ≠ "java/lang/invoke/VarHandle") : (Cond.selects y.cls y y).before a0 Z = true := by
  obtain ⟨c, r, m, -, -, hm, -, k, hk, hn⟩ := Cond.selects_spec h
  exact selects_self_of_private (findClass_of_methodNamed hm) hk hn (Cond.privateMethod_at hp) hi hy
theorem own_selQ {Z : State} {a0 : Array Value} {C : String} {q y : MethodName} (h : (Cond.selects C q q).before a0 Z = true) (e : q.cls = y.cls) (hp : (Cond.privateMethod y).before a0 Z = true) (hi : (Cond.instanceMethod y).before a0 Z = true) (hy : y.cls ≠ "java/lang/invoke/MethodHandle" ∧ y.cls ≠ "java/lang/invoke/VarHandle") : (Cond.selects y.cls y y).before a0 Z = true := by
  obtain ⟨c, r, m, -, -, hm, -, k, hk, hn⟩ := Cond.selects_spec h
  have hc := findClass_of_methodNamed hm
  rw [e] at hc
  exact selects_self_of_private hc hk hn (Cond.privateMethod_at hp) hi hy
theorem own_same {Z : State} {a0 : Array Value} {C : String} {q : MethodName} {y : MethodName} (h : (Cond.selects C q q).before a0 Z = true) (e : q.cls = y.cls) (hi : (Cond.instanceMethod y).before a0 Z = true) (hy : y.cls ≠ "java/lang/invoke/MethodHandle" ∧ y.cls ≠ "java/lang/invoke/VarHandle") : (Cond.sameMethod y.cls y.cls y.name y.desc).before a0 Z = true := by
  obtain ⟨c, r, m, -, -, hm, -, k, hk, hn⟩ := Cond.selects_spec h
  obtain ⟨mk, methM, hnamed, hmethM, -, -⟩ := Cond.instanceMethod_spec hi
  have hc := findClass_of_methodNamed hnamed
  have hc' := findClass_of_methodNamed hm
  rw [e] at hc'
  have ec : m.cls = mk.cls := Option.some.inj (hc'.symm.trans hc)
  rw [ec] at hk
  have hfound : Z.methodFound? y.cls y.name y.desc = some mk := State.methodFound?_of_named hnamed hy
  have hnamed' : Z.methodNamed? ⟨y.cls, y.name, y.desc⟩ = some mk := hnamed
  simp only [Cond.before, Cond.holds, Cond.value, hc, hfound, hnamed', hk]
  simp; exact hn
theorem own_notface {s : State} {args : Array Value} {C : String} {q y : MethodName} (h : (Cond.selects C q q).before args s = true) (e : q.cls = y.cls) : NotFace s y := fun r0 h0 => by
  obtain ⟨c, r, m, -, -, hm, -, k, hk, hn⟩ := Cond.selects_spec h
  have hc := findClass_of_methodNamed h0
  have hc' := findClass_of_methodNamed hm
  rw [e] at hc'
  have ec : m.cls = r0.cls := Option.some.inj (hc'.symm.trans hc)
  exact ⟨k, ec ▸ hk, hn⟩
end Jvm.RoadKit
namespace Jvm.RoadKit
theorem own_ens {m : Nat} {x : Int32} (h : m ≤ 256) (e : x = (256 : Int32)) : ¬ ((0 : Int32) < Int32.ofNat m - x) := by
  subst e
  have b := c_isub (Int32.ofNat m) 256
  rw [own_nn (by omega)] at b
  have k : (256 : Int32).toInt = 256 := rfl
  have r := rng32 (Int32.ofNat m - 256)
  intro q
  have q' : (0 : Int32).toInt < (Int32.ofNat m - 256).toInt := Int32.lt_iff_toInt_lt.mp q
  have k0 : (0 : Int32).toInt = 0 := rfl
  omega
theorem own_take1 {xs : List Int32} {k : Nat} (h : k < xs.length) : xs.take (k + 1) = xs.take k ++ [xs.getD k 0] := by
  rw [List.take_add_one, List.getD_eq_getElem?_getD, List.getElem?_eq_getElem h]; rfl
end Jvm.RoadKit
namespace Jvm.RoadKit
theorem own_and8 {c : Int32} (h0 : ¬ (c < (0 : Int32))) (h1 : ¬ ((255 : Int32) < c)) : (c.toInt8.toInt32 &&& (255 : Int32)) = c := by
  have q := c_i2b c
  have r : (c.toInt8.toInt32 &&& (255 : Int32)).toInt = c.toInt8.toInt32.toInt % 256 := c_mask c.toInt8.toInt32 255 8 (by decide) (by decide)
  have a' : ¬ (c.toInt < 0) := fun z => h0 (Int32.lt_iff_toInt_lt.mpr z)
  have b' : ¬ (255 < c.toInt) := fun z => h1 (Int32.lt_iff_toInt_lt.mpr z)
  apply Int32.toInt_inj.mp
  omega
theorem own_or3 {a b d : Nat} (ha : a < 2147483648) (hb : b < 2147483648) (hd : d < 2147483648) : ¬ (((Int32.ofNat d ||| Int32.ofNat a) ||| Int32.ofNat b) < (0 : Int32)) := by
  intro q
  have q' : ((Int32.ofNat d ||| Int32.ofNat a) ||| Int32.ofNat b).toInt < 0 := Int32.lt_iff_toInt_lt.mp q
  have h1 := (c_orS (Int32.ofNat d) (Int32.ofNat a)).1 (by rw [own_nn hd]; omega) (by rw [own_nn ha]; omega)
  have h2 := (c_orS (Int32.ofNat d ||| Int32.ofNat a) (Int32.ofNat b)).1 h1 (by rw [own_nn hb]; omega)
  omega
theorem own_subn {a b : Nat} (h : b ≤ a) (ha : a < 2147483648) : Int32.ofNat a - Int32.ofNat b = Int32.ofNat (a - b) := by
  apply Int32.toInt_inj.mp
  have c := c_isub (Int32.ofNat a) (Int32.ofNat b)
  rw [own_nn ha, own_nn (by omega)] at c
  have r := rng32 (Int32.ofNat a - Int32.ofNat b)
  rw [own_nn (by omega)]
  omega
theorem own_addn (a b : Nat) : Int32.ofNat a + Int32.ofNat b = Int32.ofNat (a + b) := (Int32.ofNat_add a b).symm
theorem own_PWsetN {ls : List Int32} {c : Int32} {n : Nat} (h : ls.length < 256) (e : ls.length = n) : ((own_PW ls).set (2 * n) (.int ((c >>> ((0 : Int32) &&& 31)).toInt8.toInt32))).set (2 * n + 1) (.int ((c >>> ((8 : Int32) &&& 31)).toInt8.toInt32)) = own_PW (ls ++ [c]) := by
  subst e; exact own_PWset h
theorem own_tk {ls xs : List Int32} {k : Nat} (h : k < xs.length) : (ls ++ xs.take k) ++ [xs.getD k 0] = ls ++ xs.take (k + 1) := by rw [own_take1 h, List.append_assoc]
theorem own_tkl {ls xs : List Int32} {k : Nat} (h : k ≤ xs.length) : (ls ++ xs.take k).length = ls.length + k := by rw [List.length_append, List.length_take, Nat.min_eq_left h]
end Jvm.RoadKit
namespace Jvm.RoadKit
theorem own_cnt1 (ls : List Int32) (c : Int32) : Int32.ofNat ls.length + (1 : Int32) = Int32.ofNat (ls ++ [c]).length := by rw [own_succ, List.length_append]; rfl
end Jvm.RoadKit
namespace Jvm.RoadKit
theorem own_sub0 (x : Int32) : x - (0 : Int32) = x := Int32.sub_zero x
end Jvm.RoadKit
namespace Jvm.RoadKit
theorem own_cntx (ls xs : List Int32) : Int32.ofNat ls.length + Int32.ofNat xs.length = Int32.ofNat (ls ++ xs).length := by rw [own_addn, List.length_append]
theorem own_cpL0 {ls xs : List Int32} (h2 : ls.length + xs.length ≤ 256) : (own_PL ls).take ls.length ++ (List.range xs.length).map (fun i => (own_lb xs).getD (0 + i) (.int 0)) ++ (own_PL ls).drop (ls.length + xs.length) = own_PL (ls ++ xs) := by
  have q := own_cpL (ls := ls) (xs := xs) (o := 0) (m := xs.length) (by omega) h2
  rw [List.drop_zero, List.take_length] at q
  exact q
end Jvm.RoadKit
namespace Jvm.RoadKit
theorem own_shl0 (x : Int32) : x <<< ((0 : Int32) &&& 31) = x := by
  have e : x <<< ((0 : Int32) &&& 31) = x * 1 := shlm (by decide)
  rw [e, Int32.mul_one]
end Jvm.RoadKit
namespace Jvm.RoadKit
open Sem ClassFile Op Lib Bundle Jvm.Stand Jvm.Free Jvm.LawKit
theorem own_subo {o n : Nat} (h : o + n < 2147483648) : Int32.ofNat (o + n) - Int32.ofNat o = Int32.ofNat n := by
  rw [own_subn (by omega) h, Nat.add_sub_cancel_left]
theorem own_subor {o n r : Nat} (hr : r ≤ n) (h : o + n < 2147483648) : Int32.ofNat (o + n) - Int32.ofNat (o + r) = Int32.ofNat (n - r) := by
  rw [own_subn (by omega) h, show o + n - (o + r) = n - r by omega]
theorem own_addsub {a o n : Nat} (h : a + (o + n) < 2147483648) : Int32.ofNat a + Int32.ofNat (o + n) - Int32.ofNat o = Int32.ofNat (a + n) := by
  rw [own_addn, own_subn (by omega) h, show a + (o + n) - o = a + n by omega]
theorem own_cntsl {ls xs : List Int32} {o n : Nat} (h : o + n ≤ xs.length) : Int32.ofNat ls.length + Int32.ofNat n = Int32.ofNat (ls ++ own_sl xs o n).length := by rw [own_addn, List.length_append, own_sll h]
theorem own_lsl {ls xs : List Int32} {o n : Nat} (h : o + n ≤ xs.length) : (ls ++ own_sl xs o n).length = ls.length + n := by rw [List.length_append, own_sll h]
theorem own_lslI {ls xs : List Int32} {o n : Nat} (h : o + n ≤ xs.length) : Int32.ofNat (ls.length + n) = Int32.ofNat (ls ++ own_sl xs o n).length := by rw [own_lsl h]
theorem own_cntr {ls xs : List Int32} {o n r : Nat} (hr : r ≤ n) (h : o + n ≤ xs.length) : Int32.ofNat (ls ++ own_sl xs o r).length + Int32.ofNat (n - r) = Int32.ofNat (ls ++ own_sl xs o n).length := by
  rw [own_addn, own_lsl (by omega), own_lsl h, show ls.length + r + (n - r) = ls.length + n by omega]
theorem own_cpLs {ls xs : List Int32} {o m : Nat} (h : o + m ≤ xs.length) (h2 : ls.length + m ≤ 256) : (own_PL ls).take ls.length ++ (List.range m).map (fun i => (own_lb xs).getD (o + i) (.int 0)) ++ (own_PL ls).drop (ls.length + m) = own_PL (ls ++ own_sl xs o m) := own_cpL h h2
theorem own_cpWs {ls xs : List Int32} {o m : Nat} (h : o + m ≤ xs.length) (h2 : ls.length + m ≤ 256) : (own_PW ls).take (2 * ls.length) ++ (List.range (2 * m)).map (fun i => (own_wb xs).getD (2 * o + i) (.int 0)) ++ (own_PW ls).drop (2 * ls.length + 2 * m) = own_PW (ls ++ own_sl xs o m) := own_cpW h h2
theorem own_cpWr {ls xs : List Int32} {o n r : Nat} (hr : r ≤ n) (h : o + n ≤ xs.length) (h2 : ls.length + n ≤ 256) : (own_PW (ls ++ own_sl xs o r)).take (2 * (ls ++ own_sl xs o r).length) ++ (List.range (2 * (n - r))).map (fun i => (own_wb xs).getD (2 * (o + r) + i) (.int 0)) ++ (own_PW (ls ++ own_sl xs o r)).drop (2 * (ls ++ own_sl xs o r).length + 2 * (n - r)) = own_PW (ls ++ own_sl xs o n) := by
  rw [own_cpWs (by omega) (by rw [own_lsl (by omega)]; omega), List.append_assoc, own_slj hr]
theorem own_pred (n : Nat) : Int32.ofNat (n + 1) + (-1 : Int32) = Int32.ofNat n := by
  rw [← own_succ, Int32.add_assoc]
  exact Int32.add_zero _
theorem own_safe_sb {Z : State} {a0 : Array Value} {vm : Vm} {h : Heap} {x : Addr} {k : ClassId} {cd z : Int32} {ls : List Int32} {vs : List Value} {d : Value} {own text : String} {index : Nat} (hZ : Z.Warmed39 vm) (w : (Cond.stringLink own index text).before a0 Z = true) (ht : ∀ c ∈ text.toList, c.toNat < 256) (hl : text.toList.length < 256) (F : Arv Z h x k .byte z vs d) (hs : own_sb ls cd z vs) : Safe Z [(own, index)] vm h x := by
  refine own_safe_big hZ w ht F ?_
  rcases own_sbz hs with e | e
  · rw [e]; exact hl
  · rw [e]; exact Nat.lt_trans hl (by decide)
end Jvm.RoadKit
namespace Jvm.RoadKit
open Sem ClassFile Op Lib Bundle Jvm.Stand Jvm.Free Jvm.LawKit
theorem own_negn {d : Nat} (h : d ≤ 9) : (-(Int32.ofNat d)).toInt = -(d : Int) := by
  have b := c_isub 0 (Int32.ofNat d)
  rw [own_nn (by omega)] at b
  have k0 : (0 : Int32).toInt = 0 := rfl
  rw [show -(Int32.ofNat d) = 0 - Int32.ofNat d from (Int32.zero_sub _).symm]
  have r := rng32 (0 - Int32.ofNat d)
  omega
theorem own_neglt {d : Nat} (h0 : 1 ≤ d) (h : d ≤ 9) : -(Int32.ofNat d) < (0 : Int32) := Int32.lt_iff_toInt_lt.mpr (by
  rw [own_negn h]; show -(d : Int) < 0; omega)
theorem own_ltneg {k : Int32} {d : Nat} (h : d ≤ 9) (hk : k.toInt < -9) : k < -(Int32.ofNat d) := Int32.lt_iff_toInt_lt.mpr (by
  rw [own_negn h]; omega)
theorem own_neg9 {d : Nat} (h : d ≤ 9) : ¬ (-(Int32.ofNat d) < (-9 : Int32)) := fun q => by
  have q' := Int32.lt_iff_toInt_lt.mp q
  rw [own_negn h] at q'
  have k : (-9 : Int32).toInt = -9 := by decide
  omega
theorem own_plus2 (n : Nat) : Int32.ofNat n + (2 : Int32) = Int32.ofNat (n + 1 + 1) := (Int32.ofNat_add n 2).symm
def own_rd (r : Int32) (ds : List Int32) : Prop := (∃ d : Nat, d ≤ 9 ∧ r = Int32.ofNat d ∧ ds = [Int32.ofNat (48 + d)]) ∨ (∃ d : Nat, 1 ≤ d ∧ d ≤ 9 ∧ r = -(Int32.ofNat d) ∧ ds = [45, Int32.ofNat (48 + d)])
theorem own_48 {d : Nat} (h : d ≤ 9) : ¬ (Int32.ofNat (48 + d) < (0 : Int32)) ∧ ¬ ((255 : Int32) < Int32.ofNat (48 + d)) := ⟨own_nonneg (by omega), own_nlt (a := 255) (by omega) (by decide)⟩
theorem own_rdlat {r : Int32} {ds : List Int32} (h : own_rd r ds) : own_lat ds ∧ own_chars ds ∧ ds.length ≤ 2 := by
  rcases h with ⟨d, h9, -, rfl⟩ | ⟨d, h1, h9, -, rfl⟩
  · exact ⟨own_lat1 (own_48 h9).2, own_chars1 (own_48 h9).1 (own_w255 (own_48 h9).2), by simp⟩
  · exact ⟨own_lat_app (a := [45]) (own_lat1 (by decide)) (own_lat1 (own_48 h9).2), own_ccons ⟨by decide, by decide⟩ (own_chars1 (own_48 h9).1 (own_w255 (own_48 h9).2)), by simp⟩
theorem own_PLneg {ls : List Int32} {b : Int32} (h : ls.length + 2 ≤ 256) : ((own_PL ls).set (ls.length + 1) (.int (b.toInt8.toInt32))).set ls.length (.int (45 : Int32)) = own_PL (ls ++ [45, b]) := by
  have q := own_PLset2 (ls := ls) (a := 45) (b := b) h
  rwa [show ((45 : Int32).toInt8.toInt32) = 45 by decide] at q
theorem own_PWneg {ls : List Int32} {b : Int32} (h : ls.length + 2 ≤ 256) : ((((own_PW ls).set (2 * (ls.length + 1)) (.int ((b >>> ((0 : Int32) &&& 31)).toInt8.toInt32))).set (2 * (ls.length + 1) + 1) (.int ((b >>> ((8 : Int32) &&& 31)).toInt8.toInt32))).set (2 * ls.length) (.int (((45 : Int32) >>> ((0 : Int32) &&& 31)).toInt8.toInt32))).set (2 * ls.length + 1) (.int (((45 : Int32) >>> ((8 : Int32) &&& 31)).toInt8.toInt32)) = own_PW (ls ++ [45, b]) := own_PWset2 h
theorem own_cntd1 {ls ds : List Int32} {d : Nat} (e : ds = [Int32.ofNat (48 + d)]) : Int32.ofNat (ls.length + 1) = Int32.ofNat (ls ++ ds).length := by rw [e, List.length_append]; rfl
theorem own_cntd2 {ls ds : List Int32} {d : Nat} (e : ds = [45, Int32.ofNat (48 + d)]) : Int32.ofNat (ls.length + 1 + 1) = Int32.ofNat (ls ++ ds).length := by rw [e, List.length_append]; rfl
end Jvm.RoadKit
namespace Jvm.RoadKit
open Sem ClassFile Op Lib Bundle Jvm.Stand Jvm.Free Jvm.LawKit
def own_hexn (i : Nat) : Int32 := if i < 10 then Int32.ofNat (48 + i) else Int32.ofNat (87 + i)
def own_U : List Int32 := [92, 117, 48, 48]
def own_enc (c : Int32) : List Int32 := if c < 32 then [92, 117, 48, 48, own_hexn (c.toNatClampNeg / 16), own_hexn (c.toNatClampNeg % 16)] else if c = 34 ∨ c = 92 then [92, c] else [c]
def own_encs (xs : List Int32) : List Int32 := xs.flatMap own_enc
def own_js (xs : List Int32) : List Int32 := [34] ++ own_encs xs ++ [34]
def own_cm (f : Int32) : List Int32 := if f = 0 then [44] else []
def own_P (ls xs : List Int32) (i : Nat) (bs : List Int32) (un : Nat) : Prop := un ≤ i ∧ bs ++ own_sl xs un (i - un) = ls ++ [34] ++ own_encs (xs.take i)
theorem own_encA {c : Int32} (h : c < 32) : own_enc c = [92, 117, 48, 48, own_hexn (c.toNatClampNeg / 16), own_hexn (c.toNatClampNeg % 16)] := by simp [own_enc, h]
theorem own_encB {c : Int32} (h : ¬ (c < 32)) (h2 : c = 34 ∨ c = 92) : own_enc c = [92, c] := by simp [own_enc, h, h2]
theorem own_encC {c : Int32} (h : ¬ (c < 32)) (h2 : ¬ (c = 34)) (h3 : ¬ (c = 92)) : own_enc c = [c] := by simp [own_enc, h, h2, h3]
theorem own_encl (c : Int32) : (own_enc c).length ≤ 6 := by unfold own_enc; split; simp; split <;> simp
theorem own_encsl : ∀ xs : List Int32, (own_encs xs).length ≤ 6 * xs.length
  | [] => by simp [own_encs]
  | c :: r => by
    have a := own_encsl r
    have b := own_encl c
    simp only [own_encs, List.flatMap_cons, List.length_append, List.length_cons] at a ⊢
    omega
theorem own_jsl (xs : List Int32) : (own_js xs).length ≤ 6 * xs.length + 2 := by
  have a := own_encsl xs
  simp only [own_js, List.length_append, List.length_singleton]; omega
theorem own_jsl1 (c : Int32) : (own_js [c]).length ≤ 8 := own_jsl [c]
theorem own_jsl2 (c d : Int32) : (own_js [c, d]).length ≤ 14 := own_jsl [c, d]
theorem own_cml (f : Int32) : (own_cm f).length ≤ 1 := by unfold own_cm; split <;> simp
theorem own_encs1 {xs : List Int32} {i : Nat} (h : i < xs.length) : own_encs (xs.take (i + 1)) = own_encs (xs.take i) ++ own_enc (xs.getD i 0) := by
  have u : xs.take (i + 1) = xs.take i ++ [xs.getD i 0] := by rw [List.take_add_one, List.getD_eq_getElem?_getD, List.getElem?_eq_getElem h]; rfl
  rw [u]
  simp only [own_encs, List.flatMap_append, List.flatMap_cons, List.flatMap_nil, List.append_nil]
theorem own_P0 (ls xs : List Int32) : own_P ls xs 0 (ls ++ [34]) 0 := ⟨Nat.le_refl _, by simp [own_sl, own_encs]⟩
theorem own_Pplain {ls xs bs : List Int32} {i un : Nat} {c : Int32} (h : own_P ls xs i bs un) (hi : i < xs.length) (e : c = xs.getD i 0) (h1 : ¬ (c < 32)) (h2 : ¬ (c = 34)) (h3 : ¬ (c = 92)) : own_P ls xs (i + 1) bs un := by
  obtain ⟨ha, hb⟩ := h
  refine ⟨Nat.le_succ_of_le ha, ?_⟩
  rw [show i + 1 - un = (i - un) + 1 by omega, own_sls (by omega), ← List.append_assoc, hb, own_encs1 hi, ← e, own_encC h1 h2 h3, show un + (i - un) = i by omega, ← e]
  simp
theorem own_Pspec {ls xs bs ys : List Int32} {i un : Nat} {c : Int32} (h : own_P ls xs i bs un) (hi : i < xs.length) (e : c = xs.getD i 0) (he : own_enc c = ys) : own_P ls xs (i + 1) ((bs ++ own_sl xs un (i - un)) ++ ys) (i + 1) := by
  obtain ⟨ha, hb⟩ := h
  refine ⟨Nat.le_refl _, ?_⟩
  rw [hb, own_encs1 hi, ← e, he, Nat.sub_self, own_sl0]
  simp
theorem own_Pctl {ls xs bs : List Int32} {i un : Nat} {c : Int32} (h : own_P ls xs i bs un) (hi : i < xs.length) (e : c = xs.getD i 0) (h1 : c < 32) : own_P ls xs (i + 1) ((((bs ++ own_sl xs un (i - un)) ++ own_U) ++ [own_hexn (c.toNatClampNeg / 16)]) ++ [own_hexn (c.toNatClampNeg % 16)]) (i + 1) := by
  have q := own_Pspec h hi e (own_encA h1)
  simpa [own_U] using q
theorem own_Pesc {ls xs bs : List Int32} {i un : Nat} {c : Int32} (h : own_P ls xs i bs un) (hi : i < xs.length) (e : c = xs.getD i 0) (h1 : ¬ (c < 32)) (h2 : c = 34 ∨ c = 92) : own_P ls xs (i + 1) (((bs ++ own_sl xs un (i - un)) ++ [92]) ++ [c]) (i + 1) := by
  have q := own_Pspec h hi e (own_encB h1 h2)
  simpa using q
theorem own_Pend {ls xs bs : List Int32} {i un : Nat} (h : own_P ls xs i bs un) (hi : i = xs.length) : (bs ++ own_sl xs un (xs.length - un)) ++ [34] = ls ++ own_js xs := by
  obtain ⟨ha, hb⟩ := h
  subst hi
  rw [hb, List.take_length]
  simp [own_js]
theorem own_Plen {ls xs bs : List Int32} {i un : Nat} (h : own_P ls xs i bs un) : (bs ++ own_sl xs un (i - un)).length ≤ ls.length + 1 + 6 * i := by
  obtain ⟨ha, hb⟩ := h
  have a := own_encsl (xs.take i)
  have b : (xs.take i).length ≤ i := by rw [List.length_take]; omega
  rw [hb]
  simp only [List.length_append, List.length_singleton]
  omega
theorem own_Plb {ls xs bs : List Int32} {i un : Nat} (h : own_P ls xs i bs un) : bs.length ≤ ls.length + 1 + 6 * i := by
  have q := own_Plen h
  rw [List.length_append] at q
  omega
def own_E (ts : List Int32) : List Value := (ts ++ List.replicate (40 - ts.length) 0).map Value.int
theorem own_E0 : own_E [] = List.replicate 40 (.int 0) := by simp [own_E]
theorem own_Elen {ts : List Int32} (h : ts.length ≤ 40) : (own_E ts).length = 40 := by simp [own_E]; omega
theorem own_Eset {ts : List Int32} {c : Int32} (h : ts.length < 40) : (own_E ts).set ts.length (.int c) = own_E (ts ++ [c]) := by
  have e : 40 - ts.length = (40 - (ts.length + 1)) + 1 := by omega
  unfold own_E
  rw [← List.map_set, List.set_append_right _ _ (Nat.le_refl _), Nat.sub_self, e, List.replicate_succ, List.set_cons_zero]
  simp
theorem own_EsN {ts us : List Int32} {c : Int32} {k : Nat} (hk : us.length = k) (h : ts.length + k < 40) : (own_E (ts ++ us)).set (ts.length + k) (.int c) = own_E (ts ++ (us ++ [c])) := by
  have l : (ts ++ us).length = ts.length + k := by rw [List.length_append, hk]
  rw [← l, own_Eset (by omega), List.append_assoc]
theorem own_Eget {ts : List Int32} {i : Nat} (h : i < ts.length) : (own_E ts).getD i (.int 0) = .int (ts.getD i 0) := by
  unfold own_E
  rw [List.getD_eq_getElem?_getD, List.getElem?_map, List.getElem?_append_left h, List.getD_eq_getElem?_getD, List.getElem?_eq_getElem h]; rfl
theorem own_U00 : own_lb own_U = [.int (92 : Int32), .int (117 : Int32), .int (48 : Int32), .int (48 : Int32)] := by
  simp only [own_lb, own_U, own_b8, List.map_cons, List.map_nil]
  rfl
theorem own_Uc : own_chars own_U := own_ccons ⟨by decide, by decide⟩ (own_ccons ⟨by decide, by decide⟩ (own_ccons ⟨by decide, by decide⟩ (own_ccons ⟨by decide, by decide⟩ own_cnil)))
theorem own_Ul : own_lat own_U := own_lat_app (a := [92]) (own_lat1 (by decide)) (own_lat_app (a := [117]) (own_lat1 (by decide)) (own_lat_app (a := [48]) (own_lat1 (by decide)) (own_lat1 (by decide))))
theorem own_hexb {i : Nat} (h : i < 16) : ¬ (own_hexn i < (0 : Int32)) ∧ ¬ ((255 : Int32) < own_hexn i) := by
  unfold own_hexn
  split
  · exact ⟨own_nonneg (by omega), own_nlt (a := 255) (by omega) (by decide)⟩
  · exact ⟨own_nonneg (by omega), own_nlt (a := 255) (by omega) (by decide)⟩
theorem own_narhex {i : Nat} (h : i < 16) : nar .char (own_hexn i) = own_hexn i := own_narid (own_hexb h).1 (own_w255 (own_hexb h).2)
theorem own_cl32 {c : Int32} (h0 : ¬ (c < (0 : Int32))) (h : c < 32) : c.toNatClampNeg / 16 < 16 := by
  have a : (c.toInt : Int) < 32 := Int32.lt_iff_toInt_lt.mp h
  have b : ¬ (c.toInt < 0) := fun z => h0 (Int32.lt_iff_toInt_lt.mpr z)
  have e : c.toNatClampNeg = c.toInt.toNat := rfl
  omega
theorem own_sh4 {c : Int32} (h0 : ¬ (c < (0 : Int32))) : c >>> ((4 : Int32) &&& 31) = Int32.ofNat (c.toNatClampNeg / 16) := by
  have b : ¬ (c.toInt < 0) := fun z => h0 (Int32.lt_iff_toInt_lt.mpr z)
  have r := rng32 c
  have e : (c >>> ((4 : Int32) &&& 31)).toInt = c.toInt / 16 := c_ishr c 4 4 (by decide)
  have f : c.toNatClampNeg = c.toInt.toNat := rfl
  apply Int32.toInt_inj.mp
  rw [e, own_nn (by omega)]
  omega
theorem own_an15 {c : Int32} (h0 : ¬ (c < (0 : Int32))) : c &&& (15 : Int32) = Int32.ofNat (c.toNatClampNeg % 16) := by
  have b : ¬ (c.toInt < 0) := fun z => h0 (Int32.lt_iff_toInt_lt.mpr z)
  have e : (c &&& (15 : Int32)).toInt = c.toInt % 16 := c_mask c 15 4 (by decide) (by decide)
  have f : c.toNatClampNeg = c.toInt.toNat := rfl
  apply Int32.toInt_inj.mp
  rw [e, own_nn (by omega)]
  omega
theorem own_he {i un : Nat} {e : Int32} (h : un ≤ i) (e1 : e = Int32.ofNat i) : e = Int32.ofNat (un + (i - un)) := by rw [e1, show un + (i - un) = i by omega]
theorem own_hex10 {d : Nat} (h : d < 10) : ((48 : Int32) + Int32.ofNat d).toUInt32.toUInt16.toUInt32.toInt32 = own_hexn d := by
  have e : (48 : Int32) + Int32.ofNat d = Int32.ofNat (48 + d) := own_addn 48 d
  have q : nar .char (Int32.ofNat (48 + d)) = Int32.ofNat (48 + d) := own_narid (own_48 (by omega)).1 (own_w255 (own_48 (by omega)).2)
  rw [e, own_hexn, if_pos h]; exact q
theorem own_hex16 {d : Nat} (h : ¬ (d < 10)) (h2 : d < 16) : ((97 : Int32) + (Int32.ofNat d - (10 : Int32))).toUInt32.toUInt16.toUInt32.toInt32 = own_hexn d := by
  have e1 : Int32.ofNat d - (10 : Int32) = Int32.ofNat (d - 10) := own_subn (a := d) (b := 10) (by omega) (by omega)
  have e : (97 : Int32) + Int32.ofNat (d - 10) = Int32.ofNat (97 + (d - 10)) := own_addn 97 (d - 10)
  have q : nar .char (own_hexn d) = own_hexn d := own_narhex h2
  have r : own_hexn d = Int32.ofNat (97 + (d - 10)) := by rw [own_hexn, if_neg h, show 97 + (d - 10) = 87 + d by omega]
  rw [e1, e, ← r]; exact q
theorem own_n1 {ts : List Int32} {x : Int32} : Int32.ofNat ts.length + (1 : Int32) = Int32.ofNat (ts ++ [x]).length := own_cnt1 ts x
theorem own_n2 {ts : List Int32} {x y : Int32} : Int32.ofNat ts.length + (2 : Int32) = Int32.ofNat ((ts ++ [x]) ++ [y]).length := by rw [List.length_append, List.length_append]; exact own_plus2 ts.length
theorem own_E2 {ts : List Int32} {x y : Int32} (h : ts.length + 1 < 40) : (own_E (ts ++ [x])).set (ts.length + 1) (.int y) = own_E ((ts ++ [x]) ++ [y]) := by
  have l : (ts ++ [x]).length = ts.length + 1 := by rw [List.length_append]; rfl
  rw [← l]; exact own_Eset (by omega)
theorem own_T1 {l : List Int32} {c a b : Int32} (h : ((((own_L0 ++ own_cm (1 : Int32)) ++ own_js [c]) ++ [(58 : Int32)]) ++ own_js [a, b]) = l) : ((((((own_L0 ++ own_js [c]) ++ [(58 : Int32)]) ++ [(34 : Int32)]) ++ own_enc a) ++ own_enc b) ++ [(34 : Int32)]) = l := by
  rw [← h, own_cm, if_neg (by decide)]
  simp [own_js, own_encs]
theorem own_T2P {t l ds : List Int32} {d : Nat} (e : ds = [Int32.ofNat (48 + d)]) (h : (t ++ ds) = l) : (t ++ [Int32.ofNat (48 + d)]) = l := by rw [← h, e]
theorem own_T2M {t l ds : List Int32} {d : Nat} (e : ds = [45, Int32.ofNat (48 + d)]) (h : (t ++ ds) = l) : ((t ++ [(45 : Int32)]) ++ [Int32.ofNat (48 + d)]) = l := by rw [← h, e, List.append_assoc]; rfl
theorem own_ca {a b : List Int32} {n k : Nat} (h : a.length ≤ n) (hb : b.length ≤ k) : (a ++ b).length ≤ n + k := by rw [List.length_append]; omega
theorem own_caS {a : List Int32} {n : Nat} (xs : List Int32) (o : Nat) (h : a.length ≤ n) : (a ++ own_sl xs o 0).length ≤ n := by rw [own_sl0, List.append_nil]; exact h
theorem own_capB {ls xs bs : List Int32} {i un : Nat} (h : own_P ls xs i bs un) (hl : ls.length ≤ 100) (hi : i ≤ 2) : bs.length ≤ 113 := by have q := own_Plb h; omega
theorem own_capS {ls xs bs : List Int32} {i un : Nat} (h : own_P ls xs i bs un) (hl : ls.length ≤ 100) (hi : i ≤ 2) : (bs ++ own_sl xs un (i - un)).length ≤ 113 := by have q := own_Plen h; omega
theorem own_capE {ls xs bs : List Int32} {i un n : Nat} (h : own_P ls xs i bs un) (hl : ls.length ≤ 100) (hi : i ≤ 2) (hn : xs.length = n) (e : i = n) : (bs ++ own_sl xs un (xs.length - un)).length ≤ 113 := by rw [hn, ← e]; exact own_capS h hl hi
theorem own_PendK {ls xs bs : List Int32} {i : Nat} (h : own_P ls xs i bs i) (hi : i = xs.length) : (bs ++ own_sl xs i 0) ++ [34] = ls ++ own_js xs := by
  have q := own_Pend h hi
  rwa [← hi, Nat.sub_self] at q
theorem own_hon {i un n : Nat} (h : un ≤ i) (hi : i ≤ n) : un + (i - un) ≤ n := by omega
theorem own_c92 {c : Int32} (h : c = 34 ∨ c = 92) : ¬ ((255 : Int32) < c) := by rcases h with rfl | rfl <;> decide
def own_L0 : List Int32 := [123]
theorem own_jsx {xs : List Int32} (h : xs.length = 1 ∨ xs.length = 2) : (own_js xs).length ≤ 14 := by have q := own_jsl xs; omega
theorem own_cm0 {f : Int32} (h : f = 0) (ls : List Int32) : ls ++ [44] = ls ++ own_cm f := by rw [own_cm, if_pos h]
theorem own_cm1 {f : Int32} (h : ¬ (f = 0)) (ls : List Int32) : ls = ls ++ own_cm f := by rw [own_cm, if_neg h, List.append_nil]
theorem own_hexc {c : Int32} (h : ¬ (c < (0 : Int32)) ∧ ¬ ((65535 : Int32) < c)) : own_chars (own_enc c) := by
  unfold own_enc
  split
  · rename_i h32
    have a := own_hexb (own_cl32 h.1 h32)
    have b := own_hexb (Nat.mod_lt c.toNatClampNeg (show 0 < 16 by decide))
    exact own_ccons ⟨by decide, by decide⟩ (own_ccons ⟨by decide, by decide⟩ (own_ccons ⟨by decide, by decide⟩ (own_ccons ⟨by decide, by decide⟩ (own_ccons ⟨a.1, own_w255 a.2⟩ (own_chars1 b.1 (own_w255 b.2))))))
  · split
    · exact own_ccons ⟨by decide, by decide⟩ (own_chars1 h.1 h.2)
    · exact own_chars1 h.1 h.2
theorem own_jsc1 {c : Int32} (h0 : ¬ (c < (0 : Int32))) (h1 : ¬ ((65535 : Int32) < c)) : own_chars (own_js [c]) := by
  have e : own_js [c] = [34] ++ own_enc c ++ [34] := by simp [own_js, own_encs]
  rw [e]; exact own_chars_app (own_chars_app (own_chars1 (by decide) (by decide)) (own_hexc ⟨h0, h1⟩)) (own_chars1 (by decide) (by decide))
theorem own_jsc2 {c d : Int32} (h0 : ¬ (c < (0 : Int32))) (h1 : ¬ ((65535 : Int32) < c)) (k0 : ¬ (d < (0 : Int32))) (k1 : ¬ ((65535 : Int32) < d)) : own_chars (own_js [c, d]) := by
  have e : own_js [c, d] = [34] ++ own_enc c ++ own_enc d ++ [34] := by simp [own_js, own_encs]
  rw [e]; exact own_chars_app (own_chars_app (own_chars_app (own_chars1 (by decide) (by decide)) (own_hexc ⟨h0, h1⟩)) (own_hexc ⟨k0, k1⟩)) (own_chars1 (by decide) (by decide))
theorem own_cmc (f : Int32) : own_chars (own_cm f) := by
  unfold own_cm; split
  · exact own_chars1 (by decide) (by decide)
  · exact own_cnil
theorem own_L0c : own_chars own_L0 := own_chars1 (by decide) (by decide)
theorem own_rem10 (x : Int32) : ∃ ds, own_rd (x % 10) ds := by
  have e := c_irem x 10 10 (by decide)
  have k : -10 < (x % 10).toInt ∧ (x % 10).toInt < 10 := by
    by_cases h : 0 ≤ x.toInt
    · have q := e.1 h; omega
    · have q := e.2 (by omega); omega
  by_cases h : (x % 10).toInt < 0
  · refine ⟨_, Or.inr ⟨(-(x % 10).toInt).toNat, by omega, by omega, ?_, rfl⟩⟩
    apply Int32.toInt_inj.mp
    rw [own_negn (by omega)]; omega
  · refine ⟨_, Or.inl ⟨(x % 10).toInt.toNat, by omega, ?_, rfl⟩⟩
    apply Int32.toInt_inj.mp
    rw [own_nn (by omega)]; omega
theorem own_dpos {r : Int32} {d : Nat} (h : d ≤ 9) (e : r = Int32.ofNat d) : ((48 : Int32) + r).toUInt32.toUInt16.toUInt32.toInt32 = Int32.ofNat (48 + d) := by
  have e1 : (48 : Int32) + Int32.ofNat d = Int32.ofNat (48 + d) := own_addn 48 d
  have q : nar .char (Int32.ofNat (48 + d)) = Int32.ofNat (48 + d) := own_narid (own_48 h).1 (own_w255 (own_48 h).2)
  rw [e, e1]; exact q
theorem own_dneg {r : Int32} {d : Nat} (h : d ≤ 9) (e : r = -(Int32.ofNat d)) : ((48 : Int32) - r).toUInt32.toUInt16.toUInt32.toInt32 = Int32.ofNat (48 + d) := by
  have e1 : (48 : Int32) - -(Int32.ofNat d) = Int32.ofNat (48 + d) := by rw [Int32.sub_neg]; exact own_addn 48 d
  have q : nar .char (Int32.ofNat (48 + d)) = Int32.ofNat (48 + d) := own_narid (own_48 h).1 (own_w255 (own_48 h).2)
  rw [e, e1]; exact q
end Jvm.RoadKit
namespace Jvm.RoadKit
open Sem ClassFile Op Lib Bundle Jvm.Stand Jvm.Free Jvm.LawKit
theorem own_arvS {s : State} (hf : Fit s) {a : Addr} {cl : Cell} {ty : FieldType} (A : Arr s s.heap a cl ty) {z : Int32} (S : cl.slots.size = z.toNatClampNeg) (hz : ¬ z < 0) (q : cl.slots.size < 2 ^ 31) (dv : Value) : Arv s s.heap a cl.cls ty z cl.slots.toList dv := by
  have H : Has cl cl.slots.toList dv := fun k hk => by
    rw [List.getD_eq_getElem?_getD, Array.getElem?_toList, Array.getElem?_eq_getElem hk]; rfl
  refine ⟨cl, A, rfl, S, hz, H, fun j hj => ?_⟩
  have e1 : (Nat.toInt32 j).toNatClampNeg = j := by simp only [Int32.toNatClampNeg, len_toInt (Nat.lt_trans hj q)]; rfl
  exact elem_fits (j := Nat.toInt32 j) hf A (idx_in hj q) (by rw [e1]; exact H j hj)
theorem own_arvI {s : State} (hf : Fit s) {a : Addr} {cl : Cell} {ty : FieldType} (A : Arr s s.heap a cl ty) (ht : ty = .int ∨ ty = .boolean ∨ ty = .byte ∨ ty = .char ∨ ty = .short) (q : cl.slots.size < 2 ^ 31) {i : Nat} (hi : i < cl.slots.size) : ∃ x, cl.slots[i]? = some (.int x) ∧ cl.slots.toList.getD i (.int 0) = .int x := by
  have e1 : (Nat.toInt32 i).toNatClampNeg = i := by simp only [Int32.toNatClampNeg, len_toInt (Nat.lt_trans hi q)]; rfl
  obtain ⟨v, h1, h2⟩ := elem_fit (j := Nat.toInt32 i) hf A (idx_in hi q)
  rw [e1] at h1
  obtain ⟨x, rfl⟩ := fit_I h2 ht
  refine ⟨x, h1, ?_⟩
  rw [List.getD_eq_getElem?_getD, Array.getElem?_toList, h1]; rfl
theorem own_size {s : State} {args : Array Value} {T : Term} {a : Addr} {cl : Cell} {n : Int32} {k : Nat} (ev : T.eval args s none [] s = some (.ref a)) (hat : s.arrayAt? a = some cl) (hl : (Term.length T).eval args s none [] s = some (.int n)) (hk : n.toInt = k) : cl.slots.size < 2 ^ 31 ∧ cl.slots.size = k := by
  have h31 := Jvm.Free.SBG.length_lt ev hat hl
  obtain ⟨a', cl', ev', hat', hlen⟩ := Term.length_spec hl
  cases ev.symm.trans ev'
  cases hat.symm.trans hat'
  have h2 := congrArg Int32.toInt (Value.int.inj hlen)
  rw [len_toInt h31, hk] at h2
  exact ⟨h31, by omega⟩
theorem own_hexA {s : State} {args : Array Value} {T : Term} (hf : Fit s) (hev : ∀ idx, T.eval args s none idx s = T.eval args s none [] s) (h0 : (Cond.arrayOf T .char).value args s none s [] = some true) (h1 : (Cond.eq (.length T) (.int 16)).value args s none s [] = some true)
    (h2 : (Cond.all T (.or (.le (.int 10) (.index 0)) (.eq (.op1 .i2l (.elem T (.index 0))) (.op2 .ladd (.op1 .i2l (.index 0)) (.long 48))))).value args s none s [] = some true) (h3 : (Cond.all T (.or (.lt (.index 0) (.int 10)) (.eq (.op1 .i2l (.elem T (.index 0))) (.op2 .ladd (.op1 .i2l (.index 0)) (.long 87))))).value args s none s [] = some true) :
    ∃ (a : Addr) (k : ClassId) (vs : List Value), T.eval args s none [] s = some (.ref a) ∧ Arv s s.heap a k .char 16 vs (.int 0) ∧ ∀ i, i < 16 → vs.getD i (.int 0) = .int (own_hexn i) := by
  obtain ⟨a, ev⟩ := arr_v h0
  obtain ⟨cl, A⟩ := Arr.start ev h0
  have hat : s.arrayAt? a = some cl := Arr.fin (Vm.Alike.refl _) A
  obtain ⟨h31, hsz⟩ := own_size (k := 16) ev hat (own_eqint h1) rfl
  refine ⟨a, cl.cls, cl.slots.toList, ev, own_arvS hf A (by rw [hsz]; rfl) (by decide) h31 _, fun i hi => ?_⟩
  obtain ⟨x, hx, hg⟩ := own_arvI hf A (by simp) h31 (i := i) (by omega)
  rw [hg]
  have e2 := Cond.all_elim ev hat h2 i (by omega)
  have e3 := Cond.all_elim ev hat h3 i (by omega)
  have eL : (Term.elem T (.index 0)).eval args s none [i] s = cl.slots[i]? := Jvm.Free.SBG.elem_at (ix := .index 0) ((hev [i]).trans ev) hat (by omega) h31 rfl
  rw [hx] at eL
  have eI : (Term.op1 .i2l (.elem T (.index 0))).eval args s none [i] s = some (.long x.toInt64) := by rw [Term.eval, eL]; rfl
  have eJ : ∀ k : Int64, (Term.op2 .ladd (.op1 .i2l (.index 0)) (.long k)).eval args s none [i] s = some (.long ((Int32.ofNat i).toInt64 + k)) := fun k => rfl
  have eX : (Term.index 0).eval args s none [i] s = some (.int (Int32.ofNat i)) := rfl
  have eq1 : ∀ k : Int64, (Cond.eq (.op1 .i2l (.elem T (.index 0))) (.op2 .ladd (.op1 .i2l (.index 0)) (.long k))).value args s none s [i] = some (decide (x.toInt64 = (Int32.ofNat i).toInt64 + k)) := fun k => by simp [Cond.value, eI, eJ k]
  have fin : ∀ (k : Int64) (m : Nat), k.toInt = m → m ≤ 100 → x.toInt64 = (Int32.ofNat i).toInt64 + k → x = Int32.ofNat (m + i) := fun k m hk hm e => by
    have e' := congrArg Int64.toInt e
    have c1 := c_ladd (Int32.ofNat i).toInt64 k
    rw [Int32.toInt_toInt64] at e' c1
    rw [own_nn (by omega), hk] at c1
    have r1 := rng32 x
    have r2 := rng64 ((Int32.ofNat i).toInt64 + k)
    apply Int32.toInt_inj.mp
    rw [own_nn (by omega)]
    omega
  unfold own_hexn
  by_cases h : i < 10
  · rw [if_pos h]
    rcases or_e2 (Cond.le_ints (Term.int_eval 10) eX) (eq1 48) e2 with q | q
    · exact absurd (Int32.le_iff_toInt_le.mp q) (by rw [own_nn (by omega)]; show ¬ ((10 : Int) ≤ i); omega)
    · rw [fin 48 48 rfl (by decide) q]
  · rw [if_neg h]
    rcases or_e2 (Cond.lt_ints eX (Term.int_eval 10)) (eq1 87) e3 with q | q
    · exact absurd (Int32.lt_iff_toInt_lt.mp q) (by rw [own_nn (by omega)]; show ¬ ((i : Int) < 10); omega)
    · rw [fin 87 87 rfl (by decide) q]
theorem own_digA {s : State} {args : Array Value} (hf : Fit s) {T : Term} (hev : ∀ idx, T.eval args s none idx s = T.eval args s none [] s) (h0 : (Cond.exactly T "[B").before args s = true) (h1 : (Cond.eq (.length T) (.int 100)).before args s = true) (h2 : (Cond.all T (.eq (.elem T (.index 0)) (.add (.int 48) (.rem (.index 0) (.int 10))))).before args s = true) (harr : (Cond.arrayClass .byte).before args s = true) :
    ∃ (a : Addr) (k : ClassId) (vs : List Value), T.eval args s none [] s = some (.ref a) ∧ Arv s s.heap a k .byte 100 vs (.int 0) ∧ ∀ i, i < 10 → vs.getD i (.int 0) = .int (Int32.ofNat (48 + i)) := by
  obtain ⟨d, cB, D, kB, ev, hfcB, hcellD, hkB, hstatD, hclsD, -⟩ := Cond.exactly_spec h0
  have hl := own_eqint (Cond.before_iff.mp h1)
  obtain ⟨d', D', ev', hat, -⟩ := Term.length_spec hl
  cases ev.symm.trans ev'
  obtain ⟨hcellD', hknD, -, -⟩ := State.arrayAt?_spec hat
  cases hcellD.symm.trans hcellD'
  obtain ⟨h31, hsz⟩ := own_size (k := 100) ev hat hl rfl
  obtain ⟨cB', kB', comp, hnameB, hkB', hkindB⟩ := Cond.arrayClass_spec harr
  have eBA : ("[" ++ FieldType.toString .byte) = "[B" := by decide
  rw [eBA] at hnameB
  cases hfcB.symm.trans hnameB
  cases hkB.symm.trans hkB'
  have A : Arr s s.heap d D .byte := ⟨hcellD, ⟨(fun q h => by rw [h] at hstatD; cases hstatD), kB, (by rw [hclsD]; exact hkB), comp, hkindB⟩, hknD⟩
  refine ⟨d, D.cls, D.slots.toList, ev, own_arvS hf A (by rw [hsz]; rfl) (by decide) h31 _, fun i hi => ?_⟩
  obtain ⟨x, hx, hg⟩ := own_arvI hf A (by simp) h31 (i := i) (by omega)
  rw [hg]
  have e2 := Cond.all_elim ev hat (Cond.before_iff.mp h2) i (by omega)
  have eL : (Term.elem T (.index 0)).eval args s none [i] s = D.slots[i]? := Jvm.Free.SBG.elem_at (ix := .index 0) ((hev [i]).trans ev) hat (by omega) h31 rfl
  rw [hx] at eL
  have eR : (Term.add (.int 48) (.rem (.index 0) (.int 10))).eval args s none [i] s = some (.int (Int32.ofNat (48 + i % 10))) := by rw [← Jvm.Free.SBG.ones_num i (by omega)]; rfl
  have q := gotT (Cond.eq_ints eL eR) e2
  rw [q, show i % 10 = i by omega]
theorem own_refS {s : State} {args : Array Value} (hf : Fit s) {C n d : String} {t : FieldType} (ht : parseFieldDescriptor d = some t) (href : refSort t = true) (h : (Cond.laysStatic C n d).before args s = true) : ∃ v, (Term.static C n d).eval args s none [] s = some v ∧ v.isRef = true := by
  have hs : s.SameShape s := ⟨rfl, rfl, fun a c hc => ⟨c, hc, rfl, rfl, fun j v hv => by
    obtain ⟨hj, rfl⟩ := Array.getElem?_eq_some_iff.mp hv
    exact hf hc hj⟩⟩
  exact isR_v (Cond.before_iff.mp (Cond.isRefStatic_sameShape (args' := args) hs ht href h))
end Jvm.RoadKit
namespace Jvm.Pilot.@@N@@
open Jvm Jvm.ClassFile Sem Op Lib Jvm.Free Jvm.Stand Jvm.LawKit Jvm.RoadKit Bundle Jvm.Pilot.@@N@@.Jvm.D
abbrev mN0 : MethodName := ⟨"java/lang/StringLatin1", "canEncode", "(C)Z"⟩
abbrev mN1 : MethodName := ⟨"java/lang/StringLatin1", "toBytes", "(C)[B"⟩
abbrev mN2 : MethodName := ⟨"java/lang/String", "<init>", "([BB)V"⟩
abbrev mN3 : MethodName := ⟨"java/lang/StringUTF16", "compress", "([CI[BII)I"⟩
abbrev mN4 : MethodName := ⟨"java/lang/StringUTF16", "newBytesLength", "(I)I"⟩
abbrev mN5 : MethodName := ⟨"java/lang/StringUTF16", "newBytesFor", "(I)[B"⟩
abbrev mN6 : MethodName := ⟨"java/lang/StringUTF16", "putChar", "([BII)V"⟩
abbrev mN7 : MethodName := ⟨"java/lang/StringUTF16", "toBytes", "([CII)[B"⟩
abbrev mN8 : MethodName := ⟨"java/lang/StringUTF16", "getChar", "([BI)C"⟩
abbrev mN9 : MethodName := ⟨"java/lang/StringUTF16", "compress", "([CII)[B"⟩
abbrev mN10 : MethodName := ⟨"java/lang/StringUTF16", "coderFromArrayLen", "([BI)B"⟩
abbrev mN11 : MethodName := ⟨"java/lang/String", "<init>", "([CIILjava/lang/Void;)V"⟩
abbrev mN12 : MethodName := ⟨"java/lang/String", "<init>", "([C)V"⟩
abbrev mN13 : MethodName := ⟨"java/lang/String", "coder", "()B"⟩
abbrev mN14 : MethodName := ⟨"java/lang/String", "length", "()I"⟩
abbrev mN15 : MethodName := ⟨"java/lang/String", "isLatin1", "()Z"⟩
abbrev mN16 : MethodName := ⟨"jdk/internal/util/Preconditions", "checkIndex", "(IILjava/util/function/BiFunction;)I"⟩
abbrev mN17 : MethodName := ⟨"java/lang/String", "checkIndex", "(II)V"⟩
abbrev mN18 : MethodName := ⟨"java/lang/StringLatin1", "charAt", "([BI)C"⟩
abbrev mN19 : MethodName := ⟨"java/lang/StringUTF16", "length", "([B)I"⟩
abbrev mN20 : MethodName := ⟨"java/lang/StringUTF16", "checkIndex", "(I[B)V"⟩
abbrev mN21 : MethodName := ⟨"java/lang/StringUTF16", "charAt", "([BI)C"⟩
abbrev mN22 : MethodName := ⟨"java/lang/String", "charAt", "(I)C"⟩
abbrev mN23 : MethodName := ⟨"java/lang/AbstractStringBuilder", "<init>", "(I)V"⟩
abbrev mN24 : MethodName := ⟨"java/lang/StringBuilder", "<init>", "(I)V"⟩
abbrev mN25 : MethodName := ⟨"java/lang/AbstractStringBuilder", "isLatin1", "()Z"⟩
abbrev mN26 : MethodName := ⟨"java/lang/AbstractStringBuilder", "ensureCapacityInternal", "(I)V"⟩
abbrev mN27 : MethodName := ⟨"java/lang/StringUTF16", "putCharSB", "([BII)V"⟩
abbrev mN28 : MethodName := ⟨"jdk/internal/util/Preconditions", "checkFromIndexSize", "(IIILjava/util/function/BiFunction;)I"⟩
abbrev mN29 : MethodName := ⟨"java/lang/String", "checkBoundsOffCount", "(III)I"⟩
abbrev mN30 : MethodName := ⟨"java/lang/StringUTF16", "checkBoundsOffCount", "(II[B)V"⟩
abbrev mN31 : MethodName := ⟨"java/lang/StringUTF16", "inflate", "([BI[BII)V"⟩
abbrev mN32 : MethodName := ⟨"java/lang/StringLatin1", "inflate", "([BI[BII)V"⟩
abbrev mN33 : MethodName := ⟨"java/lang/AbstractStringBuilder", "inflate", "()V"⟩
abbrev mN34 : MethodName := ⟨"java/lang/AbstractStringBuilder", "append", "(C)Ljava/lang/AbstractStringBuilder;"⟩
abbrev mN35 : MethodName := ⟨"java/lang/StringBuilder", "append", "(C)Ljava/lang/StringBuilder;"⟩
abbrev mN36 : MethodName := ⟨"java/util/Arrays", "checkLength", "(II)V"⟩
abbrev mN37 : MethodName := ⟨"java/lang/Math", "min", "(II)I"⟩
abbrev mN38 : MethodName := ⟨"java/util/Arrays", "copyOfRangeByte", "([BII)[B"⟩
abbrev mN39 : MethodName := ⟨"java/util/Arrays", "copyOfRange", "([BII)[B"⟩
abbrev mN40 : MethodName := ⟨"java/lang/AbstractStringBuilder", "getValue", "()[B"⟩
abbrev mN41 : MethodName := ⟨"java/lang/AbstractStringBuilder", "length", "()I"⟩
abbrev mN42 : MethodName := ⟨"java/lang/StringBuilder", "length", "()I"⟩
abbrev mN43 : MethodName := ⟨"java/lang/String", "<init>", "(Ljava/lang/AbstractStringBuilder;Ljava/lang/Void;)V"⟩
abbrev mN44 : MethodName := ⟨"java/lang/String", "<init>", "(Ljava/lang/StringBuilder;)V"⟩
abbrev mN45 : MethodName := ⟨"java/lang/StringBuilder", "toString", "()Ljava/lang/String;"⟩
abbrev mN46 : MethodName := ⟨"java/lang/AbstractStringBuilder", "inflateIfNeededFor", "(Ljava/lang/String;)V"⟩
abbrev mN47 : MethodName := ⟨"java/lang/String", "getBytes", "([BIB)V"⟩
abbrev mN48 : MethodName := ⟨"java/lang/AbstractStringBuilder", "putStringAt", "(ILjava/lang/String;)V"⟩
abbrev mN49 : MethodName := ⟨"java/lang/AbstractStringBuilder", "append", "(Ljava/lang/String;)Ljava/lang/AbstractStringBuilder;"⟩
abbrev mN50 : MethodName := ⟨"java/lang/StringBuilder", "append", "(Ljava/lang/String;)Ljava/lang/StringBuilder;"⟩
abbrev mN51 : MethodName := ⟨"jdk/internal/util/Preconditions", "checkFromToIndex", "(IIILjava/util/function/BiFunction;)I"⟩
abbrev mN52 : MethodName := ⟨"java/lang/String", "value", "()[B"⟩
abbrev mN53 : MethodName := ⟨"java/lang/String", "checkBoundsBeginEnd", "(III)V"⟩
abbrev mN54 : MethodName := ⟨"java/lang/StringUTF16", "checkBoundsBeginEnd", "(II[B)V"⟩
abbrev mN55 : MethodName := ⟨"java/lang/StringUTF16", "putCharsSB", "([BILjava/lang/CharSequence;II)V"⟩
abbrev mN56 : MethodName := ⟨"java/lang/AbstractStringBuilder", "appendChars", "(Ljava/lang/String;II)V"⟩
abbrev mN57 : MethodName := ⟨"java/lang/AbstractStringBuilder", "append", "(Ljava/lang/CharSequence;II)Ljava/lang/AbstractStringBuilder;"⟩
abbrev mN58 : MethodName := ⟨"java/lang/StringBuilder", "append", "(Ljava/lang/CharSequence;II)Ljava/lang/StringBuilder;"⟩
abbrev mN59 : MethodName := ⟨"java/lang/Integer", "stringSize", "(I)I"⟩
abbrev mN60 : MethodName := ⟨"java/lang/Integer", "getChars", "(II[B)I"⟩
abbrev mN61 : MethodName := ⟨"java/lang/StringUTF16", "getChars", "(II[B)I"⟩
abbrev mN62 : MethodName := ⟨"java/lang/StringUTF16", "getChars", "(III[B)I"⟩
abbrev mN63 : MethodName := ⟨"java/lang/AbstractStringBuilder", "append", "(I)Ljava/lang/AbstractStringBuilder;"⟩
abbrev mN64 : MethodName := ⟨"java/lang/StringBuilder", "append", "(I)Ljava/lang/StringBuilder;"⟩
abbrev mN65 : MethodName := ⟨"com/example/clear_fault/clearfault/JsonObjectWriter", "appendString", "(Ljava/lang/String;)V"⟩
abbrev mN66 : MethodName := ⟨"com/example/clear_fault/clearfault/JsonObjectWriter", "<init>", "()V"⟩
abbrev mN67 : MethodName := ⟨"com/example/clear_fault/clearfault/JsonObjectWriter", "name", "(Ljava/lang/String;)V"⟩
abbrev mN68 : MethodName := ⟨"com/example/clear_fault/clearfault/JsonObjectWriter", "add", "(Ljava/lang/String;Ljava/lang/String;)Lcom/example/clear_fault/clearfault/JsonObjectWriter;"⟩
abbrev mN69 : MethodName := ⟨"com/example/clear_fault/clearfault/JsonObjectWriter", "add", "(Ljava/lang/String;I)Lcom/example/clear_fault/clearfault/JsonObjectWriter;"⟩
abbrev mN70 : MethodName := ⟨"com/example/clear_fault/clearfault/JsonObjectWriter", "finish", "()Ljava/lang/String;"⟩
abbrev mN71 : MethodName := ⟨"java/lang/StringUTF16", "toBytes", "(C)[B"⟩
abbrev mN72 : MethodName := ⟨"java/lang/String", "valueOf", "(C)Ljava/lang/String;"⟩
abbrev mN73 : MethodName := ⟨"com/example/clear_fault/clearfault/JsonObjectWriterFinishPinLaw", "hex", "(I)C"⟩
abbrev mN74 : MethodName := ⟨"com/example/clear_fault/clearfault/JsonObjectWriterFinishPinLaw", "enc", "([CIC)I"⟩
abbrev mN75 : MethodName := ⟨"com/example/clear_fault/clearfault/JsonObjectWriterFinishPinLaw", "str1", "([CIC)I"⟩
abbrev mN76 : MethodName := ⟨"com/example/clear_fault/clearfault/JsonObjectWriterFinishPinLaw", "at", "(Ljava/lang/String;[CII)Z"⟩
def D1 : List (Nat × Instr × Nat) := [(0, .getstatic 38, 3), (3, .ifCond .eq 23, 3), (6, .iload_n 0, 1), (7, .invokestatic 1015, 3), (10, .ifCond .eq 16, 3), (13, .new 10, 3), (16, .dup, 1), (17, .iload_n 0, 1), (18, .invokestatic 1018, 3), (21, .iconst 0, 1), (22, .invokespecial 209, 3), (25, .areturn, 1), (26, .new 10, 3), (29, .dup, 1), (30, .iload_n 0, 1), (31, .invokestatic 1021, 3), (34, .iconst 1, 1), (35, .invokespecial 209, 3), (38, .areturn, 1)]
theorem E1 : ∀ x ∈ D1, DK jdk_42_method_139_code x.1 x.2.1 x.2.2 := by decide +kernel
def D2 : List (Nat × Instr × Nat) := [(0, .iload_n 0, 1), (1, .sipush 255, 3), (4, .if_icmp .gt 7, 3), (7, .iconst 1, 1), (8, .goto 4, 3), (11, .iconst 0, 1), (12, .ireturn, 1)]
theorem E2 : ∀ x ∈ D2, DK jdk_43_method_3_code x.1 x.2.1 x.2.2 := by decide +kernel
def D3 : List (Nat × Instr × Nat) := [(0, .iconst 1, 1), (1, .newarray .byte, 2), (3, .dup, 1), (4, .iconst 0, 1), (5, .iload_n 0, 1), (6, .i2b, 1), (7, .bastore, 1), (8, .areturn, 1)]
theorem E3 : ∀ x ∈ D3, DK jdk_43_method_46_code x.1 x.2.1 x.2.2 := by decide +kernel
def D4 : List (Nat × Instr × Nat) := [(0, .aload_n 0, 1), (1, .invokespecial 1, 3), (4, .aload_n 0, 1), (5, .aload_n 1, 1), (6, .putfield 9, 3), (9, .aload_n 0, 1), (10, .iload_n 2, 1), (11, .putfield 15, 3), (14, .return_, 1)]
theorem E4 : ∀ x ∈ D4, DK jdk_42_method_151_code x.1 x.2.1 x.2.2 := by decide +kernel
def D6 : List (Nat × Instr × Nat) := [(0, .aload_n 0, 1), (1, .aload_n 1, 1), (2, .iconst 0, 1), (3, .aload_n 1, 1), (4, .arraylength, 1), (5, .aconst_null, 1), (6, .invokespecial 27, 3), (9, .return_, 1)]
theorem E6 : ∀ x ∈ D6, DK jdk_42_method_3_code x.1 x.2.1 x.2.2 := by decide +kernel
def D7 : List (Nat × Instr × Nat) := [(0, .aload_n 0, 1), (1, .invokespecial 1, 3), (4, .iload_n 3, 1), (5, .ifCond .ne 22, 3), (27, .getstatic 38, 3), (30, .ifCond .eq 28, 3), (33, .aload_n 1, 1), (34, .iload_n 2, 1), (35, .iload_n 3, 1), (36, .invokestatic 177, 3), (39, .astore 5, 2), (41, .aload_n 0, 1), (42, .aload 5, 2), (44, .iload_n 3, 1), (45, .invokestatic 47, 3), (48, .putfield 15, 3), (51, .aload_n 0, 1), (52, .aload 5, 2), (54, .putfield 9, 3), (57, .return_, 1)]
theorem E7 : ∀ x ∈ D7, DK jdk_42_method_149_code x.1 x.2.1 x.2.2 := by decide +kernel
def D8 : List (Nat × Instr × Nat) := [(0, .iload_n 2, 1), (1, .newarray .byte, 2), (3, .astore_n 3, 1), (4, .aload_n 0, 1), (5, .iload_n 1, 1), (6, .aload_n 3, 1), (7, .iconst 0, 1), (8, .iload_n 2, 1), (9, .invokestatic 115, 3), (12, .istore 4, 2), (14, .iload 4, 2), (16, .iload_n 2, 1), (17, .if_icmp .eq 40, 3), (20, .aload_n 0, 1), (21, .iload_n 1, 1), (22, .iload_n 2, 1), (23, .invokestatic 119, 3), (26, .astore 5, 2), (28, .aload 5, 2), (30, .iload 4, 2), (32, .invokestatic 71, 3), (35, .sipush 255, 3), (38, .if_icmp .gt 16, 3), (54, .aload 5, 2), (56, .areturn, 1), (57, .aload_n 3, 1), (58, .areturn, 1)]
theorem E8 : ∀ x ∈ D8, DK jdk_52_method_16_code x.1 x.2.1 x.2.2 := by decide +kernel
def D9 : List (Nat × Instr × Nat) := [(0, .iconst 0, 1), (1, .istore 5, 2), (3, .iload 5, 2), (5, .iload 4, 2), (7, .if_icmp .ge 37, 3), (10, .aload_n 0, 1), (11, .iload_n 1, 1), (12, .caload, 1), (13, .istore 6, 2), (15, .iload 6, 2), (17, .sipush 255, 3), (20, .if_icmp .le 6, 3), (23, .iload 5, 2), (25, .ireturn, 1), (26, .aload_n 2, 1), (27, .iload_n 3, 1), (28, .iload 6, 2), (30, .i2b, 1), (31, .bastore, 1), (32, .iinc 1 1, 3), (35, .iinc 3 1, 3), (38, .iinc 5 1, 3), (41, .goto (-38), 3), (44, .iload 4, 2), (46, .ireturn, 1)]
theorem E9 : ∀ x ∈ D9, DK jdk_52_method_21_code x.1 x.2.1 x.2.2 := by decide +kernel
def D10 : List (Nat × Instr × Nat) := [(0, .iload_n 1, 1), (1, .aload_n 0, 1), (2, .arraylength, 1), (3, .isub, 1), (4, .bipush 31, 2), (6, .iushr, 1), (7, .i2b, 1), (8, .ireturn, 1)]
theorem E10 : ∀ x ∈ D10, DK jdk_52_method_15_code x.1 x.2.1 x.2.2 := by decide +kernel
def D11 : List (Nat × Instr × Nat) := [(0, .aload_n 0, 1), (1, .invokespecial 1, 3), (4, .aload_n 0, 1), (5, .new 7, 3), (8, .dup, 1), (9, .sipush 256, 3), (12, .invokespecial 9, 3), (15, .bipush 123, 2), (17, .invokevirtual 12, 3), (20, .putfield 16, 3), (23, .aload_n 0, 1), (24, .iconst 1, 1), (25, .putfield 22, 3), (28, .return_, 1)]
theorem E11 : ∀ x ∈ D11, DK prog_13_method_1_code x.1 x.2.1 x.2.2 := by decide +kernel
def D12 : List (Nat × Instr × Nat) := [(0, .aload_n 0, 1), (1, .iload_n 1, 1), (2, .invokespecial 1, 3), (5, .return_, 1)]
theorem E12 : ∀ x ∈ D12, DK jdk_67_method_2_code x.1 x.2.1 x.2.2 := by decide +kernel
def D13 : List (Nat × Instr × Nat) := [(0, .aload_n 0, 1), (1, .invokespecial 3, 3), (4, .getstatic 18, 3), (7, .ifCond .eq 18, 3), (10, .aload_n 0, 1), (11, .iload_n 1, 1), (12, .newarray .byte, 2), (14, .putfield 15, 3), (17, .aload_n 0, 1), (18, .iconst 0, 1), (19, .putfield 22, 3), (22, .goto 16, 3), (38, .return_, 1)]
theorem E13 : ∀ x ∈ D13, DK jdk_68_method_2_code x.1 x.2.1 x.2.2 := by decide +kernel
def D14 : List (Nat × Instr × Nat) := [(0, .aload_n 0, 1), (1, .iload_n 1, 1), (2, .invokespecial 50, 3), (5, .pop, 1), (6, .aload_n 0, 1), (7, .areturn, 1)]
theorem E14 : ∀ x ∈ D14, DK jdk_67_method_14_code x.1 x.2.1 x.2.2 := by decide +kernel
def D15 : List (Nat × Instr × Nat) := [(0, .aload_n 0, 1), (1, .aload_n 0, 1), (2, .getfield 79, 3), (5, .iconst 1, 1), (6, .iadd, 1), (7, .invokevirtual 100, 3), (10, .aload_n 0, 1), (11, .invokevirtual 83, 3), (14, .ifCond .eq 31, 3), (17, .iload_n 1, 1), (18, .invokestatic 191, 3), (21, .ifCond .eq 24, 3), (24, .aload_n 0, 1), (25, .getfield 15, 3), (28, .aload_n 0, 1), (29, .dup, 1), (30, .getfield 79, 3), (33, .dup_x1, 1), (34, .iconst 1, 1), (35, .iadd, 1), (36, .putfield 79, 3), (39, .iload_n 1, 1), (40, .i2b, 1), (41, .bastore, 1), (42, .goto 33, 3), (45, .aload_n 0, 1), (46, .invokevirtual 83, 3), (49, .ifCond .eq 7, 3), (56, .aload_n 0, 1), (57, .getfield 15, 3), (60, .aload_n 0, 1), (61, .dup, 1), (62, .getfield 79, 3), (65, .dup_x1, 1), (66, .iconst 1, 1), (67, .iadd, 1), (68, .putfield 79, 3), (71, .iload_n 1, 1), (72, .invokestatic 197, 3), (75, .aload_n 0, 1), (76, .areturn, 1)]
theorem E15 : ∀ x ∈ D15, DK jdk_68_method_31_code x.1 x.2.1 x.2.2 := by decide +kernel
def D16 : List (Nat × Instr × Nat) := [(0, .aload_n 0, 1), (1, .getfield 15, 3), (4, .arraylength, 1), (5, .aload_n 0, 1), (6, .getfield 22, 3), (9, .ishr, 1), (10, .istore_n 2, 1), (11, .iload_n 1, 1), (12, .iload_n 2, 1), (13, .isub, 1), (14, .ifCond .le 24, 3), (38, .return_, 1)]
theorem E16 : ∀ x ∈ D16, DK jdk_68_method_9_code x.1 x.2.1 x.2.2 := by decide +kernel
def D17 : List (Nat × Instr × Nat) := [(0, .getstatic 18, 3), (3, .ifCond .eq 14, 3), (6, .aload_n 0, 1), (7, .getfield 22, 3), (10, .ifCond .ne 7, 3), (13, .iconst 1, 1), (14, .goto 4, 3), (17, .iconst 0, 1), (18, .ireturn, 1)]
theorem E17 : ∀ x ∈ D17, DK jdk_68_method_68_code x.1 x.2.1 x.2.2 := by decide +kernel
def D18 : List (Nat × Instr × Nat) := [(0, .aload_n 0, 1), (1, .getfield 16, 3), (4, .bipush 125, 2), (6, .invokevirtual 12, 3), (9, .invokevirtual 61, 3), (12, .areturn, 1)]
theorem E18 : ∀ x ∈ D18, DK prog_13_method_6_code x.1 x.2.1 x.2.2 := by decide +kernel
def D19 : List (Nat × Instr × Nat) := [(0, .new 18, 3), (3, .dup, 1), (4, .aload_n 0, 1), (5, .invokespecial 137, 3), (8, .areturn, 1)]
theorem E19 : ∀ x ∈ D19, DK jdk_67_method_42_code x.1 x.2.1 x.2.2 := by decide +kernel
def D20 : List (Nat × Instr × Nat) := [(0, .aload_n 0, 1), (1, .aload_n 1, 1), (2, .aconst_null, 1), (3, .invokespecial 489, 3), (6, .return_, 1)]
theorem E20 : ∀ x ∈ D20, DK jdk_42_method_53_code x.1 x.2.1 x.2.2 := by decide +kernel
def D21 : List (Nat × Instr × Nat) := [(0, .aload_n 0, 1), (1, .invokespecial 1, 3), (4, .aload_n 1, 1), (5, .invokevirtual 552, 3), (8, .astore_n 3, 1), (9, .aload_n 1, 1), (10, .invokevirtual 549, 3), (13, .istore 4, 2), (15, .aload_n 1, 1), (16, .invokevirtual 1047, 3), (19, .ifCond .eq 22, 3), (22, .aload_n 0, 1), (23, .iconst 0, 1), (24, .putfield 15, 3), (27, .aload_n 0, 1), (28, .aload_n 3, 1), (29, .iconst 0, 1), (30, .iload 4, 2), (32, .invokestatic 54, 3), (35, .putfield 9, 3), (38, .goto 59, 3), (41, .getstatic 38, 3), (44, .ifCond .eq 35, 3), (47, .aload_n 1, 1), (48, .getfield 1048, 3), (51, .ifCond .eq 28, 3), (79, .aload_n 0, 1), (80, .iconst 1, 1), (81, .putfield 15, 3), (84, .aload_n 0, 1), (85, .aload_n 3, 1), (86, .iconst 0, 1), (87, .iload 4, 2), (89, .iconst 1, 1), (90, .ishl, 1), (91, .invokestatic 54, 3), (94, .putfield 9, 3), (97, .return_, 1)]
theorem E21 : ∀ x ∈ D21, DK jdk_42_method_150_code x.1 x.2.1 x.2.2 := by decide +kernel
def D22 : List (Nat × Instr × Nat) := [(0, .aload_n 0, 1), (1, .getfield 15, 3), (4, .areturn, 1)]
theorem E22 : ∀ x ∈ D22, DK jdk_68_method_64_code x.1 x.2.1 x.2.2 := by decide +kernel
def D23 : List (Nat × Instr × Nat) := [(0, .aload_n 0, 1), (1, .invokespecial 343, 3), (4, .ireturn, 1)]
theorem E23 : ∀ x ∈ D23, DK jdk_67_method_93_code x.1 x.2.1 x.2.2 := by decide +kernel
def D24 : List (Nat × Instr × Nat) := [(0, .aload_n 0, 1), (1, .getfield 79, 3), (4, .ireturn, 1)]
theorem E24 : ∀ x ∈ D24, DK jdk_68_method_6_code x.1 x.2.1 x.2.2 := by decide +kernel
def D25 : List (Nat × Instr × Nat) := [(0, .iload_n 1, 1), (1, .ifCond .ne 9, 3), (4, .iload_n 2, 1), (5, .aload_n 0, 1), (6, .arraylength, 1), (7, .if_icmp .eq 10, 3), (10, .aload_n 0, 1), (11, .iload_n 1, 1), (12, .iload_n 2, 1), (13, .invokestatic 339, 3), (16, .areturn, 1)]
theorem E25 : ∀ x ∈ D25, DK jdk_65_method_132_code x.1 x.2.1 x.2.2 := by decide +kernel
def D26 : List (Nat × Instr × Nat) := [(0, .iload_n 1, 1), (1, .iload_n 2, 1), (2, .invokestatic 343, 3), (5, .iload_n 2, 1), (6, .iload_n 1, 1), (7, .isub, 1), (8, .istore_n 3, 1), (9, .iload_n 3, 1), (10, .newarray .byte, 2), (12, .astore 4, 2), (14, .aload_n 0, 1), (15, .iload_n 1, 1), (16, .aload 4, 2), (18, .iconst 0, 1), (19, .aload_n 0, 1), (20, .arraylength, 1), (21, .iload_n 1, 1), (22, .isub, 1), (23, .iload_n 3, 1), (24, .invokestatic 304, 3), (27, .invokestatic 150, 3), (30, .aload 4, 2), (32, .areturn, 1)]
theorem E26 : ∀ x ∈ D26, DK jdk_65_method_133_code x.1 x.2.1 x.2.2 := by decide +kernel
def D27 : List (Nat × Instr × Nat) := [(0, .iload_n 1, 1), (1, .iload_n 0, 1), (2, .if_icmp .ge 35, 3), (37, .return_, 1)]
theorem E27 : ∀ x ∈ D27, DK jdk_65_method_131_code x.1 x.2.1 x.2.2 := by decide +kernel
def D28 : List (Nat × Instr × Nat) := [(0, .iload_n 0, 1), (1, .iload_n 1, 1), (2, .if_icmp .gt 7, 3), (9, .iload_n 1, 1), (10, .ireturn, 1)]
theorem E28 : ∀ x ∈ D28, DK jdk_29_method_69_code x.1 x.2.1 x.2.2 := by decide +kernel
def D29 : List (Nat × Instr × Nat) := [(0, .aload_n 0, 1), (1, .getfield 9, 3), (4, .arraylength, 1), (5, .aload_n 0, 1), (6, .invokevirtual 335, 3), (9, .ishr, 1), (10, .ireturn, 1)]
theorem E29 : ∀ x ∈ D29, DK jdk_42_method_54_code x.1 x.2.1 x.2.2 := by decide +kernel
def D30 : List (Nat × Instr × Nat) := [(0, .getstatic 38, 3), (3, .ifCond .eq 10, 3), (6, .aload_n 0, 1), (7, .getfield 15, 3), (10, .goto 4, 3), (14, .ireturn, 1)]
theorem E30 : ∀ x ∈ D30, DK jdk_42_method_152_code x.1 x.2.1 x.2.2 := by decide +kernel
def D31 : List (Nat × Instr × Nat) := [(0, .iload_n 3, 1), (1, .iload_n 2, 1), (2, .if_icmp .ge 14, 3), (5, .aload_n 0, 1), (6, .iload_n 3, 1), (7, .invokevirtual 17, 3), (10, .aload_n 1, 1), (11, .iload_n 3, 1), (12, .caload, 1), (13, .if_icmp .ne 7, 3), (16, .iconst 1, 1), (17, .goto 4, 3), (21, .ireturn, 1)]
theorem E31 : ∀ x ∈ D31, DK method_5_code x.1 x.2.1 x.2.2 := by decide +kernel
def D32 : List (Nat × Instr × Nat) := [(0, .aload_n 0, 1), (1, .invokevirtual 492, 3), (4, .ifCond .eq 12, 3), (7, .aload_n 0, 1), (8, .getfield 9, 3), (11, .iload_n 1, 1), (12, .invokestatic 495, 3), (15, .ireturn, 1), (16, .aload_n 0, 1), (17, .getfield 9, 3), (20, .iload_n 1, 1), (21, .invokestatic 498, 3), (24, .ireturn, 1)]
theorem E32 : ∀ x ∈ D32, DK jdk_42_method_56_code x.1 x.2.1 x.2.2 := by decide +kernel
def D33 : List (Nat × Instr × Nat) := [(0, .getstatic 38, 3), (3, .ifCond .eq 14, 3), (6, .aload_n 0, 1), (7, .getfield 15, 3), (10, .ifCond .ne 7, 3), (13, .iconst 1, 1), (14, .goto 4, 3), (17, .iconst 0, 1), (18, .ireturn, 1)]
theorem E33 : ∀ x ∈ D33, DK jdk_42_method_154_code x.1 x.2.1 x.2.2 := by decide +kernel
def D34 : List (Nat × Instr × Nat) := [(0, .iload_n 1, 1), (1, .aload_n 0, 1), (2, .arraylength, 1), (3, .invokestatic 9, 3), (6, .aload_n 0, 1), (7, .iload_n 1, 1), (8, .baload, 1), (9, .sipush 255, 3), (12, .iand, 1), (13, .i2c, 1), (14, .ireturn, 1)]
theorem E34 : ∀ x ∈ D34, DK jdk_43_method_2_code x.1 x.2.1 x.2.2 := by decide +kernel
def D35 : List (Nat × Instr × Nat) := [(0, .iload_n 0, 1), (1, .iload_n 1, 1), (2, .getstatic 1053, 3), (5, .invokestatic 1059, 3), (8, .pop, 1), (9, .return_, 1)]
theorem E35 : ∀ x ∈ D35, DK jdk_42_method_155_code x.1 x.2.1 x.2.2 := by decide +kernel
def D36 : List (Nat × Instr × Nat) := [(0, .iload_n 0, 1), (1, .ifCond .lt 8, 3), (4, .iload_n 0, 1), (5, .iload_n 1, 1), (6, .if_icmp .lt 10, 3), (16, .iload_n 0, 1), (17, .ireturn, 1)]
theorem E36 : ∀ x ∈ D36, DK jdk_41_method_11_code x.1 x.2.1 x.2.2 := by decide +kernel
def D37 : List (Nat × Instr × Nat) := [(0, .aload_n 0, 1), (1, .aload_n 1, 1), (2, .invokevirtual 26, 3), (5, .aload_n 0, 1), (6, .aload_n 2, 1), (7, .invokevirtual 30, 3), (10, .aload_n 0, 1), (11, .areturn, 1)]
theorem E37 : ∀ x ∈ D37, DK prog_13_method_2_code x.1 x.2.1 x.2.2 := by decide +kernel
def D38 : List (Nat × Instr × Nat) := [(0, .aload_n 0, 1), (1, .getfield 22, 3), (4, .ifCond .ne 13, 3), (7, .aload_n 0, 1), (8, .getfield 16, 3), (11, .bipush 44, 2), (13, .invokevirtual 12, 3), (16, .pop, 1), (17, .aload_n 0, 1), (18, .iconst 0, 1), (19, .putfield 22, 3), (22, .aload_n 0, 1), (23, .aload_n 1, 1), (24, .invokevirtual 30, 3), (27, .aload_n 0, 1), (28, .getfield 16, 3), (31, .bipush 58, 2), (33, .invokevirtual 12, 3), (36, .pop, 1), (37, .return_, 1)]
theorem E38 : ∀ x ∈ D38, DK prog_13_method_7_code x.1 x.2.1 x.2.2 := by decide +kernel
def D39 : List (Nat × Instr × Nat) := [(0, .aload_n 0, 1), (1, .getfield 16, 3), (4, .bipush 34, 2), (6, .invokevirtual 12, 3), (9, .pop, 1), (10, .iconst 0, 1), (11, .istore_n 2, 1), (12, .iconst 0, 1), (13, .istore_n 3, 1), (14, .iload_n 3, 1), (15, .aload_n 1, 1), (16, .invokevirtual 64, 3), (19, .if_icmp .ge 110, 3), (22, .aload_n 1, 1), (23, .iload_n 3, 1), (24, .invokevirtual 69, 3), (27, .istore 4, 2), (29, .iload 4, 2), (31, .bipush 34, 2), (33, .if_icmp .eq 17, 3), (36, .iload 4, 2), (38, .bipush 92, 2), (40, .if_icmp .eq 10, 3), (43, .iload 4, 2), (45, .bipush 32, 2), (47, .if_icmp .ge 76, 3), (50, .aload_n 0, 1), (51, .getfield 16, 3), (54, .aload_n 1, 1), (55, .iload_n 2, 1), (56, .iload_n 3, 1), (57, .invokevirtual 73, 3), (60, .pop, 1), (61, .iload_n 3, 1), (62, .iconst 1, 1), (63, .iadd, 1), (64, .istore_n 2, 1), (65, .iload 4, 2), (67, .bipush 32, 2), (69, .if_icmp .ge 39, 3), (72, .aload_n 0, 1), (73, .getfield 16, 3), (76, .ldc 76, 2), (78, .invokevirtual 58, 3), (81, .getstatic 78, 3), (84, .iload 4, 2), (86, .iconst 4, 1), (87, .ishr, 1), (88, .caload, 1), (89, .invokevirtual 12, 3), (92, .getstatic 78, 3), (95, .iload 4, 2), (97, .bipush 15, 2), (99, .iand, 1), (100, .caload, 1), (101, .invokevirtual 12, 3), (104, .pop, 1), (105, .goto 18, 3), (108, .aload_n 0, 1), (109, .getfield 16, 3), (112, .bipush 92, 2), (114, .invokevirtual 12, 3), (117, .iload 4, 2), (119, .invokevirtual 12, 3), (122, .pop, 1), (123, .iinc 3 1, 3), (126, .goto (-112), 3), (129, .aload_n 0, 1), (130, .getfield 16, 3), (133, .aload_n 1, 1), (134, .iload_n 2, 1), (135, .aload_n 1, 1), (136, .invokevirtual 64, 3), (139, .invokevirtual 73, 3), (142, .bipush 34, 2), (144, .invokevirtual 12, 3), (147, .pop, 1), (148, .return_, 1)]
theorem E39 : ∀ x ∈ D39, DK prog_13_method_8_code x.1 x.2.1 x.2.2 := by decide +kernel
def D40 : List (Nat × Instr × Nat) := [(0, .aload_n 0, 1), (1, .aload_n 1, 1), (2, .iload_n 2, 1), (3, .iload_n 3, 1), (4, .invokespecial 38, 3), (7, .pop, 1), (8, .aload_n 0, 1), (9, .areturn, 1)]
theorem E40 : ∀ x ∈ D40, DK jdk_67_method_10_code x.1 x.2.1 x.2.2 := by decide +kernel
def D41 : List (Nat × Instr × Nat) := [(0, .aload_n 1, 1), (1, .ifnonnull 6, 3), (7, .iload_n 2, 1), (8, .iload_n 3, 1), (9, .aload_n 1, 1), (10, .invokeinterface 47 1, 5), (15, .getstatic 183, 3), (18, .invokestatic 161, 3), (21, .pop, 1), (22, .iload_n 3, 1), (23, .iload_n 2, 1), (24, .isub, 1), (25, .istore 4, 2), (27, .aload_n 0, 1), (28, .aload_n 0, 1), (29, .getfield 79, 3), (32, .iload 4, 2), (34, .iadd, 1), (35, .invokevirtual 100, 3), (38, .aload_n 1, 1), (39, .instanceof 1, 3), (42, .ifCond .eq 16, 3), (45, .aload_n 0, 1), (46, .aload_n 1, 1), (47, .checkcast 1, 3), (50, .iload_n 2, 1), (51, .iload_n 3, 1), (52, .invokevirtual 232, 3), (55, .goto 10, 3), (65, .aload_n 0, 1), (66, .areturn, 1)]
theorem E41 : ∀ x ∈ D41, DK jdk_68_method_27_code x.1 x.2.1 x.2.2 := by decide +kernel
def D42 : List (Nat × Instr × Nat) := [(0, .iload_n 0, 1), (1, .ifCond .lt 13, 3), (4, .iload_n 0, 1), (5, .iload_n 1, 1), (6, .if_icmp .gt 8, 3), (9, .iload_n 1, 1), (10, .iload_n 2, 1), (11, .if_icmp .le 11, 3), (22, .iload_n 0, 1), (23, .ireturn, 1)]
theorem E42 : ∀ x ∈ D42, DK jdk_41_method_12_code x.1 x.2.1 x.2.2 := by decide +kernel
def D43 : List (Nat × Instr × Nat) := [(0, .aload_n 0, 1), (1, .invokevirtual 83, 3), (4, .ifCond .eq 141, 3), (7, .aload_n 1, 1), (8, .invokevirtual 400, 3), (11, .ifCond .eq 25, 3), (14, .aload_n 1, 1), (15, .invokevirtual 401, 3), (18, .iload_n 2, 1), (19, .aload_n 0, 1), (20, .getfield 15, 3), (23, .aload_n 0, 1), (24, .getfield 79, 3), (27, .iload_n 3, 1), (28, .iload_n 2, 1), (29, .isub, 1), (30, .invokestatic 309, 3), (33, .goto 161, 3), (36, .aload_n 0, 1), (37, .getfield 15, 3), (40, .astore 4, 2), (42, .iload_n 2, 1), (43, .istore 5, 2), (45, .aload_n 0, 1), (46, .getfield 79, 3), (49, .istore 6, 2), (51, .iload 5, 2), (53, .iload_n 3, 1), (54, .if_icmp .ge 88, 3), (57, .aload_n 1, 1), (58, .iload 5, 2), (60, .invokevirtual 404, 3), (63, .istore 7, 2), (65, .iload 7, 2), (67, .invokestatic 191, 3), (70, .ifCond .eq 17, 3), (73, .aload 4, 2), (75, .iload 6, 2), (77, .iinc 6 1, 3), (80, .iload 7, 2), (82, .i2b, 1), (83, .bastore, 1), (84, .goto 52, 3), (87, .aload_n 0, 1), (88, .iload 6, 2), (90, .putfield 79, 3), (93, .aload_n 0, 1), (94, .invokevirtual 195, 3), (97, .aload_n 1, 1), (98, .invokevirtual 401, 3), (101, .iload 5, 2), (103, .iconst 1, 1), (104, .ishl, 1), (105, .aload_n 0, 1), (106, .getfield 15, 3), (109, .iload 6, 2), (111, .iconst 1, 1), (112, .ishl, 1), (113, .iload_n 3, 1), (114, .iload 5, 2), (116, .isub, 1), (117, .iconst 1, 1), (118, .ishl, 1), (119, .invokestatic 309, 3), (122, .aload_n 0, 1), (123, .dup, 1), (124, .getfield 79, 3), (127, .iload_n 3, 1), (128, .iload 5, 2), (130, .isub, 1), (131, .iadd, 1), (132, .putfield 79, 3), (135, .return_, 1), (136, .iinc 5 1, 3), (139, .goto (-88), 3), (142, .goto 52, 3), (145, .aload_n 1, 1), (146, .invokevirtual 400, 3), (149, .ifCond .eq 20, 3), (152, .aload_n 0, 1), (153, .getfield 15, 3), (156, .aload_n 0, 1), (157, .getfield 79, 3), (160, .aload_n 1, 1), (161, .iload_n 2, 1), (162, .iload_n 3, 1), (163, .invokestatic 394, 3), (166, .goto 28, 3), (169, .aload_n 1, 1), (170, .invokevirtual 401, 3), (173, .iload_n 2, 1), (174, .iconst 1, 1), (175, .ishl, 1), (176, .aload_n 0, 1), (177, .getfield 15, 3), (180, .aload_n 0, 1), (181, .getfield 79, 3), (184, .iconst 1, 1), (185, .ishl, 1), (186, .iload_n 3, 1), (187, .iload_n 2, 1), (188, .isub, 1), (189, .iconst 1, 1), (190, .ishl, 1), (191, .invokestatic 309, 3), (194, .aload_n 0, 1), (195, .dup, 1), (196, .getfield 79, 3), (199, .iload_n 3, 1), (200, .iload_n 2, 1), (201, .isub, 1), (202, .iadd, 1), (203, .putfield 79, 3), (206, .return_, 1)]
theorem E43 : ∀ x ∈ D43, DK jdk_68_method_75_code x.1 x.2.1 x.2.2 := by decide +kernel
def D44 : List (Nat × Instr × Nat) := [(0, .aload_n 0, 1), (1, .getfield 9, 3), (4, .areturn, 1)]
theorem E44 : ∀ x ∈ D44, DK jdk_42_method_153_code x.1 x.2.1 x.2.2 := by decide +kernel
def D45 : List (Nat × Instr × Nat) := [(0, .aload_n 0, 1), (1, .aload_n 1, 1), (2, .invokespecial 29, 3), (5, .pop, 1), (6, .aload_n 0, 1), (7, .areturn, 1)]
theorem E45 : ∀ x ∈ D45, DK jdk_67_method_7_code x.1 x.2.1 x.2.2 := by decide +kernel
def D46 : List (Nat × Instr × Nat) := [(0, .aload_n 1, 1), (1, .ifnonnull 8, 3), (9, .aload_n 1, 1), (10, .invokevirtual 32, 3), (13, .istore_n 2, 1), (14, .aload_n 0, 1), (15, .aload_n 0, 1), (16, .getfield 79, 3), (19, .iload_n 2, 1), (20, .iadd, 1), (21, .invokevirtual 100, 3), (24, .aload_n 0, 1), (25, .aload_n 0, 1), (26, .getfield 79, 3), (29, .aload_n 1, 1), (30, .invokevirtual 208, 3), (33, .aload_n 0, 1), (34, .dup, 1), (35, .getfield 79, 3), (38, .iload_n 2, 1), (39, .iadd, 1), (40, .putfield 79, 3), (43, .aload_n 0, 1), (44, .areturn, 1)]
theorem E46 : ∀ x ∈ D46, DK jdk_68_method_22_code x.1 x.2.1 x.2.2 := by decide +kernel
def D47 : List (Nat × Instr × Nat) := [(0, .aload_n 0, 1), (1, .aload_n 2, 1), (2, .invokevirtual 397, 3), (5, .aload_n 2, 1), (6, .aload_n 0, 1), (7, .getfield 15, 3), (10, .iload_n 1, 1), (11, .aload_n 0, 1), (12, .getfield 22, 3), (15, .invokevirtual 399, 3), (18, .return_, 1)]
theorem E47 : ∀ x ∈ D47, DK jdk_68_method_73_code x.1 x.2.1 x.2.2 := by decide +kernel
def D48 : List (Nat × Instr × Nat) := [(0, .getstatic 18, 3), (3, .ifCond .eq 18, 3), (6, .aload_n 0, 1), (7, .getfield 22, 3), (10, .aload_n 1, 1), (11, .invokevirtual 40, 3), (14, .if_icmp .eq 7, 3), (17, .aload_n 0, 1), (18, .invokevirtual 195, 3), (21, .return_, 1)]
theorem E48 : ∀ x ∈ D48, DK jdk_68_method_71_code x.1 x.2.1 x.2.2 := by decide +kernel
def D49 : List (Nat × Instr × Nat) := [(0, .aload_n 0, 1), (1, .invokevirtual 335, 3), (4, .iload_n 3, 1), (5, .if_icmp .ne 23, 3), (8, .aload_n 0, 1), (9, .getfield 9, 3), (12, .iconst 0, 1), (13, .aload_n 1, 1), (14, .iload_n 2, 1), (15, .iload_n 3, 1), (16, .ishl, 1), (17, .aload_n 0, 1), (18, .getfield 9, 3), (21, .arraylength, 1), (22, .invokestatic 212, 3), (25, .goto 18, 3), (28, .aload_n 0, 1), (29, .getfield 9, 3), (32, .iconst 0, 1), (33, .aload_n 1, 1), (34, .iload_n 2, 1), (35, .aload_n 0, 1), (36, .getfield 9, 3), (39, .arraylength, 1), (40, .invokestatic 106, 3), (43, .return_, 1)]
theorem E49 : ∀ x ∈ D49, DK jdk_42_method_147_code x.1 x.2.1 x.2.2 := by decide +kernel
def D50 : List (Nat × Instr × Nat) := [(0, .aload_n 0, 1), (1, .aload_n 1, 1), (2, .invokevirtual 26, 3), (5, .aload_n 0, 1), (6, .getfield 16, 3), (9, .iload_n 2, 1), (10, .invokevirtual 37, 3), (13, .pop, 1), (14, .aload_n 0, 1), (15, .areturn, 1)]
theorem E50 : ∀ x ∈ D50, DK prog_13_method_4_code x.1 x.2.1 x.2.2 := by decide +kernel
def D51 : List (Nat × Instr × Nat) := [(0, .aload_n 0, 1), (1, .iload_n 1, 1), (2, .invokespecial 53, 3), (5, .pop, 1), (6, .aload_n 0, 1), (7, .areturn, 1)]
theorem E51 : ∀ x ∈ D51, DK jdk_67_method_15_code x.1 x.2.1 x.2.2 := by decide +kernel
def D52 : List (Nat × Instr × Nat) := [(0, .aload_n 0, 1), (1, .getfield 79, 3), (4, .istore_n 2, 1), (5, .iload_n 2, 1), (6, .iload_n 1, 1), (7, .invokestatic 245, 3), (10, .iadd, 1), (11, .istore_n 3, 1), (12, .aload_n 0, 1), (13, .iload_n 3, 1), (14, .invokevirtual 100, 3), (17, .aload_n 0, 1), (18, .invokevirtual 83, 3), (21, .ifCond .eq 16, 3), (24, .iload_n 1, 1), (25, .iload_n 3, 1), (26, .aload_n 0, 1), (27, .getfield 15, 3), (30, .invokestatic 248, 3), (33, .pop, 1), (34, .goto 14, 3), (37, .iload_n 1, 1), (38, .iload_n 2, 1), (39, .iload_n 3, 1), (40, .aload_n 0, 1), (41, .getfield 15, 3), (44, .invokestatic 251, 3), (47, .pop, 1), (48, .aload_n 0, 1), (49, .iload_n 3, 1), (50, .putfield 79, 3), (53, .aload_n 0, 1), (54, .areturn, 1)]
theorem E52 : ∀ x ∈ D52, DK jdk_68_method_32_code x.1 x.2.1 x.2.2 := by decide +kernel
def D53 : List (Nat × Instr × Nat) := [(0, .iconst 1, 1), (1, .istore_n 1, 1), (2, .iload_n 0, 1), (3, .ifCond .lt 8, 3), (6, .iconst 0, 1), (7, .istore_n 1, 1), (8, .iload_n 0, 1), (9, .ineg, 1), (10, .istore_n 0, 1), (11, .bipush (-10), 2), (13, .istore_n 2, 1), (14, .iconst 1, 1), (15, .istore_n 3, 1), (16, .iload_n 3, 1), (17, .bipush 10, 2), (19, .if_icmp .ge 23, 3), (22, .iload_n 0, 1), (23, .iload_n 2, 1), (24, .if_icmp .le 7, 3), (27, .iload_n 3, 1), (28, .iload_n 1, 1), (29, .iadd, 1), (30, .ireturn, 1)]
theorem E53 : ∀ x ∈ D53, DK jdk_33_method_13_code x.1 x.2.1 x.2.2 := by decide +kernel
def D54 : List (Nat × Instr × Nat) := [(0, .iload_n 1, 1), (1, .istore 5, 2), (3, .iload_n 0, 1), (4, .ifCond .ge 7, 3), (7, .iconst 1, 1), (8, .goto 4, 3), (11, .iconst 0, 1), (12, .istore 6, 2), (14, .iload 6, 2), (16, .ifCond .ne 6, 3), (19, .iload_n 0, 1), (20, .ineg, 1), (21, .istore_n 0, 1), (22, .iload_n 0, 1), (23, .bipush (-100), 2), (25, .if_icmp .gt 47, 3), (72, .aload_n 2, 1), (73, .iinc 5 (-1), 3), (76, .iload 5, 2), (78, .getstatic 83, 3), (81, .iload_n 0, 1), (82, .ineg, 1), (83, .baload, 1), (84, .bastore, 1), (85, .iload_n 0, 1), (86, .bipush (-9), 2), (88, .if_icmp .ge 16, 3), (104, .iload 6, 2), (106, .ifCond .eq 12, 3), (109, .aload_n 2, 1), (110, .iinc 5 (-1), 3), (113, .iload 5, 2), (115, .bipush 45, 2), (117, .bastore, 1), (118, .iload 5, 2), (120, .ireturn, 1)]
theorem E54 : ∀ x ∈ D54, DK jdk_33_method_12_code x.1 x.2.1 x.2.2 := by decide +kernel
def D55 : List (Nat × Instr × Nat) := [(0, .aload_n 0, 1), (1, .iload_n 1, 1), (2, .bipush 34, 2), (4, .castore, 1), (5, .aload_n 0, 1), (6, .iload_n 1, 1), (7, .iconst 1, 1), (8, .iadd, 1), (9, .iload_n 2, 1), (10, .invokestatic 13, 3), (13, .istore_n 3, 1), (14, .aload_n 0, 1), (15, .iload_n 3, 1), (16, .bipush 34, 2), (18, .castore, 1), (19, .iload_n 3, 1), (20, .iconst 1, 1), (21, .iadd, 1), (22, .ireturn, 1)]
theorem E55 : ∀ x ∈ D55, DK method_4_code x.1 x.2.1 x.2.2 := by decide +kernel
def D56 : List (Nat × Instr × Nat) := [(0, .iload_n 2, 1), (1, .bipush 32, 2), (3, .if_icmp .ge 57, 3), (6, .aload_n 0, 1), (7, .iload_n 1, 1), (8, .bipush 92, 2), (10, .castore, 1), (11, .aload_n 0, 1), (12, .iload_n 1, 1), (13, .iconst 1, 1), (14, .iadd, 1), (15, .bipush 117, 2), (17, .castore, 1), (18, .aload_n 0, 1), (19, .iload_n 1, 1), (20, .iconst 2, 1), (21, .iadd, 1), (22, .bipush 48, 2), (24, .castore, 1), (25, .aload_n 0, 1), (26, .iload_n 1, 1), (27, .iconst 3, 1), (28, .iadd, 1), (29, .bipush 48, 2), (31, .castore, 1), (32, .aload_n 0, 1), (33, .iload_n 1, 1), (34, .iconst 4, 1), (35, .iadd, 1), (36, .iload_n 2, 1), (37, .iconst 4, 1), (38, .ishr, 1), (39, .invokestatic 7, 3), (42, .castore, 1), (43, .aload_n 0, 1), (44, .iload_n 1, 1), (45, .iconst 5, 1), (46, .iadd, 1), (47, .iload_n 2, 1), (48, .bipush 15, 2), (50, .iand, 1), (51, .invokestatic 7, 3), (54, .castore, 1), (55, .iload_n 1, 1), (56, .bipush 6, 2), (58, .iadd, 1), (59, .ireturn, 1), (60, .iload_n 2, 1), (61, .bipush 34, 2), (63, .if_icmp .eq 9, 3), (66, .iload_n 2, 1), (67, .bipush 92, 2), (69, .if_icmp .ne 18, 3), (72, .aload_n 0, 1), (73, .iload_n 1, 1), (74, .bipush 92, 2), (76, .castore, 1), (77, .aload_n 0, 1), (78, .iload_n 1, 1), (79, .iconst 1, 1), (80, .iadd, 1), (81, .iload_n 2, 1), (82, .castore, 1), (83, .iload_n 1, 1), (84, .iconst 2, 1), (85, .iadd, 1), (86, .ireturn, 1), (87, .aload_n 0, 1), (88, .iload_n 1, 1), (89, .iload_n 2, 1), (90, .castore, 1), (91, .iload_n 1, 1), (92, .iconst 1, 1), (93, .iadd, 1), (94, .ireturn, 1)]
theorem E56 : ∀ x ∈ D56, DK method_3_code x.1 x.2.1 x.2.2 := by decide +kernel
def D57 : List (Nat × Instr × Nat) := [(0, .iload_n 0, 1), (1, .bipush 10, 2), (3, .if_icmp .ge 9, 3), (6, .bipush 48, 2), (8, .iload_n 0, 1), (9, .iadd, 1), (10, .i2c, 1), (11, .ireturn, 1), (12, .bipush 97, 2), (14, .iload_n 0, 1), (15, .bipush 10, 2), (17, .isub, 1), (18, .iadd, 1), (19, .i2c, 1), (20, .ireturn, 1)]
theorem E57 : ∀ x ∈ D57, DK method_2_code x.1 x.2.1 x.2.2 := by decide +kernel
def D58 : List (Nat × Instr × Nat) := [(0, .iconst 2, 1), (1, .newarray .byte, 2), (3, .astore_n 1, 1), (4, .aload_n 1, 1), (5, .iconst 0, 1), (6, .iload_n 0, 1), (7, .invokestatic 111, 3), (10, .aload_n 1, 1), (11, .areturn, 1)]
theorem E58 : ∀ x ∈ D58, DK jdk_52_method_24_code x.1 x.2.1 x.2.2 := by decide +kernel
def D59 : List (Nat × Instr × Nat) := [(0, .getstatic 44, 3), (3, .ifCond .ne 25, 3), (28, .iload_n 1, 1), (29, .iconst 1, 1), (30, .ishl, 1), (31, .istore_n 1, 1), (32, .aload_n 0, 1), (33, .iload_n 1, 1), (34, .iinc 1 1, 3), (37, .iload_n 2, 1), (38, .getstatic 59, 3), (41, .ishr, 1), (42, .i2b, 1), (43, .bastore, 1), (44, .aload_n 0, 1), (45, .iload_n 1, 1), (46, .iload_n 2, 1), (47, .getstatic 63, 3), (50, .ishr, 1), (51, .i2b, 1), (52, .bastore, 1), (53, .return_, 1)]
theorem E59 : ∀ x ∈ D59, DK jdk_52_method_4_code x.1 x.2.1 x.2.2 := by decide +kernel
def D60 : List (Nat × Instr × Nat) := [(0, .iload_n 2, 1), (1, .invokestatic 107, 3), (4, .astore_n 3, 1), (5, .iconst 0, 1), (6, .istore 4, 2), (8, .iload 4, 2), (10, .iload_n 2, 1), (11, .if_icmp .ge 21, 3), (14, .aload_n 3, 1), (15, .iload 4, 2), (17, .aload_n 0, 1), (18, .iload_n 1, 1), (19, .caload, 1), (20, .invokestatic 111, 3), (23, .iinc 1 1, 3), (26, .iinc 4 1, 3), (29, .goto (-21), 3), (32, .aload_n 3, 1), (33, .areturn, 1)]
theorem E60 : ∀ x ∈ D60, DK jdk_52_method_14_code x.1 x.2.1 x.2.2 := by decide +kernel
def D61 : List (Nat × Instr × Nat) := [(0, .iload_n 0, 1), (1, .invokestatic 11, 3), (4, .newarray .byte, 2), (6, .areturn, 1)]
theorem E61 : ∀ x ∈ D61, DK jdk_52_method_2_code x.1 x.2.1 x.2.2 := by decide +kernel
def D62 : List (Nat × Instr × Nat) := [(0, .iload_n 0, 1), (1, .ifCond .ge 11, 3), (12, .iload_n 0, 1), (13, .ldc 20, 2), (15, .if_icmp .lt 40, 3), (55, .iload_n 0, 1), (56, .iconst 1, 1), (57, .ishl, 1), (58, .ireturn, 1)]
theorem E62 : ∀ x ∈ D62, DK jdk_52_method_3_code x.1 x.2.1 x.2.2 := by decide +kernel
def D63 : List (Nat × Instr × Nat) := [(0, .getstatic 44, 3), (3, .ifCond .ne 25, 3), (28, .iload_n 1, 1), (29, .iconst 1, 1), (30, .ishl, 1), (31, .istore_n 1, 1), (32, .aload_n 0, 1), (33, .iload_n 1, 1), (34, .iinc 1 1, 3), (37, .baload, 1), (38, .sipush 255, 3), (41, .iand, 1), (42, .getstatic 59, 3), (45, .ishl, 1), (46, .aload_n 0, 1), (47, .iload_n 1, 1), (48, .baload, 1), (49, .sipush 255, 3), (52, .iand, 1), (53, .getstatic 63, 3), (56, .ishl, 1), (57, .ior, 1), (58, .i2c, 1), (59, .ireturn, 1)]
theorem E63 : ∀ x ∈ D63, DK jdk_52_method_5_code x.1 x.2.1 x.2.2 := by decide +kernel
def D64 : List (Nat × Instr × Nat) := [(0, .iload_n 1, 1), (1, .aload_n 0, 1), (2, .invokestatic 67, 3), (5, .aload_n 0, 1), (6, .iload_n 1, 1), (7, .invokestatic 71, 3), (10, .ireturn, 1)]
theorem E64 : ∀ x ∈ D64, DK jdk_52_method_83_code x.1 x.2.1 x.2.2 := by decide +kernel
def D65 : List (Nat × Instr × Nat) := [(0, .iload_n 0, 1), (1, .aload_n 1, 1), (2, .invokestatic 48, 3), (5, .invokestatic 414, 3), (8, .return_, 1)]
theorem E65 : ∀ x ∈ D65, DK jdk_52_method_91_code x.1 x.2.1 x.2.2 := by decide +kernel
def D66 : List (Nat × Instr × Nat) := [(0, .aload_n 0, 1), (1, .arraylength, 1), (2, .iconst 1, 1), (3, .ishr, 1), (4, .ireturn, 1)]
theorem E66 : ∀ x ∈ D66, DK jdk_52_method_6_code x.1 x.2.1 x.2.2 := by decide +kernel
def D67 : List (Nat × Instr × Nat) := [(0, .aload_n 0, 1), (1, .invokevirtual 83, 3), (4, .ifCond .ne 4, 3), (7, .return_, 1), (8, .aload_n 0, 1), (9, .getfield 15, 3), (12, .arraylength, 1), (13, .invokestatic 26, 3), (16, .astore_n 1, 1), (17, .aload_n 0, 1), (18, .getfield 15, 3), (21, .iconst 0, 1), (22, .aload_n 1, 1), (23, .iconst 0, 1), (24, .aload_n 0, 1), (25, .getfield 79, 3), (28, .invokestatic 125, 3), (31, .aload_n 0, 1), (32, .aload_n 1, 1), (33, .putfield 15, 3), (36, .aload_n 0, 1), (37, .iconst 1, 1), (38, .putfield 22, 3), (41, .return_, 1)]
theorem E67 : ∀ x ∈ D67, DK jdk_68_method_11_code x.1 x.2.1 x.2.2 := by decide +kernel
def D68 : List (Nat × Instr × Nat) := [(0, .aload_n 0, 1), (1, .iload_n 1, 1), (2, .aload_n 2, 1), (3, .iload_n 3, 1), (4, .iload 4, 2), (6, .invokestatic 240, 3), (9, .return_, 1)]
theorem E68 : ∀ x ∈ D68, DK jdk_43_method_50_code x.1 x.2.1 x.2.2 := by decide +kernel
def D69 : List (Nat × Instr × Nat) := [(0, .iload_n 3, 1), (1, .iload 4, 2), (3, .aload_n 2, 1), (4, .invokestatic 173, 3), (7, .iconst 0, 1), (8, .istore 5, 2), (10, .iload 5, 2), (12, .iload 4, 2), (14, .if_icmp .ge 27, 3), (17, .aload_n 2, 1), (18, .iload_n 3, 1), (19, .iinc 3 1, 3), (22, .aload_n 0, 1), (23, .iload_n 1, 1), (24, .iinc 1 1, 3), (27, .baload, 1), (28, .sipush 255, 3), (31, .iand, 1), (32, .invokestatic 111, 3), (35, .iinc 5 1, 3), (38, .goto (-28), 3), (41, .return_, 1)]
theorem E69 : ∀ x ∈ D69, DK jdk_52_method_86_code x.1 x.2.1 x.2.2 := by decide +kernel
def D70 : List (Nat × Instr × Nat) := [(0, .iload_n 0, 1), (1, .iload_n 1, 1), (2, .aload_n 2, 1), (3, .invokestatic 48, 3), (6, .invokestatic 419, 3), (9, .pop, 1), (10, .return_, 1)]
theorem E70 : ∀ x ∈ D70, DK jdk_52_method_94_code x.1 x.2.1 x.2.2 := by decide +kernel
def D71 : List (Nat × Instr × Nat) := [(0, .iload_n 0, 1), (1, .iload_n 1, 1), (2, .iload_n 2, 1), (3, .getstatic 1053, 3), (6, .invokestatic 1065, 3), (9, .ireturn, 1)]
theorem E71 : ∀ x ∈ D71, DK jdk_42_method_157_code x.1 x.2.1 x.2.2 := by decide +kernel
def D72 : List (Nat × Instr × Nat) := [(0, .iload_n 2, 1), (1, .iload_n 0, 1), (2, .ior, 1), (3, .iload_n 1, 1), (4, .ior, 1), (5, .ifCond .lt 10, 3), (8, .iload_n 1, 1), (9, .iload_n 2, 1), (10, .iload_n 0, 1), (11, .isub, 1), (12, .if_icmp .le 11, 3), (23, .iload_n 0, 1), (24, .ireturn, 1)]
theorem E72 : ∀ x ∈ D72, DK jdk_41_method_13_code x.1 x.2.1 x.2.2 := by decide +kernel
def D73 : List (Nat × Instr × Nat) := [(0, .iload_n 1, 1), (1, .aload_n 0, 1), (2, .invokestatic 67, 3), (5, .aload_n 0, 1), (6, .iload_n 1, 1), (7, .iload_n 2, 1), (8, .invokestatic 111, 3), (11, .return_, 1)]
theorem E73 : ∀ x ∈ D73, DK jdk_52_method_71_code x.1 x.2.1 x.2.2 := by decide +kernel
def D74 : List (Nat × Instr × Nat) := [(0, .iload_n 1, 1), (1, .iload_n 2, 1), (2, .aload_n 3, 1), (3, .invokestatic 96, 3), (6, .iload_n 0, 1), (7, .iload_n 2, 1), (8, .aload_n 3, 1), (9, .invokestatic 393, 3), (12, .istore 4, 2), (14, .getstatic 44, 3), (17, .ifCond .ne 17, 3), (34, .iload 4, 2), (36, .ireturn, 1)]
theorem E74 : ∀ x ∈ D74, DK jdk_52_method_77_code x.1 x.2.1 x.2.2 := by decide +kernel
def D75 : List (Nat × Instr × Nat) := [(0, .iload_n 0, 1), (1, .iload_n 1, 1), (2, .aload_n 2, 1), (3, .invokestatic 48, 3), (6, .invokestatic 241, 3), (9, .return_, 1)]
theorem E75 : ∀ x ∈ D75, DK jdk_52_method_93_code x.1 x.2.1 x.2.2 := by decide +kernel
def D76 : List (Nat × Instr × Nat) := [(0, .iload_n 0, 1), (1, .iload_n 1, 1), (2, .iload_n 2, 1), (3, .getstatic 1053, 3), (6, .invokestatic 1062, 3), (9, .pop, 1), (10, .return_, 1)]
theorem E76 : ∀ x ∈ D76, DK jdk_42_method_158_code x.1 x.2.1 x.2.2 := by decide +kernel
def D77 : List (Nat × Instr × Nat) := [(0, .iload_n 1, 1), (1, .istore 5, 2), (3, .iload_n 0, 1), (4, .ifCond .ge 7, 3), (7, .iconst 1, 1), (8, .goto 4, 3), (11, .iconst 0, 1), (12, .istore 6, 2), (14, .iload 6, 2), (16, .ifCond .ne 6, 3), (19, .iload_n 0, 1), (20, .ineg, 1), (21, .istore_n 0, 1), (22, .iload_n 0, 1), (23, .bipush (-100), 2), (25, .if_icmp .gt 51, 3), (76, .aload_n 2, 1), (77, .iinc 5 (-1), 3), (80, .iload 5, 2), (82, .getstatic 403, 3), (85, .iload_n 0, 1), (86, .ineg, 1), (87, .baload, 1), (88, .invokestatic 111, 3), (91, .iload_n 0, 1), (92, .bipush (-9), 2), (94, .if_icmp .ge 18, 3), (112, .iload 6, 2), (114, .ifCond .eq 14, 3), (117, .aload_n 2, 1), (118, .iinc 5 (-1), 3), (121, .iload 5, 2), (123, .bipush 45, 2), (125, .invokestatic 111, 3), (128, .iload 5, 2), (130, .ireturn, 1)]
theorem E77 : ∀ x ∈ D77, DK jdk_52_method_89_code x.1 x.2.1 x.2.2 := by decide +kernel
def D78 : List (Nat × Instr × Nat) := [(0, .iload_n 1, 1), (1, .iload_n 1, 1), (2, .iload 4, 2), (4, .iadd, 1), (5, .iload_n 3, 1), (6, .isub, 1), (7, .aload_n 0, 1), (8, .invokestatic 96, 3), (11, .iload_n 3, 1), (12, .istore 5, 2), (14, .iload 5, 2), (16, .iload 4, 2), (18, .if_icmp .ge 25, 3), (21, .aload_n 0, 1), (22, .iload_n 1, 1), (23, .iinc 1 1, 3), (26, .aload_n 2, 1), (27, .iload 5, 2), (29, .invokeinterface 388 2, 5), (34, .invokestatic 111, 3), (37, .iinc 5 1, 3), (40, .goto (-26), 3), (43, .return_, 1)]
theorem E78 : ∀ x ∈ D78, DK jdk_52_method_73_code x.1 x.2.1 x.2.2 := by decide +kernel
abbrev HW (a0 : Array Value) (Z : State) : Prop := ∀ d ∈ tables_1, d.before a0 Z = true
variable {l : Launch} {Z : State} {a0 : Array Value}
set_option maxRecDepth 65536
set_option maxHeartbeats 40000000
theorem own_EW {Z : State} {a0 : Array Value} (hw : ∀ d ∈ tables_1, d.before a0 Z = true) : EW Z a0 consts_1 := (EW.cons (hw _ (mi 230 rfl)) (by decide) EW.nil)
theorem own_wS {Z : State} {a0 : Array Value} (hw : ∀ d ∈ tables_1, d.before a0 Z = true) : ∀ a ∈ Bundle.stringAtoms, a.before a0 Z = true := by
  intro a ha
  simp only [Bundle.stringAtoms, Bundle.sN, List.mem_cons, List.not_mem_nil, or_false] at ha
  rcases ha with rfl | rfl | rfl | rfl | rfl | rfl | rfl
  · exact (hw _ (mi 3 rfl))
  · exact (hw _ (mi 11 rfl))
  · exact (hw _ (mi 15 rfl))
  · exact (hw _ (mi 24 rfl))
  · exact (hw _ (mi 26 rfl))
  · exact (hw _ (mi 231 rfl))
  · exact (hw _ (mi 232 rfl))
theorem own_compact {Z : State} {a0 : Array Value} (hsets : ∀ d ∈ jdkStatics_1, d.before a0 Z = true) : Jvm.Lit.compactW.before a0 Z = true := hsets _ (mi 2 rfl)
theorem pn_0 : plainName "java/lang/StringLatin1" = true := by first | (simp [plainName, overriddenIn]; done) | decide +kernel
theorem ef_I1 (m : MethodId) (x0 : Int32)  : entryFrame m #[(.int x0)] 1 = mkF m 0 #[.val (.int x0)] [] := by first | (simp [entryFrame, mkF, argsToLocals, Value.category]; done) | rfl
theorem rm_canE (hw : HW a0 Z) (ch : Int32) (h0 : Heap) (n0 : Nat) (O0 : Old Z n0 h0) (h1 : ¬ ((255 : Int32) < ch)) :
    own_M l mN0 (Jvm.Cond.code mN0 jdk_43_method_3_code 1 (some .boolean)) [] (⟨0, 0, 0, 0⟩ : Room) #[(.int ch)] Z h0 (fun v h L => v = some (.int 1) ∧ Fr n0 L ∧ h = h0) := by
  refine own_open n0 (plainFor_of_name pn_0) (fun m => ef_I1 m ch ) ?_
  intro p e s m below meth c s₁ A0 Bd hx hby hml hown hnm hZ hh X0 e0 N0 g0
  have hE := own_hd hby E2
  have g101 := jg X0 hx (jc X0 hx (jn X0 hx (jp X0 hx (jI X0 hx g0 (hE 0 rfl) rfl) (hE 1 rfl) 255 rfl) (hE 2 rfl) rfl (flt h1).2.2.1) (hE 3 rfl) 1 rfl) (hE 4 rfl) (pc' := 12) (by decide)
  refine own_leave X0 Bd (some (.int 1)) nofun g101 (fun fs hr => retN X0 hx (t := .boolean) Bd.returns (by simp) (hE 6 rfl) hr) (by decide) (by decide) ?_
  rw [e0]
  exact ⟨rfl, N0, rfl⟩
theorem rm_toB (hw : HW a0 Z) (ch : Int32) (h0 : Heap) (n0 : Nat) (O0 : Old Z n0 h0)  :
    own_M l mN1 (Jvm.Cond.code mN1 jdk_43_method_46_code 1 (some (.array .byte))) [] (⟨0, 1, 1, 0⟩ : Room) #[(.int ch)] Z h0 (fun v h L => ∃ (r : Addr), ∃ (kid : ClassId), v = some (.ref r) ∧ Fr n0 L ∧ Keep h0 h [] ∧ h0.size ≤ r ∧ (Exa Z h r "[B") ∧ (Arv Z h r kid .byte (1 : Int32) [(.int (ch.toInt8.toInt32))] (.int 0))) := by
  refine own_open n0 (plainFor_of_name pn_0) (fun m => ef_I1 m ch ) ?_
  intro p e s m below meth c s₁ A0 Bd hx hby hml hown hnm hZ hh X0 e0 N0 g0
  have hE := own_hd hby E3
  have g101 := jc X0 hx g0 (hE 0 rfl) 1 rfl
  obtain ⟨T102, h102, k102, X102, e102, E102, A102, F102, st102⟩ := newPE X0 hx hZ (hw _ (mi 15 rfl)) e0 (g := (mkF m 1 #[iv ch] [(.int 1)])) rfl (hE 1 rfl) rfl (by decide) (cap := 1) (by decide) (by decide) (by decide) (by decide) (ad := "[B") (by decide)
  obtain ⟨b102, gb102⟩ : ∃ z, z = h0.size := ⟨_, rfl⟩
  rw [← gb102] at A102 F102 st102
  have O103 := O0.ext E102
  have y104 : Arv Z h102 b102 k102 .byte (1 : Int32) [(.int 0)] (.int 0) := (Arv.new A102 (by decide)).pad (pad_rep [] (.int 0) 1)
  have g105 : Go p e below T102 (mkF m 3 #[iv ch] [(.ref b102)]) A0 := fun t kont => g101 t (st102 t kont)
  have g106 := jx X102 hx (jI X102 hx (jc X102 hx (jd X102 hx g105 (hE 2 rfl) rfl rfl) (hE 3 rfl) 0 rfl) (hE 4 rfl) rfl) (hE 5 rfl) rfl
  have ge108 : n0 ≤ b102 := Nat.le_trans (own_old_le O0) (Nat.le_of_eq gb102.symm)
  have zz107 := y104
  obtain ⟨cl107, Ar107, q107, S107, M107, H107, G107⟩ := zz107
  have in107 : ¬ ((0 : Int32) < 0 ∨ cl107.slots.size ≤ ((0 : Int32)).toNatClampNeg) := inb_of S107 ⟨by decide, by decide⟩
  obtain ⟨T107, h107, X107, e107, W107, st107⟩ := stB X102 hx hZ e102 Ar107 (j := (0 : Int32)) in107 (g := (mkF m 7 #[iv ch] [(.int (ch.toInt8.toInt32)), (.int 0), (.ref b102), (.ref b102)])) rfl rfl (hE 6 rfl)
  rw [show nar .byte (ch.toInt8.toInt32) = (ch.toInt8.toInt32) from (own_narb _)] at W107
  have O109 := O103.wr W107 ge108
  have y110 : Arv Z h107 b102 k102 .byte (1 : Int32) [(.int (ch.toInt8.toInt32))] (.int 0) := Arv.set Ar107 q107 S107 M107 H107 G107 (own_ft_byte (z := (ch.toInt8.toInt32)) (own_narb _)) W107 0 rfl (Nat.le_of_ble_eq_true rfl)
  have N107 := Fr.snoc X107 N0 ge108
  have g111 : Go p e below T107 (mkF m 8 #[iv ch] [(.ref b102)]) A0 := fun t kont => g106 t (st107 t kont)
  have K112 : Keep h0 h107 [] := (((Keep.refl h0 []).ext E102).wr W107 (Or.inr (Nat.le_of_eq gb102.symm)))
  have y113 := (F102.wr W107)
  refine own_leave X107 Bd (some (.ref b102)) nofun g111 (fun fs hr => retOut X107 hx Bd.returns rfl (Or.inr (Or.inr (Or.inr (Or.inr ⟨rfl, rfl, rfl⟩)))) (hE 7 rfl) hr) (by decide) (by decide) ?_
  rw [e107]
  exact ⟨b102, k102, rfl, N107, K112, (Nat.le_of_eq gb102.symm), y113, y110⟩
theorem pn_1 : plainName "java/lang/String" = true := by first | (simp [plainName, overriddenIn]; done) | decide +kernel
theorem ef_RRI3 (m : MethodId) (x0 : Addr) (x1 : Addr) (x2 : Int32)  : entryFrame m #[(.ref x0), (.ref x1), (.int x2)] 3 = mkF m 0 #[.val (.ref x0), .val (.ref x1), .val (.int x2)] [] := by first | (simp [entryFrame, mkF, argsToLocals, Value.category]; done) | rfl
theorem rm_strI (hw : HW a0 Z) (a1 b1 : Addr) (h0 : Heap) (n0 : Nat) (O0 : Old Z n0 h0) (F0_ : Fld Z h0 a1 "java/lang/String" "value" "[B" .null) (F1_ : Fld Z h0 a1 "java/lang/String" "coder" "B" (.int 0)) (E2_ : Exa Z h0 a1 "java/lang/String") (G3_ : n0 ≤ a1) :
    own_M l mN2 (Jvm.Cond.code mN2 jdk_42_method_151_code 3 none) [] (⟨1, 0, 0, 12⟩ : Room) #[(.ref a1), (.ref b1), (.int 0)] Z h0 (fun v h L => v = none ∧ Fr n0 L ∧ Keep h0 h [a1] ∧ (Exa Z h a1 "java/lang/String") ∧ (Fld Z h a1 "java/lang/String" "value" "[B" (.ref b1)) ∧ (Fld Z h a1 "java/lang/String" "coder" "B" (.int 0))) := by
  refine own_open n0 (plainFor_of_name pn_1) (fun m => ef_RRI3 m a1 b1 (0 : Int32) ) ?_
  intro p e s m below meth c s₁ A0 Bd hx hby hml hown hnm hZ hh X0 e0 N0 g0
  have hE := own_hd hby E4
  have g101 := jA X0 hx g0 (hE 0 rfl) rfl rfl
  obtain ⟨T102, X102, e102, st102⟩ := initO X0 hx hZ hown (hw _ (mi 20 rfl)) (hw _ (mi 21 rfl)) (hw _ (mi 22 rfl)) e0 (g := (mkF m 1 #[rv a1, rv b1, iv 0] [(.ref a1)])) rfl (by rw [hml]; rfl) rfl (hE 1 rfl) (by decide) (W := 0) (by show 2 * 0 + _ ≤ _; exact Nat.le_of_eq rfl) (by decide)
  have g103 : Go p e below T102 (mkF m 4 #[rv a1, rv b1, iv 0] []) A0 := fun t kont => g101 t (st102 t kont)
  have g104 := jA X102 hx (jA X102 hx g103 (hE 2 rfl) rfl rfl) (hE 3 rfl) rfl rfl
  obtain ⟨T105, h105, X105, e105, W105, st105⟩ := putF X102 hx hZ hown (host := "") (Or.inl (hw _ (mi 23 rfl))) Via.refl e102 F0_ E2_ (Or.inr ⟨(hw _ (mi 24 rfl)), rfl, hnm⟩) (hw _ (mi 11 rfl)) (ty := (.array .byte)) (by decide) rfl rfl (g := (mkF m 6 #[rv a1, rv b1, iv 0] [(.ref b1), (.ref a1)])) rfl rfl (hE 4 rfl)
  have O106 := O0.wr W105 G3_
  have y107 : Fld Z h105 a1 "java/lang/String" "value" "[B" (.ref b1) := F0_.same W105
  have N105 := Fr.snoc X105 N0 G3_
  have g108 : Go p e below T105 (mkF m 9 #[rv a1, rv b1, iv 0] []) A0 := fun t kont => g104 t (st105 t kont)
  have g109 := jI X105 hx (jA X105 hx g108 (hE 5 rfl) rfl rfl) (hE 6 rfl) rfl
  have y110 := (E2_.wr W105)
  have y111 := (F1_.other W105 (Or.inr (slot_ne (Or.inr (hw _ (mi 26 rfl))) (Or.inr (hw _ (mi 24 rfl))) (by decide) (t := .byte) (t' := (.array .byte)) (by decide) (by decide))))
  obtain ⟨T112, h112, X112, e112, W112, st112⟩ := putFN X105 hx hZ hown (hw _ (mi 25 rfl)) Via.refl e105 y111 y110 (Or.inr ⟨(hw _ (mi 26 rfl)), rfl, hnm⟩) (hw _ (mi 11 rfl)) (ty := .byte) (v := (.int 0)) (v' := (.int 0)) (by decide) (own_nw_byte (by decide : nar .byte (0 : Int32) = (0 : Int32))) (own_ft_byte (by decide : nar .byte (0 : Int32) = (0 : Int32))) (g := (mkF m 11 #[rv a1, rv b1, iv 0] [(.int 0), (.ref a1)])) rfl rfl (hE 7 rfl)
  have O113 := O106.wr W112 G3_
  have y114 : Fld Z h112 a1 "java/lang/String" "coder" "B" (.int 0) := y111.same W112
  have N112 := Fr.snoc X112 N105 G3_
  have g115 : Go p e below T112 (mkF m 14 #[rv a1, rv b1, iv 0] []) A0 := fun t kont => g109 t (st112 t kont)
  have K116 : Keep h0 h112 [a1] := (((Keep.refl h0 [a1]).wr W105 (Or.inl (mi 0 rfl))).wr W112 (Or.inl (mi 0 rfl)))
  have y117 := (y110.wr W112)
  have y118 := (y107.other W112 (Or.inr (slot_ne (Or.inr (hw _ (mi 24 rfl))) (Or.inr (hw _ (mi 26 rfl))) (by decide) (t := (.array .byte)) (t' := .byte) (by decide) (by decide))))
  refine own_leave X112 Bd (none) (fun _ => rfl) g115 (fun fs hr => X112.returnOut hx Bd.returns (hE 8 rfl) hr) (by decide) (by decide) ?_
  rw [e112]
  exact ⟨rfl, N112, K116, y117, y118, y114⟩
theorem pn_2 : plainName "java/lang/StringUTF16" = true := by first | (simp [plainName, overriddenIn]; done) | decide +kernel
theorem ef_RIRII7 (m : MethodId) (x0 : Addr) (x1 : Int32) (x2 : Addr) (x3 : Int32) (x4 : Int32)  : entryFrame m #[(.ref x0), (.int x1), (.ref x2), (.int x3), (.int x4)] 7 = mkF m 0 #[.val (.ref x0), .val (.int x1), .val (.ref x2), .val (.int x3), .val (.int x4), .unset, .unset] [] := by first | (simp [entryFrame, mkF, argsToLocals, Value.category]; done) | rfl
theorem rm_cmpG (hw : HW a0 Z) (s1 d1 : Addr) (ks kd : ClassId) (ls : List Int32) (rn : Nat) (h0 : Heap) (n0 : Nat) (O0 : Old Z n0 h0) (A0_ : Arv Z h0 s1 ks .char (Int32.ofNat ls.length) (ls.map Value.int) (.int 0)) (A1_ : Arv Z h0 d1 kd .byte (Int32.ofNat ls.length) (List.replicate ls.length (.int 0)) (.int 0)) (G2_ : n0 ≤ d1) (NE3_ : ¬ (s1 = d1)) (hB : ls.length ≤ 2) (hr : rn ≤ ls.length) (hl : ∀ i, i < rn → ¬ ((255 : Int32) < ls.getD i 0)) (hwd : rn < ls.length → (255 : Int32) < ls.getD rn 0) :
    own_M l mN3 (Jvm.Cond.code mN3 jdk_52_method_21_code 7 (some .int)) [] (⟨0, 0, 0, 0⟩ : Room) #[(.ref s1), (.int 0), (.ref d1), (.int 0), (.int (Int32.ofNat ls.length))] Z h0 (fun v h L => v = some (.int (Int32.ofNat rn)) ∧ Fr n0 L ∧ Keep h0 h [d1] ∧ (Arv Z h d1 kd .byte (Int32.ofNat ls.length) (own_F ls rn) (.int 0))) := by
  refine own_open n0 (plainFor_of_name pn_2) (fun m => ef_RIRII7 m s1 (0 : Int32) d1 (0 : Int32) (Int32.ofNat ls.length) ) ?_
  intro p e s m below meth c s₁ A0 Bd hx hby hml hown hnm hZ hh X0 e0 N0 g0
  have hE := own_hd hby E9
  have g101 := js X0 hx (jc X0 hx g0 (hE 0 rfl) 0 rfl) (hE 1 rfl) rfl (l' := #[rv s1, iv 0, rv d1, iv 0, iv (Int32.ofNat ls.length), iv 0, .unset]) rfl
  have loop102 : ∀ k : Nat, k ≤ rn → ∃ (T102 : State) (lc102 : List Loc) (h102 : Heap) (sl6 : Slot), Stand p l e (⟨0, 0, 0, 0⟩ : Room) s m #[(.ref s1), (.int 0), (.ref d1), (.int 0), (.int (Int32.ofNat ls.length))] below meth c T102 lc102 0 0 ∧ T102.heap = h102 ∧ Keep h0 h102 [d1] ∧ Fr n0 lc102 ∧ One sl6 ∧ (Arv Z h102 d1 kd .byte (Int32.ofNat ls.length) (own_F ls k) (.int 0)) ∧ Go p e below T102 (mkF m 3 #[rv s1, iv (Int32.ofNat k), rv d1, iv (Int32.ofNat k), iv (Int32.ofNat ls.length), iv (Int32.ofNat k), sl6] []) A0 := by
    intro k
    induction k with
    | zero =>
      intro _
      exact ⟨_, _, _, .unset, X0, e0, (Keep.refl _ _), N0, One.u, (by rw [own_F0]; exact A1_), g101⟩
    | succ k ih =>
      intro hk_k
      obtain ⟨T103, lc103, h103, sl6, X103, e103, K103, N103, One_sl6, y104, g103⟩ := ih (Nat.le_of_succ_le hk_k)
      have O105 := O0.keep K103 (allS G2_ all0)
      have g106 := jI X103 hx (jA X103 hx (jn X103 hx (ji X103 hx (ji X103 hx g103 (hE 2 rfl) rfl) (hE 3 rfl) rfl) (hE 4 rfl) rfl (tlt (own_lt (by omega) (by omega) : (Int32.ofNat k) < (Int32.ofNat ls.length))).2.1) (hE 5 rfl) rfl rfl) (hE 6 rfl) rfl
      have y107 := (A0_.keep K103 (ninS NE3_ nin0))
      have zz108 := y107
      obtain ⟨cl108, Ar108, q108, S108, M108, H108, G108⟩ := zz108
      have in108 : ¬ ((Int32.ofNat k) < 0 ∨ cl108.slots.size ≤ ((Int32.ofNat k)).toNatClampNeg) := inb_of S108 ⟨own_nonneg (by omega), own_lt (by omega) (by omega)⟩
      have at108 : cl108.slots[((Int32.ofNat k)).toNatClampNeg]? = some (.int (ls.getD k 0)) := Has.at H108 in108 (by rw [own_clamp (by omega)]; exact own_getc ls k)
      let lo109 : Array Slot := #[rv s1, iv (Int32.ofNat k), rv d1, iv (Int32.ofNat k), iv (Int32.ofNat ls.length), iv (Int32.ofNat k), sl6]
      have g110 : Go p e below T103 (mkF m 13 lo109 [(.int (ls.getD k 0))]) A0 := fun t kont => g106 t (X103.caload hx (j := (Int32.ofNat k)) (v := (.int (ls.getD k 0))) (by rw [e103]; exact Ar108.1) (State.isArrayOf_alike hZ.alike Ar108.2.1) Ar108.2.2 in108 at108 (g := (mkF m 12 lo109 [(.int (Int32.ofNat k)), (.ref s1)])) rfl rfl (hE 7 rfl) t kont)
      have g111 := jx X103 hx (ji X103 hx (jI X103 hx (jA X103 hx (jy X103 hx (jp X103 hx (ji X103 hx (js X103 hx g110 (hE 8 rfl) rfl (l' := #[rv s1, iv (Int32.ofNat k), rv d1, iv (Int32.ofNat k), iv (Int32.ofNat ls.length), iv (Int32.ofNat k), iv (ls.getD k 0)]) (XS.store1 (o := sl6) rfl One_sl6 rfl)) (hE 9 rfl) rfl) (hE 10 rfl) 255 rfl) (hE 11 rfl) rfl (flt (hl k (by omega) : ¬ ((255 : Int32) < (ls.getD k 0)))).2.2.2 (pc' := 26) (by decide)) (hE 14 rfl) rfl rfl) (hE 15 rfl) rfl) (hE 16 rfl) rfl) (hE 17 rfl) rfl
      have zz112 := y104
      obtain ⟨cl112, Ar112, q112, S112, M112, H112, G112⟩ := zz112
      have in112 : ¬ ((Int32.ofNat k) < 0 ∨ cl112.slots.size ≤ ((Int32.ofNat k)).toNatClampNeg) := inb_of S112 ⟨own_nonneg (by omega), own_lt (by omega) (by omega)⟩
      let lo113 : Array Slot := #[rv s1, iv (Int32.ofNat k), rv d1, iv (Int32.ofNat k), iv (Int32.ofNat ls.length), iv (Int32.ofNat k), iv (ls.getD k 0)]
      obtain ⟨T112, h112, X112, e112, W112, st112⟩ := stB X103 hx hZ e103 Ar112 (j := (Int32.ofNat k)) in112 (g := (mkF m 31 lo113 [(.int ((ls.getD k 0).toInt8.toInt32)), (.int (Int32.ofNat k)), (.ref d1)])) rfl rfl (hE 18 rfl)
      rw [show nar .byte ((ls.getD k 0).toInt8.toInt32) = ((ls.getD k 0).toInt8.toInt32) from (own_narb _)] at W112
      have O114 := O105.wr W112 G2_
      have y115 : Arv Z h112 d1 kd .byte (Int32.ofNat ls.length) ((own_F ls k).set k (.int ((ls.getD k 0).toInt8.toInt32))) (.int 0) := Arv.set Ar112 q112 S112 M112 H112 G112 (own_ft_byte (z := ((ls.getD k 0).toInt8.toInt32)) (own_narb _)) W112 k (own_clamp (by omega)) (by rw [own_Flen (by omega)]; omega)
      have N112 := Fr.snoc X112 N103 G2_
      have g116 : Go p e below T112 (mkF m 32 lo113 []) A0 := fun t kont => g111 t (st112 t kont)
      have g117 := jg X112 hx (jk X112 hx (jk X112 hx (jk X112 hx g116 (hE 19 rfl) rfl (l' := #[rv s1, iv ((Int32.ofNat k) + (1 : Int32)), rv d1, iv (Int32.ofNat k), iv (Int32.ofNat ls.length), iv (Int32.ofNat k), iv (ls.getD k 0)]) rfl) (hE 20 rfl) rfl (l' := #[rv s1, iv ((Int32.ofNat k) + (1 : Int32)), rv d1, iv ((Int32.ofNat k) + (1 : Int32)), iv (Int32.ofNat ls.length), iv (Int32.ofNat k), iv (ls.getD k 0)]) rfl) (hE 21 rfl) rfl (l' := #[rv s1, iv ((Int32.ofNat k) + (1 : Int32)), rv d1, iv ((Int32.ofNat k) + (1 : Int32)), iv (Int32.ofNat ls.length), iv ((Int32.ofNat k) + (1 : Int32)), iv (ls.getD k 0)]) rfl) (hE 22 rfl) (pc' := 3) (by decide)
      have g118 : Go p e below T112 (mkF m 3 #[rv s1, iv (Int32.ofNat (k + 1)), rv d1, iv (Int32.ofNat (k + 1)), iv (Int32.ofNat ls.length), iv (Int32.ofNat (k + 1)), iv (ls.getD k 0)] []) A0 := by rw [← own_succ k]; exact g117
      exact ⟨_, _, _, (iv (ls.getD k 0)), X112, e112, (((Keep.refl h0 [d1]).trans K103 (allS (P := fun x => x ∈ [d1] ∨ h0.size ≤ x) (Or.inl (mi 0 rfl)) all0)).wr W112 (Or.inl (mi 0 rfl))), N112, (One.val rfl), (by rw [← own_FS (show k < ls.length by omega)]; exact y115), g118⟩
  obtain ⟨T119, lc119, h119, sl6, X119, e119, K119, N119, One_sl6, y120, g119⟩ := loop102 rn (Nat.le_refl _)
  have O121 := O0.keep K119 (allS G2_ all0)
  by_cases c122 : rn < ls.length
  ·
    have g123 := jI X119 hx (jA X119 hx (jn X119 hx (ji X119 hx (ji X119 hx g119 (hE 2 rfl) rfl) (hE 3 rfl) rfl) (hE 4 rfl) rfl (tlt (own_lt (by omega) (by omega) : (Int32.ofNat rn) < (Int32.ofNat ls.length))).2.1) (hE 5 rfl) rfl rfl) (hE 6 rfl) rfl
    have y124 := (A0_.keep K119 (ninS NE3_ nin0))
    have zz125 := y124
    obtain ⟨cl125, Ar125, q125, S125, M125, H125, G125⟩ := zz125
    have in125 : ¬ ((Int32.ofNat rn) < 0 ∨ cl125.slots.size ≤ ((Int32.ofNat rn)).toNatClampNeg) := inb_of S125 ⟨own_nonneg (by omega), own_lt (by omega) (by omega)⟩
    have at125 : cl125.slots[((Int32.ofNat rn)).toNatClampNeg]? = some (.int (ls.getD rn 0)) := Has.at H125 in125 (by rw [own_clamp (by omega)]; exact own_getc ls rn)
    let lo126 : Array Slot := #[rv s1, iv (Int32.ofNat rn), rv d1, iv (Int32.ofNat rn), iv (Int32.ofNat ls.length), iv (Int32.ofNat rn), sl6]
    have g127 : Go p e below T119 (mkF m 13 lo126 [(.int (ls.getD rn 0))]) A0 := fun t kont => g123 t (X119.caload hx (j := (Int32.ofNat rn)) (v := (.int (ls.getD rn 0))) (by rw [e119]; exact Ar125.1) (State.isArrayOf_alike hZ.alike Ar125.2.1) Ar125.2.2 in125 at125 (g := (mkF m 12 lo126 [(.int (Int32.ofNat rn)), (.ref s1)])) rfl rfl (hE 7 rfl) t kont)
    have g128 := ji X119 hx (jn X119 hx (jp X119 hx (ji X119 hx (js X119 hx g127 (hE 8 rfl) rfl (l' := #[rv s1, iv (Int32.ofNat rn), rv d1, iv (Int32.ofNat rn), iv (Int32.ofNat ls.length), iv (Int32.ofNat rn), iv (ls.getD rn 0)]) (XS.store1 (o := sl6) rfl One_sl6 rfl)) (hE 9 rfl) rfl) (hE 10 rfl) 255 rfl) (hE 11 rfl) rfl (tlt (hwd c122 : (255 : Int32) < (ls.getD rn 0))).2.2.2) (hE 12 rfl) rfl
    have K129 : Keep h0 h119 [d1] := ((Keep.refl h0 [d1]).trans K119 (allS (P := fun x => x ∈ [d1] ∨ h0.size ≤ x) (Or.inl (mi 0 rfl)) all0))
    refine own_leave X119 Bd (some (.int (Int32.ofNat rn))) nofun g128 (fun fs hr => retI X119 hx Bd.returns (hE 13 rfl) hr) (by decide) (by decide) ?_
    rw [e119]
    exact ⟨rfl, N119, K129, y120⟩
  have g130 := ji X119 hx (jy X119 hx (ji X119 hx (ji X119 hx g119 (hE 2 rfl) rfl) (hE 3 rfl) rfl) (hE 4 rfl) rfl (flt (own_nlt (by omega) (by omega) : ¬ ((Int32.ofNat rn) < (Int32.ofNat ls.length)))).2.1 (pc' := 44) (by decide)) (hE 23 rfl) rfl
  have K131 : Keep h0 h119 [d1] := ((Keep.refl h0 [d1]).trans K119 (allS (P := fun x => x ∈ [d1] ∨ h0.size ≤ x) (Or.inl (mi 0 rfl)) all0))
  refine own_leave X119 Bd (some (.int (Int32.ofNat ls.length))) nofun g130 (fun fs hr => retI X119 hx Bd.returns (hE 24 rfl) hr) (by decide) (by decide) ?_
  rw [e119]
  exact ⟨congrArg (fun z => some (Value.int z)) (congrArg Int32.ofNat (show ls.length = rn by omega)), N119, K131, y120⟩
theorem rm_nblG (hw : HW a0 Z) (ls : List Int32) (h0 : Heap) (n0 : Nat) (O0 : Old Z n0 h0) (hB : ls.length ≤ 2) :
    own_M l mN4 (Jvm.Cond.code mN4 jdk_52_method_3_code 1 (some .int)) [] (⟨0, 0, 0, 0⟩ : Room) #[(.int (Int32.ofNat ls.length))] Z h0 (fun v h L => v = some (.int (Int32.ofNat (2 * ls.length))) ∧ Fr n0 L ∧ h = h0) := by
  refine own_open n0 (plainFor_of_name pn_2) (fun m => ef_I1 m (Int32.ofNat ls.length) ) ?_
  intro p e s m below meth c s₁ A0 Bd hx hby hml hown hnm hZ hh X0 e0 N0 g0
  have hE := own_hd hby E62
  have g101 := jL X0 hx (jc X0 hx (jI X0 hx (jy X0 hx (show Go p e below s₁ (mkF m 15 #[iv (Int32.ofNat ls.length)] [(.int 1073741823), (.int (Int32.ofNat ls.length))]) A0 from fun t kt => (jI X0 hx (jY X0 hx (jI X0 hx g0 (hE 0 rfl) rfl) (hE 1 rfl) rfl ((if0 _ _).trans (flt (own_nonneg (by omega) : ¬ ((Int32.ofNat ls.length) < (0 : Int32)))).2.1) (pc' := 12) (by decide)) (hE 2 rfl) rfl) t (by refine X0.ldcInt hx hown (mvT hZ (hw _ (mi 311 rfl))) (g := (mkF m 13 #[iv (Int32.ofNat ls.length)] [(.int (Int32.ofNat ls.length))])) rfl (hE 3 rfl) _ ?_; exact kt)) (hE 4 rfl) rfl (tlt (own_lt (b := 1073741823) (by omega) (by omega) : (Int32.ofNat ls.length) < (1073741823 : Int32))).1 (pc' := 55) (by decide)) (hE 5 rfl) rfl) (hE 6 rfl) 1 rfl) (hE 7 rfl) rfl
  refine own_leave X0 Bd (some (.int ((Int32.ofNat ls.length) <<< ((1 : Int32) &&& 31)))) nofun g101 (fun fs hr => retI X0 hx Bd.returns (hE 8 rfl) hr) (by decide) (by decide) ?_
  rw [e0]
  exact ⟨congrArg (fun z => some (Value.int z)) (own_dbl (by omega)), N0, rfl⟩
theorem pd_0 : parseMethodDescriptor "(I)I" = some ⟨[.int], some .int⟩ := by decide +kernel
theorem wd0 (hw : HW a0 Z) : own_wdS a0 Z mN4 jdk_52_method_3_code 1 (some .int) := ⟨hw _ (mi 309 rfl), hw _ (mi 37 rfl), hw _ (mi 310 rfl), by decide⟩
theorem rm_nbfG (hw : HW a0 Z) (ls : List Int32) (h0 : Heap) (n0 : Nat) (O0 : Old Z n0 h0) (hB : ls.length ≤ 2) :
    own_M l mN5 (Jvm.Cond.code mN5 jdk_52_method_2_code 1 (some (.array .byte))) [] (⟨1, 1, 4, 12⟩ : Room) #[(.int (Int32.ofNat ls.length))] Z h0 (fun v h L => ∃ (r : Addr), ∃ (kid : ClassId), v = some (.ref r) ∧ Fr n0 L ∧ Keep h0 h [] ∧ h0.size ≤ r ∧ (Exa Z h r "[B") ∧ (Arv Z h r kid .byte (Int32.ofNat (2 * ls.length)) (List.replicate (2 * ls.length) (.int 0)) (.int 0))) := by
  refine own_open n0 (plainFor_of_name pn_2) (fun m => ef_I1 m (Int32.ofNat ls.length) ) ?_
  intro p e s m below meth c s₁ A0 Bd hx hby hml hown hnm hZ hh X0 e0 N0 g0
  have hE := own_hd hby E61
  have g101 := jI X0 hx g0 (hE 0 rfl) rfl
  obtain ⟨_, L102, T102, ⟨rfl, M102, e102⟩, X102, st102⟩ := own_callS X0 hx hZ hown (hw _ (mi 308 rfl)) (wd0 hw) (rm_nblG hw ls h0 n0 O0 hB) g101 e0 [] rfl (lenOf pd_0 rfl) (hE 1 rfl) hml.symm 0 rfl (by decide)
  have N102 := Fr.app N0 M102
  obtain ⟨T103, h103, k103, X103, e103, E103, A103, F103, st103⟩ := newPE X102 hx hZ (hw _ (mi 15 rfl)) e102 (g := (mkF m 4 #[iv (Int32.ofNat ls.length)] [(.int (Int32.ofNat (2 * ls.length)))])) rfl (hE 2 rfl) rfl (own_nonneg (by omega)) (cap := 4) (by rw [own_clamp (by omega)]; omega) (by decide) (by decide) (by decide) (ad := "[B") (by decide)
  obtain ⟨b103, gb103⟩ : ∃ z, z = h0.size := ⟨_, rfl⟩
  rw [← gb103] at A103 F103 st103
  have O104 := O0.ext E103
  have y105 : Arv Z h103 b103 k103 .byte (Int32.ofNat (2 * ls.length)) (List.replicate (2 * ls.length) (.int 0)) (.int 0) := (Arv.new A103 (own_nonneg (by omega))).pad (pad_rep [] (.int 0) (2 * ls.length))
  have g106 : Go p e below T103 (mkF m 6 #[iv (Int32.ofNat ls.length)] [(.ref b103)]) A0 := fun t kont => st102 t (st103 t kont)
  have K107 : Keep h0 h103 [] := ((Keep.refl h0 []).ext E103)
  refine own_leave X103 Bd (some (.ref b103)) nofun g106 (fun fs hr => retOut X103 hx Bd.returns rfl (Or.inr (Or.inr (Or.inr (Or.inr ⟨rfl, rfl, rfl⟩)))) (hE 3 rfl) hr) (by decide) (by decide) ?_
  rw [e103]
  exact ⟨b103, k103, rfl, N102, K107, (Nat.le_of_eq gb103.symm), F103, y105⟩
def own_W (Z : State) (cs : Int32) (fm : Value) : Prop := (Sta Z Z.heap "java/lang/String" "COMPACT_STRINGS" "Z" (.int cs)) ∧ (¬ (cs = (0 : Int32))) ∧ (Sta Z Z.heap "jdk/internal/util/Preconditions" "SIOOBE_FORMATTER" "Ljava/util/function/BiFunction;" fm) ∧ (fm.isRef = true) ∧ (Sta Z Z.heap "java/lang/StringUTF16" "$assertionsDisabled" "Z" (.int 1)) ∧ (Sta Z Z.heap "java/lang/StringUTF16" "HI_BYTE_SHIFT" "I" (.int 0)) ∧ (Sta Z Z.heap "java/lang/StringUTF16" "LO_BYTE_SHIFT" "I" (.int 8))
theorem ef_RII3 (m : MethodId) (x0 : Addr) (x1 : Int32) (x2 : Int32)  : entryFrame m #[(.ref x0), (.int x1), (.int x2)] 3 = mkF m 0 #[.val (.ref x0), .val (.int x1), .val (.int x2)] [] := by first | (simp [entryFrame, mkF, argsToLocals, Value.category]; done) | rfl
theorem rm_putG (hw : HW a0 Z) (v1 : Addr) (i1 : Nat) (ch : Int32) (kv : ClassId) (z1 : Int32) (vs : List Value) (cs : Int32) (fm : Value) (h0 : Heap) (n0 : Nat) (O0 : Old Z n0 h0) (A0_ : Arv Z h0 v1 kv .byte z1 vs (.int 0)) (G1_ : n0 ≤ v1) (hin : 2 * i1 + 1 < vs.length) (hz : z1 = Int32.ofNat vs.length) (hvl : vs.length ≤ 512) (hW : own_W Z cs fm) :
    own_M l mN6 (Jvm.Cond.code mN6 jdk_52_method_4_code 3 none) [] (⟨0, 0, 0, 0⟩ : Room) #[(.ref v1), (.int (Int32.ofNat i1)), (.int ch)] Z h0 (fun v h L => v = none ∧ Fr n0 L ∧ Keep h0 h [v1] ∧ (Arv Z h v1 kv .byte z1 ((vs.set (2 * i1) (.int ((ch >>> ((0 : Int32) &&& 31)).toInt8.toInt32))).set (2 * i1 + 1) (.int ((ch >>> ((8 : Int32) &&& 31)).toInt8.toInt32))) (.int 0))) := by
  refine own_open n0 (plainFor_of_name pn_2) (fun m => ef_RII3 m v1 (Int32.ofNat i1) ch ) ?_
  intro p e s m below meth c s₁ A0 Bd hx hby hml hown hnm hZ hh X0 e0 N0 g0
  obtain ⟨SC_, hcs, SF_, hfm, SU1_, SU2_, SU3_⟩ := id hW
  have hE := own_hd hby E59
  have y101 := SU1_.ext O0.2
  obtain ⟨T102, X102, e102, g102⟩ := own_getS X0 hx hZ hown (hw _ (mi 299 rfl)) Via.refl e0 y101 g0 (hE 0 rfl)
  have g103 := jL X102 hx (jc X102 hx (jI X102 hx (jY X102 hx g102 (hE 1 rfl) rfl (by decide) (pc' := 28) (by decide)) (hE 2 rfl) rfl) (hE 3 rfl) 1 rfl) (hE 4 rfl) rfl
  have g104 := own_rwS g103 (own_dbl (n := i1) (by omega) : ((Int32.ofNat i1) <<< ((1 : Int32) &&& 31)) = (Int32.ofNat (2 * i1)))
  have g105 := jI X102 hx (jk X102 hx (jI X102 hx (jA X102 hx (jS X102 hx g104 (hE 5 rfl) rfl (l' := #[rv v1, iv (Int32.ofNat (2 * i1)), iv ch]) rfl) (hE 6 rfl) rfl rfl) (hE 7 rfl) rfl) (hE 8 rfl) rfl (l' := #[rv v1, iv ((Int32.ofNat (2 * i1)) + (1 : Int32)), iv ch]) rfl) (hE 9 rfl) rfl
  have y106 := SU2_.ext O0.2
  obtain ⟨T107, X107, e107, g107⟩ := own_getS X102 hx hZ hown (hw _ (mi 300 rfl)) Via.refl e102 y106 g105 (hE 10 rfl)
  have g108 := jx X107 hx (jR X107 hx g107 (hE 11 rfl) rfl) (hE 12 rfl) rfl
  have zz109 := A0_
  obtain ⟨cl109, Ar109, q109, S109, M109, H109, G109⟩ := zz109
  have in109 : ¬ ((Int32.ofNat (2 * i1)) < 0 ∨ cl109.slots.size ≤ ((Int32.ofNat (2 * i1))).toNatClampNeg) := inb_of S109 ⟨own_nonneg (by omega), by rw [hz]; exact own_lt (by omega) (by omega)⟩
  let lo110 : Array Slot := #[rv v1, iv ((Int32.ofNat (2 * i1)) + (1 : Int32)), iv ch]
  obtain ⟨T109, h109, X109, e109, W109, st109⟩ := stB X107 hx hZ e107 Ar109 (j := (Int32.ofNat (2 * i1))) in109 (g := (mkF m 43 lo110 [(.int ((ch >>> ((0 : Int32) &&& 31)).toInt8.toInt32)), (.int (Int32.ofNat (2 * i1))), (.ref v1)])) rfl rfl (hE 13 rfl)
  rw [show nar .byte ((ch >>> ((0 : Int32) &&& 31)).toInt8.toInt32) = ((ch >>> ((0 : Int32) &&& 31)).toInt8.toInt32) from (own_narb _)] at W109
  have O111 := O0.wr W109 G1_
  have y112 : Arv Z h109 v1 kv .byte z1 (vs.set (2 * i1) (.int ((ch >>> ((0 : Int32) &&& 31)).toInt8.toInt32))) (.int 0) := Arv.set Ar109 q109 S109 M109 H109 G109 (own_ft_byte (z := ((ch >>> ((0 : Int32) &&& 31)).toInt8.toInt32)) (own_narb _)) W109 (2 * i1) (own_clamp (by omega)) (by omega)
  have N109 := Fr.snoc X109 N0 G1_
  have g113 : Go p e below T109 (mkF m 44 lo110 []) A0 := fun t kont => g108 t (st109 t kont)
  have g114 : Go p e below T109 (mkF m 44 #[rv v1, iv (Int32.ofNat (2 * i1 + 1)), iv ch] []) A0 := by rw [← own_succ (2 * i1)]; exact g113
  have g115 := jI X109 hx (jI X109 hx (jA X109 hx g114 (hE 14 rfl) rfl rfl) (hE 15 rfl) rfl) (hE 16 rfl) rfl
  have y116 := SU3_.ext O111.2
  obtain ⟨T117, X117, e117, g117⟩ := own_getS X109 hx hZ hown (hw _ (mi 301 rfl)) Via.refl e109 y116 g115 (hE 17 rfl)
  have g118 := jx X117 hx (jR X117 hx g117 (hE 18 rfl) rfl) (hE 19 rfl) rfl
  have zz119 := y112
  obtain ⟨cl119, Ar119, q119, S119, M119, H119, G119⟩ := zz119
  have in119 : ¬ ((Int32.ofNat (2 * i1 + 1)) < 0 ∨ cl119.slots.size ≤ ((Int32.ofNat (2 * i1 + 1))).toNatClampNeg) := inb_of S119 ⟨own_nonneg (by omega), by rw [hz]; exact own_lt (by omega) (by omega)⟩
  let lo120 : Array Slot := #[rv v1, iv (Int32.ofNat (2 * i1 + 1)), iv ch]
  obtain ⟨T119, h119, X119, e119, W119, st119⟩ := stB X117 hx hZ e117 Ar119 (j := (Int32.ofNat (2 * i1 + 1))) in119 (g := (mkF m 52 lo120 [(.int ((ch >>> ((8 : Int32) &&& 31)).toInt8.toInt32)), (.int (Int32.ofNat (2 * i1 + 1))), (.ref v1)])) rfl rfl (hE 20 rfl)
  rw [show nar .byte ((ch >>> ((8 : Int32) &&& 31)).toInt8.toInt32) = ((ch >>> ((8 : Int32) &&& 31)).toInt8.toInt32) from (own_narb _)] at W119
  have O121 := O111.wr W119 G1_
  have y122 : Arv Z h119 v1 kv .byte z1 ((vs.set (2 * i1) (.int ((ch >>> ((0 : Int32) &&& 31)).toInt8.toInt32))).set (2 * i1 + 1) (.int ((ch >>> ((8 : Int32) &&& 31)).toInt8.toInt32))) (.int 0) := Arv.set Ar119 q119 S119 M119 H119 G119 (own_ft_byte (z := ((ch >>> ((8 : Int32) &&& 31)).toInt8.toInt32)) (own_narb _)) W119 (2 * i1 + 1) (own_clamp (by omega)) (by rw [List.length_set]; omega)
  have N119 := Fr.snoc X119 N109 G1_
  have g123 : Go p e below T119 (mkF m 53 lo120 []) A0 := fun t kont => g118 t (st119 t kont)
  have K124 : Keep h0 h119 [v1] := (((Keep.refl h0 [v1]).wr W109 (Or.inl (mi 0 rfl))).wr W119 (Or.inl (mi 0 rfl)))
  refine own_leave X119 Bd (none) (fun _ => rfl) g123 (fun fs hr => X119.returnOut hx Bd.returns (hE 21 rfl) hr) (by decide) (by decide) ?_
  rw [e119]
  exact ⟨rfl, N119, K124, y122⟩
theorem pd_1 : parseMethodDescriptor "(I)[B" = some ⟨[.int], some (.array .byte)⟩ := by decide +kernel
theorem wd1 (hw : HW a0 Z) : own_wdS a0 Z mN5 jdk_52_method_2_code 1 (some (.array .byte)) := ⟨hw _ (mi 306 rfl), hw _ (mi 37 rfl), hw _ (mi 307 rfl), by decide⟩
theorem pd_2 : parseMethodDescriptor "([BII)V" = some ⟨[(.array .byte), .int, .int], none⟩ := by decide +kernel
theorem wd2 (hw : HW a0 Z) : own_wdS a0 Z mN6 jdk_52_method_4_code 3 none := ⟨hw _ (mi 297 rfl), hw _ (mi 37 rfl), hw _ (mi 298 rfl), by decide⟩
theorem ef_RII5 (m : MethodId) (x0 : Addr) (x1 : Int32) (x2 : Int32)  : entryFrame m #[(.ref x0), (.int x1), (.int x2)] 5 = mkF m 0 #[.val (.ref x0), .val (.int x1), .val (.int x2), .unset, .unset] [] := by first | (simp [entryFrame, mkF, argsToLocals, Value.category]; done) | rfl
theorem rm_u2bG (hw : HW a0 Z) (s1 : Addr) (ks : ClassId) (ls : List Int32) (cs : Int32) (fm : Value) (h0 : Heap) (n0 : Nat) (O0 : Old Z n0 h0) (A0_ : Arv Z h0 s1 ks .char (Int32.ofNat ls.length) (ls.map Value.int) (.int 0)) (hB : ls.length ≤ 2) (hW : own_W Z cs fm) :
    own_M l mN7 (Jvm.Cond.code mN7 jdk_52_method_14_code 5 (some (.array .byte))) [] (⟨2, 1, 4, 24⟩ : Room) #[(.ref s1), (.int 0), (.int (Int32.ofNat ls.length))] Z h0 (fun v h L => ∃ (r : Addr), ∃ (kid : ClassId), v = some (.ref r) ∧ Fr n0 L ∧ Keep h0 h [] ∧ h0.size ≤ r ∧ (Exa Z h r "[B") ∧ (Arv Z h r kid .byte (Int32.ofNat (2 * ls.length)) (own_wb ls) (.int 0))) := by
  refine own_open n0 (plainFor_of_name pn_2) (fun m => ef_RII5 m s1 (0 : Int32) (Int32.ofNat ls.length) ) ?_
  intro p e s m below meth c s₁ A0 Bd hx hby hml hown hnm hZ hh X0 e0 N0 g0
  obtain ⟨SC_, hcs, SF_, hfm, SU1_, SU2_, SU3_⟩ := id hW
  have hE := own_hd hby E60
  have g101 := jI X0 hx g0 (hE 0 rfl) rfl
  obtain ⟨_, L102, T102, ⟨r103, r104, rfl, M102, K102, y105, y106, y107⟩, X102, st102⟩ := own_callS X0 hx hZ hown (hw _ (mi 305 rfl)) (wd1 hw) (rm_nbfG hw ls h0 n0 O0 hB) g101 e0 [] rfl (lenOf pd_1 rfl) (hE 1 rfl) hml.symm 0 rfl (by decide)
  have N102 := Fr.app N0 M102
  have O108 := O0.keep K102 all0
  have g109 := js X102 hx (jc X102 hx (jT X102 hx st102 (hE 2 rfl) rfl rfl (l' := #[rv s1, iv 0, iv (Int32.ofNat ls.length), rv r103, .unset]) rfl) (hE 3 rfl) 0 rfl) (hE 4 rfl) rfl (l' := #[rv s1, iv 0, iv (Int32.ofNat ls.length), rv r103, iv 0]) rfl
  have loop110 : ∀ k : Nat, k ≤ ls.length → ∃ (T110 : State) (lc110 : List Loc) (h110 : Heap), Stand p l e (⟨2, 1, 4, 24⟩ : Room) s m #[(.ref s1), (.int 0), (.int (Int32.ofNat ls.length))] below meth c T110 lc110 1 4 ∧ T110.heap = h110 ∧ Keep T102.heap h110 [r103] ∧ Fr n0 lc110 ∧ (Arv Z h110 r103 r104 .byte (Int32.ofNat (2 * ls.length)) (own_G ls k) (.int 0)) ∧ Go p e below T110 (mkF m 8 #[rv s1, iv (Int32.ofNat k), iv (Int32.ofNat ls.length), rv r103, iv (Int32.ofNat k)] []) A0 := by
    intro k
    induction k with
    | zero =>
      intro _
      exact ⟨_, _, _, X102, rfl, (Keep.refl _ _), N102, (by rw [own_G0]; exact y107), g109⟩
    | succ k ih =>
      intro hk_k
      obtain ⟨T111, lc111, h111, X111, e111, K111, N111, y112, g111⟩ := ih (Nat.le_of_succ_le hk_k)
      have ge113 : n0 ≤ r103 := Nat.le_trans (own_old_le O0) y105
      have O114 := O108.keep K111 (allS ge113 all0)
      have g115 := jI X111 hx (jA X111 hx (ji X111 hx (jA X111 hx (jn X111 hx (jI X111 hx (ji X111 hx g111 (hE 5 rfl) rfl) (hE 6 rfl) rfl) (hE 7 rfl) rfl (tlt (own_lt (by omega) (by omega) : (Int32.ofNat k) < (Int32.ofNat ls.length))).2.1) (hE 8 rfl) rfl rfl) (hE 9 rfl) rfl) (hE 10 rfl) rfl rfl) (hE 11 rfl) rfl
      have y116 := ((A0_.keep K102 nin0).keep K111 (ninS (Nat.ne_of_lt (Nat.lt_of_lt_of_le A0_.lt y105)) nin0))
      have zz117 := y116
      obtain ⟨cl117, Ar117, q117, S117, M117, H117, G117⟩ := zz117
      have in117 : ¬ ((Int32.ofNat k) < 0 ∨ cl117.slots.size ≤ ((Int32.ofNat k)).toNatClampNeg) := inb_of S117 ⟨own_nonneg (by omega), own_lt (by omega) (by omega)⟩
      have at117 : cl117.slots[((Int32.ofNat k)).toNatClampNeg]? = some (.int (ls.getD k 0)) := Has.at H117 in117 (by rw [own_clamp (by omega)]; exact own_getc ls k)
      let lo118 : Array Slot := #[rv s1, iv (Int32.ofNat k), iv (Int32.ofNat ls.length), rv r103, iv (Int32.ofNat k)]
      have g119 : Go p e below T111 (mkF m 20 lo118 [(.int (ls.getD k 0)), (.int (Int32.ofNat k)), (.ref r103)]) A0 := fun t kont => g115 t (X111.caload hx (j := (Int32.ofNat k)) (v := (.int (ls.getD k 0))) (by rw [e111]; exact Ar117.1) (State.isArrayOf_alike hZ.alike Ar117.2.1) Ar117.2.2 in117 at117 (g := (mkF m 19 lo118 [(.int (Int32.ofNat k)), (.ref s1), (.int (Int32.ofNat k)), (.ref r103)])) rfl rfl (hE 12 rfl) t kont)
      obtain ⟨_, L120, T120, ⟨rfl, M120, K120, y121⟩, X120, st120⟩ := own_callS X111 hx hZ hown (hw _ (mi 296 rfl)) (wd2 hw) (rm_putG hw r103 k (ls.getD k 0) r104 (Int32.ofNat (2 * ls.length)) (own_G ls k) cs fm h111 n0 O114 y112 ge113 (by rw [own_Glen (by omega)]; omega) (by rw [own_Glen (by omega)]) (by rw [own_Glen (by omega)]; omega) hW) g119 e111 [] rfl (lenOf pd_2 rfl) (hE 13 rfl) hml.symm 0 rfl (by decide)
      have N120 := Fr.app N111 M120
      have O122 := O114.keep K120 (allS ge113 all0)
      have g123 := jg X120 hx (jk X120 hx (jk X120 hx st120 (hE 14 rfl) rfl (l' := #[rv s1, iv ((Int32.ofNat k) + (1 : Int32)), iv (Int32.ofNat ls.length), rv r103, iv (Int32.ofNat k)]) rfl) (hE 15 rfl) rfl (l' := #[rv s1, iv ((Int32.ofNat k) + (1 : Int32)), iv (Int32.ofNat ls.length), rv r103, iv ((Int32.ofNat k) + (1 : Int32))]) rfl) (hE 16 rfl) (pc' := 8) (by decide)
      have g124 : Go p e below T120 (mkF m 8 #[rv s1, iv (Int32.ofNat (k + 1)), iv (Int32.ofNat ls.length), rv r103, iv (Int32.ofNat (k + 1))] []) A0 := by rw [← own_succ k]; exact g123
      exact ⟨_, _, _, X120, rfl, (((Keep.refl T102.heap [r103]).trans K111 (allS (P := fun x => x ∈ [r103] ∨ T102.heap.size ≤ x) (Or.inl (mi 0 rfl)) all0)).trans K120 (allS (P := fun x => x ∈ [r103] ∨ T102.heap.size ≤ x) (Or.inl (mi 0 rfl)) all0)), N120, (by rw [← own_GS (show k < ls.length by omega)]; exact y121), g124⟩
  obtain ⟨T125, lc125, h125, X125, e125, K125, N125, y126, g125⟩ := loop110 ls.length (Nat.le_refl _)
  have ge127 : n0 ≤ r103 := Nat.le_trans (own_old_le O0) y105
  have O128 := O108.keep K125 (allS ge127 all0)
  have g129 := jA X125 hx (jy X125 hx (jI X125 hx (ji X125 hx g125 (hE 5 rfl) rfl) (hE 6 rfl) rfl) (hE 7 rfl) rfl (flt (own_nlt (by omega) (by omega) : ¬ ((Int32.ofNat ls.length) < (Int32.ofNat ls.length)))).2.1 (pc' := 32) (by decide)) (hE 17 rfl) rfl rfl
  have K130 : Keep h0 h125 [] := (((Keep.refl h0 []).trans K102 (fun x hx => nomatch hx)).trans K125 (allS (P := fun x => x ∈ [] ∨ h0.size ≤ x) (Or.inr y105) all0))
  have y131 := (y106.keep K125)
  refine own_leave X125 Bd (some (.ref r103)) nofun g129 (fun fs hr => retOut X125 hx Bd.returns rfl (Or.inr (Or.inr (Or.inr (Or.inr ⟨rfl, rfl, rfl⟩)))) (hE 18 rfl) hr) (by decide) (by decide) ?_
  rw [e125]
  exact ⟨r103, r104, rfl, N125, K130, y105, y131, (own_Gn ls) ▸ y126⟩
theorem ef_RI2 (m : MethodId) (x0 : Addr) (x1 : Int32)  : entryFrame m #[(.ref x0), (.int x1)] 2 = mkF m 0 #[.val (.ref x0), .val (.int x1)] [] := by first | (simp [entryFrame, mkF, argsToLocals, Value.category]; done) | rfl
theorem rm_getG (hw : HW a0 Z) (v1 : Addr) (i1 : Nat) (kv : ClassId) (ls : List Int32) (cs : Int32) (fm : Value) (h0 : Heap) (n0 : Nat) (O0 : Old Z n0 h0) (A0_ : Arv Z h0 v1 kv .byte (Int32.ofNat (2 * ls.length)) (own_wb ls) (.int 0)) (hB : ls.length ≤ 40) (hi : i1 < ls.length) (hch : own_chars ls) (hW : own_W Z cs fm) :
    own_M l mN8 (Jvm.Cond.code mN8 jdk_52_method_5_code 2 (some .char)) [] (⟨0, 0, 0, 0⟩ : Room) #[(.ref v1), (.int (Int32.ofNat i1))] Z h0 (fun v h L => v = some (.int (ls.getD i1 0)) ∧ Fr n0 L ∧ h = h0) := by
  refine own_open n0 (plainFor_of_name pn_2) (fun m => ef_RI2 m v1 (Int32.ofNat i1) ) ?_
  intro p e s m below meth c s₁ A0 Bd hx hby hml hown hnm hZ hh X0 e0 N0 g0
  obtain ⟨SC_, hcs, SF_, hfm, SU1_, SU2_, SU3_⟩ := id hW
  have hE := own_hd hby E63
  have y101 := SU1_.ext O0.2
  obtain ⟨T102, X102, e102, g102⟩ := own_getS X0 hx hZ hown (hw _ (mi 299 rfl)) Via.refl e0 y101 g0 (hE 0 rfl)
  have g103 := jL X102 hx (jc X102 hx (jI X102 hx (jY X102 hx g102 (hE 1 rfl) rfl (by decide) (pc' := 28) (by decide)) (hE 2 rfl) rfl) (hE 3 rfl) 1 rfl) (hE 4 rfl) rfl
  have g104 := own_rwS g103 (own_dbl (n := i1) (by omega) : ((Int32.ofNat i1) <<< ((1 : Int32) &&& 31)) = (Int32.ofNat (2 * i1)))
  have g105 := jk X102 hx (jI X102 hx (jA X102 hx (jS X102 hx g104 (hE 5 rfl) rfl (l' := #[rv v1, iv (Int32.ofNat (2 * i1))]) rfl) (hE 6 rfl) rfl rfl) (hE 7 rfl) rfl) (hE 8 rfl) rfl (l' := #[rv v1, iv ((Int32.ofNat (2 * i1)) + (1 : Int32))]) rfl
  have zz106 := A0_
  obtain ⟨cl106, Ar106, q106, S106, M106, H106, G106⟩ := zz106
  have in106 : ¬ ((Int32.ofNat (2 * i1)) < 0 ∨ cl106.slots.size ≤ ((Int32.ofNat (2 * i1))).toNatClampNeg) := inb_of S106 ⟨own_nonneg (by omega), own_lt (by omega) (by omega)⟩
  have at106 : cl106.slots[((Int32.ofNat (2 * i1))).toNatClampNeg]? = some (.int (((ls.getD i1 0) >>> ((0 : Int32) &&& 31)).toInt8.toInt32)) := Has.at H106 in106 (by rw [own_clamp (by omega)]; exact own_wb_get0 hi)
  let lo107 : Array Slot := #[rv v1, iv ((Int32.ofNat (2 * i1)) + (1 : Int32))]
  have g108 : Go p e below T102 (mkF m 38 lo107 [(.int (((ls.getD i1 0) >>> ((0 : Int32) &&& 31)).toInt8.toInt32))]) A0 := fun t kont => g105 t (X102.baloadBytes hx (j := (Int32.ofNat (2 * i1))) (v := (.int (((ls.getD i1 0) >>> ((0 : Int32) &&& 31)).toInt8.toInt32))) (by rw [e102]; exact Ar106.1) (State.isArrayOf_alike hZ.alike Ar106.2.1) Ar106.2.2 in106 at106 (g := (mkF m 37 lo107 [(.int (Int32.ofNat (2 * i1))), (.ref v1)])) rfl rfl (hE 9 rfl) t kont)
  have g109 := jB X102 hx (jp X102 hx g108 (hE 10 rfl) 255 rfl) (hE 11 rfl) rfl
  have y110 := SU2_.ext O0.2
  obtain ⟨T111, X111, e111, g111⟩ := own_getS X102 hx hZ hown (hw _ (mi 300 rfl)) Via.refl e102 y110 g109 (hE 12 rfl)
  have g112 := jL X111 hx g111 (hE 13 rfl) rfl
  have g113 : Go p e below T111 (mkF m 46 #[rv v1, iv (Int32.ofNat (2 * i1 + 1))] [(.int (((((ls.getD i1 0) >>> ((0 : Int32) &&& 31)).toInt8.toInt32) &&& (255 : Int32)) <<< ((0 : Int32) &&& 31)))]) A0 := by rw [← own_succ (2 * i1)]; exact g112
  have g114 := jI X111 hx (jA X111 hx g113 (hE 14 rfl) rfl rfl) (hE 15 rfl) rfl
  have zz115 := A0_
  obtain ⟨cl115, Ar115, q115, S115, M115, H115, G115⟩ := zz115
  have in115 : ¬ ((Int32.ofNat (2 * i1 + 1)) < 0 ∨ cl115.slots.size ≤ ((Int32.ofNat (2 * i1 + 1))).toNatClampNeg) := inb_of S115 ⟨own_nonneg (by omega), own_lt (by omega) (by omega)⟩
  have at115 : cl115.slots[((Int32.ofNat (2 * i1 + 1))).toNatClampNeg]? = some (.int (((ls.getD i1 0) >>> ((8 : Int32) &&& 31)).toInt8.toInt32)) := Has.at H115 in115 (by rw [own_clamp (by omega)]; exact own_wb_get1 hi)
  have g116 : Go p e below T111 (mkF m 49 #[rv v1, iv (Int32.ofNat (2 * i1 + 1))] [(.int (((ls.getD i1 0) >>> ((8 : Int32) &&& 31)).toInt8.toInt32)), (.int (((((ls.getD i1 0) >>> ((0 : Int32) &&& 31)).toInt8.toInt32) &&& (255 : Int32)) <<< ((0 : Int32) &&& 31)))]) A0 := fun t kont => g114 t (X111.baloadBytes hx (j := (Int32.ofNat (2 * i1 + 1))) (v := (.int (((ls.getD i1 0) >>> ((8 : Int32) &&& 31)).toInt8.toInt32))) (by rw [e111]; exact Ar115.1) (State.isArrayOf_alike hZ.alike Ar115.2.1) Ar115.2.2 in115 at115 (g := (mkF m 48 #[rv v1, iv (Int32.ofNat (2 * i1 + 1))] [(.int (Int32.ofNat (2 * i1 + 1))), (.ref v1), (.int (((((ls.getD i1 0) >>> ((0 : Int32) &&& 31)).toInt8.toInt32) &&& (255 : Int32)) <<< ((0 : Int32) &&& 31)))])) rfl rfl (hE 16 rfl) t kont)
  have g117 := jB X111 hx (jp X111 hx g116 (hE 17 rfl) 255 rfl) (hE 18 rfl) rfl
  have y118 := SU3_.ext O0.2
  obtain ⟨T119, X119, e119, g119⟩ := own_getS X111 hx hZ hown (hw _ (mi 301 rfl)) Via.refl e111 y118 g117 (hE 19 rfl)
  have g120 := jz X119 hx (jO X119 hx (jL X119 hx g119 (hE 20 rfl) rfl) (hE 21 rfl) rfl) (hE 22 rfl) rfl
  refine own_leave X119 Bd (some (.int (((((((ls.getD i1 0) >>> ((0 : Int32) &&& 31)).toInt8.toInt32) &&& (255 : Int32)) <<< ((0 : Int32) &&& 31)) ||| (((((ls.getD i1 0) >>> ((8 : Int32) &&& 31)).toInt8.toInt32) &&& (255 : Int32)) <<< ((8 : Int32) &&& 31))).toUInt32.toUInt16.toUInt32.toInt32))) nofun g120 (fun fs hr => retN X119 hx (t := .char) Bd.returns (by simp) (hE 23 rfl) (by rw [(own_narc _)]; exact hr)) (by decide) (by decide) ?_
  rw [e119]
  exact ⟨congrArg (fun z => some (Value.int z)) (own_rec16 (hch i1 hi).1 (hch i1 hi).2), N0, rfl⟩
theorem pd_3 : parseMethodDescriptor "([CI[BII)I" = some ⟨[(.array .char), .int, (.array .byte), .int, .int], some .int⟩ := by decide +kernel
theorem wd3 (hw : HW a0 Z) : own_wdS a0 Z mN3 jdk_52_method_21_code 7 (some .int) := ⟨hw _ (mi 40 rfl), hw _ (mi 37 rfl), hw _ (mi 41 rfl), by decide⟩
theorem pd_4 : parseMethodDescriptor "([CII)[B" = some ⟨[(.array .char), .int, .int], some (.array .byte)⟩ := by decide +kernel
theorem wd4 (hw : HW a0 Z) : own_wdS a0 Z mN7 jdk_52_method_14_code 5 (some (.array .byte)) := ⟨hw _ (mi 303 rfl), hw _ (mi 37 rfl), hw _ (mi 304 rfl), by decide⟩
theorem pd_5 : parseMethodDescriptor "([BI)C" = some ⟨[(.array .byte), .int], some .char⟩ := by decide +kernel
theorem wd5 (hw : HW a0 Z) : own_wdS a0 Z mN8 jdk_52_method_5_code 2 (some .char) := ⟨hw _ (mi 313 rfl), hw _ (mi 37 rfl), hw _ (mi 314 rfl), by decide⟩
theorem ef_RII6 (m : MethodId) (x0 : Addr) (x1 : Int32) (x2 : Int32)  : entryFrame m #[(.ref x0), (.int x1), (.int x2)] 6 = mkF m 0 #[.val (.ref x0), .val (.int x1), .val (.int x2), .unset, .unset, .unset] [] := by first | (simp [entryFrame, mkF, argsToLocals, Value.category]; done) | rfl
theorem rm_comG (hw : HW a0 Z) (s1 : Addr) (ks : ClassId) (ls : List Int32) (cs : Int32) (fm : Value) (h0 : Heap) (n0 : Nat) (O0 : Old Z n0 h0) (A0_ : Arv Z h0 s1 ks .char (Int32.ofNat ls.length) (ls.map Value.int) (.int 0)) (hB : ls.length ≤ 2) (hch : own_chars ls) (hW : own_W Z cs fm) :
    own_M l mN9 (Jvm.Cond.code mN9 jdk_52_method_16_code 6 (some (.array .byte))) [] (⟨3, 2, 6, 40⟩ : Room) #[(.ref s1), (.int 0), (.int (Int32.ofNat ls.length))] Z h0 (fun v h L => ∃ (r : Addr), ∃ (kid : ClassId), ∃ (cd : Int32), ∃ (z : Int32), ∃ (vs : List Value), v = some (.ref r) ∧ Fr n0 L ∧ Keep h0 h [] ∧ h0.size ≤ r ∧ (Exa Z h r "[B") ∧ (Arv Z h r kid .byte z vs (.int 0)) ∧ (own_cod ls cd z vs)) := by
  refine own_open n0 (plainFor_of_name pn_2) (fun m => ef_RII6 m s1 (0 : Int32) (Int32.ofNat ls.length) ) ?_
  intro p e s m below meth c s₁ A0 Bd hx hby hml hown hnm hZ hh X0 e0 N0 g0
  obtain ⟨SC_, hcs, SF_, hfm, SU1_, SU2_, SU3_⟩ := id hW
  have hE := own_hd hby E8
  have g101 := jI X0 hx g0 (hE 0 rfl) rfl
  let lo103 : Array Slot := #[rv s1, iv 0, iv (Int32.ofNat ls.length), .unset, .unset, .unset]
  obtain ⟨T102, h102, k102, X102, e102, E102, A102, F102, st102⟩ := newPE X0 hx hZ (hw _ (mi 15 rfl)) e0 (g := (mkF m 1 lo103 [(.int (Int32.ofNat ls.length))])) rfl (hE 1 rfl) rfl (own_nonneg (by omega)) (cap := 2) (by rw [own_clamp (by omega)]; omega) (by decide) (by decide) (by decide) (ad := "[B") (by decide)
  obtain ⟨b102, gb102⟩ : ∃ z, z = h0.size := ⟨_, rfl⟩
  rw [← gb102] at A102 F102 st102
  have O104 := O0.ext E102
  have y105 : Arv Z h102 b102 k102 .byte (Int32.ofNat ls.length) (List.replicate ls.length (.int 0)) (.int 0) := (Arv.new A102 (own_nonneg (by omega))).pad (pad_rep [] (.int 0) ls.length)
  have g106 : Go p e below T102 (mkF m 3 lo103 [(.ref b102)]) A0 := fun t kont => g101 t (st102 t kont)
  have g108 := jI X102 hx (jc X102 hx (jA X102 hx (jI X102 hx (jA X102 hx (jT X102 hx g106 (hE 2 rfl) rfl rfl (l' := #[rv s1, iv 0, iv (Int32.ofNat ls.length), rv b102, .unset, .unset]) rfl) (hE 3 rfl) rfl rfl) (hE 4 rfl) rfl) (hE 5 rfl) rfl rfl) (hE 6 rfl) 0 rfl) (hE 7 rfl) rfl
  by_cases c107 : own_lat ls
  ·
    have y110 := (A0_.ext E102)
    have ge111 : n0 ≤ b102 := Nat.le_trans (own_old_le O0) (Nat.le_of_eq gb102.symm)
    obtain ⟨_, L109, T109, ⟨rfl, M109, K109, y112⟩, X109, st109⟩ := own_callS X102 hx hZ hown (hw _ (mi 39 rfl)) (wd3 hw) (rm_cmpG hw s1 b102 ks k102 ls ls.length h102 n0 O104 y110 y105 ge111 (Nat.ne_of_lt (Nat.lt_of_lt_of_le A0_.lt (Nat.le_of_eq gb102.symm))) hB (Nat.le_refl _) (c107) (fun q => absurd q (Nat.lt_irrefl _))) g108 e102 [] rfl (lenOf pd_3 rfl) (hE 8 rfl) hml.symm 0 rfl (by decide)
    have N109 := Fr.app N0 M109
    have O113 := O104.keep K109 (allS ge111 all0)
    have y114 : Arv Z T109.heap b102 k102 .byte (Int32.ofNat ls.length) (own_lb ls) (.int 0) := (own_Fn ls) ▸ y112
    have g115 := jA X109 hx (jy X109 hx (jI X109 hx (ji X109 hx (js X109 hx st109 (hE 9 rfl) rfl (l' := #[rv s1, iv 0, iv (Int32.ofNat ls.length), rv b102, iv (Int32.ofNat ls.length), .unset]) rfl) (hE 10 rfl) rfl) (hE 11 rfl) rfl) (hE 12 rfl) rfl (teq (rfl : (Int32.ofNat ls.length) = (Int32.ofNat ls.length))).1 (pc' := 57) (by decide)) (hE 25 rfl) rfl rfl
    have K116 : Keep h0 T109.heap [] := (((Keep.refl h0 []).ext E102).trans K109 (allS (P := fun x => x ∈ [] ∨ h0.size ≤ x) (Or.inr (Nat.le_of_eq gb102.symm)) all0))
    have y117 := (F102.keep K109)
    refine own_leave X109 Bd (some (.ref b102)) nofun g115 (fun fs hr => retOut X109 hx Bd.returns rfl (Or.inr (Or.inr (Or.inr (Or.inr ⟨rfl, rfl, rfl⟩)))) (hE 26 rfl) hr) (by decide) (by decide) ?_
    exact ⟨b102, k102, (0 : Int32), (Int32.ofNat ls.length), (own_lb ls), rfl, N109, K116, (Nat.le_of_eq gb102.symm), y117, y114, Or.inl ⟨rfl, rfl, rfl, c107⟩⟩
  obtain ⟨rn, hr1, hr2, hr3⟩ := own_first (fun i => (255 : Int32) < ls.getD i 0) ls.length c107
  have y119 := (A0_.ext E102)
  have ge120 : n0 ≤ b102 := Nat.le_trans (own_old_le O0) (Nat.le_of_eq gb102.symm)
  obtain ⟨_, L118, T118, ⟨rfl, M118, K118, y121⟩, X118, st118⟩ := own_callS X102 hx hZ hown (hw _ (mi 39 rfl)) (wd3 hw) (rm_cmpG hw s1 b102 ks k102 ls rn h102 n0 O104 y119 y105 ge120 (Nat.ne_of_lt (Nat.lt_of_lt_of_le A0_.lt (Nat.le_of_eq gb102.symm))) hB (Nat.le_of_lt hr1) (hr3) (fun _ => hr2)) g108 e102 [] rfl (lenOf pd_3 rfl) (hE 8 rfl) hml.symm 0 rfl (by decide)
  have N118 := Fr.app N0 M118
  have O122 := O104.keep K118 (allS ge120 all0)
  have g123 := jI X118 hx (jI X118 hx (jA X118 hx (jn X118 hx (jI X118 hx (ji X118 hx (js X118 hx st118 (hE 9 rfl) rfl (l' := #[rv s1, iv 0, iv (Int32.ofNat ls.length), rv b102, iv (Int32.ofNat rn), .unset]) rfl) (hE 10 rfl) rfl) (hE 11 rfl) rfl) (hE 12 rfl) rfl (feq (own_inj (by omega) (by omega) (by omega) : ¬ ((Int32.ofNat rn) = (Int32.ofNat ls.length)))).1) (hE 13 rfl) rfl rfl) (hE 14 rfl) rfl) (hE 15 rfl) rfl
  have y125 := (y119.keep K118 (ninS (Nat.ne_of_lt (Nat.lt_of_lt_of_le A0_.lt (Nat.le_of_eq gb102.symm))) nin0))
  obtain ⟨_, L124, T124, ⟨r126, r127, rfl, M124, K124, y128, y129, y130⟩, X124, st124⟩ := own_callS X118 hx hZ hown (hw _ (mi 302 rfl)) (wd4 hw) (rm_u2bG hw s1 ks ls cs fm T118.heap n0 O122 y125 hB hW) g123 rfl [] rfl (lenOf pd_4 rfl) (hE 16 rfl) hml.symm 0 rfl (by decide)
  have N124 := Fr.app N118 M124
  have O131 := O122.keep K124 all0
  have g132 := ji X124 hx (ja X124 hx (jt X124 hx st124 (hE 17 rfl) rfl rfl (l' := #[rv s1, iv 0, iv (Int32.ofNat ls.length), rv b102, iv (Int32.ofNat rn), rv r126]) rfl) (hE 18 rfl) rfl rfl) (hE 19 rfl) rfl
  obtain ⟨_, L133, T133, ⟨rfl, M133, e133⟩, X133, st133⟩ := own_callS X124 hx hZ hown (hw _ (mi 312 rfl)) (wd5 hw) (rm_getG hw r126 rn r127 ls cs fm T124.heap n0 O131 y130 (by omega) (hr1) hch hW) g132 rfl [] rfl (lenOf pd_5 rfl) (hE 20 rfl) hml.symm 0 rfl (by decide)
  have N133 := Fr.app N124 M133
  have g134 := ja X133 hx (jy X133 hx (jp X133 hx st133 (hE 21 rfl) 255 rfl) (hE 22 rfl) rfl (tlt hr2).2.2.1 (pc' := 54) (by decide)) (hE 23 rfl) rfl rfl
  have K135 : Keep h0 T124.heap [] := ((((Keep.refl h0 []).ext E102).trans K118 (allS (P := fun x => x ∈ [] ∨ h0.size ≤ x) (Or.inr (Nat.le_of_eq gb102.symm)) all0)).trans K124 (fun x hx => nomatch hx))
  refine own_leave X133 Bd (some (.ref r126)) nofun g134 (fun fs hr => retOut X133 hx Bd.returns rfl (Or.inr (Or.inr (Or.inr (Or.inr ⟨rfl, rfl, rfl⟩)))) (hE 24 rfl) hr) (by decide) (by decide) ?_
  rw [e133]
  exact ⟨r126, r127, (1 : Int32), (Int32.ofNat (2 * ls.length)), (own_wb ls), rfl, N133, K135, (Nat.le_trans (Nat.le_trans E102.1 K118.1) y128), y129, y130, Or.inr ⟨rfl, rfl, rfl⟩⟩
theorem rm_cfaL (hw : HW a0 Z) (b1 : Addr) (kid : ClassId) (vs : List Value) (ls : List Int32) (h0 : Heap) (n0 : Nat) (O0 : Old Z n0 h0) (A0_ : Arv Z h0 b1 kid .byte (Int32.ofNat ls.length) vs (.int 0)) :
    own_M l mN10 (Jvm.Cond.code mN10 jdk_52_method_15_code 2 (some .byte)) [] (⟨0, 0, 0, 0⟩ : Room) #[(.ref b1), (.int (Int32.ofNat ls.length))] Z h0 (fun v h L => v = some (.int 0) ∧ Fr n0 L ∧ h = h0) := by
  refine own_open n0 (plainFor_of_name pn_2) (fun m => ef_RI2 m b1 (Int32.ofNat ls.length) ) ?_
  intro p e s m below meth c s₁ A0 Bd hx hby hml hown hnm hZ hh X0 e0 N0 g0
  have hE := own_hd hby E10
  have g101 := jA X0 hx (jI X0 hx g0 (hE 0 rfl) rfl) (hE 1 rfl) rfl rfl
  have zz102 := A0_
  obtain ⟨cl102, Ar102, -, S102, M102, -, -⟩ := zz102
  have g103 : Go p e below s₁ (mkF m 3 #[rv b1, iv (Int32.ofNat ls.length)] [(.int (Int32.ofNat ls.length)), (.int (Int32.ofNat ls.length))]) A0 := by
    intro t kont
    refine g101 t ?_
    refine X0.arraylength hx (by rw [e0]; exact Ar102.1) (State.isArrayOf_alike hZ.alike Ar102.2.1) (g := (mkF m 2 #[rv b1, iv (Int32.ofNat ls.length)] [(.ref b1), (.int (Int32.ofNat ls.length))])) rfl rfl (hE 2 rfl) _ ?_
    rw [len_of S102 M102]
    exact kont
  have g104 := jx X0 hx (show Go p e below s₁ (mkF m 7 #[rv b1, iv (Int32.ofNat ls.length)] [(.int ((((Int32.ofNat ls.length) - (Int32.ofNat ls.length)).toUInt32 >>> ((31 : Int32) &&& 31).toUInt32).toInt32))]) A0 from fun t kt => (jb X0 hx (jM X0 hx g103 (hE 3 rfl) rfl) (hE 4 rfl) 31 rfl) t (by refine XS.iushr X0.here hx rfl (hE 5 rfl) rfl ?_; exact kt)) (hE 6 rfl) rfl
  refine own_leave X0 Bd (some (.int (((((Int32.ofNat ls.length) - (Int32.ofNat ls.length)).toUInt32 >>> ((31 : Int32) &&& 31).toUInt32).toInt32).toInt8.toInt32))) nofun g104 (fun fs hr => retN X0 hx (t := .byte) Bd.returns (by simp) (hE 7 rfl) (by rw [(own_narb _)]; exact hr)) (by decide) (by decide) ?_
  rw [e0]
  exact ⟨congrArg (fun z => some (Value.int z)) (own_cfa0 _), N0, rfl⟩
theorem rm_cfaU (hw : HW a0 Z) (b1 : Addr) (kid : ClassId) (vs : List Value) (ls : List Int32) (h0 : Heap) (n0 : Nat) (O0 : Old Z n0 h0) (A0_ : Arv Z h0 b1 kid .byte (Int32.ofNat (2 * ls.length)) vs (.int 0)) (hn0 : 0 < ls.length) (hB : ls.length ≤ 2) :
    own_M l mN10 (Jvm.Cond.code mN10 jdk_52_method_15_code 2 (some .byte)) [] (⟨0, 0, 0, 0⟩ : Room) #[(.ref b1), (.int (Int32.ofNat ls.length))] Z h0 (fun v h L => v = some (.int 1) ∧ Fr n0 L ∧ h = h0) := by
  refine own_open n0 (plainFor_of_name pn_2) (fun m => ef_RI2 m b1 (Int32.ofNat ls.length) ) ?_
  intro p e s m below meth c s₁ A0 Bd hx hby hml hown hnm hZ hh X0 e0 N0 g0
  have hE := own_hd hby E10
  have g101 := jA X0 hx (jI X0 hx g0 (hE 0 rfl) rfl) (hE 1 rfl) rfl rfl
  have zz102 := A0_
  obtain ⟨cl102, Ar102, -, S102, M102, -, -⟩ := zz102
  have g103 : Go p e below s₁ (mkF m 3 #[rv b1, iv (Int32.ofNat ls.length)] [(.int (Int32.ofNat (2 * ls.length))), (.int (Int32.ofNat ls.length))]) A0 := by
    intro t kont
    refine g101 t ?_
    refine X0.arraylength hx (by rw [e0]; exact Ar102.1) (State.isArrayOf_alike hZ.alike Ar102.2.1) (g := (mkF m 2 #[rv b1, iv (Int32.ofNat ls.length)] [(.ref b1), (.int (Int32.ofNat ls.length))])) rfl rfl (hE 2 rfl) _ ?_
    rw [len_of S102 M102]
    exact kont
  have g104 := jx X0 hx (show Go p e below s₁ (mkF m 7 #[rv b1, iv (Int32.ofNat ls.length)] [(.int ((((Int32.ofNat ls.length) - (Int32.ofNat (2 * ls.length))).toUInt32 >>> ((31 : Int32) &&& 31).toUInt32).toInt32))]) A0 from fun t kt => (jb X0 hx (jM X0 hx g103 (hE 3 rfl) rfl) (hE 4 rfl) 31 rfl) t (by refine XS.iushr X0.here hx rfl (hE 5 rfl) rfl ?_; exact kt)) (hE 6 rfl) rfl
  refine own_leave X0 Bd (some (.int (((((Int32.ofNat ls.length) - (Int32.ofNat (2 * ls.length))).toUInt32 >>> ((31 : Int32) &&& 31).toUInt32).toInt32).toInt8.toInt32))) nofun g104 (fun fs hr => retN X0 hx (t := .byte) Bd.returns (by simp) (hE 7 rfl) (by rw [(own_narb _)]; exact hr)) (by decide) (by decide) ?_
  rw [e0]
  exact ⟨congrArg (fun z => some (Value.int z)) (own_cfa1 hn0 (by omega)), N0, rfl⟩
theorem wd6 (hw : HW a0 Z) : own_wdS a0 Z mN9 jdk_52_method_16_code 6 (some (.array .byte)) := ⟨hw _ (mi 36 rfl), hw _ (mi 37 rfl), hw _ (mi 38 rfl), by decide⟩
theorem pd_6 : parseMethodDescriptor "([BI)B" = some ⟨[(.array .byte), .int], some .byte⟩ := by decide +kernel
theorem wd7 (hw : HW a0 Z) : own_wdS a0 Z mN10 jdk_52_method_15_code 2 (some .byte) := ⟨hw _ (mi 43 rfl), hw _ (mi 37 rfl), hw _ (mi 44 rfl), by decide⟩
theorem ef_RRIIN6 (m : MethodId) (x0 : Addr) (x1 : Addr) (x2 : Int32) (x3 : Int32)  : entryFrame m #[(.ref x0), (.ref x1), (.int x2), (.int x3), .null] 6 = mkF m 0 #[.val (.ref x0), .val (.ref x1), .val (.int x2), .val (.int x3), .val .null, .unset] [] := by first | (simp [entryFrame, mkF, argsToLocals, Value.category]; done) | rfl
theorem rm_sinG (hw : HW a0 Z) (a1 s1 : Addr) (ks : ClassId) (ls : List Int32) (cs : Int32) (fm : Value) (h0 : Heap) (n0 : Nat) (O0 : Old Z n0 h0) (F0_ : Fld Z h0 a1 "java/lang/String" "value" "[B" .null) (F1_ : Fld Z h0 a1 "java/lang/String" "coder" "B" (.int 0)) (E2_ : Exa Z h0 a1 "java/lang/String") (G3_ : n0 ≤ a1) (A4_ : Arv Z h0 s1 ks .char (Int32.ofNat ls.length) (ls.map Value.int) (.int 0)) (hB : ls.length ≤ 2) (hn0 : 0 < ls.length) (hch : own_chars ls) (hW : own_W Z cs fm) :
    own_M l mN11 (Jvm.Cond.code mN11 jdk_42_method_149_code 6 none) [] (⟨4, 2, 6, 57⟩ : Room) #[(.ref a1), (.ref s1), (.int 0), (.int (Int32.ofNat ls.length)), .null] Z h0 (fun v h L => ∃ (r : Addr), ∃ (kid : ClassId), ∃ (cd : Int32), ∃ (z : Int32), ∃ (vs : List Value), v = none ∧ Fr n0 L ∧ Keep h0 h [a1] ∧ (Exa Z h a1 "java/lang/String") ∧ (Fld Z h a1 "java/lang/String" "coder" "B" (.int cd)) ∧ (Fld Z h a1 "java/lang/String" "value" "[B" (.ref r)) ∧ h0.size ≤ r ∧ (Arv Z h r kid .byte z vs (.int 0)) ∧ (own_cod ls cd z vs)) := by
  refine own_open n0 (plainFor_of_name pn_1) (fun m => ef_RRIIN6 m a1 s1 (0 : Int32) (Int32.ofNat ls.length) ) ?_
  intro p e s m below meth c s₁ A0 Bd hx hby hml hown hnm hZ hh X0 e0 N0 g0
  obtain ⟨SC_, hcs, SF_, hfm, SU1_, SU2_, SU3_⟩ := id hW
  have hE := own_hd hby E7
  have g101 := jA X0 hx g0 (hE 0 rfl) rfl rfl
  let lo103 : Array Slot := #[rv a1, rv s1, iv 0, iv (Int32.ofNat ls.length), .val .null, .unset]
  obtain ⟨T102, X102, e102, st102⟩ := initO X0 hx hZ hown (hw _ (mi 20 rfl)) (hw _ (mi 21 rfl)) (hw _ (mi 22 rfl)) e0 (g := (mkF m 1 lo103 [(.ref a1)])) rfl (by rw [hml]; rfl) rfl (hE 1 rfl) (by decide) (W := 0) (by show 2 * 0 + _ ≤ _; exact Nat.le_of_eq rfl) (by decide)
  have g104 : Go p e below T102 (mkF m 4 lo103 []) A0 := fun t kont => g101 t (st102 t kont)
  have g105 := jY X102 hx (jI X102 hx g104 (hE 2 rfl) rfl) (hE 3 rfl) rfl ((if0 _ _).trans (feq (own_inj (b := 0) (by omega) (by omega) (by omega) : ¬ ((Int32.ofNat ls.length) = (0 : Int32)))).2) (pc' := 27) (by decide)
  have y106 := SC_.ext O0.2
  obtain ⟨T107, X107, e107, g107⟩ := own_getS X102 hx hZ hown (hw _ (mi 5 rfl)) Via.refl e102 y106 g105 (hE 4 rfl)
  have g108 := jI X107 hx (jI X107 hx (jA X107 hx (jN X107 hx g107 (hE 5 rfl) rfl ((if0 _ _).trans (feq hcs).1)) (hE 6 rfl) rfl rfl) (hE 7 rfl) rfl) (hE 8 rfl) rfl
  obtain ⟨_, L109, T109, ⟨r110, r111, r112, r113, r114, rfl, M109, K109, y115, y116, y117, y118⟩, X109, st109⟩ := own_callS X107 hx hZ hown (hw _ (mi 35 rfl)) (wd6 hw) (rm_comG hw s1 ks ls cs fm h0 n0 O0 A4_ hB hch hW) g108 e107 [] rfl (lenOf pd_4 rfl) (hE 9 rfl) hml.symm 0 rfl (by decide)
  have N109 := Fr.app N0 M109
  have O119 := O0.keep K109 all0
  have g120 := jI X109 hx (ja X109 hx (jA X109 hx (jt X109 hx st109 (hE 10 rfl) rfl rfl (l' := #[rv a1, rv s1, iv 0, iv (Int32.ofNat ls.length), .val .null, rv r110]) rfl) (hE 11 rfl) rfl rfl) (hE 12 rfl) rfl rfl) (hE 13 rfl) rfl
  rcases y118 with ⟨rfl, rfl, rfl, hlat⟩ | ⟨rfl, rfl, rfl⟩
  ·
    obtain ⟨_, L121, T121, ⟨rfl, M121, e121⟩, X121, st121⟩ := own_callS X109 hx hZ hown (hw _ (mi 42 rfl)) (wd7 hw) (rm_cfaL hw r110 r111 (own_lb ls) ls T109.heap n0 O119 y117) g120 rfl [(.ref a1)] rfl (lenOf pd_6 rfl) (hE 14 rfl) hml.symm 1 rfl (by decide)
    have N121 := Fr.app N109 M121
    have y122 := (E2_.keep K109)
    have y123 := (F1_.keep K109 nin0)
    let lo125 : Array Slot := #[rv a1, rv s1, iv 0, iv (Int32.ofNat ls.length), .val .null, rv r110]
    obtain ⟨T124, h124, X124, e124, W124, st124⟩ := putFN X121 hx hZ hown (hw _ (mi 25 rfl)) Via.refl e121 y123 y122 (Or.inr ⟨(hw _ (mi 26 rfl)), rfl, hnm⟩) (hw _ (mi 11 rfl)) (ty := .byte) (v := (.int 0)) (v' := (.int 0)) (by decide) (own_nw_byte (by decide : nar .byte (0 : Int32) = (0 : Int32))) (own_ft_byte (by decide : nar .byte (0 : Int32) = (0 : Int32))) (g := (mkF m 48 lo125 [(.int 0), (.ref a1)])) rfl rfl (hE 15 rfl)
    have O126 := O119.wr W124 G3_
    have y127 : Fld Z h124 a1 "java/lang/String" "coder" "B" (.int 0) := y123.same W124
    have N124 := Fr.snoc X124 N121 G3_
    have g128 : Go p e below T124 (mkF m 51 lo125 []) A0 := fun t kont => st121 t (st124 t kont)
    have g129 := ja X124 hx (jA X124 hx g128 (hE 16 rfl) rfl rfl) (hE 17 rfl) rfl rfl
    have y130 := (y122.wr W124)
    have y131 := ((F0_.keep K109 nin0).other W124 (Or.inr (slot_ne (Or.inr (hw _ (mi 24 rfl))) (Or.inr (hw _ (mi 26 rfl))) (by decide) (t := (.array .byte)) (t' := .byte) (by decide) (by decide))))
    obtain ⟨T132, h132, X132, e132, W132, st132⟩ := putF X124 hx hZ hown (host := "") (Or.inl (hw _ (mi 23 rfl))) Via.refl e124 y131 y130 (Or.inr ⟨(hw _ (mi 24 rfl)), rfl, hnm⟩) (hw _ (mi 11 rfl)) (ty := (.array .byte)) (by decide) rfl rfl (g := (mkF m 54 lo125 [(.ref r110), (.ref a1)])) rfl rfl (hE 18 rfl)
    have O133 := O126.wr W132 G3_
    have y134 : Fld Z h132 a1 "java/lang/String" "value" "[B" (.ref r110) := y131.same W132
    have N132 := Fr.snoc X132 N124 G3_
    have g135 : Go p e below T132 (mkF m 57 lo125 []) A0 := fun t kont => g129 t (st132 t kont)
    have K136 : Keep h0 h132 [a1] := ((((Keep.refl h0 [a1]).trans K109 (fun x hx => nomatch hx)).wr W124 (Or.inl (mi 0 rfl))).wr W132 (Or.inl (mi 0 rfl)))
    have y137 := (y130.wr W132)
    have y138 := (y127.other W132 (Or.inr (slot_ne (Or.inr (hw _ (mi 26 rfl))) (Or.inr (hw _ (mi 24 rfl))) (by decide) (t := .byte) (t' := (.array .byte)) (by decide) (by decide))))
    have y139 := ((y117.other W124 (Ne.symm (Nat.ne_of_lt (Nat.lt_of_lt_of_le F0_.lt y115)))).other W132 (Ne.symm (Nat.ne_of_lt (Nat.lt_of_lt_of_le F0_.lt y115))))
    refine own_leave X132 Bd (none) (fun _ => rfl) g135 (fun fs hr => X132.returnOut hx Bd.returns (hE 19 rfl) hr) (by decide) (by decide) ?_
    rw [e132]
    exact ⟨r110, r111, (0 : Int32), (Int32.ofNat ls.length), (own_lb ls), rfl, N132, K136, y137, y138, y134, y115, y139, Or.inl ⟨rfl, rfl, rfl, hlat⟩⟩
  obtain ⟨_, L140, T140, ⟨rfl, M140, e140⟩, X140, st140⟩ := own_callS X109 hx hZ hown (hw _ (mi 42 rfl)) (wd7 hw) (rm_cfaU hw r110 r111 (own_wb ls) ls T109.heap n0 O119 y117 hn0 hB) g120 rfl [(.ref a1)] rfl (lenOf pd_6 rfl) (hE 14 rfl) hml.symm 1 rfl (by decide)
  have N140 := Fr.app N109 M140
  have y141 := (E2_.keep K109)
  have y142 := (F1_.keep K109 nin0)
  let lo144 : Array Slot := #[rv a1, rv s1, iv 0, iv (Int32.ofNat ls.length), .val .null, rv r110]
  obtain ⟨T143, h143, X143, e143, W143, st143⟩ := putFN X140 hx hZ hown (hw _ (mi 25 rfl)) Via.refl e140 y142 y141 (Or.inr ⟨(hw _ (mi 26 rfl)), rfl, hnm⟩) (hw _ (mi 11 rfl)) (ty := .byte) (v := (.int 1)) (v' := (.int 1)) (by decide) (own_nw_byte (by decide : nar .byte (1 : Int32) = (1 : Int32))) (own_ft_byte (by decide : nar .byte (1 : Int32) = (1 : Int32))) (g := (mkF m 48 lo144 [(.int 1), (.ref a1)])) rfl rfl (hE 15 rfl)
  have O145 := O119.wr W143 G3_
  have y146 : Fld Z h143 a1 "java/lang/String" "coder" "B" (.int 1) := y142.same W143
  have N143 := Fr.snoc X143 N140 G3_
  have g147 : Go p e below T143 (mkF m 51 lo144 []) A0 := fun t kont => st140 t (st143 t kont)
  have g148 := ja X143 hx (jA X143 hx g147 (hE 16 rfl) rfl rfl) (hE 17 rfl) rfl rfl
  have y149 := (y141.wr W143)
  have y150 := ((F0_.keep K109 nin0).other W143 (Or.inr (slot_ne (Or.inr (hw _ (mi 24 rfl))) (Or.inr (hw _ (mi 26 rfl))) (by decide) (t := (.array .byte)) (t' := .byte) (by decide) (by decide))))
  obtain ⟨T151, h151, X151, e151, W151, st151⟩ := putF X143 hx hZ hown (host := "") (Or.inl (hw _ (mi 23 rfl))) Via.refl e143 y150 y149 (Or.inr ⟨(hw _ (mi 24 rfl)), rfl, hnm⟩) (hw _ (mi 11 rfl)) (ty := (.array .byte)) (by decide) rfl rfl (g := (mkF m 54 lo144 [(.ref r110), (.ref a1)])) rfl rfl (hE 18 rfl)
  have O152 := O145.wr W151 G3_
  have y153 : Fld Z h151 a1 "java/lang/String" "value" "[B" (.ref r110) := y150.same W151
  have N151 := Fr.snoc X151 N143 G3_
  have g154 : Go p e below T151 (mkF m 57 lo144 []) A0 := fun t kont => g148 t (st151 t kont)
  have K155 : Keep h0 h151 [a1] := ((((Keep.refl h0 [a1]).trans K109 (fun x hx => nomatch hx)).wr W143 (Or.inl (mi 0 rfl))).wr W151 (Or.inl (mi 0 rfl)))
  have y156 := (y149.wr W151)
  have y157 := (y146.other W151 (Or.inr (slot_ne (Or.inr (hw _ (mi 26 rfl))) (Or.inr (hw _ (mi 24 rfl))) (by decide) (t := .byte) (t' := (.array .byte)) (by decide) (by decide))))
  have y158 := ((y117.other W143 (Ne.symm (Nat.ne_of_lt (Nat.lt_of_lt_of_le F0_.lt y115)))).other W151 (Ne.symm (Nat.ne_of_lt (Nat.lt_of_lt_of_le F0_.lt y115))))
  refine own_leave X151 Bd (none) (fun _ => rfl) g154 (fun fs hr => X151.returnOut hx Bd.returns (hE 19 rfl) hr) (by decide) (by decide) ?_
  rw [e151]
  exact ⟨r110, r111, (1 : Int32), (Int32.ofNat (2 * ls.length)), (own_wb ls), rfl, N151, K155, y156, y157, y153, y115, y158, Or.inr ⟨rfl, rfl, rfl⟩⟩
theorem pd_7 : parseMethodDescriptor "([CIILjava/lang/Void;)V" = some ⟨[(.array .char), .int, .int, (.object "java/lang/Void")], none⟩ := by decide +kernel
theorem wd8 (hw : HW a0 Z) : own_wdI a0 Z mN11 jdk_42_method_149_code 6 := ⟨hw _ (mi 33 rfl), hw _ (mi 3 rfl), hw _ (mi 34 rfl), by decide, rfl⟩
theorem ef_RR2 (m : MethodId) (x0 : Addr) (x1 : Addr)  : entryFrame m #[(.ref x0), (.ref x1)] 2 = mkF m 0 #[.val (.ref x0), .val (.ref x1)] [] := by first | (simp [entryFrame, mkF, argsToLocals, Value.category]; done) | rfl
theorem rm_sIniG (hw : HW a0 Z) (a1 s1 : Addr) (ks : ClassId) (ls : List Int32) (cs : Int32) (fm : Value) (h0 : Heap) (n0 : Nat) (O0 : Old Z n0 h0) (F0_ : Fld Z h0 a1 "java/lang/String" "value" "[B" .null) (F1_ : Fld Z h0 a1 "java/lang/String" "coder" "B" (.int 0)) (E2_ : Exa Z h0 a1 "java/lang/String") (G3_ : n0 ≤ a1) (A4_ : Arv Z h0 s1 ks .char (Int32.ofNat ls.length) (ls.map Value.int) (.int 0)) (hB : ls.length ≤ 2) (hn0 : 0 < ls.length) (hch : own_chars ls) (hW : own_W Z cs fm) :
    own_M l mN12 (Jvm.Cond.code mN12 jdk_42_method_3_code 2 none) [] (⟨5, 2, 6, 74⟩ : Room) #[(.ref a1), (.ref s1)] Z h0 (fun v h L => ∃ (r : Addr), ∃ (kid : ClassId), ∃ (cd : Int32), ∃ (z : Int32), ∃ (vs : List Value), v = none ∧ Fr n0 L ∧ Keep h0 h [a1] ∧ (Exa Z h a1 "java/lang/String") ∧ (Fld Z h a1 "java/lang/String" "coder" "B" (.int cd)) ∧ (Fld Z h a1 "java/lang/String" "value" "[B" (.ref r)) ∧ h0.size ≤ r ∧ (Arv Z h r kid .byte z vs (.int 0)) ∧ (own_cod ls cd z vs)) := by
  refine own_open n0 (plainFor_of_name pn_1) (fun m => ef_RR2 m a1 s1 ) ?_
  intro p e s m below meth c s₁ A0 Bd hx hby hml hown hnm hZ hh X0 e0 N0 g0
  obtain ⟨SC_, hcs, SF_, hfm, SU1_, SU2_, SU3_⟩ := id hW
  have hE := own_hd hby E6
  have g101 := jA X0 hx (jc X0 hx (jA X0 hx (jA X0 hx g0 (hE 0 rfl) rfl rfl) (hE 1 rfl) rfl rfl) (hE 2 rfl) 0 rfl) (hE 3 rfl) rfl rfl
  have zz102 := A4_
  obtain ⟨cl102, Ar102, -, S102, M102, -, -⟩ := zz102
  have g103 : Go p e below s₁ (mkF m 5 #[rv a1, rv s1] [(.int (Int32.ofNat ls.length)), (.int 0), (.ref s1), (.ref a1)]) A0 := by
    intro t kont
    refine g101 t ?_
    refine X0.arraylength hx (by rw [e0]; exact Ar102.1) (State.isArrayOf_alike hZ.alike Ar102.2.1) (g := (mkF m 4 #[rv a1, rv s1] [(.ref s1), (.int 0), (.ref s1), (.ref a1)])) rfl rfl (hE 4 rfl) _ ?_
    rw [len_of S102 M102]
    exact kont
  have g104 := show Go p e below s₁ (mkF m 6 #[rv a1, rv s1] [.null, (.int (Int32.ofNat ls.length)), (.int 0), (.ref s1), (.ref a1)]) A0 from fun t kt => g103 t (by refine XS.aconstNull X0.here hx rfl (hE 5 rfl) ?_; exact kt)
  obtain ⟨_, L105, T105, ⟨r106, r107, r108, r109, r110, rfl, M105, K105, y111, y112, y113, y114, y115, y116⟩, X105, st105⟩ := own_callI X0 hx hZ hown (hw _ (mi 32 rfl)) (wd8 hw) (rm_sinG hw a1 s1 ks ls cs fm h0 n0 O0 F0_ F1_ E2_ G3_ A4_ hB hn0 hch hW) g104 e0 [] rfl (lenOf pd_7 rfl) (hE 6 rfl) hml.symm 0 rfl (by decide)
  have N105 := Fr.app N0 M105
  have O117 := O0.keep K105 (allS G3_ all0)
  have K118 : Keep h0 T105.heap [a1] := ((Keep.refl h0 [a1]).trans K105 (allS (P := fun x => x ∈ [a1] ∨ h0.size ≤ x) (Or.inl (mi 0 rfl)) all0))
  refine own_leave X105 Bd (none) (fun _ => rfl) st105 (fun fs hr => X105.returnOut hx Bd.returns (hE 7 rfl) hr) (by decide) (by decide) ?_
  exact ⟨r106, r107, r108, r109, r110, rfl, N105, K118, y111, y112, y113, y114, y115, y116⟩
theorem ef_R1 (m : MethodId) (x0 : Addr)  : entryFrame m #[(.ref x0)] 1 = mkF m 0 #[.val (.ref x0)] [] := by first | (simp [entryFrame, mkF, argsToLocals, Value.category]; done) | rfl
theorem rm_cdrG (hw : HW a0 Z) (a1 : Addr) (cs cd : Int32) (h0 : Heap) (n0 : Nat) (O0 : Old Z n0 h0) (S0_ : Sta Z Z.heap "java/lang/String" "COMPACT_STRINGS" "Z" (.int cs)) (hcs : ¬ (cs = (0 : Int32))) (F2_ : Fld Z h0 a1 "java/lang/String" "coder" "B" (.int cd)) (h01 : cd = (0 : Int32) ∨ cd = (1 : Int32)) :
    own_M l mN13 (Jvm.Cond.code mN13 jdk_42_method_152_code 1 (some .byte)) [] (⟨0, 0, 0, 0⟩ : Room) #[(.ref a1)] Z h0 (fun v h L => v = some (.int cd) ∧ Fr n0 L ∧ h = h0) := by
  refine own_open n0 (plainFor_of_name pn_1) (fun m => ef_R1 m a1 ) ?_
  intro p e s m below meth c s₁ A0 Bd hx hby hml hown hnm hZ hh X0 e0 N0 g0
  have hE := own_hd hby E30
  have r_cd : nar .byte cd = cd := own_nar01 h01
  have y101 := S0_.ext O0.2
  obtain ⟨T102, X102, e102, g102⟩ := own_getS X0 hx hZ hown (hw _ (mi 5 rfl)) Via.refl e0 y101 g0 (hE 0 rfl)
  have g103 := jA X102 hx (jN X102 hx g102 (hE 1 rfl) rfl ((if0 _ _).trans (feq hcs).1)) (hE 2 rfl) rfl rfl
  obtain ⟨T104, X104, e104, g104⟩ := own_getF X102 hx hZ hown (hw _ (mi 25 rfl)) Via.refl e102 F2_ g103 (hE 3 rfl)
  have g105 := jg X104 hx g104 (hE 4 rfl) (pc' := 14) (by decide)
  refine own_leave X104 Bd (some (.int cd)) nofun g105 (fun fs hr => retN X104 hx (t := .byte) Bd.returns (by simp) (hE 5 rfl) (by rw [r_cd]; exact hr)) (by decide) (by decide) ?_
  rw [e104]
  exact ⟨rfl, N0, rfl⟩
theorem pd_8 : parseMethodDescriptor "()B" = some ⟨[], some .byte⟩ := by decide +kernel
theorem wd9 (hw : HW a0 Z) : own_wdV a0 Z "java/lang/String" mN13 mN13 jdk_42_method_152_code 1 (some .byte) := ⟨hw _ (mi 152 rfl), hw _ (mi 154 rfl), hw _ (mi 153 rfl), hw _ (mi 3 rfl), hw _ (mi 155 rfl), by decide⟩
theorem rm_lenG (hw : HW a0 Z) (a1 v1 : Addr) (kv : ClassId) (cd z1 : Int32) (vs : List Value) (ls : List Int32) (cs : Int32) (h0 : Heap) (n0 : Nat) (O0 : Old Z n0 h0) (S0_ : Sta Z Z.heap "java/lang/String" "COMPACT_STRINGS" "Z" (.int cs)) (hcs : ¬ (cs = (0 : Int32))) (F2_ : Fld Z h0 a1 "java/lang/String" "value" "[B" (.ref v1)) (F3_ : Fld Z h0 a1 "java/lang/String" "coder" "B" (.int cd)) (E4_ : Exa Z h0 a1 "java/lang/String") (A5_ : Arv Z h0 v1 kv .byte z1 vs (.int 0)) (hcod : own_cod ls cd z1 vs) (hB : ls.length ≤ 40) :
    own_M l mN14 (Jvm.Cond.code mN14 jdk_42_method_54_code 1 (some .int)) [] (⟨1, 0, 0, 13⟩ : Room) #[(.ref a1)] Z h0 (fun v h L => v = some (.int (Int32.ofNat ls.length)) ∧ Fr n0 L ∧ h = h0) := by
  refine own_open n0 (plainFor_of_name pn_1) (fun m => ef_R1 m a1 ) ?_
  intro p e s m below meth c s₁ A0 Bd hx hby hml hown hnm hZ hh X0 e0 N0 g0
  have hE := own_hd hby E29
  have g101 := jA X0 hx g0 (hE 0 rfl) rfl rfl
  obtain ⟨T102, X102, e102, g102⟩ := own_getF X0 hx hZ hown (hw _ (mi 23 rfl)) Via.refl e0 F2_ g101 (hE 1 rfl)
  have zz103 := A5_
  obtain ⟨cl103, Ar103, -, S103, M103, -, -⟩ := zz103
  have g104 : Go p e below T102 (mkF m 5 #[rv a1] [(.int z1)]) A0 := by
    intro t kont
    refine g102 t ?_
    refine X102.arraylength hx (by rw [e102]; exact Ar103.1) (State.isArrayOf_alike hZ.alike Ar103.2.1) (g := (mkF m 4 #[rv a1] [(.ref v1)])) rfl rfl (hE 2 rfl) _ ?_
    rw [len_of S103 M103]
    exact kont
  have g105 := jA X102 hx g104 (hE 3 rfl) rfl rfl
  obtain ⟨_, L106, T106, ⟨rfl, M106, e106⟩, X106, st106⟩ := own_callV X102 hx hZ hown (hw _ (mi 151 rfl)) (wd9 hw) (notFace_of_selects (args := #[]) (mvT hZ (hw _ (mi 154 rfl)))) E4_ (rm_cdrG hw a1 cs cd h0 n0 O0 S0_ hcs F3_ (own_cod01 hcod)) g105 e102 [(.int z1)] rfl (lenOf pd_8 rfl) (hE 4 rfl) hml.symm 1 rfl (by decide)
  have N106 := Fr.app N0 M106
  have g107 := jR X106 hx st106 (hE 5 rfl) rfl
  refine own_leave X106 Bd (some (.int (z1 >>> (cd &&& 31)))) nofun g107 (fun fs hr => retI X106 hx Bd.returns (hE 6 rfl) hr) (by decide) (by decide) ?_
  rw [e106]
  exact ⟨congrArg (fun z => some (Value.int z)) (own_cdlen hcod (by omega)), N106, rfl⟩
theorem rm_isl0 (hw : HW a0 Z) (a1 : Addr) (cs : Int32) (h0 : Heap) (n0 : Nat) (O0 : Old Z n0 h0) (S0_ : Sta Z Z.heap "java/lang/String" "COMPACT_STRINGS" "Z" (.int cs)) (hcs : ¬ (cs = (0 : Int32))) (F2_ : Fld Z h0 a1 "java/lang/String" "coder" "B" (.int 0)) :
    own_M l mN15 (Jvm.Cond.code mN15 jdk_42_method_154_code 1 (some .boolean)) [] (⟨0, 0, 0, 0⟩ : Room) #[(.ref a1)] Z h0 (fun v h L => v = some (.int 1) ∧ Fr n0 L ∧ h = h0) := by
  refine own_open n0 (plainFor_of_name pn_1) (fun m => ef_R1 m a1 ) ?_
  intro p e s m below meth c s₁ A0 Bd hx hby hml hown hnm hZ hh X0 e0 N0 g0
  have hE := own_hd hby E33
  have y101 := S0_.ext O0.2
  obtain ⟨T102, X102, e102, g102⟩ := own_getS X0 hx hZ hown (hw _ (mi 5 rfl)) Via.refl e0 y101 g0 (hE 0 rfl)
  have g103 := jA X102 hx (jN X102 hx g102 (hE 1 rfl) rfl ((if0 _ _).trans (feq hcs).1)) (hE 2 rfl) rfl rfl
  obtain ⟨T104, X104, e104, g104⟩ := own_getF X102 hx hZ hown (hw _ (mi 25 rfl)) Via.refl e102 F2_ g103 (hE 3 rfl)
  have g105 := jg X104 hx (jc X104 hx (jN X104 hx g104 (hE 4 rfl) rfl (by decide)) (hE 5 rfl) 1 rfl) (hE 6 rfl) (pc' := 18) (by decide)
  refine own_leave X104 Bd (some (.int 1)) nofun g105 (fun fs hr => retN X104 hx (t := .boolean) Bd.returns (by simp) (hE 8 rfl) hr) (by decide) (by decide) ?_
  rw [e104]
  exact ⟨rfl, N0, rfl⟩
theorem rm_isl1 (hw : HW a0 Z) (a1 : Addr) (cs : Int32) (h0 : Heap) (n0 : Nat) (O0 : Old Z n0 h0) (S0_ : Sta Z Z.heap "java/lang/String" "COMPACT_STRINGS" "Z" (.int cs)) (hcs : ¬ (cs = (0 : Int32))) (F2_ : Fld Z h0 a1 "java/lang/String" "coder" "B" (.int 1)) :
    own_M l mN15 (Jvm.Cond.code mN15 jdk_42_method_154_code 1 (some .boolean)) [] (⟨0, 0, 0, 0⟩ : Room) #[(.ref a1)] Z h0 (fun v h L => v = some (.int 0) ∧ Fr n0 L ∧ h = h0) := by
  refine own_open n0 (plainFor_of_name pn_1) (fun m => ef_R1 m a1 ) ?_
  intro p e s m below meth c s₁ A0 Bd hx hby hml hown hnm hZ hh X0 e0 N0 g0
  have hE := own_hd hby E33
  have y101 := S0_.ext O0.2
  obtain ⟨T102, X102, e102, g102⟩ := own_getS X0 hx hZ hown (hw _ (mi 5 rfl)) Via.refl e0 y101 g0 (hE 0 rfl)
  have g103 := jA X102 hx (jN X102 hx g102 (hE 1 rfl) rfl ((if0 _ _).trans (feq hcs).1)) (hE 2 rfl) rfl rfl
  obtain ⟨T104, X104, e104, g104⟩ := own_getF X102 hx hZ hown (hw _ (mi 25 rfl)) Via.refl e102 F2_ g103 (hE 3 rfl)
  have g105 := jc X104 hx (jY X104 hx g104 (hE 4 rfl) rfl (by decide) (pc' := 17) (by decide)) (hE 7 rfl) 0 rfl
  refine own_leave X104 Bd (some (.int 0)) nofun g105 (fun fs hr => retN X104 hx (t := .boolean) Bd.returns (by simp) (hE 8 rfl) hr) (by decide) (by decide) ?_
  rw [e104]
  exact ⟨rfl, N0, rfl⟩
theorem pn_3 : plainName "jdk/internal/util/Preconditions" = true := by first | (simp [plainName, overriddenIn]; done) | decide +kernel
theorem ef_IIV3 (m : MethodId) (x0 : Int32) (x1 : Int32) (x2 : Value) (h2 : x2.isRef = true) : entryFrame m #[(.int x0), (.int x1), x2] 3 = mkF m 0 #[.val (.int x0), .val (.int x1), .val x2] [] := by (rcases ref_cases h2 with rfl | ⟨_, rfl⟩) <;> first | (simp [entryFrame, mkF, argsToLocals, Value.category]; done) | rfl
theorem rm_pci (hw : HW a0 Z) (i1 i2 : Int32) (fm : Value) (h0 : Heap) (n0 : Nat) (O0 : Old Z n0 h0) (hfm : fm.isRef = true) (hi0 : ¬ (i1 < (0 : Int32))) (hi1 : i1 < i2) :
    own_M l mN16 (Jvm.Cond.code mN16 jdk_41_method_11_code 3 (some .int)) [] (⟨0, 0, 0, 0⟩ : Room) #[(.int i1), (.int i2), fm] Z h0 (fun v h L => v = some (.int i1) ∧ Fr n0 L ∧ h = h0) := by
  refine own_open n0 (plainFor_of_name pn_3) (fun m => ef_IIV3 m i1 i2 fm (hfm)) ?_
  intro p e s m below meth c s₁ A0 Bd hx hby hml hown hnm hZ hh X0 e0 N0 g0
  have hE := own_hd hby E36
  have g101 := jI X0 hx (jy X0 hx (jI X0 hx (jI X0 hx (jN X0 hx (jI X0 hx g0 (hE 0 rfl) rfl) (hE 1 rfl) rfl ((if0 _ _).trans (flt hi0).1)) (hE 2 rfl) rfl) (hE 3 rfl) rfl) (hE 4 rfl) rfl (tlt hi1).1 (pc' := 16) (by decide)) (hE 5 rfl) rfl
  refine own_leave X0 Bd (some (.int i1)) nofun g101 (fun fs hr => retI X0 hx Bd.returns (hE 6 rfl) hr) (by decide) (by decide) ?_
  rw [e0]
  exact ⟨rfl, N0, rfl⟩
theorem pd_9 : parseMethodDescriptor "(IILjava/util/function/BiFunction;)I" = some ⟨[.int, .int, (.object "java/util/function/BiFunction")], some .int⟩ := by decide +kernel
theorem wd10 (hw : HW a0 Z) : own_wdS a0 Z mN16 jdk_41_method_11_code 3 (some .int) := ⟨hw _ (mi 179 rfl), hw _ (mi 177 rfl), hw _ (mi 180 rfl), by decide⟩
theorem ef_II2 (m : MethodId) (x0 : Int32) (x1 : Int32)  : entryFrame m #[(.int x0), (.int x1)] 2 = mkF m 0 #[.val (.int x0), .val (.int x1)] [] := by first | (simp [entryFrame, mkF, argsToLocals, Value.category]; done) | rfl
theorem rm_sci (hw : HW a0 Z) (i1 i2 : Int32) (fm : Value) (cs : Int32) (h0 : Heap) (n0 : Nat) (O0 : Old Z n0 h0) (hi0 : ¬ (i1 < (0 : Int32))) (hi1 : i1 < i2) (hW : own_W Z cs fm) :
    own_M l mN17 (Jvm.Cond.code mN17 jdk_42_method_155_code 2 none) [] (⟨1, 0, 0, 14⟩ : Room) #[(.int i1), (.int i2)] Z h0 (fun v h L => v = none ∧ Fr n0 L ∧ h = h0) := by
  refine own_open n0 (plainFor_of_name pn_1) (fun m => ef_II2 m i1 i2 ) ?_
  intro p e s m below meth c s₁ A0 Bd hx hby hml hown hnm hZ hh X0 e0 N0 g0
  obtain ⟨SC_, hcs, SF_, hfm, SU1_, SU2_, SU3_⟩ := id hW
  have hE := own_hd hby E35
  have g101 := jI X0 hx (jI X0 hx g0 (hE 0 rfl) rfl) (hE 1 rfl) rfl
  have y102 := SF_.ext O0.2
  obtain ⟨T103, X103, e103, g103⟩ := own_getS X0 hx hZ hown (hw _ (mi 176 rfl)) Via.refl e0 y102 g101 (hE 2 rfl)
  obtain ⟨_, L104, T104, ⟨rfl, M104, e104⟩, X104, st104⟩ := own_callS X103 hx hZ hown (hw _ (mi 178 rfl)) (wd10 hw) (rm_pci hw i1 i2 fm h0 n0 O0 hfm hi0 hi1) g103 e103 [] rfl (lenOf pd_9 rfl) (hE 3 rfl) hml.symm 0 rfl (by decide)
  have N104 := Fr.app N0 M104
  have g105 := jo X104 hx st104 (hE 4 rfl) rfl rfl
  refine own_leave X104 Bd (none) (fun _ => rfl) g105 (fun fs hr => X104.returnOut hx Bd.returns (hE 5 rfl) hr) (by decide) (by decide) ?_
  rw [e104]
  exact ⟨rfl, N104, rfl⟩
theorem pd_10 : parseMethodDescriptor "(II)V" = some ⟨[.int, .int], none⟩ := by decide +kernel
theorem wd11 (hw : HW a0 Z) : own_wdS a0 Z mN17 jdk_42_method_155_code 2 none := ⟨hw _ (mi 174 rfl), hw _ (mi 3 rfl), hw _ (mi 175 rfl), by decide⟩
theorem rm_lchG (hw : HW a0 Z) (v1 : Addr) (i1 : Nat) (kv : ClassId) (fm : Value) (ls : List Int32) (cs : Int32) (h0 : Heap) (n0 : Nat) (O0 : Old Z n0 h0) (A0_ : Arv Z h0 v1 kv .byte (Int32.ofNat ls.length) (own_lb ls) (.int 0)) (hB : ls.length ≤ 40) (hi : i1 < ls.length) (hch : own_chars ls) (hlat : own_lat ls) (hW : own_W Z cs fm) :
    own_M l mN18 (Jvm.Cond.code mN18 jdk_43_method_2_code 2 (some .char)) [] (⟨2, 0, 0, 27⟩ : Room) #[(.ref v1), (.int (Int32.ofNat i1))] Z h0 (fun v h L => v = some (.int (ls.getD i1 0)) ∧ Fr n0 L ∧ h = h0) := by
  refine own_open n0 (plainFor_of_name pn_0) (fun m => ef_RI2 m v1 (Int32.ofNat i1) ) ?_
  intro p e s m below meth c s₁ A0 Bd hx hby hml hown hnm hZ hh X0 e0 N0 g0
  obtain ⟨SC_, hcs, SF_, hfm, SU1_, SU2_, SU3_⟩ := id hW
  have hE := own_hd hby E34
  have g101 := jA X0 hx (jI X0 hx g0 (hE 0 rfl) rfl) (hE 1 rfl) rfl rfl
  have zz102 := A0_
  obtain ⟨cl102, Ar102, -, S102, M102, -, -⟩ := zz102
  have g103 : Go p e below s₁ (mkF m 3 #[rv v1, iv (Int32.ofNat i1)] [(.int (Int32.ofNat ls.length)), (.int (Int32.ofNat i1))]) A0 := by
    intro t kont
    refine g101 t ?_
    refine X0.arraylength hx (by rw [e0]; exact Ar102.1) (State.isArrayOf_alike hZ.alike Ar102.2.1) (g := (mkF m 2 #[rv v1, iv (Int32.ofNat i1)] [(.ref v1), (.int (Int32.ofNat i1))])) rfl rfl (hE 2 rfl) _ ?_
    rw [len_of S102 M102]
    exact kont
  obtain ⟨_, L104, T104, ⟨rfl, M104, e104⟩, X104, st104⟩ := own_callS X0 hx hZ hown (hw _ (mi 173 rfl)) (wd11 hw) (rm_sci hw (Int32.ofNat i1) (Int32.ofNat ls.length) fm cs h0 n0 O0 (own_nonneg (by omega)) (own_lt (by omega) (by omega)) hW) g103 e0 [] rfl (lenOf pd_10 rfl) (hE 3 rfl) hml.symm 0 rfl (by decide)
  have N104 := Fr.app N0 M104
  have g105 := jI X104 hx (jA X104 hx st104 (hE 4 rfl) rfl rfl) (hE 5 rfl) rfl
  have zz106 := A0_
  obtain ⟨cl106, Ar106, q106, S106, M106, H106, G106⟩ := zz106
  have in106 : ¬ ((Int32.ofNat i1) < 0 ∨ cl106.slots.size ≤ ((Int32.ofNat i1)).toNatClampNeg) := inb_of S106 ⟨own_nonneg (by omega), own_lt (by omega) (by omega)⟩
  have at106 : cl106.slots[((Int32.ofNat i1)).toNatClampNeg]? = some (.int ((ls.getD i1 0).toInt8.toInt32)) := Has.at H106 in106 (by rw [own_clamp (by omega)]; exact own_lb_get hi)
  have g107 : Go p e below T104 (mkF m 9 #[rv v1, iv (Int32.ofNat i1)] [(.int ((ls.getD i1 0).toInt8.toInt32))]) A0 := fun t kont => g105 t (X104.baloadBytes hx (j := (Int32.ofNat i1)) (v := (.int ((ls.getD i1 0).toInt8.toInt32))) (by rw [e104]; exact Ar106.1) (State.isArrayOf_alike hZ.alike Ar106.2.1) Ar106.2.2 in106 at106 (g := (mkF m 8 #[rv v1, iv (Int32.ofNat i1)] [(.int (Int32.ofNat i1)), (.ref v1)])) rfl rfl (hE 6 rfl) t kont)
  have g108 := jz X104 hx (jB X104 hx (jp X104 hx g107 (hE 7 rfl) 255 rfl) (hE 8 rfl) rfl) (hE 9 rfl) rfl
  refine own_leave X104 Bd (some (.int ((((ls.getD i1 0).toInt8.toInt32) &&& (255 : Int32)).toUInt32.toUInt16.toUInt32.toInt32))) nofun g108 (fun fs hr => retN X104 hx (t := .char) Bd.returns (by simp) (hE 10 rfl) (by rw [(own_narc _)]; exact hr)) (by decide) (by decide) ?_
  rw [e104]
  exact ⟨congrArg (fun z => some (Value.int z)) (own_rec8 (hch i1 hi).1 (hlat i1 hi)), N104, rfl⟩
theorem rm_uleG (hw : HW a0 Z) (v1 : Addr) (kv : ClassId) (vs : List Value) (ls : List Int32) (h0 : Heap) (n0 : Nat) (O0 : Old Z n0 h0) (A0_ : Arv Z h0 v1 kv .byte (Int32.ofNat (2 * ls.length)) vs (.int 0)) (hB : ls.length ≤ 40) :
    own_M l mN19 (Jvm.Cond.code mN19 jdk_52_method_6_code 1 (some .int)) [] (⟨0, 0, 0, 0⟩ : Room) #[(.ref v1)] Z h0 (fun v h L => v = some (.int (Int32.ofNat ls.length)) ∧ Fr n0 L ∧ h = h0) := by
  refine own_open n0 (plainFor_of_name pn_2) (fun m => ef_R1 m v1 ) ?_
  intro p e s m below meth c s₁ A0 Bd hx hby hml hown hnm hZ hh X0 e0 N0 g0
  have hE := own_hd hby E66
  have g101 := jA X0 hx g0 (hE 0 rfl) rfl rfl
  have zz102 := A0_
  obtain ⟨cl102, Ar102, -, S102, M102, -, -⟩ := zz102
  have g103 : Go p e below s₁ (mkF m 2 #[rv v1] [(.int (Int32.ofNat (2 * ls.length)))]) A0 := by
    intro t kont
    refine g101 t ?_
    refine X0.arraylength hx (by rw [e0]; exact Ar102.1) (State.isArrayOf_alike hZ.alike Ar102.2.1) (g := (mkF m 1 #[rv v1] [(.ref v1)])) rfl rfl (hE 1 rfl) _ ?_
    rw [len_of S102 M102]
    exact kont
  have g104 := jR X0 hx (jc X0 hx g103 (hE 2 rfl) 1 rfl) (hE 3 rfl) rfl
  refine own_leave X0 Bd (some (.int ((Int32.ofNat (2 * ls.length)) >>> ((1 : Int32) &&& 31)))) nofun g104 (fun fs hr => retI X0 hx Bd.returns (hE 4 rfl) hr) (by decide) (by decide) ?_
  rw [e0]
  exact ⟨congrArg (fun z => some (Value.int z)) (own_half (by omega)), N0, rfl⟩
theorem pd_11 : parseMethodDescriptor "([B)I" = some ⟨[(.array .byte)], some .int⟩ := by decide +kernel
theorem wd12 (hw : HW a0 Z) : own_wdS a0 Z mN19 jdk_52_method_6_code 1 (some .int) := ⟨hw _ (mi 322 rfl), hw _ (mi 37 rfl), hw _ (mi 323 rfl), by decide⟩
theorem ef_IR2 (m : MethodId) (x0 : Int32) (x1 : Addr)  : entryFrame m #[(.int x0), (.ref x1)] 2 = mkF m 0 #[.val (.int x0), .val (.ref x1)] [] := by first | (simp [entryFrame, mkF, argsToLocals, Value.category]; done) | rfl
theorem rm_uckG (hw : HW a0 Z) (v1 : Addr) (i1 : Nat) (kv : ClassId) (vs : List Value) (fm : Value) (ls : List Int32) (cs : Int32) (h0 : Heap) (n0 : Nat) (O0 : Old Z n0 h0) (A0_ : Arv Z h0 v1 kv .byte (Int32.ofNat (2 * ls.length)) vs (.int 0)) (hB : ls.length ≤ 40) (hi : i1 < ls.length) (hW : own_W Z cs fm) :
    own_M l mN20 (Jvm.Cond.code mN20 jdk_52_method_91_code 2 none) [] (⟨2, 0, 0, 27⟩ : Room) #[(.int (Int32.ofNat i1)), (.ref v1)] Z h0 (fun v h L => v = none ∧ Fr n0 L ∧ h = h0) := by
  refine own_open n0 (plainFor_of_name pn_2) (fun m => ef_IR2 m (Int32.ofNat i1) v1 ) ?_
  intro p e s m below meth c s₁ A0 Bd hx hby hml hown hnm hZ hh X0 e0 N0 g0
  obtain ⟨SC_, hcs, SF_, hfm, SU1_, SU2_, SU3_⟩ := id hW
  have hE := own_hd hby E65
  have g101 := jA X0 hx (jI X0 hx g0 (hE 0 rfl) rfl) (hE 1 rfl) rfl rfl
  obtain ⟨_, L102, T102, ⟨rfl, M102, e102⟩, X102, st102⟩ := own_callS X0 hx hZ hown (hw _ (mi 321 rfl)) (wd12 hw) (rm_uleG hw v1 kv vs ls h0 n0 O0 A0_ hB) g101 e0 [(.int (Int32.ofNat i1))] rfl (lenOf pd_11 rfl) (hE 2 rfl) hml.symm 1 rfl (by decide)
  have N102 := Fr.app N0 M102
  obtain ⟨_, L103, T103, ⟨rfl, M103, e103⟩, X103, st103⟩ := own_callS X102 hx hZ hown (hw _ (mi 324 rfl)) (wd11 hw) (rm_sci hw (Int32.ofNat i1) (Int32.ofNat ls.length) fm cs h0 n0 O0 (own_nonneg (by omega)) (own_lt (by omega) (by omega)) hW) st102 e102 [] rfl (lenOf pd_10 rfl) (hE 3 rfl) hml.symm 0 rfl (by decide)
  have N103 := Fr.app N102 M103
  refine own_leave X103 Bd (none) (fun _ => rfl) st103 (fun fs hr => X103.returnOut hx Bd.returns (hE 4 rfl) hr) (by decide) (by decide) ?_
  rw [e103]
  exact ⟨rfl, N103, rfl⟩
theorem pd_12 : parseMethodDescriptor "(I[B)V" = some ⟨[.int, (.array .byte)], none⟩ := by decide +kernel
theorem wd13 (hw : HW a0 Z) : own_wdS a0 Z mN20 jdk_52_method_91_code 2 none := ⟨hw _ (mi 319 rfl), hw _ (mi 37 rfl), hw _ (mi 320 rfl), by decide⟩
theorem rm_uchG (hw : HW a0 Z) (v1 : Addr) (i1 : Nat) (kv : ClassId) (fm : Value) (ls : List Int32) (cs : Int32) (h0 : Heap) (n0 : Nat) (O0 : Old Z n0 h0) (A0_ : Arv Z h0 v1 kv .byte (Int32.ofNat (2 * ls.length)) (own_wb ls) (.int 0)) (hB : ls.length ≤ 40) (hi : i1 < ls.length) (hch : own_chars ls) (hW : own_W Z cs fm) :
    own_M l mN21 (Jvm.Cond.code mN21 jdk_52_method_83_code 2 (some .char)) [] (⟨3, 0, 0, 40⟩ : Room) #[(.ref v1), (.int (Int32.ofNat i1))] Z h0 (fun v h L => v = some (.int (ls.getD i1 0)) ∧ Fr n0 L ∧ h = h0) := by
  refine own_open n0 (plainFor_of_name pn_2) (fun m => ef_RI2 m v1 (Int32.ofNat i1) ) ?_
  intro p e s m below meth c s₁ A0 Bd hx hby hml hown hnm hZ hh X0 e0 N0 g0
  obtain ⟨SC_, hcs, SF_, hfm, SU1_, SU2_, SU3_⟩ := id hW
  have hE := own_hd hby E64
  have r_ch : nar .char (ls.getD i1 0) = (ls.getD i1 0) := own_narid (hch i1 hi).1 (hch i1 hi).2
  have g101 := jA X0 hx (jI X0 hx g0 (hE 0 rfl) rfl) (hE 1 rfl) rfl rfl
  obtain ⟨_, L102, T102, ⟨rfl, M102, e102⟩, X102, st102⟩ := own_callS X0 hx hZ hown (hw _ (mi 318 rfl)) (wd13 hw) (rm_uckG hw v1 i1 kv (own_wb ls) fm ls cs h0 n0 O0 A0_ hB hi hW) g101 e0 [] rfl (lenOf pd_12 rfl) (hE 2 rfl) hml.symm 0 rfl (by decide)
  have N102 := Fr.app N0 M102
  have g103 := jI X102 hx (jA X102 hx st102 (hE 3 rfl) rfl rfl) (hE 4 rfl) rfl
  obtain ⟨_, L104, T104, ⟨rfl, M104, e104⟩, X104, st104⟩ := own_callS X102 hx hZ hown (hw _ (mi 312 rfl)) (wd5 hw) (rm_getG hw v1 i1 kv ls cs fm h0 n0 O0 A0_ hB hi hch hW) g103 e102 [] rfl (lenOf pd_5 rfl) (hE 5 rfl) hml.symm 0 rfl (by decide)
  have N104 := Fr.app N102 M104
  refine own_leave X104 Bd (some (.int (ls.getD i1 0))) nofun st104 (fun fs hr => retN X104 hx (t := .char) Bd.returns (by simp) (hE 6 rfl) (by rw [r_ch]; exact hr)) (by decide) (by decide) ?_
  rw [e104]
  exact ⟨rfl, N104, rfl⟩
theorem pd_13 : parseMethodDescriptor "()Z" = some ⟨[], some .boolean⟩ := by decide +kernel
theorem wd14 (hw : HW a0 Z) : own_wdV a0 Z "java/lang/String" mN15 mN15 jdk_42_method_154_code 1 (some .boolean) := ⟨hw _ (mi 166 rfl), hw _ (mi 168 rfl), hw _ (mi 167 rfl), hw _ (mi 3 rfl), hw _ (mi 169 rfl), by decide⟩
theorem wd15 (hw : HW a0 Z) : own_wdS a0 Z mN18 jdk_43_method_2_code 2 (some .char) := ⟨hw _ (mi 171 rfl), hw _ (mi 8 rfl), hw _ (mi 172 rfl), by decide⟩
theorem wd16 (hw : HW a0 Z) : own_wdS a0 Z mN21 jdk_52_method_83_code 2 (some .char) := ⟨hw _ (mi 316 rfl), hw _ (mi 37 rfl), hw _ (mi 317 rfl), by decide⟩
theorem rm_chaG (hw : HW a0 Z) (a1 v1 : Addr) (kv : ClassId) (cd z1 : Int32) (vs : List Value) (ls : List Int32) (cs : Int32) (i1 : Nat) (fm : Value) (h0 : Heap) (n0 : Nat) (O0 : Old Z n0 h0) (F0_ : Fld Z h0 a1 "java/lang/String" "value" "[B" (.ref v1)) (F1_ : Fld Z h0 a1 "java/lang/String" "coder" "B" (.int cd)) (E2_ : Exa Z h0 a1 "java/lang/String") (A3_ : Arv Z h0 v1 kv .byte z1 vs (.int 0)) (hcod : own_cod ls cd z1 vs) (hB : ls.length ≤ 40) (hi : i1 < ls.length) (hch : own_chars ls) (hW : own_W Z cs fm) :
    own_M l mN22 (Jvm.Cond.code mN22 jdk_42_method_56_code 2 (some .char)) [] (⟨4, 0, 0, 53⟩ : Room) #[(.ref a1), (.int (Int32.ofNat i1))] Z h0 (fun v h L => v = some (.int (ls.getD i1 0)) ∧ Fr n0 L ∧ h = h0) := by
  refine own_open n0 (plainFor_of_name pn_1) (fun m => ef_RI2 m a1 (Int32.ofNat i1) ) ?_
  intro p e s m below meth c s₁ A0 Bd hx hby hml hown hnm hZ hh X0 e0 N0 g0
  obtain ⟨SC_, hcs, SF_, hfm, SU1_, SU2_, SU3_⟩ := id hW
  have hE := own_hd hby E32
  have r_ch : nar .char (ls.getD i1 0) = (ls.getD i1 0) := own_narid (hch i1 hi).1 (hch i1 hi).2
  rcases hcod with ⟨e1, e2, e3, hlat⟩ | ⟨e1, e2, e3⟩
  ·
    have y101 := F1_
    rw [e1] at y101
    have y102 := A3_
    rw [e2, e3] at y102
    have g103 := jA X0 hx g0 (hE 0 rfl) rfl rfl
    obtain ⟨_, L104, T104, ⟨rfl, M104, e104⟩, X104, st104⟩ := own_callV X0 hx hZ hown (hw _ (mi 165 rfl)) (wd14 hw) (notFace_of_selects (args := #[]) (mvT hZ (hw _ (mi 168 rfl)))) E2_ (rm_isl0 hw a1 cs h0 n0 O0 SC_ hcs y101) g103 e0 [] rfl (lenOf pd_13 rfl) (hE 1 rfl) hml.symm 0 rfl (by decide)
    have N104 := Fr.app N0 M104
    have g105 := jA X104 hx (jN X104 hx st104 (hE 2 rfl) rfl (by decide)) (hE 3 rfl) rfl rfl
    obtain ⟨T106, X106, e106, g106⟩ := own_getF X104 hx hZ hown (hw _ (mi 23 rfl)) Via.refl e104 F0_ g105 (hE 4 rfl)
    have g107 := jI X106 hx g106 (hE 5 rfl) rfl
    obtain ⟨_, L108, T108, ⟨rfl, M108, e108⟩, X108, st108⟩ := own_callS X106 hx hZ hown (hw _ (mi 170 rfl)) (wd15 hw) (rm_lchG hw v1 i1 kv fm ls cs h0 n0 O0 y102 hB hi hch hlat hW) g107 e106 [] rfl (lenOf pd_5 rfl) (hE 6 rfl) hml.symm 0 rfl (by decide)
    have N108 := Fr.app N104 M108
    refine own_leave X108 Bd (some (.int (ls.getD i1 0))) nofun st108 (fun fs hr => retN X108 hx (t := .char) Bd.returns (by simp) (hE 7 rfl) (by rw [r_ch]; exact hr)) (by decide) (by decide) ?_
    rw [e108]
    exact ⟨rfl, N108, rfl⟩
  have y109 := F1_
  rw [e1] at y109
  have y110 := A3_
  rw [e2, e3] at y110
  have g111 := jA X0 hx g0 (hE 0 rfl) rfl rfl
  obtain ⟨_, L112, T112, ⟨rfl, M112, e112⟩, X112, st112⟩ := own_callV X0 hx hZ hown (hw _ (mi 165 rfl)) (wd14 hw) (notFace_of_selects (args := #[]) (mvT hZ (hw _ (mi 168 rfl)))) E2_ (rm_isl1 hw a1 cs h0 n0 O0 SC_ hcs y109) g111 e0 [] rfl (lenOf pd_13 rfl) (hE 1 rfl) hml.symm 0 rfl (by decide)
  have N112 := Fr.app N0 M112
  have g113 := jA X112 hx (jY X112 hx st112 (hE 2 rfl) rfl (by decide) (pc' := 16) (by decide)) (hE 8 rfl) rfl rfl
  obtain ⟨T114, X114, e114, g114⟩ := own_getF X112 hx hZ hown (hw _ (mi 23 rfl)) Via.refl e112 F0_ g113 (hE 9 rfl)
  have g115 := jI X114 hx g114 (hE 10 rfl) rfl
  obtain ⟨_, L116, T116, ⟨rfl, M116, e116⟩, X116, st116⟩ := own_callS X114 hx hZ hown (hw _ (mi 315 rfl)) (wd16 hw) (rm_uchG hw v1 i1 kv fm ls cs h0 n0 O0 y110 hB hi hch hW) g115 e114 [] rfl (lenOf pd_5 rfl) (hE 11 rfl) hml.symm 0 rfl (by decide)
  have N116 := Fr.app N112 M116
  refine own_leave X116 Bd (some (.int (ls.getD i1 0))) nofun st116 (fun fs hr => retN X116 hx (t := .char) Bd.returns (by simp) (hE 12 rfl) (by rw [r_ch]; exact hr)) (by decide) (by decide) ?_
  rw [e116]
  exact ⟨rfl, N116, rfl⟩
theorem pn_4 : plainName "java/lang/AbstractStringBuilder" = true := by first | (simp [plainName, overriddenIn]; done) | decide +kernel
theorem rm_aIni (hw : HW a0 Z) (b1 : Addr) (cs : Int32) (h0 : Heap) (n0 : Nat) (O0 : Old Z n0 h0) (S0_ : Sta Z Z.heap "java/lang/String" "COMPACT_STRINGS" "Z" (.int cs)) (hcs : ¬ (cs = (0 : Int32))) (E2_ : Exa Z h0 b1 "java/lang/StringBuilder") (F3_ : Fld Z h0 b1 "java/lang/AbstractStringBuilder" "value" "[B" .null) (F4_ : Fld Z h0 b1 "java/lang/AbstractStringBuilder" "coder" "B" (.int 0)) (F5_ : Fld Z h0 b1 "java/lang/AbstractStringBuilder" "count" "I" (.int 0)) (F6_ : Fld Z h0 b1 "java/lang/AbstractStringBuilder" "maybeLatin1" "Z" (.int 0)) (G7_ : n0 ≤ b1) :
    own_M l mN23 (Jvm.Cond.code mN23 jdk_68_method_2_code 2 none) [] (⟨1, 1, 256, 12⟩ : Room) #[(.ref b1), (.int 256)] Z h0 (fun v h L => ∃ (r : Addr), ∃ (kid : ClassId), v = none ∧ Fr n0 L ∧ Keep h0 h [b1] ∧ (Exa Z h b1 "java/lang/StringBuilder") ∧ (Fld Z h b1 "java/lang/AbstractStringBuilder" "value" "[B" (.ref r)) ∧ (Fld Z h b1 "java/lang/AbstractStringBuilder" "coder" "B" (.int 0)) ∧ (Fld Z h b1 "java/lang/AbstractStringBuilder" "count" "I" (.int 0)) ∧ (Fld Z h b1 "java/lang/AbstractStringBuilder" "maybeLatin1" "Z" (.int 0)) ∧ h0.size ≤ r ∧ (Arv Z h r kid .byte (256 : Int32) (own_PL []) (.int 0))) := by
  refine own_open n0 (plainFor_of_name pn_4) (fun m => ef_RI2 m b1 (256 : Int32) ) ?_
  intro p e s m below meth c s₁ A0 Bd hx hby hml hown hnm hZ hh X0 e0 N0 g0
  have hE := own_hd hby E13
  have g101 := jA X0 hx g0 (hE 0 rfl) rfl rfl
  obtain ⟨T102, X102, e102, st102⟩ := initO X0 hx hZ hown (hw _ (mi 64 rfl)) (hw _ (mi 21 rfl)) (hw _ (mi 22 rfl)) e0 (g := (mkF m 1 #[rv b1, iv 256] [(.ref b1)])) rfl (by rw [hml]; rfl) rfl (hE 1 rfl) (by decide) (W := 0) (by show 2 * 0 + _ ≤ _; exact Nat.le_of_eq rfl) (by decide)
  have g103 : Go p e below T102 (mkF m 4 #[rv b1, iv 256] []) A0 := fun t kont => g101 t (st102 t kont)
  have y104 := S0_.ext O0.2
  obtain ⟨T105, X105, e105, g105⟩ := own_getS X102 hx hZ hown (hw _ (mi 65 rfl)) Via.refl e102 y104 g103 (hE 2 rfl)
  have g106 := jI X105 hx (jA X105 hx (jN X105 hx g105 (hE 3 rfl) rfl ((if0 _ _).trans (feq hcs).1)) (hE 4 rfl) rfl rfl) (hE 5 rfl) rfl
  obtain ⟨T107, h107, k107, X107, e107, E107, A107, F107, st107⟩ := newPE X105 hx hZ (hw _ (mi 15 rfl)) e105 (g := (mkF m 12 #[rv b1, iv 256] [(.int 256), (.ref b1)])) rfl (hE 6 rfl) rfl (by decide) (cap := 256) (by decide) (by decide) (by decide) (by decide) (ad := "[B") (by decide)
  obtain ⟨b107, gb107⟩ : ∃ z, z = h0.size := ⟨_, rfl⟩
  rw [← gb107] at A107 F107 st107
  have O108 := O0.ext E107
  have y109 : Arv Z h107 b107 k107 .byte (256 : Int32) (List.replicate 256 (.int 0)) (.int 0) := (Arv.new A107 (by decide)).pad (pad_rep [] (.int 0) 256)
  obtain ⟨Ls110, hLs110⟩ : ∃ z : List Value, z = (List.replicate 256 (.int 0)) := ⟨_, rfl⟩
  rw [← hLs110] at y109
  have lLs110 : Ls110.length = 256 := by rw [hLs110, List.length_replicate]
  have g111 : Go p e below T107 (mkF m 14 #[rv b1, iv 256] [(.ref b107), (.ref b1)]) A0 := fun t kont => g106 t (st107 t kont)
  have y112 := (E2_.ext E107)
  have y113 := (F3_.ext E107)
  obtain ⟨T114, h114, X114, e114, W114, st114⟩ := putF X107 hx hZ hown (host := "") (Or.inl (hw _ (mi 66 rfl))) Via.refl e107 y113 y112 (Or.inl (hw _ (mi 67 rfl))) (hw _ (mi 53 rfl)) (ty := (.array .byte)) (by decide) rfl rfl (g := (mkF m 14 #[rv b1, iv 256] [(.ref b107), (.ref b1)])) rfl rfl (hE 7 rfl)
  have O115 := O108.wr W114 G7_
  have y116 : Fld Z h114 b1 "java/lang/AbstractStringBuilder" "value" "[B" (.ref b107) := y113.same W114
  have N114 := Fr.snoc X114 N0 G7_
  have g117 : Go p e below T114 (mkF m 17 #[rv b1, iv 256] []) A0 := fun t kont => g111 t (st114 t kont)
  have g118 := jc X114 hx (jA X114 hx g117 (hE 8 rfl) rfl rfl) (hE 9 rfl) 0 rfl
  have y119 := (y112.wr W114)
  have y120 := ((F4_.ext E107).other W114 (Or.inr (slot_ne (Or.inl (hw _ (mi 69 rfl))) (Or.inl (hw _ (mi 67 rfl))) (by decide) (t := .byte) (t' := (.array .byte)) (by decide) (by decide))))
  obtain ⟨T121, h121, X121, e121, W121, st121⟩ := putFN X114 hx hZ hown (hw _ (mi 68 rfl)) Via.refl e114 y120 y119 (Or.inl (hw _ (mi 69 rfl))) (hw _ (mi 53 rfl)) (ty := .byte) (v := (.int 0)) (v' := (.int 0)) (by decide) (own_nw_byte (by decide : nar .byte (0 : Int32) = (0 : Int32))) (own_ft_byte (by decide : nar .byte (0 : Int32) = (0 : Int32))) (g := (mkF m 19 #[rv b1, iv 256] [(.int 0), (.ref b1)])) rfl rfl (hE 10 rfl)
  have O122 := O115.wr W121 G7_
  have y123 : Fld Z h121 b1 "java/lang/AbstractStringBuilder" "coder" "B" (.int 0) := y120.same W121
  have N121 := Fr.snoc X121 N114 G7_
  have g124 : Go p e below T121 (mkF m 22 #[rv b1, iv 256] []) A0 := fun t kont => g118 t (st121 t kont)
  have g125 := jg X121 hx g124 (hE 11 rfl) (pc' := 38) (by decide)
  have K126 : Keep h0 h121 [b1] := ((((Keep.refl h0 [b1]).ext E107).wr W114 (Or.inl (mi 0 rfl))).wr W121 (Or.inl (mi 0 rfl)))
  have y127 := (y119.wr W121)
  have y128 := (y116.other W121 (Or.inr (slot_ne (Or.inl (hw _ (mi 67 rfl))) (Or.inl (hw _ (mi 69 rfl))) (by decide) (t := (.array .byte)) (t' := .byte) (by decide) (by decide))))
  have y129 := (((F5_.ext E107).other W114 (Or.inr (slot_ne (Or.inl (hw _ (mi 81 rfl))) (Or.inl (hw _ (mi 67 rfl))) (by decide) (t := .int) (t' := (.array .byte)) (by decide) (by decide)))).other W121 (Or.inr (slot_ne (Or.inl (hw _ (mi 81 rfl))) (Or.inl (hw _ (mi 69 rfl))) (by decide) (t := .int) (t' := .byte) (by decide) (by decide))))
  have y130 := (((F6_.ext E107).other W114 (Or.inr (slot_ne (Or.inl (hw _ (mi 365 rfl))) (Or.inl (hw _ (mi 67 rfl))) (by decide) (t := .boolean) (t' := (.array .byte)) (by decide) (by decide)))).other W121 (Or.inr (slot_ne (Or.inl (hw _ (mi 365 rfl))) (Or.inl (hw _ (mi 69 rfl))) (by decide) (t := .boolean) (t' := .byte) (by decide) (by decide))))
  have y131 := ((y109.other W114 (Ne.symm (Nat.ne_of_lt (Nat.lt_of_lt_of_le E2_.lt (Nat.le_of_eq gb107.symm))))).other W121 (Ne.symm (Nat.ne_of_lt (Nat.lt_of_lt_of_le E2_.lt (Nat.le_of_eq gb107.symm)))))
  refine own_leave X121 Bd (none) (fun _ => rfl) g125 (fun fs hr => X121.returnOut hx Bd.returns (hE 12 rfl) hr) (by decide) (by decide) ?_
  rw [e121]
  exact ⟨b107, k107, rfl, N121, K126, y127, y128, y123, y129, y130, (Nat.le_of_eq gb107.symm), (by rw [own_PL0]; have q := y131; rw [hLs110] at q; exact q)⟩
theorem pd_14 : parseMethodDescriptor "(I)V" = some ⟨[.int], none⟩ := by decide +kernel
theorem wd17 (hw : HW a0 Z) : own_wdI a0 Z mN23 jdk_68_method_2_code 2 := ⟨hw _ (mi 59 rfl), hw _ (mi 62 rfl), hw _ (mi 63 rfl), by decide, rfl⟩
theorem pn_5 : plainName "java/lang/StringBuilder" = true := by first | (simp [plainName, overriddenIn]; done) | decide +kernel
theorem rm_sbI (hw : HW a0 Z) (b1 : Addr) (cs : Int32) (h0 : Heap) (n0 : Nat) (O0 : Old Z n0 h0) (S0_ : Sta Z Z.heap "java/lang/String" "COMPACT_STRINGS" "Z" (.int cs)) (hcs : ¬ (cs = (0 : Int32))) (E2_ : Exa Z h0 b1 "java/lang/StringBuilder") (F3_ : Fld Z h0 b1 "java/lang/AbstractStringBuilder" "value" "[B" .null) (F4_ : Fld Z h0 b1 "java/lang/AbstractStringBuilder" "coder" "B" (.int 0)) (F5_ : Fld Z h0 b1 "java/lang/AbstractStringBuilder" "count" "I" (.int 0)) (F6_ : Fld Z h0 b1 "java/lang/AbstractStringBuilder" "maybeLatin1" "Z" (.int 0)) (G7_ : n0 ≤ b1) :
    own_M l mN24 (Jvm.Cond.code mN24 jdk_67_method_2_code 2 none) [] (⟨2, 1, 256, 25⟩ : Room) #[(.ref b1), (.int 256)] Z h0 (fun v h L => ∃ (r : Addr), ∃ (kid : ClassId), v = none ∧ Fr n0 L ∧ Keep h0 h [b1] ∧ (Exa Z h b1 "java/lang/StringBuilder") ∧ (Fld Z h b1 "java/lang/AbstractStringBuilder" "value" "[B" (.ref r)) ∧ (Fld Z h b1 "java/lang/AbstractStringBuilder" "coder" "B" (.int 0)) ∧ (Fld Z h b1 "java/lang/AbstractStringBuilder" "count" "I" (.int 0)) ∧ (Fld Z h b1 "java/lang/AbstractStringBuilder" "maybeLatin1" "Z" (.int 0)) ∧ h0.size ≤ r ∧ (Arv Z h r kid .byte (256 : Int32) (own_PL []) (.int 0))) := by
  refine own_open n0 (plainFor_of_name pn_5) (fun m => ef_RI2 m b1 (256 : Int32) ) ?_
  intro p e s m below meth c s₁ A0 Bd hx hby hml hown hnm hZ hh X0 e0 N0 g0
  have hE := own_hd hby E12
  have g101 := jI X0 hx (jA X0 hx g0 (hE 0 rfl) rfl rfl) (hE 1 rfl) rfl
  obtain ⟨_, L102, T102, ⟨r103, r104, rfl, M102, K102, y105, y106, y107, y108, y109, y110, y111⟩, X102, st102⟩ := own_callI X0 hx hZ hown (hw _ (mi 58 rfl)) (wd17 hw) (rm_aIni hw b1 cs h0 n0 O0 S0_ hcs E2_ F3_ F4_ F5_ F6_ G7_) g101 e0 [] rfl (lenOf pd_14 rfl) (hE 2 rfl) hml.symm 0 rfl (by decide)
  have N102 := Fr.app N0 M102
  have O112 := O0.keep K102 (allS G7_ all0)
  have K113 : Keep h0 T102.heap [b1] := ((Keep.refl h0 [b1]).trans K102 (allS (P := fun x => x ∈ [b1] ∨ h0.size ≤ x) (Or.inl (mi 0 rfl)) all0))
  refine own_leave X102 Bd (none) (fun _ => rfl) st102 (fun fs hr => X102.returnOut hx Bd.returns (hE 3 rfl) hr) (by decide) (by decide) ?_
  exact ⟨r103, r104, rfl, N102, K113, y105, y106, y107, y108, y109, y110, y111⟩
theorem rm_al0 (hw : HW a0 Z) (b1 : Addr) (cs : Int32) (h0 : Heap) (n0 : Nat) (O0 : Old Z n0 h0) (S0_ : Sta Z Z.heap "java/lang/String" "COMPACT_STRINGS" "Z" (.int cs)) (hcs : ¬ (cs = (0 : Int32))) (F2_ : Fld Z h0 b1 "java/lang/AbstractStringBuilder" "coder" "B" (.int 0)) :
    own_M l mN25 (Jvm.Cond.code mN25 jdk_68_method_68_code 1 (some .boolean)) [] (⟨0, 0, 0, 0⟩ : Room) #[(.ref b1)] Z h0 (fun v h L => v = some (.int 1) ∧ Fr n0 L ∧ h = h0) := by
  refine own_open n0 (plainFor_of_name pn_4) (fun m => ef_R1 m b1 ) ?_
  intro p e s m below meth c s₁ A0 Bd hx hby hml hown hnm hZ hh X0 e0 N0 g0
  have hE := own_hd hby E17
  have y101 := S0_.ext O0.2
  obtain ⟨T102, X102, e102, g102⟩ := own_getS X0 hx hZ hown (hw _ (mi 65 rfl)) Via.refl e0 y101 g0 (hE 0 rfl)
  have g103 := jA X102 hx (jN X102 hx g102 (hE 1 rfl) rfl ((if0 _ _).trans (feq hcs).1)) (hE 2 rfl) rfl rfl
  obtain ⟨T104, X104, e104, g104⟩ := own_getF X102 hx hZ hown (hw _ (mi 68 rfl)) Via.refl e102 F2_ g103 (hE 3 rfl)
  have g105 := jg X104 hx (jc X104 hx (jN X104 hx g104 (hE 4 rfl) rfl (by decide)) (hE 5 rfl) 1 rfl) (hE 6 rfl) (pc' := 18) (by decide)
  refine own_leave X104 Bd (some (.int 1)) nofun g105 (fun fs hr => retN X104 hx (t := .boolean) Bd.returns (by simp) (hE 8 rfl) hr) (by decide) (by decide) ?_
  rw [e104]
  exact ⟨rfl, N0, rfl⟩
theorem rm_al1 (hw : HW a0 Z) (b1 : Addr) (cs : Int32) (h0 : Heap) (n0 : Nat) (O0 : Old Z n0 h0) (S0_ : Sta Z Z.heap "java/lang/String" "COMPACT_STRINGS" "Z" (.int cs)) (hcs : ¬ (cs = (0 : Int32))) (F2_ : Fld Z h0 b1 "java/lang/AbstractStringBuilder" "coder" "B" (.int 1)) :
    own_M l mN25 (Jvm.Cond.code mN25 jdk_68_method_68_code 1 (some .boolean)) [] (⟨0, 0, 0, 0⟩ : Room) #[(.ref b1)] Z h0 (fun v h L => v = some (.int 0) ∧ Fr n0 L ∧ h = h0) := by
  refine own_open n0 (plainFor_of_name pn_4) (fun m => ef_R1 m b1 ) ?_
  intro p e s m below meth c s₁ A0 Bd hx hby hml hown hnm hZ hh X0 e0 N0 g0
  have hE := own_hd hby E17
  have y101 := S0_.ext O0.2
  obtain ⟨T102, X102, e102, g102⟩ := own_getS X0 hx hZ hown (hw _ (mi 65 rfl)) Via.refl e0 y101 g0 (hE 0 rfl)
  have g103 := jA X102 hx (jN X102 hx g102 (hE 1 rfl) rfl ((if0 _ _).trans (feq hcs).1)) (hE 2 rfl) rfl rfl
  obtain ⟨T104, X104, e104, g104⟩ := own_getF X102 hx hZ hown (hw _ (mi 68 rfl)) Via.refl e102 F2_ g103 (hE 3 rfl)
  have g105 := jc X104 hx (jY X104 hx g104 (hE 4 rfl) rfl (by decide) (pc' := 17) (by decide)) (hE 7 rfl) 0 rfl
  refine own_leave X104 Bd (some (.int 0)) nofun g105 (fun fs hr => retN X104 hx (t := .boolean) Bd.returns (by simp) (hE 8 rfl) hr) (by decide) (by decide) ?_
  rw [e104]
  exact ⟨rfl, N0, rfl⟩
theorem ef_RI3 (m : MethodId) (x0 : Addr) (x1 : Int32)  : entryFrame m #[(.ref x0), (.int x1)] 3 = mkF m 0 #[.val (.ref x0), .val (.int x1), .unset] [] := by first | (simp [entryFrame, mkF, argsToLocals, Value.category]; done) | rfl
theorem rm_ensN (hw : HW a0 Z) (b1 : Addr) (m1 : Nat) (v1 : Addr) (kv : ClassId) (cd z1 : Int32) (vs : List Value) (h0 : Heap) (n0 : Nat) (O0 : Old Z n0 h0) (F0_ : Fld Z h0 b1 "java/lang/AbstractStringBuilder" "value" "[B" (.ref v1)) (F1_ : Fld Z h0 b1 "java/lang/AbstractStringBuilder" "coder" "B" (.int cd)) (A2_ : Arv Z h0 v1 kv .byte z1 vs (.int 0)) (hcz : (cd = (0 : Int32) ∧ z1 = (256 : Int32)) ∨ (cd = (1 : Int32) ∧ z1 = (512 : Int32))) (hm : m1 ≤ 256) :
    own_M l mN26 (Jvm.Cond.code mN26 jdk_68_method_9_code 3 none) [] (⟨0, 0, 0, 0⟩ : Room) #[(.ref b1), (.int (Int32.ofNat m1))] Z h0 (fun v h L => v = none ∧ Fr n0 L ∧ h = h0) := by
  refine own_open n0 (plainFor_of_name pn_4) (fun m => ef_RI3 m b1 (Int32.ofNat m1) ) ?_
  intro p e s m below meth c s₁ A0 Bd hx hby hml hown hnm hZ hh X0 e0 N0 g0
  have hE := own_hd hby E16
  rcases hcz with ⟨e1, e2⟩ | ⟨e1, e2⟩
  ·
    have y101 := F1_
    rw [e1] at y101
    have y102 := A2_
    rw [e2] at y102
    have g103 := jA X0 hx g0 (hE 0 rfl) rfl rfl
    obtain ⟨T104, X104, e104, g104⟩ := own_getF X0 hx hZ hown (hw _ (mi 66 rfl)) Via.refl e0 F0_ g103 (hE 1 rfl)
    have zz105 := y102
    obtain ⟨cl105, Ar105, -, S105, M105, -, -⟩ := zz105
    have g106 : Go p e below T104 (mkF m 5 #[rv b1, iv (Int32.ofNat m1), .unset] [(.int 256)]) A0 := by
      intro t kont
      refine g104 t ?_
      refine X104.arraylength hx (by rw [e104]; exact Ar105.1) (State.isArrayOf_alike hZ.alike Ar105.2.1) (g := (mkF m 4 #[rv b1, iv (Int32.ofNat m1), .unset] [(.ref v1)])) rfl rfl (hE 2 rfl) _ ?_
      rw [len_of S105 M105]
      exact kont
    have g107 := jA X104 hx g106 (hE 3 rfl) rfl rfl
    obtain ⟨T108, X108, e108, g108⟩ := own_getF X104 hx hZ hown (hw _ (mi 68 rfl)) Via.refl e104 y101 g107 (hE 4 rfl)
    have g109 := jY X108 hx (jM X108 hx (jI X108 hx (jI X108 hx (jS X108 hx (jR X108 hx g108 (hE 5 rfl) rfl) (hE 6 rfl) rfl (l' := #[rv b1, iv (Int32.ofNat m1), iv 256]) rfl) (hE 7 rfl) rfl) (hE 8 rfl) rfl) (hE 9 rfl) rfl) (hE 10 rfl) rfl ((if0 _ _).trans (flt (own_ens hm (by decide) : ¬ ((0 : Int32) < ((Int32.ofNat m1) - (256 : Int32))))).2.2.2) (pc' := 38) (by decide)
    refine own_leave X108 Bd (none) (fun _ => rfl) g109 (fun fs hr => X108.returnOut hx Bd.returns (hE 11 rfl) hr) (by decide) (by decide) ?_
    rw [e108]
    exact ⟨rfl, N0, rfl⟩
  have y110 := F1_
  rw [e1] at y110
  have y111 := A2_
  rw [e2] at y111
  have g112 := jA X0 hx g0 (hE 0 rfl) rfl rfl
  obtain ⟨T113, X113, e113, g113⟩ := own_getF X0 hx hZ hown (hw _ (mi 66 rfl)) Via.refl e0 F0_ g112 (hE 1 rfl)
  have zz114 := y111
  obtain ⟨cl114, Ar114, -, S114, M114, -, -⟩ := zz114
  have g115 : Go p e below T113 (mkF m 5 #[rv b1, iv (Int32.ofNat m1), .unset] [(.int 512)]) A0 := by
    intro t kont
    refine g113 t ?_
    refine X113.arraylength hx (by rw [e113]; exact Ar114.1) (State.isArrayOf_alike hZ.alike Ar114.2.1) (g := (mkF m 4 #[rv b1, iv (Int32.ofNat m1), .unset] [(.ref v1)])) rfl rfl (hE 2 rfl) _ ?_
    rw [len_of S114 M114]
    exact kont
  have g116 := jA X113 hx g115 (hE 3 rfl) rfl rfl
  obtain ⟨T117, X117, e117, g117⟩ := own_getF X113 hx hZ hown (hw _ (mi 68 rfl)) Via.refl e113 y110 g116 (hE 4 rfl)
  have g118 := jY X117 hx (jM X117 hx (jI X117 hx (jI X117 hx (jS X117 hx (jR X117 hx g117 (hE 5 rfl) rfl) (hE 6 rfl) rfl (l' := #[rv b1, iv (Int32.ofNat m1), iv 256]) rfl) (hE 7 rfl) rfl) (hE 8 rfl) rfl) (hE 9 rfl) rfl) (hE 10 rfl) rfl ((if0 _ _).trans (flt (own_ens hm (by decide) : ¬ ((0 : Int32) < ((Int32.ofNat m1) - (256 : Int32))))).2.2.2) (pc' := 38) (by decide)
  refine own_leave X117 Bd (none) (fun _ => rfl) g118 (fun fs hr => X117.returnOut hx Bd.returns (hE 11 rfl) hr) (by decide) (by decide) ?_
  rw [e117]
  exact ⟨rfl, N0, rfl⟩
theorem rm_ule5 (hw : HW a0 Z) (v1 : Addr) (kv : ClassId) (vs : List Value) (h0 : Heap) (n0 : Nat) (O0 : Old Z n0 h0) (A0_ : Arv Z h0 v1 kv .byte (512 : Int32) vs (.int 0)) :
    own_M l mN19 (Jvm.Cond.code mN19 jdk_52_method_6_code 1 (some .int)) [] (⟨0, 0, 0, 0⟩ : Room) #[(.ref v1)] Z h0 (fun v h L => v = some (.int 256) ∧ Fr n0 L ∧ h = h0) := by
  refine own_open n0 (plainFor_of_name pn_2) (fun m => ef_R1 m v1 ) ?_
  intro p e s m below meth c s₁ A0 Bd hx hby hml hown hnm hZ hh X0 e0 N0 g0
  have hE := own_hd hby E66
  have g101 := jA X0 hx g0 (hE 0 rfl) rfl rfl
  have zz102 := A0_
  obtain ⟨cl102, Ar102, -, S102, M102, -, -⟩ := zz102
  have g103 : Go p e below s₁ (mkF m 2 #[rv v1] [(.int 512)]) A0 := by
    intro t kont
    refine g101 t ?_
    refine X0.arraylength hx (by rw [e0]; exact Ar102.1) (State.isArrayOf_alike hZ.alike Ar102.2.1) (g := (mkF m 1 #[rv v1] [(.ref v1)])) rfl rfl (hE 1 rfl) _ ?_
    rw [len_of S102 M102]
    exact kont
  have g104 := jR X0 hx (jc X0 hx g103 (hE 2 rfl) 1 rfl) (hE 3 rfl) rfl
  refine own_leave X0 Bd (some (.int 256)) nofun g104 (fun fs hr => retI X0 hx Bd.returns (hE 4 rfl) hr) (by decide) (by decide) ?_
  rw [e0]
  exact ⟨rfl, N0, rfl⟩
theorem rm_uck5 (hw : HW a0 Z) (v1 : Addr) (i1 : Nat) (kv : ClassId) (vs : List Value) (fm : Value) (cs : Int32) (h0 : Heap) (n0 : Nat) (O0 : Old Z n0 h0) (A0_ : Arv Z h0 v1 kv .byte (512 : Int32) vs (.int 0)) (hi : i1 < 256) (hW : own_W Z cs fm) :
    own_M l mN20 (Jvm.Cond.code mN20 jdk_52_method_91_code 2 none) [] (⟨2, 0, 0, 27⟩ : Room) #[(.int (Int32.ofNat i1)), (.ref v1)] Z h0 (fun v h L => v = none ∧ Fr n0 L ∧ h = h0) := by
  refine own_open n0 (plainFor_of_name pn_2) (fun m => ef_IR2 m (Int32.ofNat i1) v1 ) ?_
  intro p e s m below meth c s₁ A0 Bd hx hby hml hown hnm hZ hh X0 e0 N0 g0
  obtain ⟨SC_, hcs, SF_, hfm, SU1_, SU2_, SU3_⟩ := id hW
  have hE := own_hd hby E65
  have g101 := jA X0 hx (jI X0 hx g0 (hE 0 rfl) rfl) (hE 1 rfl) rfl rfl
  obtain ⟨_, L102, T102, ⟨rfl, M102, e102⟩, X102, st102⟩ := own_callS X0 hx hZ hown (hw _ (mi 321 rfl)) (wd12 hw) (rm_ule5 hw v1 kv vs h0 n0 O0 A0_) g101 e0 [(.int (Int32.ofNat i1))] rfl (lenOf pd_11 rfl) (hE 2 rfl) hml.symm 1 rfl (by decide)
  have N102 := Fr.app N0 M102
  obtain ⟨_, L103, T103, ⟨rfl, M103, e103⟩, X103, st103⟩ := own_callS X102 hx hZ hown (hw _ (mi 324 rfl)) (wd11 hw) (rm_sci hw (Int32.ofNat i1) (256 : Int32) fm cs h0 n0 O0 (own_nonneg (by omega)) (own_lt (b := 256) hi (by decide)) hW) st102 e102 [] rfl (lenOf pd_10 rfl) (hE 3 rfl) hml.symm 0 rfl (by decide)
  have N103 := Fr.app N102 M103
  refine own_leave X103 Bd (none) (fun _ => rfl) st103 (fun fs hr => X103.returnOut hx Bd.returns (hE 4 rfl) hr) (by decide) (by decide) ?_
  rw [e103]
  exact ⟨rfl, N103, rfl⟩
theorem rm_pcsb (hw : HW a0 Z) (v1 : Addr) (ch : Int32) (kv : ClassId) (ls : List Int32) (fm : Value) (cs : Int32) (h0 : Heap) (n0 : Nat) (O0 : Old Z n0 h0) (A0_ : Arv Z h0 v1 kv .byte (512 : Int32) (own_PW ls) (.int 0)) (G1_ : n0 ≤ v1) (hcap : ls.length ≤ 200) (hW : own_W Z cs fm) :
    own_M l mN27 (Jvm.Cond.code mN27 jdk_52_method_71_code 3 none) [] (⟨3, 0, 0, 40⟩ : Room) #[(.ref v1), (.int (Int32.ofNat ls.length)), (.int ch)] Z h0 (fun v h L => v = none ∧ Fr n0 L ∧ Keep h0 h [v1] ∧ (Arv Z h v1 kv .byte (512 : Int32) (own_PW (ls ++ [ch])) (.int 0))) := by
  refine own_open n0 (plainFor_of_name pn_2) (fun m => ef_RII3 m v1 (Int32.ofNat ls.length) ch ) ?_
  intro p e s m below meth c s₁ A0 Bd hx hby hml hown hnm hZ hh X0 e0 N0 g0
  obtain ⟨SC_, hcs, SF_, hfm, SU1_, SU2_, SU3_⟩ := id hW
  have hE := own_hd hby E73
  have g101 := jA X0 hx (jI X0 hx g0 (hE 0 rfl) rfl) (hE 1 rfl) rfl rfl
  obtain ⟨_, L102, T102, ⟨rfl, M102, e102⟩, X102, st102⟩ := own_callS X0 hx hZ hown (hw _ (mi 318 rfl)) (wd13 hw) (rm_uck5 hw v1 ls.length kv (own_PW ls) fm cs h0 n0 O0 A0_ (by omega) hW) g101 e0 [] rfl (lenOf pd_12 rfl) (hE 2 rfl) hml.symm 0 rfl (by decide)
  have N102 := Fr.app N0 M102
  have g103 := jI X102 hx (jI X102 hx (jA X102 hx st102 (hE 3 rfl) rfl rfl) (hE 4 rfl) rfl) (hE 5 rfl) rfl
  obtain ⟨_, L104, T104, ⟨rfl, M104, K104, y105⟩, X104, st104⟩ := own_callS X102 hx hZ hown (hw _ (mi 296 rfl)) (wd2 hw) (rm_putG hw v1 ls.length ch kv (512 : Int32) (own_PW ls) cs fm h0 n0 O0 A0_ G1_ (by rw [own_PWlen (by omega)]; omega) (by rw [own_PWlen (by omega)]; rfl) (by rw [own_PWlen (by omega)]; decide) hW) g103 e102 [] rfl (lenOf pd_2 rfl) (hE 6 rfl) hml.symm 0 rfl (by decide)
  have N104 := Fr.app N102 M104
  have O106 := O0.keep K104 (allS G1_ all0)
  have K107 : Keep h0 T104.heap [v1] := ((Keep.refl h0 [v1]).trans K104 (allS (P := fun x => x ∈ [v1] ∨ h0.size ≤ x) (Or.inl (mi 0 rfl)) all0))
  refine own_leave X104 Bd (none) (fun _ => rfl) st104 (fun fs hr => X104.returnOut hx Bd.returns (hE 7 rfl) hr) (by decide) (by decide) ?_
  exact ⟨rfl, N104, K107, (by have q := y105; rw [own_PWset (by omega)] at q; exact q)⟩
theorem ef_IIIV4 (m : MethodId) (x0 : Int32) (x1 : Int32) (x2 : Int32) (x3 : Value) (h3 : x3.isRef = true) : entryFrame m #[(.int x0), (.int x1), (.int x2), x3] 4 = mkF m 0 #[.val (.int x0), .val (.int x1), .val (.int x2), .val x3] [] := by (rcases ref_cases h3 with rfl | ⟨_, rfl⟩) <;> first | (simp [entryFrame, mkF, argsToLocals, Value.category]; done) | rfl
theorem rm_cfis (hw : HW a0 Z) (a1 b1 d1 : Nat) (fm : Value) (h0 : Heap) (n0 : Nat) (O0 : Old Z n0 h0) (hfm : fm.isRef = true) (hd1 : d1 < 2147483648) (hab : a1 + b1 ≤ d1) :
    own_M l mN28 (Jvm.Cond.code mN28 jdk_41_method_13_code 4 (some .int)) [] (⟨0, 0, 0, 0⟩ : Room) #[(.int (Int32.ofNat a1)), (.int (Int32.ofNat b1)), (.int (Int32.ofNat d1)), fm] Z h0 (fun v h L => v = some (.int (Int32.ofNat a1)) ∧ Fr n0 L ∧ h = h0) := by
  refine own_open n0 (plainFor_of_name pn_3) (fun m => ef_IIIV4 m (Int32.ofNat a1) (Int32.ofNat b1) (Int32.ofNat d1) fm (hfm)) ?_
  intro p e s m below meth c s₁ A0 Bd hx hby hml hown hnm hZ hh X0 e0 N0 g0
  have hE := own_hd hby E72
  have g101 := jI X0 hx (jy X0 hx (jM X0 hx (jI X0 hx (jI X0 hx (jI X0 hx (jN X0 hx (jO X0 hx (jI X0 hx (jO X0 hx (jI X0 hx (jI X0 hx g0 (hE 0 rfl) rfl) (hE 1 rfl) rfl) (hE 2 rfl) rfl) (hE 3 rfl) rfl) (hE 4 rfl) rfl) (hE 5 rfl) rfl ((if0 _ _).trans (flt (own_or3 (d := d1) (by omega) (by omega) (by omega) : ¬ ((((Int32.ofNat d1) ||| (Int32.ofNat a1)) ||| (Int32.ofNat b1)) < (0 : Int32)))).1)) (hE 6 rfl) rfl) (hE 7 rfl) rfl) (hE 8 rfl) rfl) (hE 9 rfl) rfl) (hE 10 rfl) rfl (flt (by rw [own_subn (by omega) (by omega)]; exact own_nlt (by omega) (by omega) : ¬ (((Int32.ofNat d1) - (Int32.ofNat a1)) < (Int32.ofNat b1)))).2.2.2 (pc' := 23) (by decide)) (hE 11 rfl) rfl
  refine own_leave X0 Bd (some (.int (Int32.ofNat a1))) nofun g101 (fun fs hr => retI X0 hx Bd.returns (hE 12 rfl) hr) (by decide) (by decide) ?_
  rw [e0]
  exact ⟨rfl, N0, rfl⟩
theorem pd_15 : parseMethodDescriptor "(IIILjava/util/function/BiFunction;)I" = some ⟨[.int, .int, .int, (.object "java/util/function/BiFunction")], some .int⟩ := by decide +kernel
theorem wd18 (hw : HW a0 Z) : own_wdS a0 Z mN28 jdk_41_method_13_code 4 (some .int) := ⟨hw _ (mi 345 rfl), hw _ (mi 177 rfl), hw _ (mi 346 rfl), by decide⟩
theorem ef_III3 (m : MethodId) (x0 : Int32) (x1 : Int32) (x2 : Int32)  : entryFrame m #[(.int x0), (.int x1), (.int x2)] 3 = mkF m 0 #[.val (.int x0), .val (.int x1), .val (.int x2)] [] := by first | (simp [entryFrame, mkF, argsToLocals, Value.category]; done) | rfl
theorem rm_scbo (hw : HW a0 Z) (a1 b1 d1 : Nat) (fm : Value) (cs : Int32) (h0 : Heap) (n0 : Nat) (O0 : Old Z n0 h0) (hd1 : d1 < 2147483648) (hab : a1 + b1 ≤ d1) (hW : own_W Z cs fm) :
    own_M l mN29 (Jvm.Cond.code mN29 jdk_42_method_157_code 3 (some .int)) [] (⟨1, 0, 0, 15⟩ : Room) #[(.int (Int32.ofNat a1)), (.int (Int32.ofNat b1)), (.int (Int32.ofNat d1))] Z h0 (fun v h L => v = some (.int (Int32.ofNat a1)) ∧ Fr n0 L ∧ h = h0) := by
  refine own_open n0 (plainFor_of_name pn_1) (fun m => ef_III3 m (Int32.ofNat a1) (Int32.ofNat b1) (Int32.ofNat d1) ) ?_
  intro p e s m below meth c s₁ A0 Bd hx hby hml hown hnm hZ hh X0 e0 N0 g0
  obtain ⟨SC_, hcs, SF_, hfm, SU1_, SU2_, SU3_⟩ := id hW
  have hE := own_hd hby E71
  have g101 := jI X0 hx (jI X0 hx (jI X0 hx g0 (hE 0 rfl) rfl) (hE 1 rfl) rfl) (hE 2 rfl) rfl
  have y102 := SF_.ext O0.2
  obtain ⟨T103, X103, e103, g103⟩ := own_getS X0 hx hZ hown (hw _ (mi 176 rfl)) Via.refl e0 y102 g101 (hE 3 rfl)
  obtain ⟨_, L104, T104, ⟨rfl, M104, e104⟩, X104, st104⟩ := own_callS X103 hx hZ hown (hw _ (mi 344 rfl)) (wd18 hw) (rm_cfis hw a1 b1 d1 fm h0 n0 O0 hfm hd1 hab) g103 e103 [] rfl (lenOf pd_15 rfl) (hE 4 rfl) hml.symm 0 rfl (by decide)
  have N104 := Fr.app N0 M104
  refine own_leave X104 Bd (some (.int (Int32.ofNat a1))) nofun st104 (fun fs hr => retI X104 hx Bd.returns (hE 5 rfl) hr) (by decide) (by decide) ?_
  rw [e104]
  exact ⟨rfl, N104, rfl⟩
theorem pd_16 : parseMethodDescriptor "(III)I" = some ⟨[.int, .int, .int], some .int⟩ := by decide +kernel
theorem wd19 (hw : HW a0 Z) : own_wdS a0 Z mN29 jdk_42_method_157_code 3 (some .int) := ⟨hw _ (mi 342 rfl), hw _ (mi 3 rfl), hw _ (mi 343 rfl), by decide⟩
theorem ef_IIR3 (m : MethodId) (x0 : Int32) (x1 : Int32) (x2 : Addr)  : entryFrame m #[(.int x0), (.int x1), (.ref x2)] 3 = mkF m 0 #[.val (.int x0), .val (.int x1), .val (.ref x2)] [] := by first | (simp [entryFrame, mkF, argsToLocals, Value.category]; done) | rfl
theorem rm_ucbo (hw : HW a0 Z) (a1 b1 : Nat) (v1 : Addr) (kv : ClassId) (vs : List Value) (fm : Value) (cs : Int32) (h0 : Heap) (n0 : Nat) (O0 : Old Z n0 h0) (A0_ : Arv Z h0 v1 kv .byte (512 : Int32) vs (.int 0)) (hab : a1 + b1 ≤ 256) (hW : own_W Z cs fm) :
    own_M l mN30 (Jvm.Cond.code mN30 jdk_52_method_94_code 3 none) [] (⟨2, 0, 0, 29⟩ : Room) #[(.int (Int32.ofNat a1)), (.int (Int32.ofNat b1)), (.ref v1)] Z h0 (fun v h L => v = none ∧ Fr n0 L ∧ h = h0) := by
  refine own_open n0 (plainFor_of_name pn_2) (fun m => ef_IIR3 m (Int32.ofNat a1) (Int32.ofNat b1) v1 ) ?_
  intro p e s m below meth c s₁ A0 Bd hx hby hml hown hnm hZ hh X0 e0 N0 g0
  obtain ⟨SC_, hcs, SF_, hfm, SU1_, SU2_, SU3_⟩ := id hW
  have hE := own_hd hby E70
  have g101 := jA X0 hx (jI X0 hx (jI X0 hx g0 (hE 0 rfl) rfl) (hE 1 rfl) rfl) (hE 2 rfl) rfl rfl
  obtain ⟨_, L102, T102, ⟨rfl, M102, e102⟩, X102, st102⟩ := own_callS X0 hx hZ hown (hw _ (mi 321 rfl)) (wd12 hw) (rm_ule5 hw v1 kv vs h0 n0 O0 A0_) g101 e0 [(.int (Int32.ofNat b1)), (.int (Int32.ofNat a1))] rfl (lenOf pd_11 rfl) (hE 3 rfl) hml.symm 2 rfl (by decide)
  have N102 := Fr.app N0 M102
  obtain ⟨_, L103, T103, ⟨rfl, M103, e103⟩, X103, st103⟩ := own_callS X102 hx hZ hown (hw _ (mi 341 rfl)) (wd19 hw) (rm_scbo hw a1 b1 256 fm cs h0 n0 O0 (by decide) (hab) hW) st102 e102 [] rfl (lenOf pd_16 rfl) (hE 4 rfl) hml.symm 0 rfl (by decide)
  have N103 := Fr.app N102 M103
  have g104 := jo X103 hx st103 (hE 5 rfl) rfl rfl
  refine own_leave X103 Bd (none) (fun _ => rfl) g104 (fun fs hr => X103.returnOut hx Bd.returns (hE 6 rfl) hr) (by decide) (by decide) ?_
  rw [e103]
  exact ⟨rfl, N103, rfl⟩
theorem pd_17 : parseMethodDescriptor "(II[B)V" = some ⟨[.int, .int, (.array .byte)], none⟩ := by decide +kernel
theorem wd20 (hw : HW a0 Z) : own_wdS a0 Z mN30 jdk_52_method_94_code 3 none := ⟨hw _ (mi 339 rfl), hw _ (mi 37 rfl), hw _ (mi 340 rfl), by decide⟩
theorem ef_RIRII6 (m : MethodId) (x0 : Addr) (x1 : Int32) (x2 : Addr) (x3 : Int32) (x4 : Int32)  : entryFrame m #[(.ref x0), (.int x1), (.ref x2), (.int x3), (.int x4)] 6 = mkF m 0 #[.val (.ref x0), .val (.int x1), .val (.ref x2), .val (.int x3), .val (.int x4), .unset] [] := by first | (simp [entryFrame, mkF, argsToLocals, Value.category]; done) | rfl
theorem rm_infG (hw : HW a0 Z) (s1 d1 : Addr) (ks kd : ClassId) (zn : Nat) (us : List Value) (ls xs : List Int32) (fm : Value) (cs : Int32) (h0 : Heap) (n0 : Nat) (O0 : Old Z n0 h0) (A0_ : Arv Z h0 s1 ks .byte (Int32.ofNat zn) us (.int 0)) (A1_ : Arv Z h0 d1 kd .byte (512 : Int32) (own_PW ls) (.int 0)) (G2_ : n0 ≤ d1) (NE3_ : ¬ (s1 = d1)) (hus : ∀ i, i < xs.length → us.getD i (.int 0) = .int ((xs.getD i 0).toInt8.toInt32)) (hzn : xs.length ≤ zn) (hzb : zn < 2147483648) (hbd : ls.length + xs.length ≤ 250) (cx : own_chars xs) (lx : own_lat xs) (hW : own_W Z cs fm) :
    own_M l mN31 (Jvm.Cond.code mN31 jdk_52_method_86_code 6 none) [] (⟨3, 0, 0, 43⟩ : Room) #[(.ref s1), (.int 0), (.ref d1), (.int (Int32.ofNat ls.length)), (.int (Int32.ofNat xs.length))] Z h0 (fun v h L => v = none ∧ Fr n0 L ∧ Keep h0 h [d1] ∧ (Arv Z h d1 kd .byte (512 : Int32) (own_PW (ls ++ xs)) (.int 0))) := by
  refine own_open n0 (plainFor_of_name pn_2) (fun m => ef_RIRII6 m s1 (0 : Int32) d1 (Int32.ofNat ls.length) (Int32.ofNat xs.length) ) ?_
  intro p e s m below meth c s₁ A0 Bd hx hby hml hown hnm hZ hh X0 e0 N0 g0
  obtain ⟨SC_, hcs, SF_, hfm, SU1_, SU2_, SU3_⟩ := id hW
  have hE := own_hd hby E69
  have g101 := jA X0 hx (ji X0 hx (jI X0 hx g0 (hE 0 rfl) rfl) (hE 1 rfl) rfl) (hE 2 rfl) rfl rfl
  obtain ⟨_, L102, T102, ⟨rfl, M102, e102⟩, X102, st102⟩ := own_callS X0 hx hZ hown (hw _ (mi 338 rfl)) (wd20 hw) (rm_ucbo hw ls.length xs.length d1 kd (own_PW ls) fm cs h0 n0 O0 A1_ (by omega) hW) g101 e0 [] rfl (lenOf pd_17 rfl) (hE 3 rfl) hml.symm 0 rfl (by decide)
  have N102 := Fr.app N0 M102
  have g103 := js X102 hx (jc X102 hx st102 (hE 4 rfl) 0 rfl) (hE 5 rfl) rfl (l' := #[rv s1, iv 0, rv d1, iv (Int32.ofNat ls.length), iv (Int32.ofNat xs.length), iv 0]) rfl
  have loop104 : ∀ k : Nat, k ≤ xs.length → ∃ (T104 : State) (lc104 : List Loc) (h104 : Heap), Stand p l e (⟨3, 0, 0, 43⟩ : Room) s m #[(.ref s1), (.int 0), (.ref d1), (.int (Int32.ofNat ls.length)), (.int (Int32.ofNat xs.length))] below meth c T104 lc104 0 0 ∧ T104.heap = h104 ∧ Keep h0 h104 [d1] ∧ Fr n0 lc104 ∧ (Arv Z h104 d1 kd .byte (512 : Int32) (own_PW (ls ++ xs.take k)) (.int 0)) ∧ Go p e below T104 (mkF m 10 #[rv s1, iv (Int32.ofNat k), rv d1, iv (Int32.ofNat (ls.length + k)), iv (Int32.ofNat xs.length), iv (Int32.ofNat k)] []) A0 := by
    intro k
    induction k with
    | zero =>
      intro _
      exact ⟨_, _, _, X102, e102, (Keep.refl _ _), N102, (by rw [List.take_zero, List.append_nil]; exact A1_), g103⟩
    | succ k ih =>
      intro hk_k
      obtain ⟨T105, lc105, h105, X105, e105, K105, N105, y106, g105⟩ := ih (Nat.le_of_succ_le hk_k)
      have O107 := O0.keep K105 (allS G2_ all0)
      have g108 := jk X105 hx (jI X105 hx (jA X105 hx (jk X105 hx (jI X105 hx (jA X105 hx (jn X105 hx (ji X105 hx (ji X105 hx g105 (hE 6 rfl) rfl) (hE 7 rfl) rfl) (hE 8 rfl) rfl (tlt (own_lt (by omega) (by omega) : (Int32.ofNat k) < (Int32.ofNat xs.length))).2.1) (hE 9 rfl) rfl rfl) (hE 10 rfl) rfl) (hE 11 rfl) rfl (l' := #[rv s1, iv (Int32.ofNat k), rv d1, iv ((Int32.ofNat (ls.length + k)) + (1 : Int32)), iv (Int32.ofNat xs.length), iv (Int32.ofNat k)]) rfl) (hE 12 rfl) rfl rfl) (hE 13 rfl) rfl) (hE 14 rfl) rfl (l' := #[rv s1, iv ((Int32.ofNat k) + (1 : Int32)), rv d1, iv ((Int32.ofNat (ls.length + k)) + (1 : Int32)), iv (Int32.ofNat xs.length), iv (Int32.ofNat k)]) rfl
      have y109 := (A0_.keep K105 (ninS NE3_ nin0))
      have zz110 := y109
      obtain ⟨cl110, Ar110, q110, S110, M110, H110, G110⟩ := zz110
      have in110 : ¬ ((Int32.ofNat k) < 0 ∨ cl110.slots.size ≤ ((Int32.ofNat k)).toNatClampNeg) := inb_of S110 ⟨own_nonneg (by omega), own_lt (by omega) (by omega)⟩
      have at110 : cl110.slots[((Int32.ofNat k)).toNatClampNeg]? = some (.int ((xs.getD k 0).toInt8.toInt32)) := Has.at H110 in110 (by rw [own_clamp (by omega)]; exact hus k (by omega))
      let lo111 : Array Slot := #[rv s1, iv ((Int32.ofNat k) + (1 : Int32)), rv d1, iv ((Int32.ofNat (ls.length + k)) + (1 : Int32)), iv (Int32.ofNat xs.length), iv (Int32.ofNat k)]
      have g112 : Go p e below T105 (mkF m 28 lo111 [(.int ((xs.getD k 0).toInt8.toInt32)), (.int (Int32.ofNat (ls.length + k))), (.ref d1)]) A0 := fun t kont => g108 t (X105.baloadBytes hx (j := (Int32.ofNat k)) (v := (.int ((xs.getD k 0).toInt8.toInt32))) (by rw [e105]; exact Ar110.1) (State.isArrayOf_alike hZ.alike Ar110.2.1) Ar110.2.2 in110 at110 (g := (mkF m 27 lo111 [(.int (Int32.ofNat k)), (.ref s1), (.int (Int32.ofNat (ls.length + k))), (.ref d1)])) rfl rfl (hE 15 rfl) t kont)
      have g113 := jB X105 hx (jp X105 hx g112 (hE 16 rfl) 255 rfl) (hE 17 rfl) rfl
      have g114 := own_rwS g113 (own_and8 (cx k (by omega)).1 (lx k (by omega)) : (((xs.getD k 0).toInt8.toInt32) &&& (255 : Int32)) = (xs.getD k 0))
      obtain ⟨_, L115, T115, ⟨rfl, M115, K115, y116⟩, X115, st115⟩ := own_callS X105 hx hZ hown (hw _ (mi 296 rfl)) (wd2 hw) (rm_putG hw d1 (ls.length + k) (xs.getD k 0) kd (512 : Int32) (own_PW (ls ++ xs.take k)) cs fm h105 n0 O107 y106 G2_ (by rw [own_PWlen (by rw [own_tkl (by omega)]; omega)]; omega) (by rw [own_PWlen (by rw [own_tkl (by omega)]; omega)]; rfl) (by rw [own_PWlen (by rw [own_tkl (by omega)]; omega)]; decide) hW) g114 e105 [] rfl (lenOf pd_2 rfl) (hE 18 rfl) hml.symm 0 rfl (by decide)
      have N115 := Fr.app N105 M115
      have O117 := O107.keep K115 (allS G2_ all0)
      have g118 := jg X115 hx (jk X115 hx st115 (hE 19 rfl) rfl (l' := #[rv s1, iv ((Int32.ofNat k) + (1 : Int32)), rv d1, iv ((Int32.ofNat (ls.length + k)) + (1 : Int32)), iv (Int32.ofNat xs.length), iv ((Int32.ofNat k) + (1 : Int32))]) rfl) (hE 20 rfl) (pc' := 10) (by decide)
      have g119 : Go p e below T115 (mkF m 10 #[rv s1, iv (Int32.ofNat (k + 1)), rv d1, iv (Int32.ofNat (ls.length + (k + 1))), iv (Int32.ofNat xs.length), iv (Int32.ofNat (k + 1))] []) A0 := by rw [← own_succ k, ← Nat.add_assoc, ← own_succ (ls.length + k)]; exact g118
      exact ⟨_, _, _, X115, rfl, (((Keep.refl h0 [d1]).trans K105 (allS (P := fun x => x ∈ [d1] ∨ h0.size ≤ x) (Or.inl (mi 0 rfl)) all0)).trans K115 (allS (P := fun x => x ∈ [d1] ∨ h0.size ≤ x) (Or.inl (mi 0 rfl)) all0)), N115, (by have q := y116; rw [own_PWsetN (by rw [own_tkl (by omega)]; omega) (own_tkl (by omega)), own_tk (by omega)] at q; exact q), g119⟩
  obtain ⟨T120, lc120, h120, X120, e120, K120, N120, y121, g120⟩ := loop104 xs.length (Nat.le_refl _)
  have O122 := O0.keep K120 (allS G2_ all0)
  have g123 := jy X120 hx (ji X120 hx (ji X120 hx g120 (hE 6 rfl) rfl) (hE 7 rfl) rfl) (hE 8 rfl) rfl (flt (own_nlt (by omega) (by omega) : ¬ ((Int32.ofNat xs.length) < (Int32.ofNat xs.length)))).2.1 (pc' := 41) (by decide)
  have K124 : Keep h0 h120 [d1] := ((Keep.refl h0 [d1]).trans K120 (allS (P := fun x => x ∈ [d1] ∨ h0.size ≤ x) (Or.inl (mi 0 rfl)) all0))
  refine own_leave X120 Bd (none) (fun _ => rfl) g123 (fun fs hr => X120.returnOut hx Bd.returns (hE 21 rfl) hr) (by decide) (by decide) ?_
  rw [e120]
  exact ⟨rfl, N120, K124, (by have q := y121; rw [List.take_length] at q; exact q)⟩
theorem pd_18 : parseMethodDescriptor "([BI[BII)V" = some ⟨[(.array .byte), .int, (.array .byte), .int, .int], none⟩ := by decide +kernel
theorem wd21 (hw : HW a0 Z) : own_wdS a0 Z mN31 jdk_52_method_86_code 6 none := ⟨hw _ (mi 336 rfl), hw _ (mi 37 rfl), hw _ (mi 337 rfl), by decide⟩
theorem ef_RIRII5 (m : MethodId) (x0 : Addr) (x1 : Int32) (x2 : Addr) (x3 : Int32) (x4 : Int32)  : entryFrame m #[(.ref x0), (.int x1), (.ref x2), (.int x3), (.int x4)] 5 = mkF m 0 #[.val (.ref x0), .val (.int x1), .val (.ref x2), .val (.int x3), .val (.int x4)] [] := by first | (simp [entryFrame, mkF, argsToLocals, Value.category]; done) | rfl
theorem rm_linfG (hw : HW a0 Z) (s1 d1 : Addr) (ks kd : ClassId) (zn : Nat) (us : List Value) (ls xs : List Int32) (fm : Value) (cs : Int32) (h0 : Heap) (n0 : Nat) (O0 : Old Z n0 h0) (A0_ : Arv Z h0 s1 ks .byte (Int32.ofNat zn) us (.int 0)) (A1_ : Arv Z h0 d1 kd .byte (512 : Int32) (own_PW ls) (.int 0)) (G2_ : n0 ≤ d1) (NE3_ : ¬ (s1 = d1)) (hus : ∀ i, i < xs.length → us.getD i (.int 0) = .int ((xs.getD i 0).toInt8.toInt32)) (hzn : xs.length ≤ zn) (hzb : zn < 2147483648) (hbd : ls.length + xs.length ≤ 250) (cx : own_chars xs) (lx : own_lat xs) (hW : own_W Z cs fm) :
    own_M l mN32 (Jvm.Cond.code mN32 jdk_43_method_50_code 5 none) [] (⟨4, 0, 0, 60⟩ : Room) #[(.ref s1), (.int 0), (.ref d1), (.int (Int32.ofNat ls.length)), (.int (Int32.ofNat xs.length))] Z h0 (fun v h L => v = none ∧ Fr n0 L ∧ Keep h0 h [d1] ∧ (Arv Z h d1 kd .byte (512 : Int32) (own_PW (ls ++ xs)) (.int 0))) := by
  refine own_open n0 (plainFor_of_name pn_0) (fun m => ef_RIRII5 m s1 (0 : Int32) d1 (Int32.ofNat ls.length) (Int32.ofNat xs.length) ) ?_
  intro p e s m below meth c s₁ A0 Bd hx hby hml hown hnm hZ hh X0 e0 N0 g0
  obtain ⟨SC_, hcs, SF_, hfm, SU1_, SU2_, SU3_⟩ := id hW
  have hE := own_hd hby E68
  have g101 := ji X0 hx (jI X0 hx (jA X0 hx (jI X0 hx (jA X0 hx g0 (hE 0 rfl) rfl rfl) (hE 1 rfl) rfl) (hE 2 rfl) rfl rfl) (hE 3 rfl) rfl) (hE 4 rfl) rfl
  obtain ⟨_, L102, T102, ⟨rfl, M102, K102, y103⟩, X102, st102⟩ := own_callS X0 hx hZ hown (hw _ (mi 335 rfl)) (wd21 hw) (rm_infG hw s1 d1 ks kd zn us ls xs fm cs h0 n0 O0 A0_ A1_ G2_ NE3_ hus hzn hzb hbd cx lx hW) g101 e0 [] rfl (lenOf pd_18 rfl) (hE 5 rfl) hml.symm 0 rfl (by decide)
  have N102 := Fr.app N0 M102
  have O104 := O0.keep K102 (allS G2_ all0)
  have K105 : Keep h0 T102.heap [d1] := ((Keep.refl h0 [d1]).trans K102 (allS (P := fun x => x ∈ [d1] ∨ h0.size ≤ x) (Or.inl (mi 0 rfl)) all0))
  refine own_leave X102 Bd (none) (fun _ => rfl) st102 (fun fs hr => X102.returnOut hx Bd.returns (hE 6 rfl) hr) (by decide) (by decide) ?_
  exact ⟨rfl, N102, K105, y103⟩
theorem rm_inf0 (hw : HW a0 Z) (s1 d1 : Addr) (ks kd : ClassId) (zn : Nat) (us : List Value) (xs : List Int32) (fm : Value) (cs : Int32) (h0 : Heap) (n0 : Nat) (O0 : Old Z n0 h0) (A0_ : Arv Z h0 s1 ks .byte (Int32.ofNat zn) us (.int 0)) (A1_ : Arv Z h0 d1 kd .byte (512 : Int32) (own_PW []) (.int 0)) (G2_ : n0 ≤ d1) (NE3_ : ¬ (s1 = d1)) (hus : ∀ i, i < xs.length → us.getD i (.int 0) = .int ((xs.getD i 0).toInt8.toInt32)) (hzn : xs.length ≤ zn) (hzb : zn < 2147483648) (hbd : xs.length ≤ 250) (cx : own_chars xs) (lx : own_lat xs) (hW : own_W Z cs fm) :
    own_M l mN31 (Jvm.Cond.code mN31 jdk_52_method_86_code 6 none) [] (⟨3, 0, 0, 43⟩ : Room) #[(.ref s1), (.int 0), (.ref d1), (.int 0), (.int (Int32.ofNat xs.length))] Z h0 (fun v h L => v = none ∧ Fr n0 L ∧ Keep h0 h [d1] ∧ (Arv Z h d1 kd .byte (512 : Int32) (own_PW xs) (.int 0))) := by
  refine own_open n0 (plainFor_of_name pn_2) (fun m => ef_RIRII6 m s1 (0 : Int32) d1 (0 : Int32) (Int32.ofNat xs.length) ) ?_
  intro p e s m below meth c s₁ A0 Bd hx hby hml hown hnm hZ hh X0 e0 N0 g0
  obtain ⟨SC_, hcs, SF_, hfm, SU1_, SU2_, SU3_⟩ := id hW
  have hE := own_hd hby E69
  have g101 := jA X0 hx (ji X0 hx (jI X0 hx g0 (hE 0 rfl) rfl) (hE 1 rfl) rfl) (hE 2 rfl) rfl rfl
  obtain ⟨_, L102, T102, ⟨rfl, M102, e102⟩, X102, st102⟩ := own_callS X0 hx hZ hown (hw _ (mi 338 rfl)) (wd20 hw) (rm_ucbo hw 0 xs.length d1 kd (own_PW []) fm cs h0 n0 O0 A1_ (by omega) hW) g101 e0 [] rfl (lenOf pd_17 rfl) (hE 3 rfl) hml.symm 0 rfl (by decide)
  have N102 := Fr.app N0 M102
  have g103 := js X102 hx (jc X102 hx st102 (hE 4 rfl) 0 rfl) (hE 5 rfl) rfl (l' := #[rv s1, iv 0, rv d1, iv 0, iv (Int32.ofNat xs.length), iv 0]) rfl
  have loop104 : ∀ k : Nat, k ≤ xs.length → ∃ (T104 : State) (lc104 : List Loc) (h104 : Heap), Stand p l e (⟨3, 0, 0, 43⟩ : Room) s m #[(.ref s1), (.int 0), (.ref d1), (.int 0), (.int (Int32.ofNat xs.length))] below meth c T104 lc104 0 0 ∧ T104.heap = h104 ∧ Keep h0 h104 [d1] ∧ Fr n0 lc104 ∧ (Arv Z h104 d1 kd .byte (512 : Int32) (own_PW ([] ++ xs.take k)) (.int 0)) ∧ Go p e below T104 (mkF m 10 #[rv s1, iv (Int32.ofNat k), rv d1, iv (Int32.ofNat k), iv (Int32.ofNat xs.length), iv (Int32.ofNat k)] []) A0 := by
    intro k
    induction k with
    | zero =>
      intro _
      exact ⟨_, _, _, X102, e102, (Keep.refl _ _), N102, (by rw [List.take_zero, List.append_nil]; exact A1_), g103⟩
    | succ k ih =>
      intro hk_k
      obtain ⟨T105, lc105, h105, X105, e105, K105, N105, y106, g105⟩ := ih (Nat.le_of_succ_le hk_k)
      have O107 := O0.keep K105 (allS G2_ all0)
      have g108 := jk X105 hx (jI X105 hx (jA X105 hx (jk X105 hx (jI X105 hx (jA X105 hx (jn X105 hx (ji X105 hx (ji X105 hx g105 (hE 6 rfl) rfl) (hE 7 rfl) rfl) (hE 8 rfl) rfl (tlt (own_lt (by omega) (by omega) : (Int32.ofNat k) < (Int32.ofNat xs.length))).2.1) (hE 9 rfl) rfl rfl) (hE 10 rfl) rfl) (hE 11 rfl) rfl (l' := #[rv s1, iv (Int32.ofNat k), rv d1, iv ((Int32.ofNat k) + (1 : Int32)), iv (Int32.ofNat xs.length), iv (Int32.ofNat k)]) rfl) (hE 12 rfl) rfl rfl) (hE 13 rfl) rfl) (hE 14 rfl) rfl (l' := #[rv s1, iv ((Int32.ofNat k) + (1 : Int32)), rv d1, iv ((Int32.ofNat k) + (1 : Int32)), iv (Int32.ofNat xs.length), iv (Int32.ofNat k)]) rfl
      have y109 := (A0_.keep K105 (ninS NE3_ nin0))
      have zz110 := y109
      obtain ⟨cl110, Ar110, q110, S110, M110, H110, G110⟩ := zz110
      have in110 : ¬ ((Int32.ofNat k) < 0 ∨ cl110.slots.size ≤ ((Int32.ofNat k)).toNatClampNeg) := inb_of S110 ⟨own_nonneg (by omega), own_lt (by omega) (by omega)⟩
      have at110 : cl110.slots[((Int32.ofNat k)).toNatClampNeg]? = some (.int ((xs.getD k 0).toInt8.toInt32)) := Has.at H110 in110 (by rw [own_clamp (by omega)]; exact hus k (by omega))
      let lo111 : Array Slot := #[rv s1, iv ((Int32.ofNat k) + (1 : Int32)), rv d1, iv ((Int32.ofNat k) + (1 : Int32)), iv (Int32.ofNat xs.length), iv (Int32.ofNat k)]
      have g112 : Go p e below T105 (mkF m 28 lo111 [(.int ((xs.getD k 0).toInt8.toInt32)), (.int (Int32.ofNat k)), (.ref d1)]) A0 := fun t kont => g108 t (X105.baloadBytes hx (j := (Int32.ofNat k)) (v := (.int ((xs.getD k 0).toInt8.toInt32))) (by rw [e105]; exact Ar110.1) (State.isArrayOf_alike hZ.alike Ar110.2.1) Ar110.2.2 in110 at110 (g := (mkF m 27 lo111 [(.int (Int32.ofNat k)), (.ref s1), (.int (Int32.ofNat k)), (.ref d1)])) rfl rfl (hE 15 rfl) t kont)
      have g113 := jB X105 hx (jp X105 hx g112 (hE 16 rfl) 255 rfl) (hE 17 rfl) rfl
      have g114 := own_rwS g113 (own_and8 (cx k (by omega)).1 (lx k (by omega)) : (((xs.getD k 0).toInt8.toInt32) &&& (255 : Int32)) = (xs.getD k 0))
      obtain ⟨_, L115, T115, ⟨rfl, M115, K115, y116⟩, X115, st115⟩ := own_callS X105 hx hZ hown (hw _ (mi 296 rfl)) (wd2 hw) (rm_putG hw d1 k (xs.getD k 0) kd (512 : Int32) (own_PW ([] ++ xs.take k)) cs fm h105 n0 O107 y106 G2_ (by rw [own_PWlen (by rw [own_tkl (by omega)]; simp only [List.length_nil]; omega)]; omega) (by rw [own_PWlen (by rw [own_tkl (by omega)]; simp only [List.length_nil]; omega)]; rfl) (by rw [own_PWlen (by rw [own_tkl (by omega)]; simp only [List.length_nil]; omega)]; decide) hW) g114 e105 [] rfl (lenOf pd_2 rfl) (hE 18 rfl) hml.symm 0 rfl (by decide)
      have N115 := Fr.app N105 M115
      have O117 := O107.keep K115 (allS G2_ all0)
      have g118 := jg X115 hx (jk X115 hx st115 (hE 19 rfl) rfl (l' := #[rv s1, iv ((Int32.ofNat k) + (1 : Int32)), rv d1, iv ((Int32.ofNat k) + (1 : Int32)), iv (Int32.ofNat xs.length), iv ((Int32.ofNat k) + (1 : Int32))]) rfl) (hE 20 rfl) (pc' := 10) (by decide)
      have g119 : Go p e below T115 (mkF m 10 #[rv s1, iv (Int32.ofNat (k + 1)), rv d1, iv (Int32.ofNat (k + 1)), iv (Int32.ofNat xs.length), iv (Int32.ofNat (k + 1))] []) A0 := by rw [← own_succ k]; exact g118
      exact ⟨_, _, _, X115, rfl, (((Keep.refl h0 [d1]).trans K105 (allS (P := fun x => x ∈ [d1] ∨ h0.size ≤ x) (Or.inl (mi 0 rfl)) all0)).trans K115 (allS (P := fun x => x ∈ [d1] ∨ h0.size ≤ x) (Or.inl (mi 0 rfl)) all0)), N115, (by have q := y116; rw [own_PWsetN (by rw [own_tkl (by omega)]; simp only [List.length_nil]; omega) (by rw [own_tkl (by omega)]; exact Nat.zero_add k), own_tk (by omega)] at q; exact q), g119⟩
  obtain ⟨T120, lc120, h120, X120, e120, K120, N120, y121, g120⟩ := loop104 xs.length (Nat.le_refl _)
  have O122 := O0.keep K120 (allS G2_ all0)
  have g123 := jy X120 hx (ji X120 hx (ji X120 hx g120 (hE 6 rfl) rfl) (hE 7 rfl) rfl) (hE 8 rfl) rfl (flt (own_nlt (by omega) (by omega) : ¬ ((Int32.ofNat xs.length) < (Int32.ofNat xs.length)))).2.1 (pc' := 41) (by decide)
  have K124 : Keep h0 h120 [d1] := ((Keep.refl h0 [d1]).trans K120 (allS (P := fun x => x ∈ [d1] ∨ h0.size ≤ x) (Or.inl (mi 0 rfl)) all0))
  refine own_leave X120 Bd (none) (fun _ => rfl) g123 (fun fs hr => X120.returnOut hx Bd.returns (hE 21 rfl) hr) (by decide) (by decide) ?_
  rw [e120]
  exact ⟨rfl, N120, K124, (by have q := y121; rw [List.take_length, List.nil_append] at q; exact q)⟩
theorem rm_linf0 (hw : HW a0 Z) (s1 d1 : Addr) (ks kd : ClassId) (zn : Nat) (us : List Value) (xs : List Int32) (fm : Value) (cs : Int32) (h0 : Heap) (n0 : Nat) (O0 : Old Z n0 h0) (A0_ : Arv Z h0 s1 ks .byte (Int32.ofNat zn) us (.int 0)) (A1_ : Arv Z h0 d1 kd .byte (512 : Int32) (own_PW []) (.int 0)) (G2_ : n0 ≤ d1) (NE3_ : ¬ (s1 = d1)) (hus : ∀ i, i < xs.length → us.getD i (.int 0) = .int ((xs.getD i 0).toInt8.toInt32)) (hzn : xs.length ≤ zn) (hzb : zn < 2147483648) (hbd : xs.length ≤ 250) (cx : own_chars xs) (lx : own_lat xs) (hW : own_W Z cs fm) :
    own_M l mN32 (Jvm.Cond.code mN32 jdk_43_method_50_code 5 none) [] (⟨4, 0, 0, 60⟩ : Room) #[(.ref s1), (.int 0), (.ref d1), (.int 0), (.int (Int32.ofNat xs.length))] Z h0 (fun v h L => v = none ∧ Fr n0 L ∧ Keep h0 h [d1] ∧ (Arv Z h d1 kd .byte (512 : Int32) (own_PW xs) (.int 0))) := by
  refine own_open n0 (plainFor_of_name pn_0) (fun m => ef_RIRII5 m s1 (0 : Int32) d1 (0 : Int32) (Int32.ofNat xs.length) ) ?_
  intro p e s m below meth c s₁ A0 Bd hx hby hml hown hnm hZ hh X0 e0 N0 g0
  obtain ⟨SC_, hcs, SF_, hfm, SU1_, SU2_, SU3_⟩ := id hW
  have hE := own_hd hby E68
  have g101 := ji X0 hx (jI X0 hx (jA X0 hx (jI X0 hx (jA X0 hx g0 (hE 0 rfl) rfl rfl) (hE 1 rfl) rfl) (hE 2 rfl) rfl rfl) (hE 3 rfl) rfl) (hE 4 rfl) rfl
  obtain ⟨_, L102, T102, ⟨rfl, M102, K102, y103⟩, X102, st102⟩ := own_callS X0 hx hZ hown (hw _ (mi 335 rfl)) (wd21 hw) (rm_inf0 hw s1 d1 ks kd zn us xs fm cs h0 n0 O0 A0_ A1_ G2_ NE3_ hus hzn hzb hbd cx lx hW) g101 e0 [] rfl (lenOf pd_18 rfl) (hE 5 rfl) hml.symm 0 rfl (by decide)
  have N102 := Fr.app N0 M102
  have O104 := O0.keep K102 (allS G2_ all0)
  have K105 : Keep h0 T102.heap [d1] := ((Keep.refl h0 [d1]).trans K102 (allS (P := fun x => x ∈ [d1] ∨ h0.size ≤ x) (Or.inl (mi 0 rfl)) all0))
  refine own_leave X102 Bd (none) (fun _ => rfl) st102 (fun fs hr => X102.returnOut hx Bd.returns (hE 6 rfl) hr) (by decide) (by decide) ?_
  exact ⟨rfl, N102, K105, y103⟩
theorem rm_nbl5 (hw : HW a0 Z)  (h0 : Heap) (n0 : Nat) (O0 : Old Z n0 h0)  :
    own_M l mN4 (Jvm.Cond.code mN4 jdk_52_method_3_code 1 (some .int)) [] (⟨0, 0, 0, 0⟩ : Room) #[(.int 256)] Z h0 (fun v h L => v = some (.int 512) ∧ Fr n0 L ∧ h = h0) := by
  refine own_open n0 (plainFor_of_name pn_2) (fun m => ef_I1 m (256 : Int32) ) ?_
  intro p e s m below meth c s₁ A0 Bd hx hby hml hown hnm hZ hh X0 e0 N0 g0
  have hE := own_hd hby E62
  have g101 := jL X0 hx (jc X0 hx (jI X0 hx (jy X0 hx (show Go p e below s₁ (mkF m 15 #[iv 256] [(.int 1073741823), (.int 256)]) A0 from fun t kt => (jI X0 hx (jY X0 hx (jI X0 hx g0 (hE 0 rfl) rfl) (hE 1 rfl) rfl (by decide) (pc' := 12) (by decide)) (hE 2 rfl) rfl) t (by refine X0.ldcInt hx hown (mvT hZ (hw _ (mi 311 rfl))) (g := (mkF m 13 #[iv 256] [(.int 256)])) rfl (hE 3 rfl) _ ?_; exact kt)) (hE 4 rfl) rfl (by decide) (pc' := 55) (by decide)) (hE 5 rfl) rfl) (hE 6 rfl) 1 rfl) (hE 7 rfl) rfl
  refine own_leave X0 Bd (some (.int 512)) nofun g101 (fun fs hr => retI X0 hx Bd.returns (hE 8 rfl) hr) (by decide) (by decide) ?_
  rw [e0]
  exact ⟨rfl, N0, rfl⟩
theorem rm_nbf5 (hw : HW a0 Z)  (h0 : Heap) (n0 : Nat) (O0 : Old Z n0 h0)  :
    own_M l mN5 (Jvm.Cond.code mN5 jdk_52_method_2_code 1 (some (.array .byte))) [] (⟨1, 1, 512, 12⟩ : Room) #[(.int 256)] Z h0 (fun v h L => ∃ (r : Addr), ∃ (kid : ClassId), v = some (.ref r) ∧ Fr n0 L ∧ Keep h0 h [] ∧ h0.size ≤ r ∧ (Exa Z h r "[B") ∧ (Arv Z h r kid .byte (512 : Int32) (own_PW []) (.int 0))) := by
  refine own_open n0 (plainFor_of_name pn_2) (fun m => ef_I1 m (256 : Int32) ) ?_
  intro p e s m below meth c s₁ A0 Bd hx hby hml hown hnm hZ hh X0 e0 N0 g0
  have hE := own_hd hby E61
  have g101 := jI X0 hx g0 (hE 0 rfl) rfl
  obtain ⟨_, L102, T102, ⟨rfl, M102, e102⟩, X102, st102⟩ := own_callS X0 hx hZ hown (hw _ (mi 308 rfl)) (wd0 hw) (rm_nbl5 hw  h0 n0 O0 ) g101 e0 [] rfl (lenOf pd_0 rfl) (hE 1 rfl) hml.symm 0 rfl (by decide)
  have N102 := Fr.app N0 M102
  obtain ⟨T103, h103, k103, X103, e103, E103, A103, F103, st103⟩ := newPE X102 hx hZ (hw _ (mi 15 rfl)) e102 (g := (mkF m 4 #[iv 256] [(.int 512)])) rfl (hE 2 rfl) rfl (by decide) (cap := 512) (by decide) (by decide) (by decide) (by decide) (ad := "[B") (by decide)
  obtain ⟨b103, gb103⟩ : ∃ z, z = h0.size := ⟨_, rfl⟩
  rw [← gb103] at A103 F103 st103
  have O104 := O0.ext E103
  have y105 : Arv Z h103 b103 k103 .byte (512 : Int32) (List.replicate 512 (.int 0)) (.int 0) := (Arv.new A103 (by decide)).pad (pad_rep [] (.int 0) 512)
  obtain ⟨Ls106, hLs106⟩ : ∃ z : List Value, z = (List.replicate 512 (.int 0)) := ⟨_, rfl⟩
  rw [← hLs106] at y105
  have lLs106 : Ls106.length = 512 := by rw [hLs106, List.length_replicate]
  have g107 : Go p e below T103 (mkF m 6 #[iv 256] [(.ref b103)]) A0 := fun t kont => st102 t (st103 t kont)
  have K108 : Keep h0 h103 [] := ((Keep.refl h0 []).ext E103)
  refine own_leave X103 Bd (some (.ref b103)) nofun g107 (fun fs hr => retOut X103 hx Bd.returns rfl (Or.inr (Or.inr (Or.inr (Or.inr ⟨rfl, rfl, rfl⟩)))) (hE 3 rfl) hr) (by decide) (by decide) ?_
  rw [e103]
  exact ⟨b103, k103, rfl, N102, K108, (Nat.le_of_eq gb103.symm), F103, (by rw [own_PW0]; have q := y105; rw [hLs106] at q; exact q)⟩
theorem wd22 (hw : HW a0 Z) : own_wdV a0 Z "java/lang/StringBuilder" mN25 mN25 jdk_68_method_68_code 1 (some .boolean) := ⟨hw _ (mi 88 rfl), hw _ (mi 90 rfl), hw _ (mi 89 rfl), hw _ (mi 62 rfl), hw _ (mi 91 rfl), by decide⟩
theorem wd23 (hw : HW a0 Z) : own_wdS a0 Z mN32 jdk_43_method_50_code 5 none := ⟨hw _ (mi 333 rfl), hw _ (mi 8 rfl), hw _ (mi 334 rfl), by decide⟩
theorem ef_R2 (m : MethodId) (x0 : Addr)  : entryFrame m #[(.ref x0)] 2 = mkF m 0 #[.val (.ref x0), .unset] [] := by first | (simp [entryFrame, mkF, argsToLocals, Value.category]; done) | rfl
theorem rm_aInf (hw : HW a0 Z) (b1 v1 : Addr) (kv : ClassId) (ls : List Int32) (cs : Int32) (fm : Value) (h0 : Heap) (n0 : Nat) (O0 : Old Z n0 h0) (E0_ : Exa Z h0 b1 "java/lang/StringBuilder") (F1_ : Fld Z h0 b1 "java/lang/AbstractStringBuilder" "value" "[B" (.ref v1)) (F2_ : Fld Z h0 b1 "java/lang/AbstractStringBuilder" "coder" "B" (.int 0)) (F3_ : Fld Z h0 b1 "java/lang/AbstractStringBuilder" "count" "I" (.int (Int32.ofNat ls.length))) (F4_ : Fld Z h0 b1 "java/lang/AbstractStringBuilder" "maybeLatin1" "Z" (.int 0)) (A5_ : Arv Z h0 v1 kv .byte (256 : Int32) (own_PL ls) (.int 0)) (G6_ : n0 ≤ b1) (G7_ : n0 ≤ v1) (NE8_ : ¬ (v1 = b1)) (hcap : ls.length ≤ 200) (cl : own_chars ls) (ll : own_lat ls) (hW : own_W Z cs fm) :
    own_M l mN33 (Jvm.Cond.code mN33 jdk_68_method_11_code 2 none) [] (⟨5, 1, 512, 76⟩ : Room) #[(.ref b1)] Z h0 (fun v h L => ∃ (r : Addr), ∃ (kid : ClassId), v = none ∧ Fr n0 L ∧ Keep h0 h [b1] ∧ (Exa Z h b1 "java/lang/StringBuilder") ∧ (Fld Z h b1 "java/lang/AbstractStringBuilder" "value" "[B" (.ref r)) ∧ (Fld Z h b1 "java/lang/AbstractStringBuilder" "coder" "B" (.int 1)) ∧ (Fld Z h b1 "java/lang/AbstractStringBuilder" "count" "I" (.int (Int32.ofNat ls.length))) ∧ (Fld Z h b1 "java/lang/AbstractStringBuilder" "maybeLatin1" "Z" (.int 0)) ∧ h0.size ≤ r ∧ (Arv Z h r kid .byte (512 : Int32) (own_PW ls) (.int 0))) := by
  refine own_open n0 (plainFor_of_name pn_4) (fun m => ef_R2 m b1 ) ?_
  intro p e s m below meth c s₁ A0 Bd hx hby hml hown hnm hZ hh X0 e0 N0 g0
  obtain ⟨SC_, hcs, SF_, hfm, SU1_, SU2_, SU3_⟩ := id hW
  have hE := own_hd hby E67
  have g101 := jA X0 hx g0 (hE 0 rfl) rfl rfl
  obtain ⟨_, L102, T102, ⟨rfl, M102, e102⟩, X102, st102⟩ := own_callV X0 hx hZ hown (hw _ (mi 87 rfl)) (wd22 hw) (notFace_of_selects (args := #[]) (mvT hZ (hw _ (mi 90 rfl)))) E0_ (rm_al0 hw b1 cs h0 n0 O0 SC_ hcs F2_) g101 e0 [] rfl (lenOf pd_13 rfl) (hE 1 rfl) hml.symm 0 rfl (by decide)
  have N102 := Fr.app N0 M102
  have g103 := jA X102 hx (jY X102 hx st102 (hE 2 rfl) rfl (by decide) (pc' := 8) (by decide)) (hE 4 rfl) rfl rfl
  obtain ⟨T104, X104, e104, g104⟩ := own_getF X102 hx hZ hown (hw _ (mi 66 rfl)) Via.refl e102 F1_ g103 (hE 5 rfl)
  have zz105 := A5_
  obtain ⟨cl105, Ar105, -, S105, M105, -, -⟩ := zz105
  have g106 : Go p e below T104 (mkF m 13 #[rv b1, .unset] [(.int 256)]) A0 := by
    intro t kont
    refine g104 t ?_
    refine X104.arraylength hx (by rw [e104]; exact Ar105.1) (State.isArrayOf_alike hZ.alike Ar105.2.1) (g := (mkF m 12 #[rv b1, .unset] [(.ref v1)])) rfl rfl (hE 6 rfl) _ ?_
    rw [len_of S105 M105]
    exact kont
  obtain ⟨_, L107, T107, ⟨r108, r109, rfl, M107, K107, y110, y111, y112⟩, X107, st107⟩ := own_callS X104 hx hZ hown (hw _ (mi 331 rfl)) (wd1 hw) (rm_nbf5 hw  h0 n0 O0 ) g106 e104 [] rfl (lenOf pd_1 rfl) (hE 7 rfl) hml.symm 0 rfl (by decide)
  have N107 := Fr.app N102 M107
  have O113 := O0.keep K107 all0
  have g114 := jA X107 hx (jT X107 hx st107 (hE 8 rfl) rfl rfl (l' := #[rv b1, rv r108]) rfl) (hE 9 rfl) rfl rfl
  have y115 := (F1_.keep K107 nin0)
  obtain ⟨T116, X116, e116, g116⟩ := own_getF X107 hx hZ hown (hw _ (mi 66 rfl)) Via.refl rfl y115 g114 (hE 10 rfl)
  have g117 := jA X116 hx (jc X116 hx (jA X116 hx (jc X116 hx g116 (hE 11 rfl) 0 rfl) (hE 12 rfl) rfl rfl) (hE 13 rfl) 0 rfl) (hE 14 rfl) rfl rfl
  have y118 := (F3_.keep K107 nin0)
  obtain ⟨T119, X119, e119, g119⟩ := own_getF X116 hx hZ hown (hw _ (mi 80 rfl)) Via.refl e116 y118 g117 (hE 15 rfl)
  have y121 := (A5_.keep K107 nin0)
  have ge122 : n0 ≤ r108 := Nat.le_trans (own_old_le O0) y110
  obtain ⟨_, L120, T120, ⟨rfl, M120, K120, y123⟩, X120, st120⟩ := own_callS X119 hx hZ hown (hw _ (mi 332 rfl)) (wd23 hw) (rm_linf0 hw v1 r108 kv r109 256 (own_PL ls) ls fm cs T107.heap n0 O113 y121 y112 ge122 (Nat.ne_of_lt (Nat.lt_of_lt_of_le A5_.lt y110)) (fun i hi => own_PLget hi) (by omega) (by decide) (by omega) (cl) (ll) hW) g119 e119 [] rfl (lenOf pd_18 rfl) (hE 16 rfl) hml.symm 0 rfl (by decide)
  have N120 := Fr.app N107 M120
  have O124 := O113.keep K120 (allS ge122 all0)
  have g125 := jA X120 hx (jA X120 hx st120 (hE 17 rfl) rfl rfl) (hE 18 rfl) rfl rfl
  have y126 := ((E0_.keep K107).keep K120)
  have y127 := (y115.keep K120 (ninS (Nat.ne_of_lt (Nat.lt_of_lt_of_le E0_.lt y110)) nin0))
  obtain ⟨T128, h128, X128, e128, W128, st128⟩ := putF X120 hx hZ hown (host := "") (Or.inl (hw _ (mi 66 rfl))) Via.refl rfl y127 y126 (Or.inl (hw _ (mi 67 rfl))) (hw _ (mi 53 rfl)) (ty := (.array .byte)) (by decide) rfl rfl (g := (mkF m 33 #[rv b1, rv r108] [(.ref r108), (.ref b1)])) rfl rfl (hE 19 rfl)
  have O129 := O124.wr W128 G6_
  have y130 : Fld Z h128 b1 "java/lang/AbstractStringBuilder" "value" "[B" (.ref r108) := y127.same W128
  have N128 := Fr.snoc X128 N120 G6_
  have g131 : Go p e below T128 (mkF m 36 #[rv b1, rv r108] []) A0 := fun t kont => g125 t (st128 t kont)
  have g132 := jc X128 hx (jA X128 hx g131 (hE 20 rfl) rfl rfl) (hE 21 rfl) 1 rfl
  have y133 := (y126.wr W128)
  have y134 := (((F2_.keep K107 nin0).keep K120 (ninS (Nat.ne_of_lt (Nat.lt_of_lt_of_le E0_.lt y110)) nin0)).other W128 (Or.inr (slot_ne (Or.inl (hw _ (mi 69 rfl))) (Or.inl (hw _ (mi 67 rfl))) (by decide) (t := .byte) (t' := (.array .byte)) (by decide) (by decide))))
  obtain ⟨T135, h135, X135, e135, W135, st135⟩ := putFN X128 hx hZ hown (hw _ (mi 68 rfl)) Via.refl e128 y134 y133 (Or.inl (hw _ (mi 69 rfl))) (hw _ (mi 53 rfl)) (ty := .byte) (v := (.int 1)) (v' := (.int 1)) (by decide) (own_nw_byte (by decide : nar .byte (1 : Int32) = (1 : Int32))) (own_ft_byte (by decide : nar .byte (1 : Int32) = (1 : Int32))) (g := (mkF m 38 #[rv b1, rv r108] [(.int 1), (.ref b1)])) rfl rfl (hE 22 rfl)
  have O136 := O129.wr W135 G6_
  have y137 : Fld Z h135 b1 "java/lang/AbstractStringBuilder" "coder" "B" (.int 1) := y134.same W135
  have N135 := Fr.snoc X135 N128 G6_
  have g138 : Go p e below T135 (mkF m 41 #[rv b1, rv r108] []) A0 := fun t kont => g132 t (st135 t kont)
  have K139 : Keep h0 h135 [b1] := (((((Keep.refl h0 [b1]).trans K107 (fun x hx => nomatch hx)).trans K120 (allS (P := fun x => x ∈ [b1] ∨ h0.size ≤ x) (Or.inr y110) all0)).wr W128 (Or.inl (mi 0 rfl))).wr W135 (Or.inl (mi 0 rfl)))
  have y140 := (y133.wr W135)
  have y141 := (y130.other W135 (Or.inr (slot_ne (Or.inl (hw _ (mi 67 rfl))) (Or.inl (hw _ (mi 69 rfl))) (by decide) (t := (.array .byte)) (t' := .byte) (by decide) (by decide))))
  have y142 := (((y118.keep K120 (ninS (Nat.ne_of_lt (Nat.lt_of_lt_of_le E0_.lt y110)) nin0)).other W128 (Or.inr (slot_ne (Or.inl (hw _ (mi 81 rfl))) (Or.inl (hw _ (mi 67 rfl))) (by decide) (t := .int) (t' := (.array .byte)) (by decide) (by decide)))).other W135 (Or.inr (slot_ne (Or.inl (hw _ (mi 81 rfl))) (Or.inl (hw _ (mi 69 rfl))) (by decide) (t := .int) (t' := .byte) (by decide) (by decide))))
  have y143 := ((((F4_.keep K107 nin0).keep K120 (ninS (Nat.ne_of_lt (Nat.lt_of_lt_of_le E0_.lt y110)) nin0)).other W128 (Or.inr (slot_ne (Or.inl (hw _ (mi 365 rfl))) (Or.inl (hw _ (mi 67 rfl))) (by decide) (t := .boolean) (t' := (.array .byte)) (by decide) (by decide)))).other W135 (Or.inr (slot_ne (Or.inl (hw _ (mi 365 rfl))) (Or.inl (hw _ (mi 69 rfl))) (by decide) (t := .boolean) (t' := .byte) (by decide) (by decide))))
  have y144 := ((y123.other W128 (Ne.symm (Nat.ne_of_lt (Nat.lt_of_lt_of_le E0_.lt y110)))).other W135 (Ne.symm (Nat.ne_of_lt (Nat.lt_of_lt_of_le E0_.lt y110))))
  refine own_leave X135 Bd (none) (fun _ => rfl) g138 (fun fs hr => X135.returnOut hx Bd.returns (hE 23 rfl) hr) (by decide) (by decide) ?_
  rw [e135]
  exact ⟨r108, r109, rfl, N135, K139, y140, y141, y137, y142, y143, y110, y144⟩
theorem rm_canW (hw : HW a0 Z) (ch : Int32) (h0 : Heap) (n0 : Nat) (O0 : Old Z n0 h0) (h0_ch : ¬ (ch < (0 : Int32))) (hw1 : (255 : Int32) < ch) :
    own_M l mN0 (Jvm.Cond.code mN0 jdk_43_method_3_code 1 (some .boolean)) [] (⟨0, 0, 0, 0⟩ : Room) #[(.int ch)] Z h0 (fun v h L => v = some (.int 0) ∧ Fr n0 L ∧ h = h0) := by
  refine own_open n0 (plainFor_of_name pn_0) (fun m => ef_I1 m ch ) ?_
  intro p e s m below meth c s₁ A0 Bd hx hby hml hown hnm hZ hh X0 e0 N0 g0
  have hE := own_hd hby E2
  have g101 := jc X0 hx (jy X0 hx (jp X0 hx (jI X0 hx g0 (hE 0 rfl) rfl) (hE 1 rfl) 255 rfl) (hE 2 rfl) rfl (tlt hw1).2.2.1 (pc' := 11) (by decide)) (hE 5 rfl) 0 rfl
  refine own_leave X0 Bd (some (.int 0)) nofun g101 (fun fs hr => retN X0 hx (t := .boolean) Bd.returns (by simp) (hE 6 rfl) hr) (by decide) (by decide) ?_
  rw [e0]
  exact ⟨rfl, N0, rfl⟩
theorem wd24 (hw : HW a0 Z) : own_wdP a0 Z mN26 jdk_68_method_9_code 3 none := ⟨hw _ (mi 83 rfl), (own_selP (hw _ (mi 85 rfl)) (hw _ (mi 84 rfl)) (hw _ (mi 83 rfl)) (by decide)), hw _ (mi 84 rfl), hw _ (mi 62 rfl), hw _ (mi 86 rfl), by decide⟩
theorem pd_19 : parseMethodDescriptor "(C)Z" = some ⟨[.char], some .boolean⟩ := by decide +kernel
theorem wd25 (hw : HW a0 Z) : own_wdS a0 Z mN0 jdk_43_method_3_code 1 (some .boolean) := ⟨hw _ (mi 7 rfl), hw _ (mi 8 rfl), hw _ (mi 9 rfl), by decide⟩
theorem wd26 (hw : HW a0 Z) : own_wdS a0 Z mN27 jdk_52_method_71_code 3 none := ⟨hw _ (mi 348 rfl), hw _ (mi 37 rfl), hw _ (mi 349 rfl), by decide⟩
theorem rm_apN (hw : HW a0 Z) (b1 v1 : Addr) (kv : ClassId) (ls : List Int32) (cd z1 : Int32) (vs : List Value) (cs : Int32) (fm : Value) (ch : Int32) (h0 : Heap) (n0 : Nat) (O0 : Old Z n0 h0) (E0_ : Exa Z h0 b1 "java/lang/StringBuilder") (F1_ : Fld Z h0 b1 "java/lang/AbstractStringBuilder" "value" "[B" (.ref v1)) (F2_ : Fld Z h0 b1 "java/lang/AbstractStringBuilder" "coder" "B" (.int cd)) (F3_ : Fld Z h0 b1 "java/lang/AbstractStringBuilder" "count" "I" (.int (Int32.ofNat ls.length))) (F4_ : Fld Z h0 b1 "java/lang/AbstractStringBuilder" "maybeLatin1" "Z" (.int 0)) (A5_ : Arv Z h0 v1 kv .byte z1 vs (.int 0)) (hsb : own_sb ls cd z1 vs) (G7_ : n0 ≤ b1) (G8_ : n0 ≤ v1) (NE9_ : ¬ (v1 = b1)) (hcap : ls.length ≤ 200) (h0_ch : ¬ (ch < (0 : Int32))) (h1_ch : ¬ ((255 : Int32) < ch)) (hW : own_W Z cs fm) :
    own_M l mN34 (Jvm.Cond.code mN34 jdk_68_method_31_code 2 (some (.object "java/lang/AbstractStringBuilder"))) [] (⟨4, 0, 0, 54⟩ : Room) #[(.ref b1), (.int ch)] Z h0 (fun v h L => ∃ (cd2 : Int32), ∃ (z2 : Int32), ∃ (vs2 : List Value), v = some (.ref b1) ∧ Fr n0 L ∧ Keep h0 h [b1, v1] ∧ (Exa Z h b1 "java/lang/StringBuilder") ∧ (Fld Z h b1 "java/lang/AbstractStringBuilder" "value" "[B" (.ref v1)) ∧ (Fld Z h b1 "java/lang/AbstractStringBuilder" "coder" "B" (.int cd2)) ∧ (Fld Z h b1 "java/lang/AbstractStringBuilder" "count" "I" (.int (Int32.ofNat (ls ++ [ch]).length))) ∧ (Fld Z h b1 "java/lang/AbstractStringBuilder" "maybeLatin1" "Z" (.int 0)) ∧ (Arv Z h v1 kv .byte z2 vs2 (.int 0)) ∧ (own_sb (ls ++ [ch]) cd2 z2 vs2)) := by
  refine own_open n0 (plainFor_of_name pn_4) (fun m => ef_RI2 m b1 ch ) ?_
  intro p e s m below meth c s₁ A0 Bd hx hby hml hown hnm hZ hh X0 e0 N0 g0
  obtain ⟨SC_, hcs, SF_, hfm, SU1_, SU2_, SU3_⟩ := id hW
  have hE := own_hd hby E15
  have hq101 := hsb
  rcases hq101 with ⟨e1, e2, e3, ll, cl⟩ | ⟨e1, e2, e3⟩
  ·
    have y102 := F2_
    rw [e1] at y102
    have y103 := A5_
    rw [e2, e3] at y103
    have g104 := jA X0 hx (jA X0 hx g0 (hE 0 rfl) rfl rfl) (hE 1 rfl) rfl rfl
    obtain ⟨T105, X105, e105, g105⟩ := own_getF X0 hx hZ hown (hw _ (mi 80 rfl)) Via.refl e0 F3_ g104 (hE 2 rfl)
    have g106 := jP X105 hx (jc X105 hx g105 (hE 3 rfl) 1 rfl) (hE 4 rfl) rfl
    have g107 := own_rwS g106 (own_cnt1 ls ch : ((Int32.ofNat ls.length) + (1 : Int32)) = (Int32.ofNat (ls ++ [ch]).length))
    obtain ⟨_, L108, T108, ⟨rfl, M108, e108⟩, X108, st108⟩ := own_callP X105 hx hZ hown (hw _ (mi 82 rfl)) (wd24 hw) E0_ (rm_ensN hw b1 (ls ++ [ch]).length v1 kv (0 : Int32) (256 : Int32) (own_PL ls) h0 n0 O0 F1_ y102 y103 (Or.inl ⟨rfl, rfl⟩) (by rw [List.length_append]; simp only [List.length_singleton]; omega)) g107 e105 [] rfl (lenOf pd_14 rfl) (hE 5 rfl) hml.symm 0 rfl (by decide)
    have N108 := Fr.app N0 M108
    have g109 := jA X108 hx st108 (hE 6 rfl) rfl rfl
    obtain ⟨_, L110, T110, ⟨rfl, M110, e110⟩, X110, st110⟩ := own_callV X108 hx hZ hown (hw _ (mi 87 rfl)) (wd22 hw) (notFace_of_selects (args := #[]) (mvT hZ (hw _ (mi 90 rfl)))) E0_ (rm_al0 hw b1 cs h0 n0 O0 SC_ hcs y102) g109 e108 [] rfl (lenOf pd_13 rfl) (hE 7 rfl) hml.symm 0 rfl (by decide)
    have N110 := Fr.app N108 M110
    have g111 := jI X110 hx (jN X110 hx st110 (hE 8 rfl) rfl (by decide)) (hE 9 rfl) rfl
    obtain ⟨_, L112, T112, ⟨rfl, M112, e112⟩, X112, st112⟩ := own_callS X110 hx hZ hown (hw _ (mi 92 rfl)) (wd25 hw) (rm_canE hw ch h0 n0 O0 h1_ch) g111 e110 [] rfl (lenOf pd_19 rfl) (hE 10 rfl) hml.symm 0 rfl (by decide)
    have N112 := Fr.app N110 M112
    have g113 := jA X112 hx (jN X112 hx st112 (hE 11 rfl) rfl (by decide)) (hE 12 rfl) rfl rfl
    obtain ⟨T114, X114, e114, g114⟩ := own_getF X112 hx hZ hown (hw _ (mi 66 rfl)) Via.refl e112 F1_ g113 (hE 13 rfl)
    have g115 := jd X114 hx (jA X114 hx g114 (hE 14 rfl) rfl rfl) (hE 15 rfl) rfl rfl
    obtain ⟨T116, X116, e116, g116⟩ := own_getF X114 hx hZ hown (hw _ (mi 80 rfl)) Via.refl e114 F3_ g115 (hE 16 rfl)
    have g117 := jP X116 hx (jc X116 hx (show Go p e below T116 (mkF m 34 #[rv b1, iv ch] [(.int (Int32.ofNat ls.length)), (.ref b1), (.int (Int32.ofNat ls.length)), (.ref v1)]) A0 from fun t kt => g116 t (by refine XS.dupX1 X116.here hx rfl (hE 17 rfl) rfl rfl rfl ?_; exact kt)) (hE 18 rfl) 1 rfl) (hE 19 rfl) rfl
    have g118 := own_rwS g117 (own_cnt1 ls ch : ((Int32.ofNat ls.length) + (1 : Int32)) = (Int32.ofNat (ls ++ [ch]).length))
    obtain ⟨T119, h119, X119, e119, W119, st119⟩ := putF X116 hx hZ hown (host := "") (Or.inl (hw _ (mi 80 rfl))) Via.refl e116 F3_ E0_ (Or.inl (hw _ (mi 81 rfl))) (hw _ (mi 53 rfl)) (ty := .int) (by decide) rfl rfl (g := (mkF m 36 #[rv b1, iv ch] [(.int (Int32.ofNat (ls ++ [ch]).length)), (.ref b1), (.int (Int32.ofNat ls.length)), (.ref v1)])) rfl rfl (hE 20 rfl)
    have O120 := O0.wr W119 G7_
    have y121 : Fld Z h119 b1 "java/lang/AbstractStringBuilder" "count" "I" (.int (Int32.ofNat (ls ++ [ch]).length)) := F3_.same W119
    have N119 := Fr.snoc X119 N112 G7_
    have g122 : Go p e below T119 (mkF m 39 #[rv b1, iv ch] [(.int (Int32.ofNat ls.length)), (.ref v1)]) A0 := fun t kont => g118 t (st119 t kont)
    have g123 := jx X119 hx (jI X119 hx g122 (hE 21 rfl) rfl) (hE 22 rfl) rfl
    have y124 := (y103.other W119 NE9_)
    have zz125 := y124
    obtain ⟨cl125, Ar125, q125, S125, M125, H125, G125⟩ := zz125
    have in125 : ¬ ((Int32.ofNat ls.length) < 0 ∨ cl125.slots.size ≤ ((Int32.ofNat ls.length)).toNatClampNeg) := inb_of S125 ⟨own_nonneg (by omega), own_lt (b := 256) (by omega) (by decide)⟩
    obtain ⟨T125, h125, X125, e125, W125, st125⟩ := stB X119 hx hZ e119 Ar125 (j := (Int32.ofNat ls.length)) in125 (g := (mkF m 41 #[rv b1, iv ch] [(.int (ch.toInt8.toInt32)), (.int (Int32.ofNat ls.length)), (.ref v1)])) rfl rfl (hE 23 rfl)
    rw [show nar .byte (ch.toInt8.toInt32) = (ch.toInt8.toInt32) from (own_narb _)] at W125
    have O126 := O120.wr W125 G8_
    have y127 : Arv Z h125 v1 kv .byte (256 : Int32) ((own_PL ls).set ls.length (.int (ch.toInt8.toInt32))) (.int 0) := Arv.set Ar125 q125 S125 M125 H125 G125 (own_ft_byte (z := (ch.toInt8.toInt32)) (own_narb _)) W125 ls.length (own_clamp (by omega)) (by rw [own_PLlen (by omega)]; omega)
    have N125 := Fr.snoc X125 N119 G8_
    have g128 : Go p e below T125 (mkF m 42 #[rv b1, iv ch] []) A0 := fun t kont => g123 t (st125 t kont)
    have y129 : Arv Z h125 v1 kv .byte (256 : Int32) (own_PL (ls ++ [ch])) (.int 0) := by have q := y127; rw [own_PLset (by omega)] at q; exact q
    have g130 := jA X125 hx (jg X125 hx g128 (hE 24 rfl) (pc' := 75) (by decide)) (hE 39 rfl) rfl rfl
    have K131 : Keep h0 h125 [b1, v1] := (((Keep.refl h0 [b1, v1]).wr W119 (Or.inl (mi 0 rfl))).wr W125 (Or.inl (mi 1 rfl)))
    have y132 := ((E0_.wr W119).wr W125)
    have y133 := ((F1_.other W119 (Or.inr (slot_ne (Or.inl (hw _ (mi 67 rfl))) (Or.inl (hw _ (mi 81 rfl))) (by decide) (t := (.array .byte)) (t' := .int) (by decide) (by decide)))).other W125 (Or.inl (Ne.symm NE9_)))
    have y134 := ((y102.other W119 (Or.inr (slot_ne (Or.inl (hw _ (mi 69 rfl))) (Or.inl (hw _ (mi 81 rfl))) (by decide) (t := .byte) (t' := .int) (by decide) (by decide)))).other W125 (Or.inl (Ne.symm NE9_)))
    have y135 := (y121.other W125 (Or.inl (Ne.symm NE9_)))
    have y136 := ((F4_.other W119 (Or.inr (slot_ne (Or.inl (hw _ (mi 365 rfl))) (Or.inl (hw _ (mi 81 rfl))) (by decide) (t := .boolean) (t' := .int) (by decide) (by decide)))).other W125 (Or.inl (Ne.symm NE9_)))
    refine own_leave X125 Bd (some (.ref b1)) nofun g130 (fun fs hr => retOut X125 hx Bd.returns rfl (Or.inr (Or.inr (Or.inr (Or.inr ⟨rfl, rfl, rfl⟩)))) (hE 40 rfl) hr) (by decide) (by decide) ?_
    rw [e125]
    exact ⟨(0 : Int32), (256 : Int32), (own_PL (ls ++ [ch])), rfl, N125, K131, y132, y133, y134, y135, y136, y129, Or.inl ⟨rfl, rfl, rfl, own_lat_app ll (own_lat1 h1_ch), own_chars_app cl (own_chars1 h0_ch (own_w255 h1_ch))⟩⟩
  have y137 := F2_
  rw [e1] at y137
  have y138 := A5_
  rw [e2, e3] at y138
  have g139 := jA X0 hx (jA X0 hx g0 (hE 0 rfl) rfl rfl) (hE 1 rfl) rfl rfl
  obtain ⟨T140, X140, e140, g140⟩ := own_getF X0 hx hZ hown (hw _ (mi 80 rfl)) Via.refl e0 F3_ g139 (hE 2 rfl)
  have g141 := jP X140 hx (jc X140 hx g140 (hE 3 rfl) 1 rfl) (hE 4 rfl) rfl
  have g142 := own_rwS g141 (own_cnt1 ls ch : ((Int32.ofNat ls.length) + (1 : Int32)) = (Int32.ofNat (ls ++ [ch]).length))
  obtain ⟨_, L143, T143, ⟨rfl, M143, e143⟩, X143, st143⟩ := own_callP X140 hx hZ hown (hw _ (mi 82 rfl)) (wd24 hw) E0_ (rm_ensN hw b1 (ls ++ [ch]).length v1 kv (1 : Int32) (512 : Int32) (own_PW ls) h0 n0 O0 F1_ y137 y138 (Or.inr ⟨rfl, rfl⟩) (by rw [List.length_append]; simp only [List.length_singleton]; omega)) g142 e140 [] rfl (lenOf pd_14 rfl) (hE 5 rfl) hml.symm 0 rfl (by decide)
  have N143 := Fr.app N0 M143
  have g144 := jA X143 hx st143 (hE 6 rfl) rfl rfl
  obtain ⟨_, L145, T145, ⟨rfl, M145, e145⟩, X145, st145⟩ := own_callV X143 hx hZ hown (hw _ (mi 87 rfl)) (wd22 hw) (notFace_of_selects (args := #[]) (mvT hZ (hw _ (mi 90 rfl)))) E0_ (rm_al1 hw b1 cs h0 n0 O0 SC_ hcs y137) g144 e143 [] rfl (lenOf pd_13 rfl) (hE 7 rfl) hml.symm 0 rfl (by decide)
  have N145 := Fr.app N143 M145
  have g146 := jA X145 hx (jY X145 hx st145 (hE 8 rfl) rfl (by decide) (pc' := 45) (by decide)) (hE 25 rfl) rfl rfl
  obtain ⟨_, L147, T147, ⟨rfl, M147, e147⟩, X147, st147⟩ := own_callV X145 hx hZ hown (hw _ (mi 87 rfl)) (wd22 hw) (notFace_of_selects (args := #[]) (mvT hZ (hw _ (mi 90 rfl)))) E0_ (rm_al1 hw b1 cs h0 n0 O0 SC_ hcs y137) g146 e145 [] rfl (lenOf pd_13 rfl) (hE 26 rfl) hml.symm 0 rfl (by decide)
  have N147 := Fr.app N145 M147
  have g148 := jA X147 hx (jY X147 hx st147 (hE 27 rfl) rfl (by decide) (pc' := 56) (by decide)) (hE 28 rfl) rfl rfl
  obtain ⟨T149, X149, e149, g149⟩ := own_getF X147 hx hZ hown (hw _ (mi 66 rfl)) Via.refl e147 F1_ g148 (hE 29 rfl)
  have g150 := jd X149 hx (jA X149 hx g149 (hE 30 rfl) rfl rfl) (hE 31 rfl) rfl rfl
  obtain ⟨T151, X151, e151, g151⟩ := own_getF X149 hx hZ hown (hw _ (mi 80 rfl)) Via.refl e149 F3_ g150 (hE 32 rfl)
  have g152 := jP X151 hx (jc X151 hx (show Go p e below T151 (mkF m 66 #[rv b1, iv ch] [(.int (Int32.ofNat ls.length)), (.ref b1), (.int (Int32.ofNat ls.length)), (.ref v1)]) A0 from fun t kt => g151 t (by refine XS.dupX1 X151.here hx rfl (hE 33 rfl) rfl rfl rfl ?_; exact kt)) (hE 34 rfl) 1 rfl) (hE 35 rfl) rfl
  have g153 := own_rwS g152 (own_cnt1 ls ch : ((Int32.ofNat ls.length) + (1 : Int32)) = (Int32.ofNat (ls ++ [ch]).length))
  obtain ⟨T154, h154, X154, e154, W154, st154⟩ := putF X151 hx hZ hown (host := "") (Or.inl (hw _ (mi 80 rfl))) Via.refl e151 F3_ E0_ (Or.inl (hw _ (mi 81 rfl))) (hw _ (mi 53 rfl)) (ty := .int) (by decide) rfl rfl (g := (mkF m 68 #[rv b1, iv ch] [(.int (Int32.ofNat (ls ++ [ch]).length)), (.ref b1), (.int (Int32.ofNat ls.length)), (.ref v1)])) rfl rfl (hE 36 rfl)
  have O155 := O0.wr W154 G7_
  have y156 : Fld Z h154 b1 "java/lang/AbstractStringBuilder" "count" "I" (.int (Int32.ofNat (ls ++ [ch]).length)) := F3_.same W154
  have N154 := Fr.snoc X154 N147 G7_
  have g157 : Go p e below T154 (mkF m 71 #[rv b1, iv ch] [(.int (Int32.ofNat ls.length)), (.ref v1)]) A0 := fun t kont => g153 t (st154 t kont)
  have g158 := jI X154 hx g157 (hE 37 rfl) rfl
  have y160 := (y138.other W154 NE9_)
  obtain ⟨_, L159, T159, ⟨rfl, M159, K159, y161⟩, X159, st159⟩ := own_callS X154 hx hZ hown (hw _ (mi 347 rfl)) (wd26 hw) (rm_pcsb hw v1 ch kv ls fm cs h154 n0 O155 y160 G8_ hcap hW) g158 e154 [] rfl (lenOf pd_2 rfl) (hE 38 rfl) hml.symm 0 rfl (by decide)
  have N159 := Fr.app N154 M159
  have O162 := O155.keep K159 (allS G8_ all0)
  have g163 := jA X159 hx st159 (hE 39 rfl) rfl rfl
  have K164 : Keep h0 T159.heap [b1, v1] := (((Keep.refl h0 [b1, v1]).wr W154 (Or.inl (mi 0 rfl))).trans K159 (allS (P := fun x => x ∈ [b1, v1] ∨ h0.size ≤ x) (Or.inl (mi 1 rfl)) all0))
  have y165 := ((E0_.wr W154).keep K159)
  have y166 := ((F1_.other W154 (Or.inr (slot_ne (Or.inl (hw _ (mi 67 rfl))) (Or.inl (hw _ (mi 81 rfl))) (by decide) (t := (.array .byte)) (t' := .int) (by decide) (by decide)))).keep K159 (ninS (Ne.symm NE9_) nin0))
  have y167 := ((y137.other W154 (Or.inr (slot_ne (Or.inl (hw _ (mi 69 rfl))) (Or.inl (hw _ (mi 81 rfl))) (by decide) (t := .byte) (t' := .int) (by decide) (by decide)))).keep K159 (ninS (Ne.symm NE9_) nin0))
  have y168 := (y156.keep K159 (ninS (Ne.symm NE9_) nin0))
  have y169 := ((F4_.other W154 (Or.inr (slot_ne (Or.inl (hw _ (mi 365 rfl))) (Or.inl (hw _ (mi 81 rfl))) (by decide) (t := .boolean) (t' := .int) (by decide) (by decide)))).keep K159 (ninS (Ne.symm NE9_) nin0))
  refine own_leave X159 Bd (some (.ref b1)) nofun g163 (fun fs hr => retOut X159 hx Bd.returns rfl (Or.inr (Or.inr (Or.inr (Or.inr ⟨rfl, rfl, rfl⟩)))) (hE 40 rfl) hr) (by decide) (by decide) ?_
  exact ⟨(1 : Int32), (512 : Int32), (own_PW (ls ++ [ch])), rfl, N159, K164, y165, y166, y167, y168, y169, y161, Or.inr ⟨rfl, rfl, rfl⟩⟩
theorem pd_20 : parseMethodDescriptor "(C)Ljava/lang/AbstractStringBuilder;" = some ⟨[.char], some (.object "java/lang/AbstractStringBuilder")⟩ := by decide +kernel
theorem rm_sapN (hw : HW a0 Z) (b1 v1 : Addr) (kv : ClassId) (ls : List Int32) (cd z1 : Int32) (vs : List Value) (cs : Int32) (fm : Value) (ch : Int32) (h0 : Heap) (n0 : Nat) (O0 : Old Z n0 h0) (E0_ : Exa Z h0 b1 "java/lang/StringBuilder") (F1_ : Fld Z h0 b1 "java/lang/AbstractStringBuilder" "value" "[B" (.ref v1)) (F2_ : Fld Z h0 b1 "java/lang/AbstractStringBuilder" "coder" "B" (.int cd)) (F3_ : Fld Z h0 b1 "java/lang/AbstractStringBuilder" "count" "I" (.int (Int32.ofNat ls.length))) (F4_ : Fld Z h0 b1 "java/lang/AbstractStringBuilder" "maybeLatin1" "Z" (.int 0)) (A5_ : Arv Z h0 v1 kv .byte z1 vs (.int 0)) (hsb : own_sb ls cd z1 vs) (G7_ : n0 ≤ b1) (G8_ : n0 ≤ v1) (NE9_ : ¬ (v1 = b1)) (hcap : ls.length ≤ 200) (h0_ch : ¬ (ch < (0 : Int32))) (h1_ch : ¬ ((255 : Int32) < ch)) (hW : own_W Z cs fm) :
    own_M l mN35 (Jvm.Cond.code mN35 jdk_67_method_14_code 2 (some (.object "java/lang/StringBuilder"))) [] (⟨5, 0, 0, 67⟩ : Room) #[(.ref b1), (.int ch)] Z h0 (fun v h L => ∃ (cd2 : Int32), ∃ (z2 : Int32), ∃ (vs2 : List Value), v = some (.ref b1) ∧ Fr n0 L ∧ Keep h0 h [b1, v1] ∧ (Exa Z h b1 "java/lang/StringBuilder") ∧ (Fld Z h b1 "java/lang/AbstractStringBuilder" "value" "[B" (.ref v1)) ∧ (Fld Z h b1 "java/lang/AbstractStringBuilder" "coder" "B" (.int cd2)) ∧ (Fld Z h b1 "java/lang/AbstractStringBuilder" "count" "I" (.int (Int32.ofNat (ls ++ [ch]).length))) ∧ (Fld Z h b1 "java/lang/AbstractStringBuilder" "maybeLatin1" "Z" (.int 0)) ∧ (Arv Z h v1 kv .byte z2 vs2 (.int 0)) ∧ (own_sb (ls ++ [ch]) cd2 z2 vs2)) := by
  refine own_open n0 (plainFor_of_name pn_5) (fun m => ef_RI2 m b1 ch ) ?_
  intro p e s m below meth c s₁ A0 Bd hx hby hml hown hnm hZ hh X0 e0 N0 g0
  obtain ⟨SC_, hcs, SF_, hfm, SU1_, SU2_, SU3_⟩ := id hW
  have hE := own_hd hby E14
  have g101 := jI X0 hx (jA X0 hx g0 (hE 0 rfl) rfl rfl) (hE 1 rfl) rfl
  obtain ⟨_, L102, T102, ⟨r103, r104, r105, rfl, M102, K102, y106, y107, y108, y109, y110, y111, y112⟩, X102, st102⟩ := own_callU X0 hx hZ hown (hw _ (mi 75 rfl)) (own_same (y := mN34) (hw _ (mi 85 rfl)) rfl (hw _ (mi 76 rfl)) (by decide)) (hw _ (mi 76 rfl)) (hw _ (mi 77 rfl)) (hw _ (mi 62 rfl)) (hw _ (mi 79 rfl)) (by decide) E0_ (rm_apN hw b1 v1 kv ls cd z1 vs cs fm ch h0 n0 O0 E0_ F1_ F2_ F3_ F4_ A5_ hsb G7_ G8_ NE9_ hcap h0_ch h1_ch hW) g101 e0 [] rfl (lenOf pd_20 rfl) (hE 2 rfl) hml.symm 0 rfl (by decide)
  have N102 := Fr.app N0 M102
  have O113 := O0.keep K102 (allS G7_ (allS G8_ all0))
  have g114 := jA X102 hx (jo X102 hx st102 (hE 3 rfl) rfl rfl) (hE 4 rfl) rfl rfl
  have K115 : Keep h0 T102.heap [b1, v1] := ((Keep.refl h0 [b1, v1]).trans K102 (allS (P := fun x => x ∈ [b1, v1] ∨ h0.size ≤ x) (Or.inl (mi 0 rfl)) (allS (P := fun x => x ∈ [b1, v1] ∨ h0.size ≤ x) (Or.inl (mi 1 rfl)) all0)))
  refine own_leave X102 Bd (some (.ref b1)) nofun g114 (fun fs hr => retOut X102 hx Bd.returns rfl (Or.inr (Or.inr (Or.inr (Or.inr ⟨rfl, rfl, rfl⟩)))) (hE 5 rfl) hr) (by decide) (by decide) ?_
  exact ⟨r103, r104, r105, rfl, N102, K115, y106, y107, y108, y109, y110, y111, y112⟩
theorem pn_6 : plainName "java/util/Arrays" = true := by first | (simp [plainName, overriddenIn]; done) | decide +kernel
theorem rm_chl (hw : HW a0 Z) (n1 : Nat) (h0 : Heap) (n0 : Nat) (O0 : Old Z n0 h0) (hn1 : n1 < 2147483648) :
    own_M l mN36 (Jvm.Cond.code mN36 jdk_65_method_131_code 2 none) [] (⟨0, 0, 0, 0⟩ : Room) #[(.int 0), (.int (Int32.ofNat n1))] Z h0 (fun v h L => v = none ∧ Fr n0 L ∧ h = h0) := by
  refine own_open n0 (plainFor_of_name pn_6) (fun m => ef_II2 m (0 : Int32) (Int32.ofNat n1) ) ?_
  intro p e s m below meth c s₁ A0 Bd hx hby hml hown hnm hZ hh X0 e0 N0 g0
  have hE := own_hd hby E27
  have g101 := jy X0 hx (jI X0 hx (jI X0 hx g0 (hE 0 rfl) rfl) (hE 1 rfl) rfl) (hE 2 rfl) rfl (flt (own_nonneg hn1 : ¬ ((Int32.ofNat n1) < (0 : Int32)))).2.1 (pc' := 37) (by decide)
  refine own_leave X0 Bd (none) (fun _ => rfl) g101 (fun fs hr => X0.returnOut hx Bd.returns (hE 3 rfl) hr) (by decide) (by decide) ?_
  rw [e0]
  exact ⟨rfl, N0, rfl⟩
theorem pf_28 : plainFor mN37 = true := by decide +kernel
theorem rm_minN (hw : HW a0 Z) (n1 : Nat) (z1 : Int32) (h0 : Heap) (n0 : Nat) (O0 : Old Z n0 h0) (hn1 : Int32.ofNat n1 < z1) :
    own_M l mN37 (Jvm.Cond.code mN37 jdk_29_method_69_code 2 (some .int)) [] (⟨0, 0, 0, 0⟩ : Room) #[(.int z1), (.int (Int32.ofNat n1))] Z h0 (fun v h L => v = some (.int (Int32.ofNat n1)) ∧ Fr n0 L ∧ h = h0) := by
  refine own_open n0 pf_28 (fun m => ef_II2 m z1 (Int32.ofNat n1) ) ?_
  intro p e s m below meth c s₁ A0 Bd hx hby hml hown hnm hZ hh X0 e0 N0 g0
  have hE := own_hd hby E28
  have g101 := jI X0 hx (jy X0 hx (jI X0 hx (jI X0 hx g0 (hE 0 rfl) rfl) (hE 1 rfl) rfl) (hE 2 rfl) rfl (tlt (hn1 : (Int32.ofNat n1) < z1)).2.2.1 (pc' := 9) (by decide)) (hE 3 rfl) rfl
  refine own_leave X0 Bd (some (.int (Int32.ofNat n1))) nofun g101 (fun fs hr => retI X0 hx Bd.returns (hE 4 rfl) hr) (by decide) (by decide) ?_
  rw [e0]
  exact ⟨rfl, N0, rfl⟩
theorem wd27 (hw : HW a0 Z) : own_wdS a0 Z mN36 jdk_65_method_131_code 2 none := ⟨hw _ (mi 136 rfl), hw _ (mi 130 rfl), hw _ (mi 137 rfl), by decide⟩
theorem pd_21 : parseMethodDescriptor "(II)I" = some ⟨[.int, .int], some .int⟩ := by decide +kernel
theorem wd28 (hw : HW a0 Z) : own_wdS a0 Z mN37 jdk_29_method_69_code 2 (some .int) := ⟨hw _ (mi 139 rfl), hw _ (mi 140 rfl), hw _ (mi 141 rfl), by decide⟩
theorem rm_corbL (hw : HW a0 Z) (v1 : Addr) (kv : ClassId) (ls : List Int32) (h0 : Heap) (n0 : Nat) (O0 : Old Z n0 h0) (A0_ : Arv Z h0 v1 kv .byte (256 : Int32) (own_PL ls) (.int 0)) (hcap : ls.length ≤ 40) :
    own_M l mN38 (Jvm.Cond.code mN38 jdk_65_method_133_code 5 (some (.array .byte))) [] (⟨1, 1, 40, 18⟩ : Room) #[(.ref v1), (.int 0), (.int (Int32.ofNat ls.length))] Z h0 (fun v h L => ∃ (r : Addr), ∃ (kid : ClassId), v = some (.ref r) ∧ Fr n0 L ∧ Keep h0 h [] ∧ h0.size ≤ r ∧ (Exa Z h r "[B") ∧ (Arv Z h r kid .byte (Int32.ofNat ls.length) (own_lb ls) (.int 0))) := by
  refine own_open n0 (plainFor_of_name pn_6) (fun m => ef_RII5 m v1 (0 : Int32) (Int32.ofNat ls.length) ) ?_
  intro p e s m below meth c s₁ A0 Bd hx hby hml hown hnm hZ hh X0 e0 N0 g0
  have hE := own_hd hby E26
  have g101 := jI X0 hx (jI X0 hx g0 (hE 0 rfl) rfl) (hE 1 rfl) rfl
  obtain ⟨_, L102, T102, ⟨rfl, M102, e102⟩, X102, st102⟩ := own_callS X0 hx hZ hown (hw _ (mi 135 rfl)) (wd27 hw) (rm_chl hw ls.length h0 n0 O0 (by omega)) g101 e0 [] rfl (lenOf pd_10 rfl) (hE 2 rfl) hml.symm 0 rfl (by decide)
  have N102 := Fr.app N0 M102
  have g103 := jM X102 hx (jI X102 hx (jI X102 hx st102 (hE 3 rfl) rfl) (hE 4 rfl) rfl) (hE 5 rfl) rfl
  have g104 := own_rwS g103 (own_sub0 _ : ((Int32.ofNat ls.length) - (0 : Int32)) = (Int32.ofNat ls.length))
  have g105 := jI X102 hx (jS X102 hx g104 (hE 6 rfl) rfl (l' := #[rv v1, iv 0, iv (Int32.ofNat ls.length), iv (Int32.ofNat ls.length), .unset]) rfl) (hE 7 rfl) rfl
  let lo107 : Array Slot := #[rv v1, iv 0, iv (Int32.ofNat ls.length), iv (Int32.ofNat ls.length), .unset]
  obtain ⟨T106, h106, k106, X106, e106, E106, A106, F106, st106⟩ := newPE X102 hx hZ (hw _ (mi 15 rfl)) e102 (g := (mkF m 10 lo107 [(.int (Int32.ofNat ls.length))])) rfl (hE 8 rfl) rfl (own_nonneg (by omega)) (cap := 40) (by rw [own_clamp (by omega)]; omega) (by decide) (by decide) (by decide) (ad := "[B") (by decide)
  obtain ⟨b106, gb106⟩ : ∃ z, z = h0.size := ⟨_, rfl⟩
  rw [← gb106] at A106 F106 st106
  have O108 := O0.ext E106
  have y109 : Arv Z h106 b106 k106 .byte (Int32.ofNat ls.length) (List.replicate ls.length (.int 0)) (.int 0) := (Arv.new A106 (own_nonneg (by omega))).pad (pad_rep [] (.int 0) ls.length)
  have g110 : Go p e below T106 (mkF m 12 lo107 [(.ref b106)]) A0 := fun t kont => g105 t (st106 t kont)
  have g111 := jA X106 hx (jc X106 hx (ja X106 hx (jI X106 hx (jA X106 hx (jt X106 hx g110 (hE 9 rfl) rfl rfl (l' := #[rv v1, iv 0, iv (Int32.ofNat ls.length), iv (Int32.ofNat ls.length), rv b106]) rfl) (hE 10 rfl) rfl rfl) (hE 11 rfl) rfl) (hE 12 rfl) rfl rfl) (hE 13 rfl) 0 rfl) (hE 14 rfl) rfl rfl
  have y112 := (A0_.ext E106)
  have zz113 := y112
  obtain ⟨cl113, Ar113, -, S113, M113, -, -⟩ := zz113
  let lo115 : Array Slot := #[rv v1, iv 0, iv (Int32.ofNat ls.length), iv (Int32.ofNat ls.length), rv b106]
  have g114 : Go p e below T106 (mkF m 21 lo115 [(.int 256), (.int 0), (.ref b106), (.int 0), (.ref v1)]) A0 := by
    intro t kont
    refine g111 t ?_
    refine X106.arraylength hx (by rw [e106]; exact Ar113.1) (State.isArrayOf_alike hZ.alike Ar113.2.1) (g := (mkF m 20 lo115 [(.ref v1), (.int 0), (.ref b106), (.int 0), (.ref v1)])) rfl rfl (hE 15 rfl) _ ?_
    rw [len_of S113 M113]
    exact kont
  have g116 := jI X106 hx (jM X106 hx (jI X106 hx g114 (hE 16 rfl) rfl) (hE 17 rfl) rfl) (hE 18 rfl) rfl
  obtain ⟨_, L117, T117, ⟨rfl, M117, e117⟩, X117, st117⟩ := own_callS X106 hx hZ hown (hw _ (mi 138 rfl)) (wd28 hw) (rm_minN hw ls.length (256 : Int32) h106 n0 O108 (own_lt (b := 256) (by omega) (by decide))) g116 e106 [(.int 0), (.ref b106), (.int 0), (.ref v1)] rfl (lenOf pd_21 rfl) (hE 19 rfl) hml.symm 4 rfl (by decide)
  have N117 := Fr.app N102 M117
  have ge119 : n0 ≤ b106 := Nat.le_trans (own_old_le O0) (Nat.le_of_eq gb106.symm)
  obtain ⟨T118, h118, L118, X118, e118, N118, K118, y118, st118⟩ := cpA X117 hx hZ hown (hw _ (mi 142 rfl)) (hw _ (mi 145 rfl)) (hw _ (mi 143 rfl)) (hw _ (mi 144 rfl)) e117 y112 y109 (Or.inl ⟨rfl, rfl⟩) (sp := (0 : Int32)) (dp := (0 : Int32)) (nn := (Int32.ofNat ls.length)) (by decide) (by decide) (own_nonneg (by omega)) (by rw [own_clamp (by omega)]; show 0 + _ ≤ 256; omega) (by rw [own_clamp (by omega)]; show 0 + _ ≤ _; omega) rfl (by rw [own_clamp (by omega), List.length_replicate]; show 0 + _ ≤ _; omega) N117 ge119 (g := (mkF m 27 lo115 [(.int (Int32.ofNat ls.length)), (.int 0), (.ref b106), (.int 0), (.ref v1)])) rfl (by rw [hml]; rfl) (rest := []) rfl (hE 20 rfl) (by decide) (W := 0) (by show 2 * 0 + _ ≤ _; exact Nat.le_of_eq rfl) (by decide)
  have O120 := O108.keep K118 (allS ge119 all0)
  have y121 : Arv Z h118 b106 k106 .byte (Int32.ofNat ls.length) (own_lb ls) (.int 0) := by have q := y118; rw [own_clamp (show ls.length < 2147483648 by omega), show (0 : Int32).toNatClampNeg = 0 from rfl, own_cpA (by rw [own_PLlen (by omega)]; omega), own_PLtake] at q; exact q
  have g122 : Go p e below T118 (mkF m 30 lo115 []) A0 := fun t kont => st117 t (st118 t kont)
  have g123 := ja X118 hx g122 (hE 21 rfl) rfl rfl
  have K124 : Keep h0 h118 [] := (((Keep.refl h0 []).ext E106).trans K118 (allS (P := fun x => x ∈ [] ∨ h0.size ≤ x) (Or.inr (Nat.le_of_eq gb106.symm)) all0))
  have y125 := (F106.keep K118)
  refine own_leave X118 Bd (some (.ref b106)) nofun g123 (fun fs hr => retOut X118 hx Bd.returns rfl (Or.inr (Or.inr (Or.inr (Or.inr ⟨rfl, rfl, rfl⟩)))) (hE 22 rfl) hr) (by decide) (by decide) ?_
  rw [e118]
  exact ⟨b106, k106, rfl, N118, K124, (Nat.le_of_eq gb106.symm), y125, y121⟩
theorem pd_22 : parseMethodDescriptor "([BII)[B" = some ⟨[(.array .byte), .int, .int], some (.array .byte)⟩ := by decide +kernel
theorem wd29 (hw : HW a0 Z) : own_wdS a0 Z mN38 jdk_65_method_133_code 5 (some (.array .byte)) := ⟨hw _ (mi 133 rfl), hw _ (mi 130 rfl), hw _ (mi 134 rfl), by decide⟩
theorem rm_corL (hw : HW a0 Z) (v1 : Addr) (kv : ClassId) (ls : List Int32) (h0 : Heap) (n0 : Nat) (O0 : Old Z n0 h0) (A0_ : Arv Z h0 v1 kv .byte (256 : Int32) (own_PL ls) (.int 0)) (hcap : ls.length ≤ 40) :
    own_M l mN39 (Jvm.Cond.code mN39 jdk_65_method_132_code 3 (some (.array .byte))) [] (⟨2, 1, 40, 34⟩ : Room) #[(.ref v1), (.int 0), (.int (Int32.ofNat ls.length))] Z h0 (fun v h L => ∃ (r : Addr), ∃ (kid : ClassId), v = some (.ref r) ∧ Fr n0 L ∧ Keep h0 h [] ∧ h0.size ≤ r ∧ (Exa Z h r "[B") ∧ (Arv Z h r kid .byte (Int32.ofNat ls.length) (own_lb ls) (.int 0))) := by
  refine own_open n0 (plainFor_of_name pn_6) (fun m => ef_RII3 m v1 (0 : Int32) (Int32.ofNat ls.length) ) ?_
  intro p e s m below meth c s₁ A0 Bd hx hby hml hown hnm hZ hh X0 e0 N0 g0
  have hE := own_hd hby E25
  have g101 := jA X0 hx (jI X0 hx (jN X0 hx (jI X0 hx g0 (hE 0 rfl) rfl) (hE 1 rfl) rfl (by decide)) (hE 2 rfl) rfl) (hE 3 rfl) rfl rfl
  have zz102 := A0_
  obtain ⟨cl102, Ar102, -, S102, M102, -, -⟩ := zz102
  let lo104 : Array Slot := #[rv v1, iv 0, iv (Int32.ofNat ls.length)]
  have g103 : Go p e below s₁ (mkF m 7 lo104 [(.int 256), (.int (Int32.ofNat ls.length))]) A0 := by
    intro t kont
    refine g101 t ?_
    refine X0.arraylength hx (by rw [e0]; exact Ar102.1) (State.isArrayOf_alike hZ.alike Ar102.2.1) (g := (mkF m 6 lo104 [(.ref v1), (.int (Int32.ofNat ls.length))])) rfl rfl (hE 4 rfl) _ ?_
    rw [len_of S102 M102]
    exact kont
  have g105 := jI X0 hx (jI X0 hx (jA X0 hx (jn X0 hx g103 (hE 5 rfl) rfl (feq (own_inj (b := 256) (by omega) (by decide) (by omega) : ¬ ((Int32.ofNat ls.length) = (256 : Int32)))).1) (hE 6 rfl) rfl rfl) (hE 7 rfl) rfl) (hE 8 rfl) rfl
  obtain ⟨_, L106, T106, ⟨r107, r108, rfl, M106, K106, y109, y110, y111⟩, X106, st106⟩ := own_callS X0 hx hZ hown (hw _ (mi 132 rfl)) (wd29 hw) (rm_corbL hw v1 kv ls h0 n0 O0 A0_ hcap) g105 e0 [] rfl (lenOf pd_22 rfl) (hE 9 rfl) hml.symm 0 rfl (by decide)
  have N106 := Fr.app N0 M106
  have O112 := O0.keep K106 all0
  have K113 : Keep h0 T106.heap [] := ((Keep.refl h0 []).trans K106 (fun x hx => nomatch hx))
  refine own_leave X106 Bd (some (.ref r107)) nofun st106 (fun fs hr => retOut X106 hx Bd.returns rfl (Or.inr (Or.inr (Or.inr (Or.inr ⟨rfl, rfl, rfl⟩)))) (hE 10 rfl) hr) (by decide) (by decide) ?_
  exact ⟨r107, r108, rfl, N106, K113, y109, y110, y111⟩
theorem rm_corbW (hw : HW a0 Z) (v1 : Addr) (kv : ClassId) (ls : List Int32) (h0 : Heap) (n0 : Nat) (O0 : Old Z n0 h0) (A0_ : Arv Z h0 v1 kv .byte (512 : Int32) (own_PW ls) (.int 0)) (hcap : ls.length ≤ 40) :
    own_M l mN38 (Jvm.Cond.code mN38 jdk_65_method_133_code 5 (some (.array .byte))) [] (⟨1, 1, 80, 18⟩ : Room) #[(.ref v1), (.int 0), (.int (Int32.ofNat (2 * ls.length)))] Z h0 (fun v h L => ∃ (r : Addr), ∃ (kid : ClassId), v = some (.ref r) ∧ Fr n0 L ∧ Keep h0 h [] ∧ h0.size ≤ r ∧ (Exa Z h r "[B") ∧ (Arv Z h r kid .byte (Int32.ofNat (2 * ls.length)) (own_wb ls) (.int 0))) := by
  refine own_open n0 (plainFor_of_name pn_6) (fun m => ef_RII5 m v1 (0 : Int32) (Int32.ofNat (2 * ls.length)) ) ?_
  intro p e s m below meth c s₁ A0 Bd hx hby hml hown hnm hZ hh X0 e0 N0 g0
  have hE := own_hd hby E26
  have g101 := jI X0 hx (jI X0 hx g0 (hE 0 rfl) rfl) (hE 1 rfl) rfl
  obtain ⟨_, L102, T102, ⟨rfl, M102, e102⟩, X102, st102⟩ := own_callS X0 hx hZ hown (hw _ (mi 135 rfl)) (wd27 hw) (rm_chl hw (2 * ls.length) h0 n0 O0 (by omega)) g101 e0 [] rfl (lenOf pd_10 rfl) (hE 2 rfl) hml.symm 0 rfl (by decide)
  have N102 := Fr.app N0 M102
  have g103 := jM X102 hx (jI X102 hx (jI X102 hx st102 (hE 3 rfl) rfl) (hE 4 rfl) rfl) (hE 5 rfl) rfl
  have g104 := own_rwS g103 (own_sub0 _ : ((Int32.ofNat (2 * ls.length)) - (0 : Int32)) = (Int32.ofNat (2 * ls.length)))
  have g105 := jI X102 hx (jS X102 hx g104 (hE 6 rfl) rfl (l' := #[rv v1, iv 0, iv (Int32.ofNat (2 * ls.length)), iv (Int32.ofNat (2 * ls.length)), .unset]) rfl) (hE 7 rfl) rfl
  let lo107 : Array Slot := #[rv v1, iv 0, iv (Int32.ofNat (2 * ls.length)), iv (Int32.ofNat (2 * ls.length)), .unset]
  obtain ⟨T106, h106, k106, X106, e106, E106, A106, F106, st106⟩ := newPE X102 hx hZ (hw _ (mi 15 rfl)) e102 (g := (mkF m 10 lo107 [(.int (Int32.ofNat (2 * ls.length)))])) rfl (hE 8 rfl) rfl (own_nonneg (by omega)) (cap := 80) (by rw [own_clamp (by omega)]; omega) (by decide) (by decide) (by decide) (ad := "[B") (by decide)
  obtain ⟨b106, gb106⟩ : ∃ z, z = h0.size := ⟨_, rfl⟩
  rw [← gb106] at A106 F106 st106
  have O108 := O0.ext E106
  have y109 : Arv Z h106 b106 k106 .byte (Int32.ofNat (2 * ls.length)) (List.replicate (2 * ls.length) (.int 0)) (.int 0) := (Arv.new A106 (own_nonneg (by omega))).pad (pad_rep [] (.int 0) (2 * ls.length))
  have g110 : Go p e below T106 (mkF m 12 lo107 [(.ref b106)]) A0 := fun t kont => g105 t (st106 t kont)
  have g111 := jA X106 hx (jc X106 hx (ja X106 hx (jI X106 hx (jA X106 hx (jt X106 hx g110 (hE 9 rfl) rfl rfl (l' := #[rv v1, iv 0, iv (Int32.ofNat (2 * ls.length)), iv (Int32.ofNat (2 * ls.length)), rv b106]) rfl) (hE 10 rfl) rfl rfl) (hE 11 rfl) rfl) (hE 12 rfl) rfl rfl) (hE 13 rfl) 0 rfl) (hE 14 rfl) rfl rfl
  have y112 := (A0_.ext E106)
  have zz113 := y112
  obtain ⟨cl113, Ar113, -, S113, M113, -, -⟩ := zz113
  let lo115 : Array Slot := #[rv v1, iv 0, iv (Int32.ofNat (2 * ls.length)), iv (Int32.ofNat (2 * ls.length)), rv b106]
  have g114 : Go p e below T106 (mkF m 21 lo115 [(.int 512), (.int 0), (.ref b106), (.int 0), (.ref v1)]) A0 := by
    intro t kont
    refine g111 t ?_
    refine X106.arraylength hx (by rw [e106]; exact Ar113.1) (State.isArrayOf_alike hZ.alike Ar113.2.1) (g := (mkF m 20 lo115 [(.ref v1), (.int 0), (.ref b106), (.int 0), (.ref v1)])) rfl rfl (hE 15 rfl) _ ?_
    rw [len_of S113 M113]
    exact kont
  have g116 := jI X106 hx (jM X106 hx (jI X106 hx g114 (hE 16 rfl) rfl) (hE 17 rfl) rfl) (hE 18 rfl) rfl
  obtain ⟨_, L117, T117, ⟨rfl, M117, e117⟩, X117, st117⟩ := own_callS X106 hx hZ hown (hw _ (mi 138 rfl)) (wd28 hw) (rm_minN hw (2 * ls.length) (512 : Int32) h106 n0 O108 (own_lt (b := 512) (by omega) (by decide))) g116 e106 [(.int 0), (.ref b106), (.int 0), (.ref v1)] rfl (lenOf pd_21 rfl) (hE 19 rfl) hml.symm 4 rfl (by decide)
  have N117 := Fr.app N102 M117
  have ge119 : n0 ≤ b106 := Nat.le_trans (own_old_le O0) (Nat.le_of_eq gb106.symm)
  obtain ⟨T118, h118, L118, X118, e118, N118, K118, y118, st118⟩ := cpA X117 hx hZ hown (hw _ (mi 142 rfl)) (hw _ (mi 145 rfl)) (hw _ (mi 143 rfl)) (hw _ (mi 144 rfl)) e117 y112 y109 (Or.inl ⟨rfl, rfl⟩) (sp := (0 : Int32)) (dp := (0 : Int32)) (nn := (Int32.ofNat (2 * ls.length))) (by decide) (by decide) (own_nonneg (by omega)) (by rw [own_clamp (by omega)]; show 0 + _ ≤ 512; omega) (by rw [own_clamp (by omega)]; show 0 + _ ≤ _; omega) rfl (by rw [own_clamp (by omega), List.length_replicate]; show 0 + _ ≤ _; omega) N117 ge119 (g := (mkF m 27 lo115 [(.int (Int32.ofNat (2 * ls.length))), (.int 0), (.ref b106), (.int 0), (.ref v1)])) rfl (by rw [hml]; rfl) (rest := []) rfl (hE 20 rfl) (by decide) (W := 0) (by show 2 * 0 + _ ≤ _; exact Nat.le_of_eq rfl) (by decide)
  have O120 := O108.keep K118 (allS ge119 all0)
  have y121 : Arv Z h118 b106 k106 .byte (Int32.ofNat (2 * ls.length)) (own_wb ls) (.int 0) := by have q := y118; rw [own_clamp (show (2 * ls.length) < 2147483648 by omega), show (0 : Int32).toNatClampNeg = 0 from rfl, own_cpA (by rw [own_PWlen (by omega)]; omega), own_PWtake] at q; exact q
  have g122 : Go p e below T118 (mkF m 30 lo115 []) A0 := fun t kont => st117 t (st118 t kont)
  have g123 := ja X118 hx g122 (hE 21 rfl) rfl rfl
  have K124 : Keep h0 h118 [] := (((Keep.refl h0 []).ext E106).trans K118 (allS (P := fun x => x ∈ [] ∨ h0.size ≤ x) (Or.inr (Nat.le_of_eq gb106.symm)) all0))
  have y125 := (F106.keep K118)
  refine own_leave X118 Bd (some (.ref b106)) nofun g123 (fun fs hr => retOut X118 hx Bd.returns rfl (Or.inr (Or.inr (Or.inr (Or.inr ⟨rfl, rfl, rfl⟩)))) (hE 22 rfl) hr) (by decide) (by decide) ?_
  rw [e118]
  exact ⟨b106, k106, rfl, N118, K124, (Nat.le_of_eq gb106.symm), y125, y121⟩
theorem rm_corW (hw : HW a0 Z) (v1 : Addr) (kv : ClassId) (ls : List Int32) (h0 : Heap) (n0 : Nat) (O0 : Old Z n0 h0) (A0_ : Arv Z h0 v1 kv .byte (512 : Int32) (own_PW ls) (.int 0)) (hcap : ls.length ≤ 40) :
    own_M l mN39 (Jvm.Cond.code mN39 jdk_65_method_132_code 3 (some (.array .byte))) [] (⟨2, 1, 80, 34⟩ : Room) #[(.ref v1), (.int 0), (.int (Int32.ofNat (2 * ls.length)))] Z h0 (fun v h L => ∃ (r : Addr), ∃ (kid : ClassId), v = some (.ref r) ∧ Fr n0 L ∧ Keep h0 h [] ∧ h0.size ≤ r ∧ (Exa Z h r "[B") ∧ (Arv Z h r kid .byte (Int32.ofNat (2 * ls.length)) (own_wb ls) (.int 0))) := by
  refine own_open n0 (plainFor_of_name pn_6) (fun m => ef_RII3 m v1 (0 : Int32) (Int32.ofNat (2 * ls.length)) ) ?_
  intro p e s m below meth c s₁ A0 Bd hx hby hml hown hnm hZ hh X0 e0 N0 g0
  have hE := own_hd hby E25
  have g101 := jA X0 hx (jI X0 hx (jN X0 hx (jI X0 hx g0 (hE 0 rfl) rfl) (hE 1 rfl) rfl (by decide)) (hE 2 rfl) rfl) (hE 3 rfl) rfl rfl
  have zz102 := A0_
  obtain ⟨cl102, Ar102, -, S102, M102, -, -⟩ := zz102
  let lo104 : Array Slot := #[rv v1, iv 0, iv (Int32.ofNat (2 * ls.length))]
  have g103 : Go p e below s₁ (mkF m 7 lo104 [(.int 512), (.int (Int32.ofNat (2 * ls.length)))]) A0 := by
    intro t kont
    refine g101 t ?_
    refine X0.arraylength hx (by rw [e0]; exact Ar102.1) (State.isArrayOf_alike hZ.alike Ar102.2.1) (g := (mkF m 6 lo104 [(.ref v1), (.int (Int32.ofNat (2 * ls.length)))])) rfl rfl (hE 4 rfl) _ ?_
    rw [len_of S102 M102]
    exact kont
  have g105 := jI X0 hx (jI X0 hx (jA X0 hx (jn X0 hx g103 (hE 5 rfl) rfl (feq (own_inj (b := 512) (by omega) (by decide) (by omega) : ¬ ((Int32.ofNat (2 * ls.length)) = (512 : Int32)))).1) (hE 6 rfl) rfl rfl) (hE 7 rfl) rfl) (hE 8 rfl) rfl
  obtain ⟨_, L106, T106, ⟨r107, r108, rfl, M106, K106, y109, y110, y111⟩, X106, st106⟩ := own_callS X0 hx hZ hown (hw _ (mi 132 rfl)) (wd29 hw) (rm_corbW hw v1 kv ls h0 n0 O0 A0_ hcap) g105 e0 [] rfl (lenOf pd_22 rfl) (hE 9 rfl) hml.symm 0 rfl (by decide)
  have N106 := Fr.app N0 M106
  have O112 := O0.keep K106 all0
  have K113 : Keep h0 T106.heap [] := ((Keep.refl h0 []).trans K106 (fun x hx => nomatch hx))
  refine own_leave X106 Bd (some (.ref r107)) nofun st106 (fun fs hr => retOut X106 hx Bd.returns rfl (Or.inr (Or.inr (Or.inr (Or.inr ⟨rfl, rfl, rfl⟩)))) (hE 10 rfl) hr) (by decide) (by decide) ?_
  exact ⟨r107, r108, rfl, N106, K113, y109, y110, y111⟩
theorem rm_gval (hw : HW a0 Z) (b1 v1 : Addr) (h0 : Heap) (n0 : Nat) (O0 : Old Z n0 h0) (F0_ : Fld Z h0 b1 "java/lang/AbstractStringBuilder" "value" "[B" (.ref v1)) :
    own_M l mN40 (Jvm.Cond.code mN40 jdk_68_method_64_code 1 (some (.array .byte))) [] (⟨0, 0, 0, 0⟩ : Room) #[(.ref b1)] Z h0 (fun v h L => v = some (.ref v1) ∧ Fr n0 L ∧ h = h0) := by
  refine own_open n0 (plainFor_of_name pn_4) (fun m => ef_R1 m b1 ) ?_
  intro p e s m below meth c s₁ A0 Bd hx hby hml hown hnm hZ hh X0 e0 N0 g0
  have hE := own_hd hby E22
  have g101 := jA X0 hx g0 (hE 0 rfl) rfl rfl
  obtain ⟨T102, X102, e102, g102⟩ := own_getF X0 hx hZ hown (hw _ (mi 66 rfl)) Via.refl e0 F0_ g101 (hE 1 rfl)
  refine own_leave X102 Bd (some (.ref v1)) nofun g102 (fun fs hr => retOut X102 hx Bd.returns rfl (Or.inr (Or.inr (Or.inr (Or.inr ⟨rfl, rfl, rfl⟩)))) (hE 2 rfl) hr) (by decide) (by decide) ?_
  rw [e102]
  exact ⟨rfl, N0, rfl⟩
theorem rm_alen (hw : HW a0 Z) (b1 : Addr) (n1 : Int32) (h0 : Heap) (n0 : Nat) (O0 : Old Z n0 h0) (F0_ : Fld Z h0 b1 "java/lang/AbstractStringBuilder" "count" "I" (.int n1)) :
    own_M l mN41 (Jvm.Cond.code mN41 jdk_68_method_6_code 1 (some .int)) [] (⟨0, 0, 0, 0⟩ : Room) #[(.ref b1)] Z h0 (fun v h L => v = some (.int n1) ∧ Fr n0 L ∧ h = h0) := by
  refine own_open n0 (plainFor_of_name pn_4) (fun m => ef_R1 m b1 ) ?_
  intro p e s m below meth c s₁ A0 Bd hx hby hml hown hnm hZ hh X0 e0 N0 g0
  have hE := own_hd hby E24
  have g101 := jA X0 hx g0 (hE 0 rfl) rfl rfl
  obtain ⟨T102, X102, e102, g102⟩ := own_getF X0 hx hZ hown (hw _ (mi 80 rfl)) Via.refl e0 F0_ g101 (hE 1 rfl)
  refine own_leave X102 Bd (some (.int n1)) nofun g102 (fun fs hr => retI X102 hx Bd.returns (hE 2 rfl) hr) (by decide) (by decide) ?_
  rw [e102]
  exact ⟨rfl, N0, rfl⟩
theorem pd_23 : parseMethodDescriptor "()I" = some ⟨[], some .int⟩ := by decide +kernel
theorem rm_slen (hw : HW a0 Z) (b1 : Addr) (n1 : Int32) (h0 : Heap) (n0 : Nat) (O0 : Old Z n0 h0) (F0_ : Fld Z h0 b1 "java/lang/AbstractStringBuilder" "count" "I" (.int n1)) (E1_ : Exa Z h0 b1 "java/lang/StringBuilder") :
    own_M l mN42 (Jvm.Cond.code mN42 jdk_67_method_93_code 1 (some .int)) [] (⟨1, 0, 0, 12⟩ : Room) #[(.ref b1)] Z h0 (fun v h L => v = some (.int n1) ∧ Fr n0 L ∧ h = h0) := by
  refine own_open n0 (plainFor_of_name pn_5) (fun m => ef_R1 m b1 ) ?_
  intro p e s m below meth c s₁ A0 Bd hx hby hml hown hnm hZ hh X0 e0 N0 g0
  have hE := own_hd hby E23
  have g101 := jA X0 hx g0 (hE 0 rfl) rfl rfl
  obtain ⟨_, L102, T102, ⟨rfl, M102, e102⟩, X102, st102⟩ := own_callU X0 hx hZ hown (hw _ (mi 125 rfl)) (own_same (y := mN41) (hw _ (mi 85 rfl)) rfl (hw _ (mi 121 rfl)) (by decide)) (hw _ (mi 121 rfl)) (hw _ (mi 77 rfl)) (hw _ (mi 62 rfl)) (hw _ (mi 126 rfl)) (by decide) E1_ (rm_alen hw b1 n1 h0 n0 O0 F0_) g101 e0 [] rfl (lenOf pd_23 rfl) (hE 1 rfl) hml.symm 0 rfl (by decide)
  have N102 := Fr.app N0 M102
  refine own_leave X102 Bd (some (.int n1)) nofun st102 (fun fs hr => retI X102 hx Bd.returns (hE 2 rfl) hr) (by decide) (by decide) ?_
  rw [e102]
  exact ⟨rfl, N102, rfl⟩
theorem pd_24 : parseMethodDescriptor "()[B" = some ⟨[], some (.array .byte)⟩ := by decide +kernel
theorem wd30 (hw : HW a0 Z) : own_wdV a0 Z "java/lang/StringBuilder" mN40 mN40 jdk_68_method_64_code 1 (some (.array .byte)) := ⟨hw _ (mi 115 rfl), hw _ (mi 117 rfl), hw _ (mi 116 rfl), hw _ (mi 62 rfl), hw _ (mi 118 rfl), by decide⟩
theorem wd31 (hw : HW a0 Z) : own_wdV a0 Z "java/lang/StringBuilder" mN41 mN42 jdk_67_method_93_code 1 (some .int) := ⟨hw _ (mi 120 rfl), hw _ (mi 122 rfl), hw _ (mi 123 rfl), hw _ (mi 54 rfl), hw _ (mi 124 rfl), by decide⟩
theorem wd32 (hw : HW a0 Z) : own_wdS a0 Z mN39 jdk_65_method_132_code 3 (some (.array .byte)) := ⟨hw _ (mi 129 rfl), hw _ (mi 130 rfl), hw _ (mi 131 rfl), by decide⟩
theorem ef_RRN5 (m : MethodId) (x0 : Addr) (x1 : Addr)  : entryFrame m #[(.ref x0), (.ref x1), .null] 5 = mkF m 0 #[.val (.ref x0), .val (.ref x1), .val .null, .unset, .unset] [] := by first | (simp [entryFrame, mkF, argsToLocals, Value.category]; done) | rfl
theorem rm_siv (hw : HW a0 Z) (a1 b1 v1 : Addr) (kv : ClassId) (ls : List Int32) (cd z1 : Int32) (vs : List Value) (cs : Int32) (h0 : Heap) (n0 : Nat) (O0 : Old Z n0 h0) (F0_ : Fld Z h0 a1 "java/lang/String" "value" "[B" .null) (F1_ : Fld Z h0 a1 "java/lang/String" "coder" "B" (.int 0)) (E2_ : Exa Z h0 a1 "java/lang/String") (G3_ : n0 ≤ a1) (NE4_ : ¬ (b1 = a1)) (NE5_ : ¬ (v1 = a1)) (E6_ : Exa Z h0 b1 "java/lang/StringBuilder") (F7_ : Fld Z h0 b1 "java/lang/AbstractStringBuilder" "value" "[B" (.ref v1)) (F8_ : Fld Z h0 b1 "java/lang/AbstractStringBuilder" "coder" "B" (.int cd)) (F9_ : Fld Z h0 b1 "java/lang/AbstractStringBuilder" "count" "I" (.int (Int32.ofNat ls.length))) (F10_ : Fld Z h0 b1 "java/lang/AbstractStringBuilder" "maybeLatin1" "Z" (.int 0)) (A11_ : Arv Z h0 v1 kv .byte z1 vs (.int 0)) (hsb : own_sb ls cd z1 vs) (hcap : ls.length ≤ 40) (S14_ : Sta Z Z.heap "java/lang/String" "COMPACT_STRINGS" "Z" (.int cs)) (hcs : ¬ (cs = (0 : Int32))) :
    own_M l mN43 (Jvm.Cond.code mN43 jdk_42_method_150_code 5 none) [] (⟨3, 1, 80, 49⟩ : Room) #[(.ref a1), (.ref b1), .null] Z h0 (fun v h L => ∃ (r : Addr), ∃ (kid : ClassId), ∃ (cq : Int32), ∃ (zq : Int32), ∃ (vq : List Value), v = none ∧ Fr n0 L ∧ Keep h0 h [a1] ∧ (Exa Z h a1 "java/lang/String") ∧ (Fld Z h a1 "java/lang/String" "coder" "B" (.int cq)) ∧ (Fld Z h a1 "java/lang/String" "value" "[B" (.ref r)) ∧ h0.size ≤ r ∧ (Arv Z h r kid .byte zq vq (.int 0)) ∧ (own_cod ls cq zq vq)) := by
  refine own_open n0 (plainFor_of_name pn_1) (fun m => ef_RRN5 m a1 b1 ) ?_
  intro p e s m below meth c s₁ A0 Bd hx hby hml hown hnm hZ hh X0 e0 N0 g0
  have hE := own_hd hby E21
  have hq101 := hsb
  rcases hq101 with ⟨e1, e2, e3, ll, cl⟩ | ⟨e1, e2, e3⟩
  ·
    have y102 := F8_
    rw [e1] at y102
    have y103 := A11_
    rw [e2, e3] at y103
    have g104 := jA X0 hx g0 (hE 0 rfl) rfl rfl
    let lo106 : Array Slot := #[rv a1, rv b1, .val .null, .unset, .unset]
    obtain ⟨T105, X105, e105, st105⟩ := initO X0 hx hZ hown (hw _ (mi 20 rfl)) (hw _ (mi 21 rfl)) (hw _ (mi 22 rfl)) e0 (g := (mkF m 1 lo106 [(.ref a1)])) rfl (by rw [hml]; rfl) rfl (hE 1 rfl) (by decide) (W := 0) (by show 2 * 0 + _ ≤ _; exact Nat.le_of_eq rfl) (by decide)
    have g107 : Go p e below T105 (mkF m 4 lo106 []) A0 := fun t kont => g104 t (st105 t kont)
    have g108 := jA X105 hx g107 (hE 2 rfl) rfl rfl
    obtain ⟨_, L109, T109, ⟨rfl, M109, e109⟩, X109, st109⟩ := own_callV X105 hx hZ hown (hw _ (mi 114 rfl)) (wd30 hw) (notFace_of_selects (args := #[]) (mvT hZ (hw _ (mi 117 rfl)))) E6_ (rm_gval hw b1 v1 h0 n0 O0 F7_) g108 e105 [] rfl (lenOf pd_24 rfl) (hE 3 rfl) hml.symm 0 rfl (by decide)
    have N109 := Fr.app N0 M109
    have g110 := jA X109 hx (jT X109 hx st109 (hE 4 rfl) rfl rfl (l' := #[rv a1, rv b1, .val .null, rv v1, .unset]) rfl) (hE 5 rfl) rfl rfl
    obtain ⟨_, L111, T111, ⟨rfl, M111, e111⟩, X111, st111⟩ := own_callV X109 hx hZ hown (hw _ (mi 119 rfl)) (wd31 hw) (own_notface (args := #[]) (y := mN41) (mvT hZ (hw _ (mi 85 rfl))) rfl) E6_ (rm_slen hw b1 (Int32.ofNat ls.length) h0 n0 O0 F9_ E6_) g110 e109 [] rfl (lenOf pd_23 rfl) (hE 6 rfl) hml.symm 0 rfl (by decide)
    have N111 := Fr.app N109 M111
    have g112 := jA X111 hx (js X111 hx st111 (hE 7 rfl) rfl (l' := #[rv a1, rv b1, .val .null, rv v1, iv (Int32.ofNat ls.length)]) rfl) (hE 8 rfl) rfl rfl
    obtain ⟨_, L113, T113, ⟨rfl, M113, e113⟩, X113, st113⟩ := own_callV X111 hx hZ hown (hw _ (mi 127 rfl)) (wd22 hw) (notFace_of_selects (args := #[]) (mvT hZ (hw _ (mi 90 rfl)))) E6_ (rm_al0 hw b1 cs h0 n0 O0 S14_ hcs y102) g112 e111 [] rfl (lenOf pd_13 rfl) (hE 9 rfl) hml.symm 0 rfl (by decide)
    have N113 := Fr.app N111 M113
    have g114 := jc X113 hx (jA X113 hx (jN X113 hx st113 (hE 10 rfl) rfl (by decide)) (hE 11 rfl) rfl rfl) (hE 12 rfl) 0 rfl
    let lo116 : Array Slot := #[rv a1, rv b1, .val .null, rv v1, iv (Int32.ofNat ls.length)]
    obtain ⟨T115, h115, X115, e115, W115, st115⟩ := putFN X113 hx hZ hown (hw _ (mi 25 rfl)) Via.refl e113 F1_ E2_ (Or.inr ⟨(hw _ (mi 26 rfl)), rfl, hnm⟩) (hw _ (mi 11 rfl)) (ty := .byte) (v := (.int 0)) (v' := (.int 0)) (by decide) (own_nw_byte (by decide : nar .byte (0 : Int32) = (0 : Int32))) (own_ft_byte (by decide : nar .byte (0 : Int32) = (0 : Int32))) (g := (mkF m 24 lo116 [(.int 0), (.ref a1)])) rfl rfl (hE 13 rfl)
    have O117 := O0.wr W115 G3_
    have y118 : Fld Z h115 a1 "java/lang/String" "coder" "B" (.int 0) := F1_.same W115
    have N115 := Fr.snoc X115 N113 G3_
    have g119 : Go p e below T115 (mkF m 27 lo116 []) A0 := fun t kont => g114 t (st115 t kont)
    have g120 := ji X115 hx (jc X115 hx (jA X115 hx (jA X115 hx g119 (hE 14 rfl) rfl rfl) (hE 15 rfl) rfl rfl) (hE 16 rfl) 0 rfl) (hE 17 rfl) rfl
    have y122 := (y103.other W115 NE5_)
    obtain ⟨_, L121, T121, ⟨r123, r124, rfl, M121, K121, y125, y126, y127⟩, X121, st121⟩ := own_callS X115 hx hZ hown (hw _ (mi 128 rfl)) (wd32 hw) (rm_corL hw v1 kv ls h115 n0 O117 y122 hcap) g120 e115 [(.ref a1)] rfl (lenOf pd_22 rfl) (hE 18 rfl) hml.symm 1 rfl (by decide)
    have N121 := Fr.app N115 M121
    have O128 := O117.keep K121 all0
    have y129 := ((E2_.wr W115).keep K121)
    have y130 := ((F0_.other W115 (Or.inr (slot_ne (Or.inr (hw _ (mi 24 rfl))) (Or.inr (hw _ (mi 26 rfl))) (by decide) (t := (.array .byte)) (t' := .byte) (by decide) (by decide)))).keep K121 nin0)
    obtain ⟨T131, h131, X131, e131, W131, st131⟩ := putF X121 hx hZ hown (host := "") (Or.inl (hw _ (mi 23 rfl))) Via.refl rfl y130 y129 (Or.inr ⟨(hw _ (mi 24 rfl)), rfl, hnm⟩) (hw _ (mi 11 rfl)) (ty := (.array .byte)) (by decide) rfl rfl (g := (mkF m 35 lo116 [(.ref r123), (.ref a1)])) rfl rfl (hE 19 rfl)
    have O132 := O128.wr W131 G3_
    have y133 : Fld Z h131 a1 "java/lang/String" "value" "[B" (.ref r123) := y130.same W131
    have N131 := Fr.snoc X131 N121 G3_
    have g134 : Go p e below T131 (mkF m 38 lo116 []) A0 := fun t kont => st121 t (st131 t kont)
    have g135 := jg X131 hx g134 (hE 20 rfl) (pc' := 97) (by decide)
    have K136 : Keep h0 h131 [a1] := ((((Keep.refl h0 [a1]).wr W115 (Or.inl (mi 0 rfl))).trans K121 (fun x hx => nomatch hx)).wr W131 (Or.inl (mi 0 rfl)))
    have y137 := (y129.wr W131)
    have y138 := ((y118.keep K121 nin0).other W131 (Or.inr (slot_ne (Or.inr (hw _ (mi 26 rfl))) (Or.inr (hw _ (mi 24 rfl))) (by decide) (t := .byte) (t' := (.array .byte)) (by decide) (by decide))))
    have y139 := (y127.other W131 (Ne.symm (Nat.ne_of_lt (Nat.lt_of_lt_of_le (Nat.lt_of_lt_of_le F0_.lt (Keep.of_wr W115).1) y125))))
    refine own_leave X131 Bd (none) (fun _ => rfl) g135 (fun fs hr => X131.returnOut hx Bd.returns (hE 37 rfl) hr) (by decide) (by decide) ?_
    rw [e131]
    exact ⟨r123, r124, (0 : Int32), (Int32.ofNat ls.length), (own_lb ls), rfl, N131, K136, y137, y138, y133, (Nat.le_trans (Keep.of_wr W115).1 y125), y139, Or.inl ⟨rfl, rfl, rfl, ll⟩⟩
  have y140 := F8_
  rw [e1] at y140
  have y141 := A11_
  rw [e2, e3] at y141
  have g142 := jA X0 hx g0 (hE 0 rfl) rfl rfl
  let lo144 : Array Slot := #[rv a1, rv b1, .val .null, .unset, .unset]
  obtain ⟨T143, X143, e143, st143⟩ := initO X0 hx hZ hown (hw _ (mi 20 rfl)) (hw _ (mi 21 rfl)) (hw _ (mi 22 rfl)) e0 (g := (mkF m 1 lo144 [(.ref a1)])) rfl (by rw [hml]; rfl) rfl (hE 1 rfl) (by decide) (W := 0) (by show 2 * 0 + _ ≤ _; exact Nat.le_of_eq rfl) (by decide)
  have g145 : Go p e below T143 (mkF m 4 lo144 []) A0 := fun t kont => g142 t (st143 t kont)
  have g146 := jA X143 hx g145 (hE 2 rfl) rfl rfl
  obtain ⟨_, L147, T147, ⟨rfl, M147, e147⟩, X147, st147⟩ := own_callV X143 hx hZ hown (hw _ (mi 114 rfl)) (wd30 hw) (notFace_of_selects (args := #[]) (mvT hZ (hw _ (mi 117 rfl)))) E6_ (rm_gval hw b1 v1 h0 n0 O0 F7_) g146 e143 [] rfl (lenOf pd_24 rfl) (hE 3 rfl) hml.symm 0 rfl (by decide)
  have N147 := Fr.app N0 M147
  have g148 := jA X147 hx (jT X147 hx st147 (hE 4 rfl) rfl rfl (l' := #[rv a1, rv b1, .val .null, rv v1, .unset]) rfl) (hE 5 rfl) rfl rfl
  obtain ⟨_, L149, T149, ⟨rfl, M149, e149⟩, X149, st149⟩ := own_callV X147 hx hZ hown (hw _ (mi 119 rfl)) (wd31 hw) (own_notface (args := #[]) (y := mN41) (mvT hZ (hw _ (mi 85 rfl))) rfl) E6_ (rm_slen hw b1 (Int32.ofNat ls.length) h0 n0 O0 F9_ E6_) g148 e147 [] rfl (lenOf pd_23 rfl) (hE 6 rfl) hml.symm 0 rfl (by decide)
  have N149 := Fr.app N147 M149
  have g150 := jA X149 hx (js X149 hx st149 (hE 7 rfl) rfl (l' := #[rv a1, rv b1, .val .null, rv v1, iv (Int32.ofNat ls.length)]) rfl) (hE 8 rfl) rfl rfl
  obtain ⟨_, L151, T151, ⟨rfl, M151, e151⟩, X151, st151⟩ := own_callV X149 hx hZ hown (hw _ (mi 127 rfl)) (wd22 hw) (notFace_of_selects (args := #[]) (mvT hZ (hw _ (mi 90 rfl)))) E6_ (rm_al1 hw b1 cs h0 n0 O0 S14_ hcs y140) g150 e149 [] rfl (lenOf pd_13 rfl) (hE 9 rfl) hml.symm 0 rfl (by decide)
  have N151 := Fr.app N149 M151
  have g152 := jY X151 hx st151 (hE 10 rfl) rfl (by decide) (pc' := 41) (by decide)
  have y153 := S14_.ext O0.2
  obtain ⟨T154, X154, e154, g154⟩ := own_getS X151 hx hZ hown (hw _ (mi 5 rfl)) Via.refl e151 y153 g152 (hE 21 rfl)
  have g155 := jA X154 hx (jN X154 hx g154 (hE 22 rfl) rfl ((if0 _ _).trans (feq hcs).1)) (hE 23 rfl) rfl rfl
  obtain ⟨T156, X156, e156, g156⟩ := own_getF X154 hx hZ hown (hw _ (mi 364 rfl)) Via.refl e154 F10_ g155 (hE 24 rfl)
  have g157 := jc X156 hx (jA X156 hx (jY X156 hx g156 (hE 25 rfl) rfl (by decide) (pc' := 79) (by decide)) (hE 26 rfl) rfl rfl) (hE 27 rfl) 1 rfl
  let lo159 : Array Slot := #[rv a1, rv b1, .val .null, rv v1, iv (Int32.ofNat ls.length)]
  obtain ⟨T158, h158, X158, e158, W158, st158⟩ := putFN X156 hx hZ hown (hw _ (mi 25 rfl)) Via.refl e156 F1_ E2_ (Or.inr ⟨(hw _ (mi 26 rfl)), rfl, hnm⟩) (hw _ (mi 11 rfl)) (ty := .byte) (v := (.int 1)) (v' := (.int 1)) (by decide) (own_nw_byte (by decide : nar .byte (1 : Int32) = (1 : Int32))) (own_ft_byte (by decide : nar .byte (1 : Int32) = (1 : Int32))) (g := (mkF m 81 lo159 [(.int 1), (.ref a1)])) rfl rfl (hE 28 rfl)
  have O160 := O0.wr W158 G3_
  have y161 : Fld Z h158 a1 "java/lang/String" "coder" "B" (.int 1) := F1_.same W158
  have N158 := Fr.snoc X158 N151 G3_
  have g162 : Go p e below T158 (mkF m 84 lo159 []) A0 := fun t kont => g157 t (st158 t kont)
  have g163 := jL X158 hx (jc X158 hx (ji X158 hx (jc X158 hx (jA X158 hx (jA X158 hx g162 (hE 29 rfl) rfl rfl) (hE 30 rfl) rfl rfl) (hE 31 rfl) 0 rfl) (hE 32 rfl) rfl) (hE 33 rfl) 1 rfl) (hE 34 rfl) rfl
  have g164 := own_rwS g163 (own_dbl (n := ls.length) (by omega) : ((Int32.ofNat ls.length) <<< ((1 : Int32) &&& 31)) = (Int32.ofNat (2 * ls.length)))
  have y166 := (y141.other W158 NE5_)
  obtain ⟨_, L165, T165, ⟨r167, r168, rfl, M165, K165, y169, y170, y171⟩, X165, st165⟩ := own_callS X158 hx hZ hown (hw _ (mi 128 rfl)) (wd32 hw) (rm_corW hw v1 kv ls h158 n0 O160 y166 hcap) g164 e158 [(.ref a1)] rfl (lenOf pd_22 rfl) (hE 35 rfl) hml.symm 1 rfl (by decide)
  have N165 := Fr.app N158 M165
  have O172 := O160.keep K165 all0
  have y173 := ((E2_.wr W158).keep K165)
  have y174 := ((F0_.other W158 (Or.inr (slot_ne (Or.inr (hw _ (mi 24 rfl))) (Or.inr (hw _ (mi 26 rfl))) (by decide) (t := (.array .byte)) (t' := .byte) (by decide) (by decide)))).keep K165 nin0)
  obtain ⟨T175, h175, X175, e175, W175, st175⟩ := putF X165 hx hZ hown (host := "") (Or.inl (hw _ (mi 23 rfl))) Via.refl rfl y174 y173 (Or.inr ⟨(hw _ (mi 24 rfl)), rfl, hnm⟩) (hw _ (mi 11 rfl)) (ty := (.array .byte)) (by decide) rfl rfl (g := (mkF m 94 lo159 [(.ref r167), (.ref a1)])) rfl rfl (hE 36 rfl)
  have O176 := O172.wr W175 G3_
  have y177 : Fld Z h175 a1 "java/lang/String" "value" "[B" (.ref r167) := y174.same W175
  have N175 := Fr.snoc X175 N165 G3_
  have g178 : Go p e below T175 (mkF m 97 lo159 []) A0 := fun t kont => st165 t (st175 t kont)
  have K179 : Keep h0 h175 [a1] := ((((Keep.refl h0 [a1]).wr W158 (Or.inl (mi 0 rfl))).trans K165 (fun x hx => nomatch hx)).wr W175 (Or.inl (mi 0 rfl)))
  have y180 := (y173.wr W175)
  have y181 := ((y161.keep K165 nin0).other W175 (Or.inr (slot_ne (Or.inr (hw _ (mi 26 rfl))) (Or.inr (hw _ (mi 24 rfl))) (by decide) (t := .byte) (t' := (.array .byte)) (by decide) (by decide))))
  have y182 := (y171.other W175 (Ne.symm (Nat.ne_of_lt (Nat.lt_of_lt_of_le (Nat.lt_of_lt_of_le F0_.lt (Keep.of_wr W158).1) y169))))
  refine own_leave X175 Bd (none) (fun _ => rfl) g178 (fun fs hr => X175.returnOut hx Bd.returns (hE 37 rfl) hr) (by decide) (by decide) ?_
  rw [e175]
  exact ⟨r167, r168, (1 : Int32), (Int32.ofNat (2 * ls.length)), (own_wb ls), rfl, N175, K179, y180, y181, y177, (Nat.le_trans (Keep.of_wr W158).1 y169), y182, Or.inr ⟨rfl, rfl, rfl⟩⟩
theorem pd_25 : parseMethodDescriptor "(Ljava/lang/AbstractStringBuilder;Ljava/lang/Void;)V" = some ⟨[(.object "java/lang/AbstractStringBuilder"), (.object "java/lang/Void")], none⟩ := by decide +kernel
theorem wd33 (hw : HW a0 Z) : own_wdI a0 Z mN43 jdk_42_method_150_code 5 := ⟨hw _ (mi 112 rfl), hw _ (mi 3 rfl), hw _ (mi 113 rfl), by decide, rfl⟩
theorem rm_sib (hw : HW a0 Z) (a1 b1 v1 : Addr) (kv : ClassId) (ls : List Int32) (cd z1 : Int32) (vs : List Value) (cs : Int32) (h0 : Heap) (n0 : Nat) (O0 : Old Z n0 h0) (F0_ : Fld Z h0 a1 "java/lang/String" "value" "[B" .null) (F1_ : Fld Z h0 a1 "java/lang/String" "coder" "B" (.int 0)) (E2_ : Exa Z h0 a1 "java/lang/String") (G3_ : n0 ≤ a1) (NE4_ : ¬ (b1 = a1)) (NE5_ : ¬ (v1 = a1)) (E6_ : Exa Z h0 b1 "java/lang/StringBuilder") (F7_ : Fld Z h0 b1 "java/lang/AbstractStringBuilder" "value" "[B" (.ref v1)) (F8_ : Fld Z h0 b1 "java/lang/AbstractStringBuilder" "coder" "B" (.int cd)) (F9_ : Fld Z h0 b1 "java/lang/AbstractStringBuilder" "count" "I" (.int (Int32.ofNat ls.length))) (F10_ : Fld Z h0 b1 "java/lang/AbstractStringBuilder" "maybeLatin1" "Z" (.int 0)) (A11_ : Arv Z h0 v1 kv .byte z1 vs (.int 0)) (hsb : own_sb ls cd z1 vs) (hcap : ls.length ≤ 40) (S14_ : Sta Z Z.heap "java/lang/String" "COMPACT_STRINGS" "Z" (.int cs)) (hcs : ¬ (cs = (0 : Int32))) :
    own_M l mN44 (Jvm.Cond.code mN44 jdk_42_method_53_code 2 none) [] (⟨4, 1, 80, 65⟩ : Room) #[(.ref a1), (.ref b1)] Z h0 (fun v h L => ∃ (r : Addr), ∃ (kid : ClassId), ∃ (cq : Int32), ∃ (zq : Int32), ∃ (vq : List Value), v = none ∧ Fr n0 L ∧ Keep h0 h [a1] ∧ (Exa Z h a1 "java/lang/String") ∧ (Fld Z h a1 "java/lang/String" "coder" "B" (.int cq)) ∧ (Fld Z h a1 "java/lang/String" "value" "[B" (.ref r)) ∧ h0.size ≤ r ∧ (Arv Z h r kid .byte zq vq (.int 0)) ∧ (own_cod ls cq zq vq)) := by
  refine own_open n0 (plainFor_of_name pn_1) (fun m => ef_RR2 m a1 b1 ) ?_
  intro p e s m below meth c s₁ A0 Bd hx hby hml hown hnm hZ hh X0 e0 N0 g0
  have hE := own_hd hby E20
  have g101 := show Go p e below s₁ (mkF m 3 #[rv a1, rv b1] [.null, (.ref b1), (.ref a1)]) A0 from fun t kt => (jA X0 hx (jA X0 hx g0 (hE 0 rfl) rfl rfl) (hE 1 rfl) rfl rfl) t (by refine XS.aconstNull X0.here hx rfl (hE 2 rfl) ?_; exact kt)
  obtain ⟨_, L102, T102, ⟨r103, r104, r105, r106, r107, rfl, M102, K102, y108, y109, y110, y111, y112, y113⟩, X102, st102⟩ := own_callI X0 hx hZ hown (hw _ (mi 111 rfl)) (wd33 hw) (rm_siv hw a1 b1 v1 kv ls cd z1 vs cs h0 n0 O0 F0_ F1_ E2_ G3_ NE4_ NE5_ E6_ F7_ F8_ F9_ F10_ A11_ hsb hcap S14_ hcs) g101 e0 [] rfl (lenOf pd_25 rfl) (hE 3 rfl) hml.symm 0 rfl (by decide)
  have N102 := Fr.app N0 M102
  have O114 := O0.keep K102 (allS G3_ all0)
  have K115 : Keep h0 T102.heap [a1] := ((Keep.refl h0 [a1]).trans K102 (allS (P := fun x => x ∈ [a1] ∨ h0.size ≤ x) (Or.inl (mi 0 rfl)) all0))
  refine own_leave X102 Bd (none) (fun _ => rfl) st102 (fun fs hr => X102.returnOut hx Bd.returns (hE 4 rfl) hr) (by decide) (by decide) ?_
  exact ⟨r103, r104, r105, r106, r107, rfl, N102, K115, y108, y109, y110, y111, y112, y113⟩
theorem pd_26 : parseMethodDescriptor "(Ljava/lang/StringBuilder;)V" = some ⟨[(.object "java/lang/StringBuilder")], none⟩ := by decide +kernel
theorem wd34 (hw : HW a0 Z) : own_wdI a0 Z mN44 jdk_42_method_53_code 2 := ⟨hw _ (mi 109 rfl), hw _ (mi 3 rfl), hw _ (mi 110 rfl), by decide, rfl⟩
theorem rm_tos (hw : HW a0 Z) (b1 v1 : Addr) (kv : ClassId) (ls : List Int32) (cd z1 : Int32) (vs : List Value) (cs : Int32) (h0 : Heap) (n0 : Nat) (O0 : Old Z n0 h0) (E0_ : Exa Z h0 b1 "java/lang/StringBuilder") (F1_ : Fld Z h0 b1 "java/lang/AbstractStringBuilder" "value" "[B" (.ref v1)) (F2_ : Fld Z h0 b1 "java/lang/AbstractStringBuilder" "coder" "B" (.int cd)) (F3_ : Fld Z h0 b1 "java/lang/AbstractStringBuilder" "count" "I" (.int (Int32.ofNat ls.length))) (F4_ : Fld Z h0 b1 "java/lang/AbstractStringBuilder" "maybeLatin1" "Z" (.int 0)) (A5_ : Arv Z h0 v1 kv .byte z1 vs (.int 0)) (hsb : own_sb ls cd z1 vs) (hcap : ls.length ≤ 40) (S8_ : Sta Z Z.heap "java/lang/String" "COMPACT_STRINGS" "Z" (.int cs)) (hcs : ¬ (cs = (0 : Int32))) :
    own_M l mN45 (Jvm.Cond.code mN45 jdk_67_method_42_code 1 (some (.object "java/lang/String"))) [] (⟨5, 2, 84, 79⟩ : Room) #[(.ref b1)] Z h0 (fun v h L => ∃ (a2 : Addr), ∃ (r : Addr), ∃ (kid : ClassId), ∃ (cq : Int32), ∃ (zq : Int32), ∃ (vq : List Value), v = some (.ref a2) ∧ Fr n0 L ∧ Keep h0 h [] ∧ h0.size ≤ a2 ∧ (Exa Z h a2 "java/lang/String") ∧ (Fld Z h a2 "java/lang/String" "coder" "B" (.int cq)) ∧ (Fld Z h a2 "java/lang/String" "value" "[B" (.ref r)) ∧ h0.size ≤ r ∧ (Arv Z h r kid .byte zq vq (.int 0)) ∧ (own_cod ls cq zq vq)) := by
  refine own_open n0 (plainFor_of_name pn_5) (fun m => ef_R1 m b1 ) ?_
  intro p e s m below meth c s₁ A0 Bd hx hby hml hown hnm hZ hh X0 e0 N0 g0
  have hE := own_hd hby E19
  obtain ⟨T101, h101, X101, e101, E101, A101, D101, -, st101⟩ := newO X0 hx hZ hown (hw _ (mi 107 rfl)) (hw _ (mi 11 rfl)) (hw _ (mi 3 rfl)) e0 (g := (mkF m 0 #[rv b1] [])) rfl (hE 0 rfl) (by decide) (by decide)
  obtain ⟨b101, gb101⟩ : ∃ z, z = h0.size := ⟨_, rfl⟩
  rw [← gb101] at A101 D101 st101
  have O102 := O0.ext E101
  have y103 : Fld Z h101 b101 "java/lang/String" "value" "[B" .null := D101 (Or.inr (hw _ (mi 24 rfl))) (ty := (.array .byte)) (by decide)
  have y104 : Fld Z h101 b101 "java/lang/String" "coder" "B" (.int 0) := D101 (Or.inr (hw _ (mi 26 rfl))) (ty := .byte) (by decide)
  have g105 : Go p e below T101 (mkF m 3 #[rv b1] [(.ref b101)]) A0 := fun t kont => g0 t (st101 t kont)
  have g106 := jA X101 hx (jd X101 hx g105 (hE 1 rfl) rfl rfl) (hE 2 rfl) rfl rfl
  have ge108 : n0 ≤ b101 := Nat.le_trans (own_old_le O0) (Nat.le_of_eq gb101.symm)
  have y109 := (E0_.ext E101)
  have y110 := (F1_.ext E101)
  have y111 := (F2_.ext E101)
  have y112 := (F3_.ext E101)
  have y113 := (F4_.ext E101)
  have y114 := (A5_.ext E101)
  obtain ⟨_, L107, T107, ⟨r115, r116, r117, r118, r119, rfl, M107, K107, y120, y121, y122, y123, y124, y125⟩, X107, st107⟩ := own_callI X101 hx hZ hown (hw _ (mi 108 rfl)) (wd34 hw) (rm_sib hw b101 b1 v1 kv ls cd z1 vs cs h101 n0 O102 y103 y104 A101 ge108 (Nat.ne_of_lt (Nat.lt_of_lt_of_le E0_.lt (Nat.le_of_eq gb101.symm))) (Nat.ne_of_lt (Nat.lt_of_lt_of_le A5_.lt (Nat.le_of_eq gb101.symm))) y109 y110 y111 y112 y113 y114 hsb hcap S8_ hcs) g106 e101 [(.ref b101)] rfl (lenOf pd_26 rfl) (hE 3 rfl) hml.symm 1 rfl (by decide)
  have N107 := Fr.app N0 M107
  have O126 := O102.keep K107 (allS ge108 all0)
  have K127 : Keep h0 T107.heap [] := (((Keep.refl h0 []).ext E101).trans K107 (allS (P := fun x => x ∈ [] ∨ h0.size ≤ x) (Or.inr (Nat.le_of_eq gb101.symm)) all0))
  refine own_leave X107 Bd (some (.ref b101)) nofun st107 (fun fs hr => retOut X107 hx Bd.returns rfl (Or.inr (Or.inr (Or.inr (Or.inr ⟨rfl, rfl, rfl⟩)))) (hE 4 rfl) hr) (by decide) (by decide) ?_
  exact ⟨b101, r115, r116, r117, r118, r119, rfl, N107, K127, (Nat.le_of_eq gb101.symm), y120, y121, y122, (Nat.le_trans E101.1 y123), y124, y125⟩
theorem rm_aInfW (hw : HW a0 Z) (b1 : Addr) (cs : Int32) (h0 : Heap) (n0 : Nat) (O0 : Old Z n0 h0) (S0_ : Sta Z Z.heap "java/lang/String" "COMPACT_STRINGS" "Z" (.int cs)) (hcs : ¬ (cs = (0 : Int32))) (F2_ : Fld Z h0 b1 "java/lang/AbstractStringBuilder" "coder" "B" (.int 1)) (E3_ : Exa Z h0 b1 "java/lang/StringBuilder") :
    own_M l mN33 (Jvm.Cond.code mN33 jdk_68_method_11_code 2 none) [] (⟨1, 0, 0, 12⟩ : Room) #[(.ref b1)] Z h0 (fun v h L => v = none ∧ Fr n0 L ∧ h = h0) := by
  refine own_open n0 (plainFor_of_name pn_4) (fun m => ef_R2 m b1 ) ?_
  intro p e s m below meth c s₁ A0 Bd hx hby hml hown hnm hZ hh X0 e0 N0 g0
  have hE := own_hd hby E67
  have g101 := jA X0 hx g0 (hE 0 rfl) rfl rfl
  obtain ⟨_, L102, T102, ⟨rfl, M102, e102⟩, X102, st102⟩ := own_callV X0 hx hZ hown (hw _ (mi 87 rfl)) (wd22 hw) (notFace_of_selects (args := #[]) (mvT hZ (hw _ (mi 90 rfl)))) E3_ (rm_al1 hw b1 cs h0 n0 O0 S0_ hcs F2_) g101 e0 [] rfl (lenOf pd_13 rfl) (hE 1 rfl) hml.symm 0 rfl (by decide)
  have N102 := Fr.app N0 M102
  have g103 := jN X102 hx st102 (hE 2 rfl) rfl (by decide)
  refine own_leave X102 Bd (none) (fun _ => rfl) g103 (fun fs hr => X102.returnOut hx Bd.returns (hE 3 rfl) hr) (by decide) (by decide) ?_
  rw [e102]
  exact ⟨rfl, N102, rfl⟩
theorem rm_iinfL (hw : HW a0 Z) (b1 a2 : Addr) (cs : Int32) (h0 : Heap) (n0 : Nat) (O0 : Old Z n0 h0) (S0_ : Sta Z Z.heap "java/lang/String" "COMPACT_STRINGS" "Z" (.int cs)) (hcs : ¬ (cs = (0 : Int32))) (F2_ : Fld Z h0 b1 "java/lang/AbstractStringBuilder" "coder" "B" (.int 0)) (E3_ : Exa Z h0 b1 "java/lang/StringBuilder") (F4_ : Fld Z h0 a2 "java/lang/String" "coder" "B" (.int 0)) (E5_ : Exa Z h0 a2 "java/lang/String") :
    own_M l mN46 (Jvm.Cond.code mN46 jdk_68_method_71_code 2 none) [] (⟨1, 0, 0, 13⟩ : Room) #[(.ref b1), (.ref a2)] Z h0 (fun v h L => v = none ∧ Fr n0 L ∧ h = h0) := by
  refine own_open n0 (plainFor_of_name pn_4) (fun m => ef_RR2 m b1 a2 ) ?_
  intro p e s m below meth c s₁ A0 Bd hx hby hml hown hnm hZ hh X0 e0 N0 g0
  have hE := own_hd hby E48
  have y101 := S0_.ext O0.2
  obtain ⟨T102, X102, e102, g102⟩ := own_getS X0 hx hZ hown (hw _ (mi 65 rfl)) Via.refl e0 y101 g0 (hE 0 rfl)
  have g103 := jA X102 hx (jN X102 hx g102 (hE 1 rfl) rfl ((if0 _ _).trans (feq hcs).1)) (hE 2 rfl) rfl rfl
  obtain ⟨T104, X104, e104, g104⟩ := own_getF X102 hx hZ hown (hw _ (mi 68 rfl)) Via.refl e102 F2_ g103 (hE 3 rfl)
  have g105 := jA X104 hx g104 (hE 4 rfl) rfl rfl
  obtain ⟨_, L106, T106, ⟨rfl, M106, e106⟩, X106, st106⟩ := own_callV X104 hx hZ hown (hw _ (mi 253 rfl)) (wd9 hw) (notFace_of_selects (args := #[]) (mvT hZ (hw _ (mi 154 rfl)))) E5_ (rm_cdrG hw a2 cs (0 : Int32) h0 n0 O0 S0_ hcs F4_ (Or.inl rfl)) g105 e104 [(.int 0)] rfl (lenOf pd_8 rfl) (hE 5 rfl) hml.symm 1 rfl (by decide)
  have N106 := Fr.app N0 M106
  have g107 := jy X106 hx st106 (hE 6 rfl) rfl (by decide) (pc' := 21) (by decide)
  refine own_leave X106 Bd (none) (fun _ => rfl) g107 (fun fs hr => X106.returnOut hx Bd.returns (hE 9 rfl) hr) (by decide) (by decide) ?_
  rw [e106]
  exact ⟨rfl, N106, rfl⟩
theorem ef_RRII4 (m : MethodId) (x0 : Addr) (x1 : Addr) (x2 : Int32) (x3 : Int32)  : entryFrame m #[(.ref x0), (.ref x1), (.int x2), (.int x3)] 4 = mkF m 0 #[.val (.ref x0), .val (.ref x1), .val (.int x2), .val (.int x3)] [] := by first | (simp [entryFrame, mkF, argsToLocals, Value.category]; done) | rfl
theorem rm_gbyL (hw : HW a0 Z) (v1 : Addr) (kv : ClassId) (ls : List Int32) (cs : Int32) (fm : Value) (a2 u2 : Addr) (ku : ClassId) (xs : List Int32) (h0 : Heap) (n0 : Nat) (O0 : Old Z n0 h0) (E0_ : Exa Z h0 a2 "java/lang/String") (F1_ : Fld Z h0 a2 "java/lang/String" "coder" "B" (.int 0)) (F2_ : Fld Z h0 a2 "java/lang/String" "value" "[B" (.ref u2)) (A3_ : Arv Z h0 u2 ku .byte (Int32.ofNat xs.length) (own_lb xs) (.int 0)) (hbx : xs.length ≤ 40) (cx : own_chars xs) (lx : own_lat xs) (hcap : ls.length ≤ 200) (A8_ : Arv Z h0 v1 kv .byte (256 : Int32) (own_PL ls) (.int 0)) (G9_ : n0 ≤ v1) (NE10_ : ¬ (u2 = v1)) (NE11_ : ¬ (a2 = v1)) (hW : own_W Z cs fm) :
    own_M l mN47 (Jvm.Cond.code mN47 jdk_42_method_147_code 4 none) [] (⟨1, 0, 0, 18⟩ : Room) #[(.ref a2), (.ref v1), (.int (Int32.ofNat ls.length)), (.int 0)] Z h0 (fun v h L => v = none ∧ Fr n0 L ∧ Keep h0 h [v1] ∧ (Arv Z h v1 kv .byte (256 : Int32) (own_PL (ls ++ xs)) (.int 0))) := by
  refine own_open n0 (plainFor_of_name pn_1) (fun m => ef_RRII4 m a2 v1 (Int32.ofNat ls.length) (0 : Int32) ) ?_
  intro p e s m below meth c s₁ A0 Bd hx hby hml hown hnm hZ hh X0 e0 N0 g0
  obtain ⟨SC_, hcs, SF_, hfm, SU1_, SU2_, SU3_⟩ := id hW
  have hE := own_hd hby E49
  have g101 := jA X0 hx g0 (hE 0 rfl) rfl rfl
  obtain ⟨_, L102, T102, ⟨rfl, M102, e102⟩, X102, st102⟩ := own_callV X0 hx hZ hown (hw _ (mi 151 rfl)) (wd9 hw) (notFace_of_selects (args := #[]) (mvT hZ (hw _ (mi 154 rfl)))) E0_ (rm_cdrG hw a2 cs (0 : Int32) h0 n0 O0 SC_ hcs F1_ (Or.inl rfl)) g101 e0 [] rfl (lenOf pd_8 rfl) (hE 1 rfl) hml.symm 0 rfl (by decide)
  have N102 := Fr.app N0 M102
  have g103 := jA X102 hx (jn X102 hx (jI X102 hx st102 (hE 2 rfl) rfl) (hE 3 rfl) rfl (by decide)) (hE 4 rfl) rfl rfl
  obtain ⟨T104, X104, e104, g104⟩ := own_getF X102 hx hZ hown (hw _ (mi 23 rfl)) Via.refl e102 F2_ g103 (hE 5 rfl)
  have g105 := jA X104 hx (jL X104 hx (jI X104 hx (jI X104 hx (jA X104 hx (jc X104 hx g104 (hE 6 rfl) 0 rfl) (hE 7 rfl) rfl rfl) (hE 8 rfl) rfl) (hE 9 rfl) rfl) (hE 10 rfl) rfl) (hE 11 rfl) rfl rfl
  obtain ⟨T106, X106, e106, g106⟩ := own_getF X104 hx hZ hown (hw _ (mi 23 rfl)) Via.refl e104 F2_ g105 (hE 12 rfl)
  have zz107 := A3_
  obtain ⟨cl107, Ar107, -, S107, M107, -, -⟩ := zz107
  let lo109 : Array Slot := #[rv a2, rv v1, iv (Int32.ofNat ls.length), iv 0]
  have g108 : Go p e below T106 (mkF m 22 lo109 [(.int (Int32.ofNat xs.length)), (.int ((Int32.ofNat ls.length) <<< ((0 : Int32) &&& 31))), (.ref v1), (.int 0), (.ref u2)]) A0 := by
    intro t kont
    refine g106 t ?_
    refine X106.arraylength hx (by rw [e106]; exact Ar107.1) (State.isArrayOf_alike hZ.alike Ar107.2.1) (g := (mkF m 21 lo109 [(.ref u2), (.int ((Int32.ofNat ls.length) <<< ((0 : Int32) &&& 31))), (.ref v1), (.int 0), (.ref u2)])) rfl rfl (hE 13 rfl) _ ?_
    rw [len_of S107 M107]
    exact kont
  have g110 : Go p e below T106 (mkF m 22 #[rv a2, rv v1, iv (Int32.ofNat ls.length), iv 0] [(.int (Int32.ofNat xs.length)), (.int (Int32.ofNat ls.length)), (.ref v1), (.int 0), (.ref u2)]) A0 := by have z : Go p e below T106 (mkF m 22 #[rv a2, rv v1, iv (Int32.ofNat ls.length), iv 0] [(.int (Int32.ofNat xs.length)), (.int ((Int32.ofNat ls.length) <<< ((0 : Int32) &&& 31))), (.ref v1), (.int 0), (.ref u2)]) A0 := g108; rw [own_shl0 _] at z; exact z
  obtain ⟨T111, h111, L111, X111, e111, N111, K111, y111, st111⟩ := cpA X106 hx hZ hown (hw _ (mi 259 rfl)) (hw _ (mi 145 rfl)) (hw _ (mi 143 rfl)) (hw _ (mi 144 rfl)) e106 A3_ A8_ (Or.inl ⟨rfl, rfl⟩) (sp := (0 : Int32)) (dp := (Int32.ofNat ls.length)) (nn := (Int32.ofNat xs.length)) (by decide) (own_nonneg (by omega)) (own_nonneg (by omega)) (by rw [own_clamp (by omega)]; show 0 + _ ≤ _; omega) (by rw [own_clamp (by omega), own_clamp (by omega)]; show _ ≤ 256; omega) rfl (by rw [own_clamp (by omega), own_clamp (by omega), own_PLlen (by omega)]; omega) N102 G9_ (g := (mkF m 22 lo109 [(.int (Int32.ofNat xs.length)), (.int (Int32.ofNat ls.length)), (.ref v1), (.int 0), (.ref u2)])) rfl (by rw [hml]; rfl) (rest := []) rfl (hE 14 rfl) (by decide) (W := 0) (by show 2 * 0 + _ ≤ _; exact Nat.le_of_eq rfl) (by decide)
  have O112 := O0.keep K111 (allS G9_ all0)
  have y113 : Arv Z h111 v1 kv .byte (256 : Int32) (own_PL (ls ++ xs)) (.int 0) := by have q := y111; rw [own_clamp (show ls.length < 2147483648 by omega), own_clamp (show xs.length < 2147483648 by omega), show (0 : Int32).toNatClampNeg = 0 from rfl, own_cpL0 (by omega)] at q; exact q
  have g114 : Go p e below T111 (mkF m 25 lo109 []) A0 := fun t kont => g110 t (st111 t kont)
  have g115 := jg X111 hx g114 (hE 15 rfl) (pc' := 43) (by decide)
  have K116 : Keep h0 h111 [v1] := ((Keep.refl h0 [v1]).trans K111 (allS (P := fun x => x ∈ [v1] ∨ h0.size ≤ x) (Or.inl (mi 0 rfl)) all0))
  refine own_leave X111 Bd (none) (fun _ => rfl) g115 (fun fs hr => X111.returnOut hx Bd.returns (hE 25 rfl) hr) (by decide) (by decide) ?_
  rw [e111]
  exact ⟨rfl, N111, K116, y113⟩
theorem pd_27 : parseMethodDescriptor "()V" = some ⟨[], none⟩ := by decide +kernel
theorem wd35 (hw : HW a0 Z) : own_wdP a0 Z mN33 jdk_68_method_11_code 2 none := ⟨hw _ (mi 327 rfl), (own_selP (hw _ (mi 329 rfl)) (hw _ (mi 328 rfl)) (hw _ (mi 327 rfl)) (by decide)), hw _ (mi 328 rfl), hw _ (mi 62 rfl), hw _ (mi 330 rfl), by decide⟩
theorem rm_iinfW (hw : HW a0 Z) (b1 a2 : Addr) (cs : Int32) (h0 : Heap) (n0 : Nat) (O0 : Old Z n0 h0) (S0_ : Sta Z Z.heap "java/lang/String" "COMPACT_STRINGS" "Z" (.int cs)) (hcs : ¬ (cs = (0 : Int32))) (F2_ : Fld Z h0 b1 "java/lang/AbstractStringBuilder" "coder" "B" (.int 1)) (E3_ : Exa Z h0 b1 "java/lang/StringBuilder") (F4_ : Fld Z h0 a2 "java/lang/String" "coder" "B" (.int 0)) (E5_ : Exa Z h0 a2 "java/lang/String") :
    own_M l mN46 (Jvm.Cond.code mN46 jdk_68_method_71_code 2 none) [] (⟨2, 0, 0, 25⟩ : Room) #[(.ref b1), (.ref a2)] Z h0 (fun v h L => v = none ∧ Fr n0 L ∧ h = h0) := by
  refine own_open n0 (plainFor_of_name pn_4) (fun m => ef_RR2 m b1 a2 ) ?_
  intro p e s m below meth c s₁ A0 Bd hx hby hml hown hnm hZ hh X0 e0 N0 g0
  have hE := own_hd hby E48
  have y101 := S0_.ext O0.2
  obtain ⟨T102, X102, e102, g102⟩ := own_getS X0 hx hZ hown (hw _ (mi 65 rfl)) Via.refl e0 y101 g0 (hE 0 rfl)
  have g103 := jA X102 hx (jN X102 hx g102 (hE 1 rfl) rfl ((if0 _ _).trans (feq hcs).1)) (hE 2 rfl) rfl rfl
  obtain ⟨T104, X104, e104, g104⟩ := own_getF X102 hx hZ hown (hw _ (mi 68 rfl)) Via.refl e102 F2_ g103 (hE 3 rfl)
  have g105 := jA X104 hx g104 (hE 4 rfl) rfl rfl
  obtain ⟨_, L106, T106, ⟨rfl, M106, e106⟩, X106, st106⟩ := own_callV X104 hx hZ hown (hw _ (mi 253 rfl)) (wd9 hw) (notFace_of_selects (args := #[]) (mvT hZ (hw _ (mi 154 rfl)))) E5_ (rm_cdrG hw a2 cs (0 : Int32) h0 n0 O0 S0_ hcs F4_ (Or.inl rfl)) g105 e104 [(.int 1)] rfl (lenOf pd_8 rfl) (hE 5 rfl) hml.symm 1 rfl (by decide)
  have N106 := Fr.app N0 M106
  have g107 := jA X106 hx (jn X106 hx st106 (hE 6 rfl) rfl (by decide)) (hE 7 rfl) rfl rfl
  obtain ⟨_, L108, T108, ⟨rfl, M108, e108⟩, X108, st108⟩ := own_callP X106 hx hZ hown (hw _ (mi 326 rfl)) (wd35 hw) E3_ (rm_aInfW hw b1 cs h0 n0 O0 S0_ hcs F2_ E3_) g107 e106 [] rfl (lenOf pd_27 rfl) (hE 8 rfl) hml.symm 0 rfl (by decide)
  have N108 := Fr.app N106 M108
  refine own_leave X108 Bd (none) (fun _ => rfl) st108 (fun fs hr => X108.returnOut hx Bd.returns (hE 9 rfl) hr) (by decide) (by decide) ?_
  rw [e108]
  exact ⟨rfl, N108, rfl⟩
theorem rm_gbyW (hw : HW a0 Z) (v1 : Addr) (kv : ClassId) (ls : List Int32) (cs : Int32) (fm : Value) (a2 u2 : Addr) (ku : ClassId) (xs : List Int32) (h0 : Heap) (n0 : Nat) (O0 : Old Z n0 h0) (E0_ : Exa Z h0 a2 "java/lang/String") (F1_ : Fld Z h0 a2 "java/lang/String" "coder" "B" (.int 0)) (F2_ : Fld Z h0 a2 "java/lang/String" "value" "[B" (.ref u2)) (A3_ : Arv Z h0 u2 ku .byte (Int32.ofNat xs.length) (own_lb xs) (.int 0)) (hbx : xs.length ≤ 40) (cx : own_chars xs) (lx : own_lat xs) (hcap : ls.length ≤ 200) (A8_ : Arv Z h0 v1 kv .byte (512 : Int32) (own_PW ls) (.int 0)) (G9_ : n0 ≤ v1) (NE10_ : ¬ (u2 = v1)) (NE11_ : ¬ (a2 = v1)) (hW : own_W Z cs fm) :
    own_M l mN47 (Jvm.Cond.code mN47 jdk_42_method_147_code 4 none) [] (⟨5, 0, 0, 76⟩ : Room) #[(.ref a2), (.ref v1), (.int (Int32.ofNat ls.length)), (.int 1)] Z h0 (fun v h L => v = none ∧ Fr n0 L ∧ Keep h0 h [v1] ∧ (Arv Z h v1 kv .byte (512 : Int32) (own_PW (ls ++ xs)) (.int 0))) := by
  refine own_open n0 (plainFor_of_name pn_1) (fun m => ef_RRII4 m a2 v1 (Int32.ofNat ls.length) (1 : Int32) ) ?_
  intro p e s m below meth c s₁ A0 Bd hx hby hml hown hnm hZ hh X0 e0 N0 g0
  obtain ⟨SC_, hcs, SF_, hfm, SU1_, SU2_, SU3_⟩ := id hW
  have hE := own_hd hby E49
  have g101 := jA X0 hx g0 (hE 0 rfl) rfl rfl
  obtain ⟨_, L102, T102, ⟨rfl, M102, e102⟩, X102, st102⟩ := own_callV X0 hx hZ hown (hw _ (mi 151 rfl)) (wd9 hw) (notFace_of_selects (args := #[]) (mvT hZ (hw _ (mi 154 rfl)))) E0_ (rm_cdrG hw a2 cs (0 : Int32) h0 n0 O0 SC_ hcs F1_ (Or.inl rfl)) g101 e0 [] rfl (lenOf pd_8 rfl) (hE 1 rfl) hml.symm 0 rfl (by decide)
  have N102 := Fr.app N0 M102
  have g103 := jA X102 hx (jy X102 hx (jI X102 hx st102 (hE 2 rfl) rfl) (hE 3 rfl) rfl (by decide) (pc' := 28) (by decide)) (hE 16 rfl) rfl rfl
  obtain ⟨T104, X104, e104, g104⟩ := own_getF X102 hx hZ hown (hw _ (mi 23 rfl)) Via.refl e102 F2_ g103 (hE 17 rfl)
  have g105 := jA X104 hx (jI X104 hx (jA X104 hx (jc X104 hx g104 (hE 18 rfl) 0 rfl) (hE 19 rfl) rfl rfl) (hE 20 rfl) rfl) (hE 21 rfl) rfl rfl
  obtain ⟨T106, X106, e106, g106⟩ := own_getF X104 hx hZ hown (hw _ (mi 23 rfl)) Via.refl e104 F2_ g105 (hE 22 rfl)
  have zz107 := A3_
  obtain ⟨cl107, Ar107, -, S107, M107, -, -⟩ := zz107
  let lo109 : Array Slot := #[rv a2, rv v1, iv (Int32.ofNat ls.length), iv 1]
  have g108 : Go p e below T106 (mkF m 40 lo109 [(.int (Int32.ofNat xs.length)), (.int (Int32.ofNat ls.length)), (.ref v1), (.int 0), (.ref u2)]) A0 := by
    intro t kont
    refine g106 t ?_
    refine X106.arraylength hx (by rw [e106]; exact Ar107.1) (State.isArrayOf_alike hZ.alike Ar107.2.1) (g := (mkF m 39 lo109 [(.ref u2), (.int (Int32.ofNat ls.length)), (.ref v1), (.int 0), (.ref u2)])) rfl rfl (hE 23 rfl) _ ?_
    rw [len_of S107 M107]
    exact kont
  obtain ⟨_, L110, T110, ⟨rfl, M110, K110, y111⟩, X110, st110⟩ := own_callS X106 hx hZ hown (hw _ (mi 366 rfl)) (wd23 hw) (rm_linfG hw u2 v1 ku kv xs.length (own_lb xs) ls xs fm cs h0 n0 O0 A3_ A8_ G9_ NE10_ (fun i hi => own_lb_get hi) (Nat.le_refl _) (by omega) (by omega) (cx) (lx) hW) g108 e106 [] rfl (lenOf pd_18 rfl) (hE 24 rfl) hml.symm 0 rfl (by decide)
  have N110 := Fr.app N102 M110
  have O112 := O0.keep K110 (allS G9_ all0)
  have K113 : Keep h0 T110.heap [v1] := ((Keep.refl h0 [v1]).trans K110 (allS (P := fun x => x ∈ [v1] ∨ h0.size ≤ x) (Or.inl (mi 0 rfl)) all0))
  refine own_leave X110 Bd (none) (fun _ => rfl) st110 (fun fs hr => X110.returnOut hx Bd.returns (hE 25 rfl) hr) (by decide) (by decide) ?_
  exact ⟨rfl, N110, K113, y111⟩
theorem pd_28 : parseMethodDescriptor "(Ljava/lang/String;)V" = some ⟨[(.object "java/lang/String")], none⟩ := by decide +kernel
theorem wd36 (hw : HW a0 Z) : own_wdP a0 Z mN46 jdk_68_method_71_code 2 none := ⟨hw _ (mi 249 rfl), (own_selP (hw _ (mi 251 rfl)) (hw _ (mi 250 rfl)) (hw _ (mi 249 rfl)) (by decide)), hw _ (mi 250 rfl), hw _ (mi 62 rfl), hw _ (mi 252 rfl), by decide⟩
theorem pd_29 : parseMethodDescriptor "([BIB)V" = some ⟨[(.array .byte), .int, .byte], none⟩ := by decide +kernel
theorem wd37 (hw : HW a0 Z) : own_wdV a0 Z "java/lang/String" mN47 mN47 jdk_42_method_147_code 4 none := ⟨hw _ (mi 255 rfl), hw _ (mi 257 rfl), hw _ (mi 256 rfl), hw _ (mi 3 rfl), hw _ (mi 258 rfl), by decide⟩
theorem ef_RIR3 (m : MethodId) (x0 : Addr) (x1 : Int32) (x2 : Addr)  : entryFrame m #[(.ref x0), (.int x1), (.ref x2)] 3 = mkF m 0 #[.val (.ref x0), .val (.int x1), .val (.ref x2)] [] := by first | (simp [entryFrame, mkF, argsToLocals, Value.category]; done) | rfl
theorem rm_psaL (hw : HW a0 Z) (b1 v1 : Addr) (kv : ClassId) (ls : List Int32) (cs : Int32) (fm : Value) (a2 u2 : Addr) (ku : ClassId) (xs : List Int32) (h0 : Heap) (n0 : Nat) (O0 : Old Z n0 h0) (E0_ : Exa Z h0 b1 "java/lang/StringBuilder") (F1_ : Fld Z h0 b1 "java/lang/AbstractStringBuilder" "value" "[B" (.ref v1)) (F2_ : Fld Z h0 b1 "java/lang/AbstractStringBuilder" "coder" "B" (.int 0)) (F3_ : Fld Z h0 b1 "java/lang/AbstractStringBuilder" "count" "I" (.int (Int32.ofNat ls.length))) (F4_ : Fld Z h0 b1 "java/lang/AbstractStringBuilder" "maybeLatin1" "Z" (.int 0)) (A5_ : Arv Z h0 v1 kv .byte (256 : Int32) (own_PL ls) (.int 0)) (E6_ : Exa Z h0 a2 "java/lang/String") (F7_ : Fld Z h0 a2 "java/lang/String" "coder" "B" (.int 0)) (F8_ : Fld Z h0 a2 "java/lang/String" "value" "[B" (.ref u2)) (A9_ : Arv Z h0 u2 ku .byte (Int32.ofNat xs.length) (own_lb xs) (.int 0)) (hbx : xs.length ≤ 40) (cx : own_chars xs) (lx : own_lat xs) (hcap : ls.length ≤ 200) (G14_ : n0 ≤ b1) (G15_ : n0 ≤ v1) (NE16_ : ¬ (v1 = b1)) (NE17_ : ¬ (u2 = v1)) (NE18_ : ¬ (a2 = v1)) (NE19_ : ¬ (a2 = b1)) (NE20_ : ¬ (u2 = b1)) (hW : own_W Z cs fm) :
    own_M l mN48 (Jvm.Cond.code mN48 jdk_68_method_73_code 3 none) [] (⟨2, 0, 0, 33⟩ : Room) #[(.ref b1), (.int (Int32.ofNat ls.length)), (.ref a2)] Z h0 (fun v h L => v = none ∧ Fr n0 L ∧ Keep h0 h [v1] ∧ (Arv Z h v1 kv .byte (256 : Int32) (own_PL (ls ++ xs)) (.int 0))) := by
  refine own_open n0 (plainFor_of_name pn_4) (fun m => ef_RIR3 m b1 (Int32.ofNat ls.length) a2 ) ?_
  intro p e s m below meth c s₁ A0 Bd hx hby hml hown hnm hZ hh X0 e0 N0 g0
  obtain ⟨SC_, hcs, SF_, hfm, SU1_, SU2_, SU3_⟩ := id hW
  have hE := own_hd hby E47
  have g101 := jA X0 hx (jA X0 hx g0 (hE 0 rfl) rfl rfl) (hE 1 rfl) rfl rfl
  obtain ⟨_, L102, T102, ⟨rfl, M102, e102⟩, X102, st102⟩ := own_callP X0 hx hZ hown (hw _ (mi 248 rfl)) (wd36 hw) E0_ (rm_iinfL hw b1 a2 cs h0 n0 O0 SC_ hcs F2_ E0_ F7_ E6_) g101 e0 [] rfl (lenOf pd_28 rfl) (hE 2 rfl) hml.symm 0 rfl (by decide)
  have N102 := Fr.app N0 M102
  have g103 := jA X102 hx (jA X102 hx st102 (hE 3 rfl) rfl rfl) (hE 4 rfl) rfl rfl
  obtain ⟨T104, X104, e104, g104⟩ := own_getF X102 hx hZ hown (hw _ (mi 66 rfl)) Via.refl e102 F1_ g103 (hE 5 rfl)
  have g105 := jA X104 hx (jI X104 hx g104 (hE 6 rfl) rfl) (hE 7 rfl) rfl rfl
  obtain ⟨T106, X106, e106, g106⟩ := own_getF X104 hx hZ hown (hw _ (mi 68 rfl)) Via.refl e104 F2_ g105 (hE 8 rfl)
  obtain ⟨_, L107, T107, ⟨rfl, M107, K107, y108⟩, X107, st107⟩ := own_callV X106 hx hZ hown (hw _ (mi 254 rfl)) (wd37 hw) (notFace_of_selects (args := #[]) (mvT hZ (hw _ (mi 257 rfl)))) E6_ (rm_gbyL hw v1 kv ls cs fm a2 u2 ku xs h0 n0 O0 E6_ F7_ F8_ A9_ hbx cx lx hcap A5_ G15_ NE17_ NE18_ hW) g106 e106 [] rfl (lenOf pd_29 rfl) (hE 9 rfl) hml.symm 0 rfl (by decide)
  have N107 := Fr.app N102 M107
  have O109 := O0.keep K107 (allS G15_ all0)
  have K110 : Keep h0 T107.heap [v1] := ((Keep.refl h0 [v1]).trans K107 (allS (P := fun x => x ∈ [v1] ∨ h0.size ≤ x) (Or.inl (mi 0 rfl)) all0))
  refine own_leave X107 Bd (none) (fun _ => rfl) st107 (fun fs hr => X107.returnOut hx Bd.returns (hE 10 rfl) hr) (by decide) (by decide) ?_
  exact ⟨rfl, N107, K110, y108⟩
theorem rm_psaW (hw : HW a0 Z) (b1 v1 : Addr) (kv : ClassId) (ls : List Int32) (cs : Int32) (fm : Value) (a2 u2 : Addr) (ku : ClassId) (xs : List Int32) (h0 : Heap) (n0 : Nat) (O0 : Old Z n0 h0) (E0_ : Exa Z h0 b1 "java/lang/StringBuilder") (F1_ : Fld Z h0 b1 "java/lang/AbstractStringBuilder" "value" "[B" (.ref v1)) (F2_ : Fld Z h0 b1 "java/lang/AbstractStringBuilder" "coder" "B" (.int 1)) (F3_ : Fld Z h0 b1 "java/lang/AbstractStringBuilder" "count" "I" (.int (Int32.ofNat ls.length))) (F4_ : Fld Z h0 b1 "java/lang/AbstractStringBuilder" "maybeLatin1" "Z" (.int 0)) (A5_ : Arv Z h0 v1 kv .byte (512 : Int32) (own_PW ls) (.int 0)) (E6_ : Exa Z h0 a2 "java/lang/String") (F7_ : Fld Z h0 a2 "java/lang/String" "coder" "B" (.int 0)) (F8_ : Fld Z h0 a2 "java/lang/String" "value" "[B" (.ref u2)) (A9_ : Arv Z h0 u2 ku .byte (Int32.ofNat xs.length) (own_lb xs) (.int 0)) (hbx : xs.length ≤ 40) (cx : own_chars xs) (lx : own_lat xs) (hcap : ls.length ≤ 200) (G14_ : n0 ≤ b1) (G15_ : n0 ≤ v1) (NE16_ : ¬ (v1 = b1)) (NE17_ : ¬ (u2 = v1)) (NE18_ : ¬ (a2 = v1)) (NE19_ : ¬ (a2 = b1)) (NE20_ : ¬ (u2 = b1)) (hW : own_W Z cs fm) :
    own_M l mN48 (Jvm.Cond.code mN48 jdk_68_method_73_code 3 none) [] (⟨6, 0, 0, 91⟩ : Room) #[(.ref b1), (.int (Int32.ofNat ls.length)), (.ref a2)] Z h0 (fun v h L => v = none ∧ Fr n0 L ∧ Keep h0 h [v1] ∧ (Arv Z h v1 kv .byte (512 : Int32) (own_PW (ls ++ xs)) (.int 0))) := by
  refine own_open n0 (plainFor_of_name pn_4) (fun m => ef_RIR3 m b1 (Int32.ofNat ls.length) a2 ) ?_
  intro p e s m below meth c s₁ A0 Bd hx hby hml hown hnm hZ hh X0 e0 N0 g0
  obtain ⟨SC_, hcs, SF_, hfm, SU1_, SU2_, SU3_⟩ := id hW
  have hE := own_hd hby E47
  have g101 := jA X0 hx (jA X0 hx g0 (hE 0 rfl) rfl rfl) (hE 1 rfl) rfl rfl
  obtain ⟨_, L102, T102, ⟨rfl, M102, e102⟩, X102, st102⟩ := own_callP X0 hx hZ hown (hw _ (mi 248 rfl)) (wd36 hw) E0_ (rm_iinfW hw b1 a2 cs h0 n0 O0 SC_ hcs F2_ E0_ F7_ E6_) g101 e0 [] rfl (lenOf pd_28 rfl) (hE 2 rfl) hml.symm 0 rfl (by decide)
  have N102 := Fr.app N0 M102
  have g103 := jA X102 hx (jA X102 hx st102 (hE 3 rfl) rfl rfl) (hE 4 rfl) rfl rfl
  obtain ⟨T104, X104, e104, g104⟩ := own_getF X102 hx hZ hown (hw _ (mi 66 rfl)) Via.refl e102 F1_ g103 (hE 5 rfl)
  have g105 := jA X104 hx (jI X104 hx g104 (hE 6 rfl) rfl) (hE 7 rfl) rfl rfl
  obtain ⟨T106, X106, e106, g106⟩ := own_getF X104 hx hZ hown (hw _ (mi 68 rfl)) Via.refl e104 F2_ g105 (hE 8 rfl)
  obtain ⟨_, L107, T107, ⟨rfl, M107, K107, y108⟩, X107, st107⟩ := own_callV X106 hx hZ hown (hw _ (mi 254 rfl)) (wd37 hw) (notFace_of_selects (args := #[]) (mvT hZ (hw _ (mi 257 rfl)))) E6_ (rm_gbyW hw v1 kv ls cs fm a2 u2 ku xs h0 n0 O0 E6_ F7_ F8_ A9_ hbx cx lx hcap A5_ G15_ NE17_ NE18_ hW) g106 e106 [] rfl (lenOf pd_29 rfl) (hE 9 rfl) hml.symm 0 rfl (by decide)
  have N107 := Fr.app N102 M107
  have O109 := O0.keep K107 (allS G15_ all0)
  have K110 : Keep h0 T107.heap [v1] := ((Keep.refl h0 [v1]).trans K107 (allS (P := fun x => x ∈ [v1] ∨ h0.size ≤ x) (Or.inl (mi 0 rfl)) all0))
  refine own_leave X107 Bd (none) (fun _ => rfl) st107 (fun fs hr => X107.returnOut hx Bd.returns (hE 10 rfl) hr) (by decide) (by decide) ?_
  exact ⟨rfl, N107, K110, y108⟩
theorem wd38 (hw : HW a0 Z) : own_wdV a0 Z "java/lang/String" mN14 mN14 jdk_42_method_54_code 1 (some .int) := ⟨hw _ (mi 147 rfl), hw _ (mi 149 rfl), hw _ (mi 148 rfl), hw _ (mi 3 rfl), hw _ (mi 150 rfl), by decide⟩
theorem pd_30 : parseMethodDescriptor "(ILjava/lang/String;)V" = some ⟨[.int, (.object "java/lang/String")], none⟩ := by decide +kernel
theorem wd39 (hw : HW a0 Z) : own_wdP a0 Z mN48 jdk_68_method_73_code 3 none := ⟨hw _ (mi 244 rfl), (own_selP (hw _ (mi 246 rfl)) (hw _ (mi 245 rfl)) (hw _ (mi 244 rfl)) (by decide)), hw _ (mi 245 rfl), hw _ (mi 62 rfl), hw _ (mi 247 rfl), by decide⟩
theorem ef_RR3 (m : MethodId) (x0 : Addr) (x1 : Addr)  : entryFrame m #[(.ref x0), (.ref x1)] 3 = mkF m 0 #[.val (.ref x0), .val (.ref x1), .unset] [] := by first | (simp [entryFrame, mkF, argsToLocals, Value.category]; done) | rfl
theorem rm_asx (hw : HW a0 Z) (b1 v1 : Addr) (kv : ClassId) (ls : List Int32) (cd z1 : Int32) (vs : List Value) (cs : Int32) (fm : Value) (a2 u2 : Addr) (ku : ClassId) (xs : List Int32) (h0 : Heap) (n0 : Nat) (O0 : Old Z n0 h0) (E0_ : Exa Z h0 b1 "java/lang/StringBuilder") (F1_ : Fld Z h0 b1 "java/lang/AbstractStringBuilder" "value" "[B" (.ref v1)) (F2_ : Fld Z h0 b1 "java/lang/AbstractStringBuilder" "coder" "B" (.int cd)) (F3_ : Fld Z h0 b1 "java/lang/AbstractStringBuilder" "count" "I" (.int (Int32.ofNat ls.length))) (F4_ : Fld Z h0 b1 "java/lang/AbstractStringBuilder" "maybeLatin1" "Z" (.int 0)) (A5_ : Arv Z h0 v1 kv .byte z1 vs (.int 0)) (hsb : own_sb ls cd z1 vs) (E7_ : Exa Z h0 a2 "java/lang/String") (F8_ : Fld Z h0 a2 "java/lang/String" "coder" "B" (.int 0)) (F9_ : Fld Z h0 a2 "java/lang/String" "value" "[B" (.ref u2)) (A10_ : Arv Z h0 u2 ku .byte (Int32.ofNat xs.length) (own_lb xs) (.int 0)) (hbx : xs.length ≤ 40) (cx : own_chars xs) (lx : own_lat xs) (hcap : ls.length ≤ 200) (G15_ : n0 ≤ b1) (G16_ : n0 ≤ v1) (NE17_ : ¬ (v1 = b1)) (NE18_ : ¬ (u2 = v1)) (NE19_ : ¬ (a2 = v1)) (NE20_ : ¬ (a2 = b1)) (NE21_ : ¬ (u2 = b1)) (hW : own_W Z cs fm) :
    own_M l mN49 (Jvm.Cond.code mN49 jdk_68_method_22_code 3 (some (.object "java/lang/AbstractStringBuilder"))) [] (⟨7, 0, 0, 105⟩ : Room) #[(.ref b1), (.ref a2)] Z h0 (fun v h L => ∃ (cd2 : Int32), ∃ (z2 : Int32), ∃ (vs2 : List Value), v = some (.ref b1) ∧ Fr n0 L ∧ Keep h0 h [b1, v1] ∧ (Exa Z h b1 "java/lang/StringBuilder") ∧ (Fld Z h b1 "java/lang/AbstractStringBuilder" "value" "[B" (.ref v1)) ∧ (Fld Z h b1 "java/lang/AbstractStringBuilder" "coder" "B" (.int cd2)) ∧ (Fld Z h b1 "java/lang/AbstractStringBuilder" "count" "I" (.int (Int32.ofNat (ls ++ xs).length))) ∧ (Fld Z h b1 "java/lang/AbstractStringBuilder" "maybeLatin1" "Z" (.int 0)) ∧ (Arv Z h v1 kv .byte z2 vs2 (.int 0)) ∧ (own_sb (ls ++ xs) cd2 z2 vs2)) := by
  refine own_open n0 (plainFor_of_name pn_4) (fun m => ef_RR3 m b1 a2 ) ?_
  intro p e s m below meth c s₁ A0 Bd hx hby hml hown hnm hZ hh X0 e0 N0 g0
  obtain ⟨SC_, hcs, SF_, hfm, SU1_, SU2_, SU3_⟩ := id hW
  have hE := own_hd hby E46
  have hq101 := hsb
  rcases hq101 with ⟨e1, e2, e3, ll, cl⟩ | ⟨e1, e2, e3⟩
  ·
    have y102 := F2_
    rw [e1] at y102
    have y103 := A5_
    rw [e2, e3] at y103
    have g104 := jA X0 hx (show Go p e below s₁ (mkF m 9 #[rv b1, rv a2, .unset] []) A0 from fun t kt => (jA X0 hx g0 (hE 0 rfl) rfl rfl) t (by refine XS.ifnonnullYes X0.here hx rfl (pc0 := 1) (pc' := 9) rfl (hE 1 rfl) rfl (by decide) (by decide) ?_; exact kt)) (hE 2 rfl) rfl rfl
    obtain ⟨_, L105, T105, ⟨rfl, M105, e105⟩, X105, st105⟩ := own_callV X0 hx hZ hown (hw _ (mi 242 rfl)) (wd38 hw) (notFace_of_selects (args := #[]) (mvT hZ (hw _ (mi 149 rfl)))) E7_ (rm_lenG hw a2 u2 ku (0 : Int32) (Int32.ofNat xs.length) (own_lb xs) xs cs h0 n0 O0 SC_ hcs F9_ F8_ E7_ A10_ (Or.inl ⟨rfl, rfl, rfl, lx⟩) (hbx)) g104 e0 [] rfl (lenOf pd_23 rfl) (hE 3 rfl) hml.symm 0 rfl (by decide)
    have N105 := Fr.app N0 M105
    have g106 := jA X105 hx (jA X105 hx (jS X105 hx st105 (hE 4 rfl) rfl (l' := #[rv b1, rv a2, iv (Int32.ofNat xs.length)]) rfl) (hE 5 rfl) rfl rfl) (hE 6 rfl) rfl rfl
    obtain ⟨T107, X107, e107, g107⟩ := own_getF X105 hx hZ hown (hw _ (mi 80 rfl)) Via.refl e105 F3_ g106 (hE 7 rfl)
    have g108 := jP X107 hx (jI X107 hx g107 (hE 8 rfl) rfl) (hE 9 rfl) rfl
    have g109 := own_rwS g108 (own_cntx ls xs : ((Int32.ofNat ls.length) + (Int32.ofNat xs.length)) = (Int32.ofNat (ls ++ xs).length))
    obtain ⟨_, L110, T110, ⟨rfl, M110, e110⟩, X110, st110⟩ := own_callP X107 hx hZ hown (hw _ (mi 82 rfl)) (wd24 hw) E0_ (rm_ensN hw b1 (ls ++ xs).length v1 kv (0 : Int32) (256 : Int32) (own_PL ls) h0 n0 O0 F1_ y102 y103 (Or.inl ⟨rfl, rfl⟩) (by rw [List.length_append]; omega)) g109 e107 [] rfl (lenOf pd_14 rfl) (hE 10 rfl) hml.symm 0 rfl (by decide)
    have N110 := Fr.app N105 M110
    have g111 := jA X110 hx (jA X110 hx st110 (hE 11 rfl) rfl rfl) (hE 12 rfl) rfl rfl
    obtain ⟨T112, X112, e112, g112⟩ := own_getF X110 hx hZ hown (hw _ (mi 80 rfl)) Via.refl e110 F3_ g111 (hE 13 rfl)
    have g113 := jA X112 hx g112 (hE 14 rfl) rfl rfl
    obtain ⟨_, L114, T114, ⟨rfl, M114, K114, y115⟩, X114, st114⟩ := own_callP X112 hx hZ hown (hw _ (mi 243 rfl)) (wd39 hw) E0_ (rm_psaL hw b1 v1 kv ls cs fm a2 u2 ku xs h0 n0 O0 E0_ F1_ y102 F3_ F4_ y103 E7_ F8_ F9_ A10_ hbx cx lx hcap G15_ G16_ NE17_ NE18_ NE19_ NE20_ NE21_ hW) g113 e112 [] rfl (lenOf pd_30 rfl) (hE 15 rfl) hml.symm 0 rfl (by decide)
    have N114 := Fr.app N110 M114
    have O116 := O0.keep K114 (allS G16_ all0)
    have g117 := jd X114 hx (jA X114 hx st114 (hE 16 rfl) rfl rfl) (hE 17 rfl) rfl rfl
    have y118 := (F3_.keep K114 (ninS (Ne.symm NE17_) nin0))
    obtain ⟨T119, X119, e119, g119⟩ := own_getF X114 hx hZ hown (hw _ (mi 80 rfl)) Via.refl rfl y118 g117 (hE 18 rfl)
    have g120 := jP X119 hx (jI X119 hx g119 (hE 19 rfl) rfl) (hE 20 rfl) rfl
    have g121 := own_rwS g120 (own_cntx ls xs : ((Int32.ofNat ls.length) + (Int32.ofNat xs.length)) = (Int32.ofNat (ls ++ xs).length))
    have y122 := (E0_.keep K114)
    let lo124 : Array Slot := #[rv b1, rv a2, iv (Int32.ofNat xs.length)]
    obtain ⟨T123, h123, X123, e123, W123, st123⟩ := putF X119 hx hZ hown (host := "") (Or.inl (hw _ (mi 80 rfl))) Via.refl e119 y118 y122 (Or.inl (hw _ (mi 81 rfl))) (hw _ (mi 53 rfl)) (ty := .int) (by decide) rfl rfl (g := (mkF m 40 lo124 [(.int (Int32.ofNat (ls ++ xs).length)), (.ref b1)])) rfl rfl (hE 21 rfl)
    have O125 := O116.wr W123 G15_
    have y126 : Fld Z h123 b1 "java/lang/AbstractStringBuilder" "count" "I" (.int (Int32.ofNat (ls ++ xs).length)) := y118.same W123
    have N123 := Fr.snoc X123 N114 G15_
    have g127 : Go p e below T123 (mkF m 43 lo124 []) A0 := fun t kont => g121 t (st123 t kont)
    have g128 := jA X123 hx g127 (hE 22 rfl) rfl rfl
    have K129 : Keep h0 h123 [b1, v1] := (((Keep.refl h0 [b1, v1]).trans K114 (allS (P := fun x => x ∈ [b1, v1] ∨ h0.size ≤ x) (Or.inl (mi 1 rfl)) all0)).wr W123 (Or.inl (mi 0 rfl)))
    have y130 := (y122.wr W123)
    have y131 := ((F1_.keep K114 (ninS (Ne.symm NE17_) nin0)).other W123 (Or.inr (slot_ne (Or.inl (hw _ (mi 67 rfl))) (Or.inl (hw _ (mi 81 rfl))) (by decide) (t := (.array .byte)) (t' := .int) (by decide) (by decide))))
    have y132 := ((y102.keep K114 (ninS (Ne.symm NE17_) nin0)).other W123 (Or.inr (slot_ne (Or.inl (hw _ (mi 69 rfl))) (Or.inl (hw _ (mi 81 rfl))) (by decide) (t := .byte) (t' := .int) (by decide) (by decide))))
    have y133 := ((F4_.keep K114 (ninS (Ne.symm NE17_) nin0)).other W123 (Or.inr (slot_ne (Or.inl (hw _ (mi 365 rfl))) (Or.inl (hw _ (mi 81 rfl))) (by decide) (t := .boolean) (t' := .int) (by decide) (by decide))))
    have y134 := (y115.other W123 NE17_)
    refine own_leave X123 Bd (some (.ref b1)) nofun g128 (fun fs hr => retOut X123 hx Bd.returns rfl (Or.inr (Or.inr (Or.inr (Or.inr ⟨rfl, rfl, rfl⟩)))) (hE 23 rfl) hr) (by decide) (by decide) ?_
    rw [e123]
    exact ⟨(0 : Int32), (256 : Int32), (own_PL (ls ++ xs)), rfl, N123, K129, y130, y131, y132, y126, y133, y134, Or.inl ⟨rfl, rfl, rfl, own_lat_app ll lx, own_chars_app cl cx⟩⟩
  have y135 := F2_
  rw [e1] at y135
  have y136 := A5_
  rw [e2, e3] at y136
  have g137 := jA X0 hx (show Go p e below s₁ (mkF m 9 #[rv b1, rv a2, .unset] []) A0 from fun t kt => (jA X0 hx g0 (hE 0 rfl) rfl rfl) t (by refine XS.ifnonnullYes X0.here hx rfl (pc0 := 1) (pc' := 9) rfl (hE 1 rfl) rfl (by decide) (by decide) ?_; exact kt)) (hE 2 rfl) rfl rfl
  obtain ⟨_, L138, T138, ⟨rfl, M138, e138⟩, X138, st138⟩ := own_callV X0 hx hZ hown (hw _ (mi 242 rfl)) (wd38 hw) (notFace_of_selects (args := #[]) (mvT hZ (hw _ (mi 149 rfl)))) E7_ (rm_lenG hw a2 u2 ku (0 : Int32) (Int32.ofNat xs.length) (own_lb xs) xs cs h0 n0 O0 SC_ hcs F9_ F8_ E7_ A10_ (Or.inl ⟨rfl, rfl, rfl, lx⟩) (hbx)) g137 e0 [] rfl (lenOf pd_23 rfl) (hE 3 rfl) hml.symm 0 rfl (by decide)
  have N138 := Fr.app N0 M138
  have g139 := jA X138 hx (jA X138 hx (jS X138 hx st138 (hE 4 rfl) rfl (l' := #[rv b1, rv a2, iv (Int32.ofNat xs.length)]) rfl) (hE 5 rfl) rfl rfl) (hE 6 rfl) rfl rfl
  obtain ⟨T140, X140, e140, g140⟩ := own_getF X138 hx hZ hown (hw _ (mi 80 rfl)) Via.refl e138 F3_ g139 (hE 7 rfl)
  have g141 := jP X140 hx (jI X140 hx g140 (hE 8 rfl) rfl) (hE 9 rfl) rfl
  have g142 := own_rwS g141 (own_cntx ls xs : ((Int32.ofNat ls.length) + (Int32.ofNat xs.length)) = (Int32.ofNat (ls ++ xs).length))
  obtain ⟨_, L143, T143, ⟨rfl, M143, e143⟩, X143, st143⟩ := own_callP X140 hx hZ hown (hw _ (mi 82 rfl)) (wd24 hw) E0_ (rm_ensN hw b1 (ls ++ xs).length v1 kv (1 : Int32) (512 : Int32) (own_PW ls) h0 n0 O0 F1_ y135 y136 (Or.inr ⟨rfl, rfl⟩) (by rw [List.length_append]; omega)) g142 e140 [] rfl (lenOf pd_14 rfl) (hE 10 rfl) hml.symm 0 rfl (by decide)
  have N143 := Fr.app N138 M143
  have g144 := jA X143 hx (jA X143 hx st143 (hE 11 rfl) rfl rfl) (hE 12 rfl) rfl rfl
  obtain ⟨T145, X145, e145, g145⟩ := own_getF X143 hx hZ hown (hw _ (mi 80 rfl)) Via.refl e143 F3_ g144 (hE 13 rfl)
  have g146 := jA X145 hx g145 (hE 14 rfl) rfl rfl
  obtain ⟨_, L147, T147, ⟨rfl, M147, K147, y148⟩, X147, st147⟩ := own_callP X145 hx hZ hown (hw _ (mi 243 rfl)) (wd39 hw) E0_ (rm_psaW hw b1 v1 kv ls cs fm a2 u2 ku xs h0 n0 O0 E0_ F1_ y135 F3_ F4_ y136 E7_ F8_ F9_ A10_ hbx cx lx hcap G15_ G16_ NE17_ NE18_ NE19_ NE20_ NE21_ hW) g146 e145 [] rfl (lenOf pd_30 rfl) (hE 15 rfl) hml.symm 0 rfl (by decide)
  have N147 := Fr.app N143 M147
  have O149 := O0.keep K147 (allS G16_ all0)
  have g150 := jd X147 hx (jA X147 hx st147 (hE 16 rfl) rfl rfl) (hE 17 rfl) rfl rfl
  have y151 := (F3_.keep K147 (ninS (Ne.symm NE17_) nin0))
  obtain ⟨T152, X152, e152, g152⟩ := own_getF X147 hx hZ hown (hw _ (mi 80 rfl)) Via.refl rfl y151 g150 (hE 18 rfl)
  have g153 := jP X152 hx (jI X152 hx g152 (hE 19 rfl) rfl) (hE 20 rfl) rfl
  have g154 := own_rwS g153 (own_cntx ls xs : ((Int32.ofNat ls.length) + (Int32.ofNat xs.length)) = (Int32.ofNat (ls ++ xs).length))
  have y155 := (E0_.keep K147)
  let lo157 : Array Slot := #[rv b1, rv a2, iv (Int32.ofNat xs.length)]
  obtain ⟨T156, h156, X156, e156, W156, st156⟩ := putF X152 hx hZ hown (host := "") (Or.inl (hw _ (mi 80 rfl))) Via.refl e152 y151 y155 (Or.inl (hw _ (mi 81 rfl))) (hw _ (mi 53 rfl)) (ty := .int) (by decide) rfl rfl (g := (mkF m 40 lo157 [(.int (Int32.ofNat (ls ++ xs).length)), (.ref b1)])) rfl rfl (hE 21 rfl)
  have O158 := O149.wr W156 G15_
  have y159 : Fld Z h156 b1 "java/lang/AbstractStringBuilder" "count" "I" (.int (Int32.ofNat (ls ++ xs).length)) := y151.same W156
  have N156 := Fr.snoc X156 N147 G15_
  have g160 : Go p e below T156 (mkF m 43 lo157 []) A0 := fun t kont => g154 t (st156 t kont)
  have g161 := jA X156 hx g160 (hE 22 rfl) rfl rfl
  have K162 : Keep h0 h156 [b1, v1] := (((Keep.refl h0 [b1, v1]).trans K147 (allS (P := fun x => x ∈ [b1, v1] ∨ h0.size ≤ x) (Or.inl (mi 1 rfl)) all0)).wr W156 (Or.inl (mi 0 rfl)))
  have y163 := (y155.wr W156)
  have y164 := ((F1_.keep K147 (ninS (Ne.symm NE17_) nin0)).other W156 (Or.inr (slot_ne (Or.inl (hw _ (mi 67 rfl))) (Or.inl (hw _ (mi 81 rfl))) (by decide) (t := (.array .byte)) (t' := .int) (by decide) (by decide))))
  have y165 := ((y135.keep K147 (ninS (Ne.symm NE17_) nin0)).other W156 (Or.inr (slot_ne (Or.inl (hw _ (mi 69 rfl))) (Or.inl (hw _ (mi 81 rfl))) (by decide) (t := .byte) (t' := .int) (by decide) (by decide))))
  have y166 := ((F4_.keep K147 (ninS (Ne.symm NE17_) nin0)).other W156 (Or.inr (slot_ne (Or.inl (hw _ (mi 365 rfl))) (Or.inl (hw _ (mi 81 rfl))) (by decide) (t := .boolean) (t' := .int) (by decide) (by decide))))
  have y167 := (y148.other W156 NE17_)
  refine own_leave X156 Bd (some (.ref b1)) nofun g161 (fun fs hr => retOut X156 hx Bd.returns rfl (Or.inr (Or.inr (Or.inr (Or.inr ⟨rfl, rfl, rfl⟩)))) (hE 23 rfl) hr) (by decide) (by decide) ?_
  rw [e156]
  exact ⟨(1 : Int32), (512 : Int32), (own_PW (ls ++ xs)), rfl, N156, K162, y163, y164, y165, y159, y166, y167, Or.inr ⟨rfl, rfl, rfl⟩⟩
theorem pd_31 : parseMethodDescriptor "(Ljava/lang/String;)Ljava/lang/AbstractStringBuilder;" = some ⟨[(.object "java/lang/String")], some (.object "java/lang/AbstractStringBuilder")⟩ := by decide +kernel
theorem rm_ssx (hw : HW a0 Z) (b1 v1 : Addr) (kv : ClassId) (ls : List Int32) (cd z1 : Int32) (vs : List Value) (cs : Int32) (fm : Value) (a2 u2 : Addr) (ku : ClassId) (xs : List Int32) (h0 : Heap) (n0 : Nat) (O0 : Old Z n0 h0) (E0_ : Exa Z h0 b1 "java/lang/StringBuilder") (F1_ : Fld Z h0 b1 "java/lang/AbstractStringBuilder" "value" "[B" (.ref v1)) (F2_ : Fld Z h0 b1 "java/lang/AbstractStringBuilder" "coder" "B" (.int cd)) (F3_ : Fld Z h0 b1 "java/lang/AbstractStringBuilder" "count" "I" (.int (Int32.ofNat ls.length))) (F4_ : Fld Z h0 b1 "java/lang/AbstractStringBuilder" "maybeLatin1" "Z" (.int 0)) (A5_ : Arv Z h0 v1 kv .byte z1 vs (.int 0)) (hsb : own_sb ls cd z1 vs) (E7_ : Exa Z h0 a2 "java/lang/String") (F8_ : Fld Z h0 a2 "java/lang/String" "coder" "B" (.int 0)) (F9_ : Fld Z h0 a2 "java/lang/String" "value" "[B" (.ref u2)) (A10_ : Arv Z h0 u2 ku .byte (Int32.ofNat xs.length) (own_lb xs) (.int 0)) (hbx : xs.length ≤ 40) (cx : own_chars xs) (lx : own_lat xs) (hcap : ls.length ≤ 200) (G15_ : n0 ≤ b1) (G16_ : n0 ≤ v1) (NE17_ : ¬ (v1 = b1)) (NE18_ : ¬ (u2 = v1)) (NE19_ : ¬ (a2 = v1)) (NE20_ : ¬ (a2 = b1)) (NE21_ : ¬ (u2 = b1)) (hW : own_W Z cs fm) :
    own_M l mN50 (Jvm.Cond.code mN50 jdk_67_method_7_code 2 (some (.object "java/lang/StringBuilder"))) [] (⟨8, 0, 0, 119⟩ : Room) #[(.ref b1), (.ref a2)] Z h0 (fun v h L => ∃ (cd2 : Int32), ∃ (z2 : Int32), ∃ (vs2 : List Value), v = some (.ref b1) ∧ Fr n0 L ∧ Keep h0 h [b1, v1] ∧ (Exa Z h b1 "java/lang/StringBuilder") ∧ (Fld Z h b1 "java/lang/AbstractStringBuilder" "value" "[B" (.ref v1)) ∧ (Fld Z h b1 "java/lang/AbstractStringBuilder" "coder" "B" (.int cd2)) ∧ (Fld Z h b1 "java/lang/AbstractStringBuilder" "count" "I" (.int (Int32.ofNat (ls ++ xs).length))) ∧ (Fld Z h b1 "java/lang/AbstractStringBuilder" "maybeLatin1" "Z" (.int 0)) ∧ (Arv Z h v1 kv .byte z2 vs2 (.int 0)) ∧ (own_sb (ls ++ xs) cd2 z2 vs2)) := by
  refine own_open n0 (plainFor_of_name pn_5) (fun m => ef_RR2 m b1 a2 ) ?_
  intro p e s m below meth c s₁ A0 Bd hx hby hml hown hnm hZ hh X0 e0 N0 g0
  obtain ⟨SC_, hcs, SF_, hfm, SU1_, SU2_, SU3_⟩ := id hW
  have hE := own_hd hby E45
  have g101 := jA X0 hx (jA X0 hx g0 (hE 0 rfl) rfl rfl) (hE 1 rfl) rfl rfl
  obtain ⟨_, L102, T102, ⟨r103, r104, r105, rfl, M102, K102, y106, y107, y108, y109, y110, y111, y112⟩, X102, st102⟩ := own_callU X0 hx hZ hown (hw _ (mi 238 rfl)) (own_same (y := mN49) (hw _ (mi 85 rfl)) rfl (hw _ (mi 239 rfl)) (by decide)) (hw _ (mi 239 rfl)) (hw _ (mi 77 rfl)) (hw _ (mi 62 rfl)) (hw _ (mi 241 rfl)) (by decide) E0_ (rm_asx hw b1 v1 kv ls cd z1 vs cs fm a2 u2 ku xs h0 n0 O0 E0_ F1_ F2_ F3_ F4_ A5_ hsb E7_ F8_ F9_ A10_ hbx cx lx hcap G15_ G16_ NE17_ NE18_ NE19_ NE20_ NE21_ hW) g101 e0 [] rfl (lenOf pd_31 rfl) (hE 2 rfl) hml.symm 0 rfl (by decide)
  have N102 := Fr.app N0 M102
  have O113 := O0.keep K102 (allS G15_ (allS G16_ all0))
  have g114 := jA X102 hx (jo X102 hx st102 (hE 3 rfl) rfl rfl) (hE 4 rfl) rfl rfl
  have K115 : Keep h0 T102.heap [b1, v1] := ((Keep.refl h0 [b1, v1]).trans K102 (allS (P := fun x => x ∈ [b1, v1] ∨ h0.size ≤ x) (Or.inl (mi 0 rfl)) (allS (P := fun x => x ∈ [b1, v1] ∨ h0.size ≤ x) (Or.inl (mi 1 rfl)) all0)))
  refine own_leave X102 Bd (some (.ref b1)) nofun g114 (fun fs hr => retOut X102 hx Bd.returns rfl (Or.inr (Or.inr (Or.inr (Or.inr ⟨rfl, rfl, rfl⟩)))) (hE 5 rfl) hr) (by decide) (by decide) ?_
  exact ⟨r103, r104, r105, rfl, N102, K115, y106, y107, y108, y109, y110, y111, y112⟩
theorem rm_cfti (hw : HW a0 Z) (a1 b1 d1 : Nat) (fm : Value) (h0 : Heap) (n0 : Nat) (O0 : Old Z n0 h0) (hfm : fm.isRef = true) (hab : a1 ≤ b1) (hbd : b1 ≤ d1) (hd1 : d1 < 2147483648) :
    own_M l mN51 (Jvm.Cond.code mN51 jdk_41_method_12_code 4 (some .int)) [] (⟨0, 0, 0, 0⟩ : Room) #[(.int (Int32.ofNat a1)), (.int (Int32.ofNat b1)), (.int (Int32.ofNat d1)), fm] Z h0 (fun v h L => v = some (.int (Int32.ofNat a1)) ∧ Fr n0 L ∧ h = h0) := by
  refine own_open n0 (plainFor_of_name pn_3) (fun m => ef_IIIV4 m (Int32.ofNat a1) (Int32.ofNat b1) (Int32.ofNat d1) fm (hfm)) ?_
  intro p e s m below meth c s₁ A0 Bd hx hby hml hown hnm hZ hh X0 e0 N0 g0
  have hE := own_hd hby E42
  have g101 := jI X0 hx (jy X0 hx (jI X0 hx (jI X0 hx (jn X0 hx (jI X0 hx (jI X0 hx (jN X0 hx (jI X0 hx g0 (hE 0 rfl) rfl) (hE 1 rfl) rfl ((if0 _ _).trans (flt (own_nonneg (by omega) : ¬ ((Int32.ofNat a1) < (0 : Int32)))).1)) (hE 2 rfl) rfl) (hE 3 rfl) rfl) (hE 4 rfl) rfl (flt (own_nlt hab (by omega) : ¬ ((Int32.ofNat b1) < (Int32.ofNat a1)))).2.2.1) (hE 5 rfl) rfl) (hE 6 rfl) rfl) (hE 7 rfl) rfl (flt (own_nlt hbd (by omega) : ¬ ((Int32.ofNat d1) < (Int32.ofNat b1)))).2.2.2 (pc' := 22) (by decide)) (hE 8 rfl) rfl
  refine own_leave X0 Bd (some (.int (Int32.ofNat a1))) nofun g101 (fun fs hr => retI X0 hx Bd.returns (hE 9 rfl) hr) (by decide) (by decide) ?_
  rw [e0]
  exact ⟨rfl, N0, rfl⟩
theorem rm_sval (hw : HW a0 Z) (a2 u2 : Addr) (h0 : Heap) (n0 : Nat) (O0 : Old Z n0 h0) (F0_ : Fld Z h0 a2 "java/lang/String" "value" "[B" (.ref u2)) :
    own_M l mN52 (Jvm.Cond.code mN52 jdk_42_method_153_code 1 (some (.array .byte))) [] (⟨0, 0, 0, 0⟩ : Room) #[(.ref a2)] Z h0 (fun v h L => v = some (.ref u2) ∧ Fr n0 L ∧ h = h0) := by
  refine own_open n0 (plainFor_of_name pn_1) (fun m => ef_R1 m a2 ) ?_
  intro p e s m below meth c s₁ A0 Bd hx hby hml hown hnm hZ hh X0 e0 N0 g0
  have hE := own_hd hby E44
  have g101 := jA X0 hx g0 (hE 0 rfl) rfl rfl
  obtain ⟨T102, X102, e102, g102⟩ := own_getF X0 hx hZ hown (hw _ (mi 23 rfl)) Via.refl e0 F0_ g101 (hE 1 rfl)
  refine own_leave X102 Bd (some (.ref u2)) nofun g102 (fun fs hr => retOut X102 hx Bd.returns rfl (Or.inr (Or.inr (Or.inr (Or.inr ⟨rfl, rfl, rfl⟩)))) (hE 2 rfl) hr) (by decide) (by decide) ?_
  rw [e102]
  exact ⟨rfl, N0, rfl⟩
theorem wd40 (hw : HW a0 Z) : own_wdS a0 Z mN51 jdk_41_method_12_code 4 (some .int) := ⟨hw _ (mi 215 rfl), hw _ (mi 177 rfl), hw _ (mi 216 rfl), by decide⟩
theorem rm_scbe (hw : HW a0 Z) (a1 b1 d1 : Nat) (fm : Value) (cs : Int32) (h0 : Heap) (n0 : Nat) (O0 : Old Z n0 h0) (hab : a1 ≤ b1) (hbd : b1 ≤ d1) (hd1 : d1 < 2147483648) (hW : own_W Z cs fm) :
    own_M l mN53 (Jvm.Cond.code mN53 jdk_42_method_158_code 3 none) [] (⟨1, 0, 0, 15⟩ : Room) #[(.int (Int32.ofNat a1)), (.int (Int32.ofNat b1)), (.int (Int32.ofNat d1))] Z h0 (fun v h L => v = none ∧ Fr n0 L ∧ h = h0) := by
  refine own_open n0 (plainFor_of_name pn_1) (fun m => ef_III3 m (Int32.ofNat a1) (Int32.ofNat b1) (Int32.ofNat d1) ) ?_
  intro p e s m below meth c s₁ A0 Bd hx hby hml hown hnm hZ hh X0 e0 N0 g0
  obtain ⟨SC_, hcs, SF_, hfm, SU1_, SU2_, SU3_⟩ := id hW
  have hE := own_hd hby E76
  have g101 := jI X0 hx (jI X0 hx (jI X0 hx g0 (hE 0 rfl) rfl) (hE 1 rfl) rfl) (hE 2 rfl) rfl
  have y102 := SF_.ext O0.2
  obtain ⟨T103, X103, e103, g103⟩ := own_getS X0 hx hZ hown (hw _ (mi 176 rfl)) Via.refl e0 y102 g101 (hE 3 rfl)
  obtain ⟨_, L104, T104, ⟨rfl, M104, e104⟩, X104, st104⟩ := own_callS X103 hx hZ hown (hw _ (mi 359 rfl)) (wd40 hw) (rm_cfti hw a1 b1 d1 fm h0 n0 O0 hfm hab hbd hd1) g103 e103 [] rfl (lenOf pd_15 rfl) (hE 4 rfl) hml.symm 0 rfl (by decide)
  have N104 := Fr.app N0 M104
  have g105 := jo X104 hx st104 (hE 5 rfl) rfl rfl
  refine own_leave X104 Bd (none) (fun _ => rfl) g105 (fun fs hr => X104.returnOut hx Bd.returns (hE 6 rfl) hr) (by decide) (by decide) ?_
  rw [e104]
  exact ⟨rfl, N104, rfl⟩
theorem pd_32 : parseMethodDescriptor "(III)V" = some ⟨[.int, .int, .int], none⟩ := by decide +kernel
theorem wd41 (hw : HW a0 Z) : own_wdS a0 Z mN53 jdk_42_method_158_code 3 none := ⟨hw _ (mi 357 rfl), hw _ (mi 3 rfl), hw _ (mi 358 rfl), by decide⟩
theorem rm_ucbe (hw : HW a0 Z) (a1 b1 : Nat) (v1 : Addr) (kv : ClassId) (vs : List Value) (fm : Value) (cs : Int32) (h0 : Heap) (n0 : Nat) (O0 : Old Z n0 h0) (A0_ : Arv Z h0 v1 kv .byte (512 : Int32) vs (.int 0)) (hab : a1 ≤ b1) (hbd : b1 ≤ 256) (hW : own_W Z cs fm) :
    own_M l mN54 (Jvm.Cond.code mN54 jdk_52_method_93_code 3 none) [] (⟨2, 0, 0, 29⟩ : Room) #[(.int (Int32.ofNat a1)), (.int (Int32.ofNat b1)), (.ref v1)] Z h0 (fun v h L => v = none ∧ Fr n0 L ∧ h = h0) := by
  refine own_open n0 (plainFor_of_name pn_2) (fun m => ef_IIR3 m (Int32.ofNat a1) (Int32.ofNat b1) v1 ) ?_
  intro p e s m below meth c s₁ A0 Bd hx hby hml hown hnm hZ hh X0 e0 N0 g0
  obtain ⟨SC_, hcs, SF_, hfm, SU1_, SU2_, SU3_⟩ := id hW
  have hE := own_hd hby E75
  have g101 := jA X0 hx (jI X0 hx (jI X0 hx g0 (hE 0 rfl) rfl) (hE 1 rfl) rfl) (hE 2 rfl) rfl rfl
  obtain ⟨_, L102, T102, ⟨rfl, M102, e102⟩, X102, st102⟩ := own_callS X0 hx hZ hown (hw _ (mi 321 rfl)) (wd12 hw) (rm_ule5 hw v1 kv vs h0 n0 O0 A0_) g101 e0 [(.int (Int32.ofNat b1)), (.int (Int32.ofNat a1))] rfl (lenOf pd_11 rfl) (hE 3 rfl) hml.symm 2 rfl (by decide)
  have N102 := Fr.app N0 M102
  obtain ⟨_, L103, T103, ⟨rfl, M103, e103⟩, X103, st103⟩ := own_callS X102 hx hZ hown (hw _ (mi 356 rfl)) (wd41 hw) (rm_scbe hw a1 b1 256 fm cs h0 n0 O0 (hab) (hbd) (by decide) hW) st102 e102 [] rfl (lenOf pd_32 rfl) (hE 4 rfl) hml.symm 0 rfl (by decide)
  have N103 := Fr.app N102 M103
  refine own_leave X103 Bd (none) (fun _ => rfl) st103 (fun fs hr => X103.returnOut hx Bd.returns (hE 5 rfl) hr) (by decide) (by decide) ?_
  rw [e103]
  exact ⟨rfl, N103, rfl⟩
theorem wd42 (hw : HW a0 Z) : own_wdS a0 Z mN54 jdk_52_method_93_code 3 none := ⟨hw _ (mi 354 rfl), hw _ (mi 37 rfl), hw _ (mi 355 rfl), by decide⟩
theorem pd_33 : parseMethodDescriptor "(I)C" = some ⟨[.int], some .char⟩ := by decide +kernel
theorem rm_pcs (hw : HW a0 Z) (v1 : Addr) (kv : ClassId) (ls : List Int32) (cs : Int32) (fm : Value) (a2 u2 : Addr) (ku : ClassId) (xs : List Int32) (cx zx : Int32) (ux : List Value) (o1 n1 : Nat) (h0 : Heap) (n0 : Nat) (O0 : Old Z n0 h0) (A0_ : Arv Z h0 v1 kv .byte (512 : Int32) (own_PW ls) (.int 0)) (E1_ : Exa Z h0 a2 "java/lang/String") (F2_ : Fld Z h0 a2 "java/lang/String" "coder" "B" (.int cx)) (F3_ : Fld Z h0 a2 "java/lang/String" "value" "[B" (.ref u2)) (A4_ : Arv Z h0 u2 ku .byte zx ux (.int 0)) (hbx : xs.length ≤ 40) (hcx : own_chars xs) (hcap : ls.length ≤ 160) (hon : o1 + n1 ≤ xs.length) (hcod : own_cod xs cx zx ux) (G10_ : n0 ≤ v1) (NE11_ : ¬ (u2 = v1)) (NE12_ : ¬ (a2 = v1)) (hW : own_W Z cs fm) :
    own_M l mN55 (Jvm.Cond.code mN55 jdk_52_method_73_code 6 none) [] (⟨5, 0, 0, 68⟩ : Room) #[(.ref v1), (.int (Int32.ofNat ls.length)), (.ref a2), (.int (Int32.ofNat o1)), (.int (Int32.ofNat (o1 + n1)))] Z h0 (fun v h L => v = none ∧ Fr n0 L ∧ Keep h0 h [v1] ∧ (Arv Z h v1 kv .byte (512 : Int32) (own_PW (ls ++ own_sl xs o1 n1)) (.int 0))) := by
  refine own_open n0 (plainFor_of_name pn_2) (fun m => ef_RIRII6 m v1 (Int32.ofNat ls.length) a2 (Int32.ofNat o1) (Int32.ofNat (o1 + n1)) ) ?_
  intro p e s m below meth c s₁ A0 Bd hx hby hml hown hnm hZ hh X0 e0 N0 g0
  obtain ⟨SC_, hcs, SF_, hfm, SU1_, SU2_, SU3_⟩ := id hW
  have hE := own_hd hby E78
  have g101 := jM X0 hx (jI X0 hx (jP X0 hx (ji X0 hx (jI X0 hx (jI X0 hx g0 (hE 0 rfl) rfl) (hE 1 rfl) rfl) (hE 2 rfl) rfl) (hE 3 rfl) rfl) (hE 4 rfl) rfl) (hE 5 rfl) rfl
  have g102 := own_rwS g101 (own_addsub (a := ls.length) (o := o1) (n := n1) (by omega) : (((Int32.ofNat ls.length) + (Int32.ofNat (o1 + n1))) - (Int32.ofNat o1)) = (Int32.ofNat (ls.length + n1)))
  have g103 := jA X0 hx g102 (hE 6 rfl) rfl rfl
  obtain ⟨_, L104, T104, ⟨rfl, M104, e104⟩, X104, st104⟩ := own_callS X0 hx hZ hown (hw _ (mi 353 rfl)) (wd42 hw) (rm_ucbe hw ls.length (ls.length + n1) v1 kv (own_PW ls) fm cs h0 n0 O0 A0_ (by omega) (by omega) hW) g103 e0 [] rfl (lenOf pd_17 rfl) (hE 7 rfl) hml.symm 0 rfl (by decide)
  have N104 := Fr.app N0 M104
  have g105 := js X104 hx (jI X104 hx st104 (hE 8 rfl) rfl) (hE 9 rfl) rfl (l' := #[rv v1, iv (Int32.ofNat ls.length), rv a2, iv (Int32.ofNat o1), iv (Int32.ofNat (o1 + n1)), iv (Int32.ofNat o1)]) rfl
  have loop106 : ∀ k : Nat, k ≤ n1 → ∃ (T106 : State) (lc106 : List Loc) (h106 : Heap), Stand p l e (⟨5, 0, 0, 68⟩ : Room) s m #[(.ref v1), (.int (Int32.ofNat ls.length)), (.ref a2), (.int (Int32.ofNat o1)), (.int (Int32.ofNat (o1 + n1)))] below meth c T106 lc106 0 0 ∧ T106.heap = h106 ∧ Keep h0 h106 [v1] ∧ Fr n0 lc106 ∧ (Arv Z h106 v1 kv .byte (512 : Int32) (own_PW (ls ++ own_sl xs o1 k)) (.int 0)) ∧ Go p e below T106 (mkF m 14 #[rv v1, iv (Int32.ofNat (ls.length + k)), rv a2, iv (Int32.ofNat o1), iv (Int32.ofNat (o1 + n1)), iv (Int32.ofNat (o1 + k))] []) A0 := by
    intro k
    induction k with
    | zero =>
      intro _
      exact ⟨_, _, _, X104, e104, (Keep.refl _ _), N104, (by rw [own_sl0, List.append_nil]; exact A0_), g105⟩
    | succ k ih =>
      intro hk_k
      obtain ⟨T107, lc107, h107, X107, e107, K107, N107, y108, g107⟩ := ih (Nat.le_of_succ_le hk_k)
      have O109 := O0.keep K107 (allS G10_ all0)
      have g110 := ji X107 hx (jA X107 hx (jk X107 hx (jI X107 hx (jA X107 hx (jn X107 hx (ji X107 hx (ji X107 hx g107 (hE 10 rfl) rfl) (hE 11 rfl) rfl) (hE 12 rfl) rfl (tlt (own_lt (by omega) (by omega) : (Int32.ofNat (o1 + k)) < (Int32.ofNat (o1 + n1)))).2.1) (hE 13 rfl) rfl rfl) (hE 14 rfl) rfl) (hE 15 rfl) rfl (l' := #[rv v1, iv ((Int32.ofNat (ls.length + k)) + (1 : Int32)), rv a2, iv (Int32.ofNat o1), iv (Int32.ofNat (o1 + n1)), iv (Int32.ofNat (o1 + k))]) rfl) (hE 16 rfl) rfl rfl) (hE 17 rfl) rfl
      have y112 := (E1_.keep K107)
      have y113 := (F3_.keep K107 (ninS NE12_ nin0))
      have y114 := (F2_.keep K107 (ninS NE12_ nin0))
      have y115 := (A4_.keep K107 (ninS NE11_ nin0))
      obtain ⟨_, L111, T111, ⟨rfl, M111, e111⟩, X111, st111⟩ := own_callF X107 hx hZ hown (hw _ (mi 370 rfl)) (hw _ (mi 371 rfl)) (mvT hZ (hw _ (mi 372 rfl))) (hw _ (mi 373 rfl)) (hw _ (mi 162 rfl)) (hw _ (mi 374 rfl)) (hw _ (mi 375 rfl)) (hw _ (mi 211 rfl)) (hw _ (mi 3 rfl)) (hw _ (mi 164 rfl)) (by decide) y112 (rm_chaG hw a2 u2 ku cx zx ux xs cs (o1 + k) fm h107 n0 O109 y113 y114 y112 y115 hcod (hbx) (by omega) (hcx) hW) g110 e107 [(.int (Int32.ofNat (ls.length + k))), (.ref v1)] rfl (lenOf pd_33 rfl) (hE 18 rfl) hml.symm 2 rfl (by decide)
      have N111 := Fr.app N107 M111
      obtain ⟨_, L116, T116, ⟨rfl, M116, K116, y117⟩, X116, st116⟩ := own_callS X111 hx hZ hown (hw _ (mi 296 rfl)) (wd2 hw) (rm_putG hw v1 (ls.length + k) (xs.getD (o1 + k) 0) kv (512 : Int32) (own_PW (ls ++ own_sl xs o1 k)) cs fm h107 n0 O109 y108 G10_ (by rw [own_PWlen (by rw [own_lsl (by omega)]; omega)]; omega) (by rw [own_PWlen (by rw [own_lsl (by omega)]; omega)]; rfl) (by rw [own_PWlen (by rw [own_lsl (by omega)]; omega)]; decide) hW) st111 e111 [] rfl (lenOf pd_2 rfl) (hE 19 rfl) hml.symm 0 rfl (by decide)
      have N116 := Fr.app N111 M116
      have O118 := O109.keep K116 (allS G10_ all0)
      have g119 := jg X116 hx (jk X116 hx st116 (hE 20 rfl) rfl (l' := #[rv v1, iv ((Int32.ofNat (ls.length + k)) + (1 : Int32)), rv a2, iv (Int32.ofNat o1), iv (Int32.ofNat (o1 + n1)), iv ((Int32.ofNat (o1 + k)) + (1 : Int32))]) rfl) (hE 21 rfl) (pc' := 14) (by decide)
      have g120 : Go p e below T116 (mkF m 14 #[rv v1, iv (Int32.ofNat (ls.length + (k + 1))), rv a2, iv (Int32.ofNat o1), iv (Int32.ofNat (o1 + n1)), iv (Int32.ofNat (o1 + (k + 1)))] []) A0 := by rw [← Nat.add_assoc o1 k 1, ← Nat.add_assoc ls.length k 1, ← own_succ (o1 + k), ← own_succ (ls.length + k)]; exact g119
      exact ⟨_, _, _, X116, rfl, (((Keep.refl h0 [v1]).trans K107 (allS (P := fun x => x ∈ [v1] ∨ h0.size ≤ x) (Or.inl (mi 0 rfl)) all0)).trans K116 (allS (P := fun x => x ∈ [v1] ∨ h0.size ≤ x) (Or.inl (mi 0 rfl)) all0)), N116, (by have q := y117; rw [own_PWsl (by omega) (by omega)] at q; exact q), g120⟩
  obtain ⟨T121, lc121, h121, X121, e121, K121, N121, y122, g121⟩ := loop106 n1 (Nat.le_refl _)
  have O123 := O0.keep K121 (allS G10_ all0)
  have g124 := jy X121 hx (ji X121 hx (ji X121 hx g121 (hE 10 rfl) rfl) (hE 11 rfl) rfl) (hE 12 rfl) rfl (flt (own_nlt (by omega) (by omega) : ¬ ((Int32.ofNat (o1 + n1)) < (Int32.ofNat (o1 + n1))))).2.1 (pc' := 43) (by decide)
  have K125 : Keep h0 h121 [v1] := ((Keep.refl h0 [v1]).trans K121 (allS (P := fun x => x ∈ [v1] ∨ h0.size ≤ x) (Or.inl (mi 0 rfl)) all0))
  refine own_leave X121 Bd (none) (fun _ => rfl) g124 (fun fs hr => X121.returnOut hx Bd.returns (hE 22 rfl) hr) (by decide) (by decide) ?_
  rw [e121]
  exact ⟨rfl, N121, K125, y122⟩
theorem wd43 (hw : HW a0 Z) : own_wdV a0 Z "java/lang/String" mN52 mN52 jdk_42_method_153_code 1 (some (.array .byte)) := ⟨hw _ (mi 225 rfl), hw _ (mi 227 rfl), hw _ (mi 226 rfl), hw _ (mi 3 rfl), hw _ (mi 228 rfl), by decide⟩
theorem wd44 (hw : HW a0 Z) : own_wdV a0 Z "java/lang/String" mN22 mN22 jdk_42_method_56_code 2 (some .char) := ⟨hw _ (mi 161 rfl), hw _ (mi 163 rfl), hw _ (mi 162 rfl), hw _ (mi 3 rfl), hw _ (mi 164 rfl), by decide⟩
theorem pd_34 : parseMethodDescriptor "([BILjava/lang/CharSequence;II)V" = some ⟨[(.array .byte), .int, (.object "java/lang/CharSequence"), .int, .int], none⟩ := by decide +kernel
theorem wd45 (hw : HW a0 Z) : own_wdS a0 Z mN55 jdk_52_method_73_code 6 none := ⟨hw _ (mi 368 rfl), hw _ (mi 37 rfl), hw _ (mi 369 rfl), by decide⟩
theorem ef_RRII8 (m : MethodId) (x0 : Addr) (x1 : Addr) (x2 : Int32) (x3 : Int32)  : entryFrame m #[(.ref x0), (.ref x1), (.int x2), (.int x3)] 8 = mkF m 0 #[.val (.ref x0), .val (.ref x1), .val (.int x2), .val (.int x3), .unset, .unset, .unset, .unset] [] := by first | (simp [entryFrame, mkF, argsToLocals, Value.category]; done) | rfl
theorem rm_acK (hw : HW a0 Z) (b1 v1 : Addr) (kv : ClassId) (ls : List Int32) (cd z1 : Int32) (vs : List Value) (cs : Int32) (fm : Value) (a2 u2 : Addr) (ku : ClassId) (xs : List Int32) (cx zx : Int32) (ux : List Value) (o1 n1 : Nat) (h0 : Heap) (n0 : Nat) (O0 : Old Z n0 h0) (E0_ : Exa Z h0 b1 "java/lang/StringBuilder") (F1_ : Fld Z h0 b1 "java/lang/AbstractStringBuilder" "value" "[B" (.ref v1)) (F2_ : Fld Z h0 b1 "java/lang/AbstractStringBuilder" "coder" "B" (.int cd)) (F3_ : Fld Z h0 b1 "java/lang/AbstractStringBuilder" "count" "I" (.int (Int32.ofNat ls.length))) (F4_ : Fld Z h0 b1 "java/lang/AbstractStringBuilder" "maybeLatin1" "Z" (.int 0)) (A5_ : Arv Z h0 v1 kv .byte z1 vs (.int 0)) (hsb : own_sb ls cd z1 vs) (E7_ : Exa Z h0 a2 "java/lang/String") (F8_ : Fld Z h0 a2 "java/lang/String" "coder" "B" (.int cx)) (F9_ : Fld Z h0 a2 "java/lang/String" "value" "[B" (.ref u2)) (A10_ : Arv Z h0 u2 ku .byte zx ux (.int 0)) (hbx : xs.length ≤ 40) (hcx : own_chars xs) (hcap : ls.length ≤ 160) (hon : o1 + n1 ≤ xs.length) (hcod : own_cod xs cx zx ux) (hkp : cd = (1 : Int32) ∨ own_lat (own_sl xs o1 n1)) (G17_ : n0 ≤ b1) (G18_ : n0 ≤ v1) (NE19_ : ¬ (v1 = b1)) (NE20_ : ¬ (u2 = v1)) (NE21_ : ¬ (a2 = v1)) (NE22_ : ¬ (a2 = b1)) (NE23_ : ¬ (u2 = b1)) (hW : own_W Z cs fm) :
    own_M l mN56 (Jvm.Cond.code mN56 jdk_68_method_75_code 8 none) [] (⟨6, 0, 0, 85⟩ : Room) #[(.ref b1), (.ref a2), (.int (Int32.ofNat o1)), (.int (Int32.ofNat (o1 + n1)))] Z h0 (fun v h L => ∃ (cd2 : Int32), ∃ (z2 : Int32), ∃ (vs2 : List Value), v = none ∧ Fr n0 L ∧ Keep h0 h [b1, v1] ∧ (Exa Z h b1 "java/lang/StringBuilder") ∧ (Fld Z h b1 "java/lang/AbstractStringBuilder" "value" "[B" (.ref v1)) ∧ (Fld Z h b1 "java/lang/AbstractStringBuilder" "coder" "B" (.int cd2)) ∧ (Fld Z h b1 "java/lang/AbstractStringBuilder" "count" "I" (.int (Int32.ofNat (ls ++ own_sl xs o1 n1).length))) ∧ (Fld Z h b1 "java/lang/AbstractStringBuilder" "maybeLatin1" "Z" (.int 0)) ∧ (Arv Z h v1 kv .byte z2 vs2 (.int 0)) ∧ (own_sb (ls ++ own_sl xs o1 n1) cd2 z2 vs2)) := by
  refine own_open n0 (plainFor_of_name pn_4) (fun m => ef_RRII8 m b1 a2 (Int32.ofNat o1) (Int32.ofNat (o1 + n1)) ) ?_
  intro p e s m below meth c s₁ A0 Bd hx hby hml hown hnm hZ hh X0 e0 N0 g0
  obtain ⟨SC_, hcs, SF_, hfm, SU1_, SU2_, SU3_⟩ := id hW
  have hE := own_hd hby E43
  have hq101 := hsb
  rcases hq101 with ⟨e1, e2, e3, ll, cl⟩ | ⟨e1, e2, e3⟩
  ·
    have y102 := F2_
    rw [e1] at y102
    have y103 := A5_
    rw [e2, e3] at y103
    have hq104 := hcod
    rcases hq104 with ⟨f1, f2, f3, lx⟩ | ⟨f1, f2, f3⟩
    ·
      have y105 := F8_
      rw [f1] at y105
      have y106 := A10_
      rw [f2, f3] at y106
      have g107 := jA X0 hx g0 (hE 0 rfl) rfl rfl
      obtain ⟨_, L108, T108, ⟨rfl, M108, e108⟩, X108, st108⟩ := own_callV X0 hx hZ hown (hw _ (mi 87 rfl)) (wd22 hw) (notFace_of_selects (args := #[]) (mvT hZ (hw _ (mi 90 rfl)))) E0_ (rm_al0 hw b1 cs h0 n0 O0 SC_ hcs y102) g107 e0 [] rfl (lenOf pd_13 rfl) (hE 1 rfl) hml.symm 0 rfl (by decide)
      have N108 := Fr.app N0 M108
      have g109 := jA X108 hx (jN X108 hx st108 (hE 2 rfl) rfl (by decide)) (hE 3 rfl) rfl rfl
      obtain ⟨_, L110, T110, ⟨rfl, M110, e110⟩, X110, st110⟩ := own_callV X108 hx hZ hown (hw _ (mi 223 rfl)) (wd14 hw) (notFace_of_selects (args := #[]) (mvT hZ (hw _ (mi 168 rfl)))) E7_ (rm_isl0 hw a2 cs h0 n0 O0 SC_ hcs y105) g109 e108 [] rfl (lenOf pd_13 rfl) (hE 4 rfl) hml.symm 0 rfl (by decide)
      have N110 := Fr.app N108 M110
      have g111 := jA X110 hx (jN X110 hx st110 (hE 5 rfl) rfl (by decide)) (hE 6 rfl) rfl rfl
      obtain ⟨_, L112, T112, ⟨rfl, M112, e112⟩, X112, st112⟩ := own_callV X110 hx hZ hown (hw _ (mi 224 rfl)) (wd43 hw) (notFace_of_selects (args := #[]) (mvT hZ (hw _ (mi 227 rfl)))) E7_ (rm_sval hw a2 u2 h0 n0 O0 F9_) g111 e110 [] rfl (lenOf pd_24 rfl) (hE 7 rfl) hml.symm 0 rfl (by decide)
      have N112 := Fr.app N110 M112
      have g113 := jA X112 hx (jI X112 hx st112 (hE 8 rfl) rfl) (hE 9 rfl) rfl rfl
      obtain ⟨T114, X114, e114, g114⟩ := own_getF X112 hx hZ hown (hw _ (mi 66 rfl)) Via.refl e112 F1_ g113 (hE 10 rfl)
      have g115 := jA X114 hx g114 (hE 11 rfl) rfl rfl
      obtain ⟨T116, X116, e116, g116⟩ := own_getF X114 hx hZ hown (hw _ (mi 80 rfl)) Via.refl e114 F3_ g115 (hE 12 rfl)
      have g117 := jM X116 hx (jI X116 hx (jI X116 hx g116 (hE 13 rfl) rfl) (hE 14 rfl) rfl) (hE 15 rfl) rfl
      have g118 := own_rwS g117 (own_subo (o := o1) (n := n1) (by omega) : ((Int32.ofNat (o1 + n1)) - (Int32.ofNat o1)) = (Int32.ofNat n1))
      let lo120 : Array Slot := #[rv b1, rv a2, iv (Int32.ofNat o1), iv (Int32.ofNat (o1 + n1)), .unset, .unset, .unset, .unset]
      obtain ⟨T119, h119, L119, X119, e119, N119, K119, y119, st119⟩ := cpA X116 hx hZ hown (hw _ (mi 229 rfl)) (hw _ (mi 145 rfl)) (hw _ (mi 143 rfl)) (hw _ (mi 144 rfl)) e116 y106 y103 (Or.inl ⟨rfl, rfl⟩) (sp := (Int32.ofNat o1)) (dp := (Int32.ofNat ls.length)) (nn := (Int32.ofNat n1)) (own_nonneg (by omega)) (own_nonneg (by omega)) (own_nonneg (by omega)) (by rw [own_clamp (by omega), own_clamp (by omega), own_clamp (by omega)]; omega) (by rw [own_clamp (by omega), own_clamp (by omega)]; show _ ≤ 256; omega) rfl (by rw [own_clamp (by omega), own_clamp (by omega), own_PLlen (by omega)]; omega) N112 G18_ (g := (mkF m 30 lo120 [(.int (Int32.ofNat n1)), (.int (Int32.ofNat ls.length)), (.ref v1), (.int (Int32.ofNat o1)), (.ref u2)])) rfl (by rw [hml]; rfl) (rest := []) rfl (hE 16 rfl) (by decide) (W := 0) (by show 2 * 0 + _ ≤ _; exact Nat.le_of_eq rfl) (by decide)
      have O121 := O0.keep K119 (allS G18_ all0)
      have y122 : Arv Z h119 v1 kv .byte (256 : Int32) (own_PL (ls ++ own_sl xs o1 n1)) (.int 0) := by have q := y119; rw [own_clamp (show ls.length < 2147483648 by omega), own_clamp (show n1 < 2147483648 by omega), own_clamp (show o1 < 2147483648 by omega), own_cpLs hon (by omega)] at q; exact q
      have g123 : Go p e below T119 (mkF m 33 lo120 []) A0 := fun t kont => g118 t (st119 t kont)
      have g124 := jd X119 hx (jA X119 hx (jg X119 hx g123 (hE 17 rfl) (pc' := 194) (by decide)) (hE 105 rfl) rfl rfl) (hE 106 rfl) rfl rfl
      have y125 := (F3_.keep K119 (ninS (Ne.symm NE19_) nin0))
      obtain ⟨T126, X126, e126, g126⟩ := own_getF X119 hx hZ hown (hw _ (mi 80 rfl)) Via.refl e119 y125 g124 (hE 107 rfl)
      have g127 := jM X126 hx (jI X126 hx (jI X126 hx g126 (hE 108 rfl) rfl) (hE 109 rfl) rfl) (hE 110 rfl) rfl
      have g128 := own_rwS g127 (own_subo (o := o1) (n := n1) (by omega) : ((Int32.ofNat (o1 + n1)) - (Int32.ofNat o1)) = (Int32.ofNat n1))
      have g129 := jP X126 hx g128 (hE 111 rfl) rfl
      have g130 := own_rwS g129 (own_cntsl (ls := ls) hon : ((Int32.ofNat ls.length) + (Int32.ofNat n1)) = (Int32.ofNat (ls ++ own_sl xs o1 n1).length))
      have y131 := (E0_.keep K119)
      obtain ⟨T132, h132, X132, e132, W132, st132⟩ := putF X126 hx hZ hown (host := "") (Or.inl (hw _ (mi 80 rfl))) Via.refl e126 y125 y131 (Or.inl (hw _ (mi 81 rfl))) (hw _ (mi 53 rfl)) (ty := .int) (by decide) rfl rfl (g := (mkF m 203 lo120 [(.int (Int32.ofNat (ls ++ own_sl xs o1 n1).length)), (.ref b1)])) rfl rfl (hE 112 rfl)
      have O133 := O121.wr W132 G17_
      have y134 : Fld Z h132 b1 "java/lang/AbstractStringBuilder" "count" "I" (.int (Int32.ofNat (ls ++ own_sl xs o1 n1).length)) := y125.same W132
      have N132 := Fr.snoc X132 N119 G17_
      have g135 : Go p e below T132 (mkF m 206 lo120 []) A0 := fun t kont => g130 t (st132 t kont)
      have K136 : Keep h0 h132 [b1, v1] := (((Keep.refl h0 [b1, v1]).trans K119 (allS (P := fun x => x ∈ [b1, v1] ∨ h0.size ≤ x) (Or.inl (mi 1 rfl)) all0)).wr W132 (Or.inl (mi 0 rfl)))
      have y137 := (y131.wr W132)
      have y138 := ((F1_.keep K119 (ninS (Ne.symm NE19_) nin0)).other W132 (Or.inr (slot_ne (Or.inl (hw _ (mi 67 rfl))) (Or.inl (hw _ (mi 81 rfl))) (by decide) (t := (.array .byte)) (t' := .int) (by decide) (by decide))))
      have y139 := ((y102.keep K119 (ninS (Ne.symm NE19_) nin0)).other W132 (Or.inr (slot_ne (Or.inl (hw _ (mi 69 rfl))) (Or.inl (hw _ (mi 81 rfl))) (by decide) (t := .byte) (t' := .int) (by decide) (by decide))))
      have y140 := ((F4_.keep K119 (ninS (Ne.symm NE19_) nin0)).other W132 (Or.inr (slot_ne (Or.inl (hw _ (mi 365 rfl))) (Or.inl (hw _ (mi 81 rfl))) (by decide) (t := .boolean) (t' := .int) (by decide) (by decide))))
      have y141 := (y122.other W132 NE19_)
      refine own_leave X132 Bd (none) (fun _ => rfl) g135 (fun fs hr => X132.returnOut hx Bd.returns (hE 113 rfl) hr) (by decide) (by decide) ?_
      rw [e132]
      exact ⟨(0 : Int32), (256 : Int32), (own_PL (ls ++ own_sl xs o1 n1)), rfl, N132, K136, y137, y138, y139, y134, y140, y141, Or.inl ⟨rfl, rfl, rfl, own_lat_app ll (own_lat_sl lx o1 n1), own_chars_app cl (own_sl_chars hcx hon)⟩⟩
    have y142 := F8_
    rw [f1] at y142
    have y143 := A10_
    rw [f2, f3] at y143
    have g144 := jA X0 hx g0 (hE 0 rfl) rfl rfl
    obtain ⟨_, L145, T145, ⟨rfl, M145, e145⟩, X145, st145⟩ := own_callV X0 hx hZ hown (hw _ (mi 87 rfl)) (wd22 hw) (notFace_of_selects (args := #[]) (mvT hZ (hw _ (mi 90 rfl)))) E0_ (rm_al0 hw b1 cs h0 n0 O0 SC_ hcs y102) g144 e0 [] rfl (lenOf pd_13 rfl) (hE 1 rfl) hml.symm 0 rfl (by decide)
    have N145 := Fr.app N0 M145
    have g146 := jA X145 hx (jN X145 hx st145 (hE 2 rfl) rfl (by decide)) (hE 3 rfl) rfl rfl
    obtain ⟨_, L147, T147, ⟨rfl, M147, e147⟩, X147, st147⟩ := own_callV X145 hx hZ hown (hw _ (mi 223 rfl)) (wd14 hw) (notFace_of_selects (args := #[]) (mvT hZ (hw _ (mi 168 rfl)))) E7_ (rm_isl1 hw a2 cs h0 n0 O0 SC_ hcs y142) g146 e145 [] rfl (lenOf pd_13 rfl) (hE 4 rfl) hml.symm 0 rfl (by decide)
    have N147 := Fr.app N145 M147
    have hsl : own_lat (own_sl xs o1 n1) := hkp.resolve_left (by rw [e1]; decide)
    have g148 := jA X147 hx (jY X147 hx st147 (hE 5 rfl) rfl (by decide) (pc' := 36) (by decide)) (hE 18 rfl) rfl rfl
    obtain ⟨T149, X149, e149, g149⟩ := own_getF X147 hx hZ hown (hw _ (mi 66 rfl)) Via.refl e147 F1_ g148 (hE 19 rfl)
    have g150 := jA X149 hx (js X149 hx (jI X149 hx (jt X149 hx g149 (hE 20 rfl) rfl rfl (l' := #[rv b1, rv a2, iv (Int32.ofNat o1), iv (Int32.ofNat (o1 + n1)), rv v1, .unset, .unset, .unset]) rfl) (hE 21 rfl) rfl) (hE 22 rfl) rfl (l' := #[rv b1, rv a2, iv (Int32.ofNat o1), iv (Int32.ofNat (o1 + n1)), rv v1, iv (Int32.ofNat o1), .unset, .unset]) rfl) (hE 23 rfl) rfl rfl
    obtain ⟨T151, X151, e151, g151⟩ := own_getF X149 hx hZ hown (hw _ (mi 80 rfl)) Via.refl e149 F3_ g150 (hE 24 rfl)
    have g152 := js X151 hx g151 (hE 25 rfl) rfl (l' := #[rv b1, rv a2, iv (Int32.ofNat o1), iv (Int32.ofNat (o1 + n1)), rv v1, iv (Int32.ofNat o1), iv (Int32.ofNat ls.length), .unset]) rfl
    have loop153 : ∀ k : Nat, k ≤ n1 → ∃ (T153 : State) (lc153 : List Loc) (h153 : Heap) (sl7 : Slot), Stand p l e (⟨6, 0, 0, 85⟩ : Room) s m #[(.ref b1), (.ref a2), (.int (Int32.ofNat o1)), (.int (Int32.ofNat (o1 + n1)))] below meth c T153 lc153 0 0 ∧ T153.heap = h153 ∧ Keep h0 h153 [v1] ∧ Fr n0 lc153 ∧ One sl7 ∧ (Arv Z h153 v1 kv .byte (256 : Int32) (own_PL (ls ++ own_sl xs o1 k)) (.int 0)) ∧ Go p e below T153 (mkF m 51 #[rv b1, rv a2, iv (Int32.ofNat o1), iv (Int32.ofNat (o1 + n1)), rv v1, iv (Int32.ofNat (o1 + k)), iv (Int32.ofNat (ls.length + k)), sl7] []) A0 := by
      intro k
      induction k with
      | zero =>
        intro _
        exact ⟨_, _, _, .unset, X151, e151, (Keep.refl _ _), N147, One.u, (by rw [own_sl0, List.append_nil]; exact y103), g152⟩
      | succ k ih =>
        intro hk_k
        obtain ⟨T154, lc154, h154, sl7, X154, e154, K154, N154, One_sl7, y155, g154⟩ := ih (Nat.le_of_succ_le hk_k)
        have O156 := O0.keep K154 (allS G18_ all0)
        have g157 := ji X154 hx (jA X154 hx (jn X154 hx (jI X154 hx (ji X154 hx g154 (hE 26 rfl) rfl) (hE 27 rfl) rfl) (hE 28 rfl) rfl (tlt (own_lt (by omega) (by omega) : (Int32.ofNat (o1 + k)) < (Int32.ofNat (o1 + n1)))).2.1) (hE 29 rfl) rfl rfl) (hE 30 rfl) rfl
        have y159 := (E7_.keep K154)
        have y160 := (F9_.keep K154 (ninS NE21_ nin0))
        have y161 := (y142.keep K154 (ninS NE21_ nin0))
        have y162 := (y143.keep K154 (ninS NE20_ nin0))
        obtain ⟨_, L158, T158, ⟨rfl, M158, e158⟩, X158, st158⟩ := own_callV X154 hx hZ hown (hw _ (mi 325 rfl)) (wd44 hw) (notFace_of_selects (args := #[]) (mvT hZ (hw _ (mi 163 rfl)))) y159 (rm_chaG hw a2 u2 ku (1 : Int32) (Int32.ofNat (2 * xs.length)) (own_wb xs) xs cs (o1 + k) fm h154 n0 O156 y160 y161 y159 y162 (Or.inr ⟨rfl, rfl, rfl⟩) (hbx) (by omega) (hcx) hW) g157 e154 [] rfl (lenOf pd_33 rfl) (hE 31 rfl) hml.symm 0 rfl (by decide)
        have N158 := Fr.app N154 M158
        have g163 := ji X158 hx (js X158 hx st158 (hE 32 rfl) rfl (l' := #[rv b1, rv a2, iv (Int32.ofNat o1), iv (Int32.ofNat (o1 + n1)), rv v1, iv (Int32.ofNat (o1 + k)), iv (Int32.ofNat (ls.length + k)), iv (xs.getD (o1 + k) 0)]) (XS.store1 (o := sl7) rfl One_sl7 rfl)) (hE 33 rfl) rfl
        obtain ⟨_, L164, T164, ⟨rfl, M164, e164⟩, X164, st164⟩ := own_callS X158 hx hZ hown (hw _ (mi 92 rfl)) (wd25 hw) (rm_canE hw (xs.getD (o1 + k) 0) h154 n0 O156 (own_sl_lat hsl hon (by omega))) g163 e158 [] rfl (lenOf pd_19 rfl) (hE 34 rfl) hml.symm 0 rfl (by decide)
        have N164 := Fr.app N158 M164
        have g165 := jx X164 hx (ji X164 hx (jk X164 hx (ji X164 hx (ja X164 hx (jN X164 hx st164 (hE 35 rfl) rfl (by decide)) (hE 36 rfl) rfl rfl) (hE 37 rfl) rfl) (hE 38 rfl) rfl (l' := #[rv b1, rv a2, iv (Int32.ofNat o1), iv (Int32.ofNat (o1 + n1)), rv v1, iv (Int32.ofNat (o1 + k)), iv ((Int32.ofNat (ls.length + k)) + (1 : Int32)), iv (xs.getD (o1 + k) 0)]) rfl) (hE 39 rfl) rfl) (hE 40 rfl) rfl
        have zz166 := y155
        obtain ⟨cl166, Ar166, q166, S166, M166, H166, G166⟩ := zz166
        have in166 : ¬ ((Int32.ofNat (ls.length + k)) < 0 ∨ cl166.slots.size ≤ ((Int32.ofNat (ls.length + k))).toNatClampNeg) := inb_of S166 ⟨own_nonneg (by omega), own_lt (b := 256) (by omega) (by decide)⟩
        let lo167 : Array Slot := #[rv b1, rv a2, iv (Int32.ofNat o1), iv (Int32.ofNat (o1 + n1)), rv v1, iv (Int32.ofNat (o1 + k)), iv ((Int32.ofNat (ls.length + k)) + (1 : Int32)), iv (xs.getD (o1 + k) 0)]
        obtain ⟨T166, h166, X166, e166, W166, st166⟩ := stB X164 hx hZ e164 Ar166 (j := (Int32.ofNat (ls.length + k))) in166 (g := (mkF m 83 lo167 [(.int ((xs.getD (o1 + k) 0).toInt8.toInt32)), (.int (Int32.ofNat (ls.length + k))), (.ref v1)])) rfl rfl (hE 41 rfl)
        rw [show nar .byte ((xs.getD (o1 + k) 0).toInt8.toInt32) = ((xs.getD (o1 + k) 0).toInt8.toInt32) from (own_narb _)] at W166
        have O168 := O156.wr W166 G18_
        have y169 : Arv Z h166 v1 kv .byte (256 : Int32) ((own_PL (ls ++ own_sl xs o1 k)).set (ls.length + k) (.int ((xs.getD (o1 + k) 0).toInt8.toInt32))) (.int 0) := Arv.set Ar166 q166 S166 M166 H166 G166 (own_ft_byte (z := ((xs.getD (o1 + k) 0).toInt8.toInt32)) (own_narb _)) W166 (ls.length + k) (own_clamp (by omega)) (by rw [own_PLlen (by rw [own_lsl (by omega)]; omega)]; omega)
        have N166 := Fr.snoc X166 N164 G18_
        have g170 : Go p e below T166 (mkF m 84 lo167 []) A0 := fun t kont => g165 t (st166 t kont)
        have g171 := jg X166 hx (jk X166 hx (jg X166 hx g170 (hE 42 rfl) (pc' := 136) (by decide)) (hE 73 rfl) rfl (l' := #[rv b1, rv a2, iv (Int32.ofNat o1), iv (Int32.ofNat (o1 + n1)), rv v1, iv ((Int32.ofNat (o1 + k)) + (1 : Int32)), iv ((Int32.ofNat (ls.length + k)) + (1 : Int32)), iv (xs.getD (o1 + k) 0)]) rfl) (hE 74 rfl) (pc' := 51) (by decide)
        have g172 : Go p e below T166 (mkF m 51 #[rv b1, rv a2, iv (Int32.ofNat o1), iv (Int32.ofNat (o1 + n1)), rv v1, iv (Int32.ofNat (o1 + (k + 1))), iv (Int32.ofNat (ls.length + (k + 1))), iv (xs.getD (o1 + k) 0)] []) A0 := by rw [← Nat.add_assoc o1 k 1, ← Nat.add_assoc ls.length k 1, ← own_succ (o1 + k), ← own_succ (ls.length + k)]; exact g171
        exact ⟨_, _, _, (iv (xs.getD (o1 + k) 0)), X166, e166, (((Keep.refl h0 [v1]).trans K154 (allS (P := fun x => x ∈ [v1] ∨ h0.size ≤ x) (Or.inl (mi 0 rfl)) all0)).wr W166 (Or.inl (mi 0 rfl))), N166, (One.val rfl), (by have q := y169; rw [own_PLsl (by omega) (by omega)] at q; exact q), g172⟩
    obtain ⟨T173, lc173, h173, sl7, X173, e173, K173, N173, One_sl7, y174, g173⟩ := loop153 n1 (Nat.le_refl _)
    have O175 := O0.keep K173 (allS G18_ all0)
    have g176 := jd X173 hx (jA X173 hx (jg X173 hx (jy X173 hx (jI X173 hx (ji X173 hx g173 (hE 26 rfl) rfl) (hE 27 rfl) rfl) (hE 28 rfl) rfl (flt (own_nlt (by omega) (by omega) : ¬ ((Int32.ofNat (o1 + n1)) < (Int32.ofNat (o1 + n1))))).2.1 (pc' := 142) (by decide)) (hE 75 rfl) (pc' := 194) (by decide)) (hE 105 rfl) rfl rfl) (hE 106 rfl) rfl rfl
    have y177 := (F3_.keep K173 (ninS (Ne.symm NE19_) nin0))
    obtain ⟨T178, X178, e178, g178⟩ := own_getF X173 hx hZ hown (hw _ (mi 80 rfl)) Via.refl e173 y177 g176 (hE 107 rfl)
    have g179 := jM X178 hx (jI X178 hx (jI X178 hx g178 (hE 108 rfl) rfl) (hE 109 rfl) rfl) (hE 110 rfl) rfl
    have g180 := own_rwS g179 (own_subo (o := o1) (n := n1) (by omega) : ((Int32.ofNat (o1 + n1)) - (Int32.ofNat o1)) = (Int32.ofNat n1))
    have g181 := jP X178 hx g180 (hE 111 rfl) rfl
    have g182 := own_rwS g181 (own_cntsl (ls := ls) hon : ((Int32.ofNat ls.length) + (Int32.ofNat n1)) = (Int32.ofNat (ls ++ own_sl xs o1 n1).length))
    have y183 := (E0_.keep K173)
    let lo185 : Array Slot := #[rv b1, rv a2, iv (Int32.ofNat o1), iv (Int32.ofNat (o1 + n1)), rv v1, iv (Int32.ofNat (o1 + n1)), iv (Int32.ofNat (ls.length + n1)), sl7]
    obtain ⟨T184, h184, X184, e184, W184, st184⟩ := putF X178 hx hZ hown (host := "") (Or.inl (hw _ (mi 80 rfl))) Via.refl e178 y177 y183 (Or.inl (hw _ (mi 81 rfl))) (hw _ (mi 53 rfl)) (ty := .int) (by decide) rfl rfl (g := (mkF m 203 lo185 [(.int (Int32.ofNat (ls ++ own_sl xs o1 n1).length)), (.ref b1)])) rfl rfl (hE 112 rfl)
    have O186 := O175.wr W184 G17_
    have y187 : Fld Z h184 b1 "java/lang/AbstractStringBuilder" "count" "I" (.int (Int32.ofNat (ls ++ own_sl xs o1 n1).length)) := y177.same W184
    have N184 := Fr.snoc X184 N173 G17_
    have g188 : Go p e below T184 (mkF m 206 lo185 []) A0 := fun t kont => g182 t (st184 t kont)
    have K189 : Keep h0 h184 [b1, v1] := (((Keep.refl h0 [b1, v1]).trans K173 (allS (P := fun x => x ∈ [b1, v1] ∨ h0.size ≤ x) (Or.inl (mi 1 rfl)) all0)).wr W184 (Or.inl (mi 0 rfl)))
    have y190 := (y183.wr W184)
    have y191 := ((F1_.keep K173 (ninS (Ne.symm NE19_) nin0)).other W184 (Or.inr (slot_ne (Or.inl (hw _ (mi 67 rfl))) (Or.inl (hw _ (mi 81 rfl))) (by decide) (t := (.array .byte)) (t' := .int) (by decide) (by decide))))
    have y192 := ((y102.keep K173 (ninS (Ne.symm NE19_) nin0)).other W184 (Or.inr (slot_ne (Or.inl (hw _ (mi 69 rfl))) (Or.inl (hw _ (mi 81 rfl))) (by decide) (t := .byte) (t' := .int) (by decide) (by decide))))
    have y193 := ((F4_.keep K173 (ninS (Ne.symm NE19_) nin0)).other W184 (Or.inr (slot_ne (Or.inl (hw _ (mi 365 rfl))) (Or.inl (hw _ (mi 81 rfl))) (by decide) (t := .boolean) (t' := .int) (by decide) (by decide))))
    have y194 := (y174.other W184 NE19_)
    refine own_leave X184 Bd (none) (fun _ => rfl) g188 (fun fs hr => X184.returnOut hx Bd.returns (hE 113 rfl) hr) (by decide) (by decide) ?_
    rw [e184]
    exact ⟨(0 : Int32), (256 : Int32), (own_PL (ls ++ own_sl xs o1 n1)), rfl, N184, K189, y190, y191, y192, y187, y193, y194, Or.inl ⟨rfl, rfl, rfl, own_lat_app ll hsl, own_chars_app cl (own_sl_chars hcx hon)⟩⟩
  have y195 := F2_
  rw [e1] at y195
  have y196 := A5_
  rw [e2, e3] at y196
  have hq197 := hcod
  rcases hq197 with ⟨f1, f2, f3, lx⟩ | ⟨f1, f2, f3⟩
  ·
    have y198 := F8_
    rw [f1] at y198
    have y199 := A10_
    rw [f2, f3] at y199
    have g200 := jA X0 hx g0 (hE 0 rfl) rfl rfl
    obtain ⟨_, L201, T201, ⟨rfl, M201, e201⟩, X201, st201⟩ := own_callV X0 hx hZ hown (hw _ (mi 87 rfl)) (wd22 hw) (notFace_of_selects (args := #[]) (mvT hZ (hw _ (mi 90 rfl)))) E0_ (rm_al1 hw b1 cs h0 n0 O0 SC_ hcs y195) g200 e0 [] rfl (lenOf pd_13 rfl) (hE 1 rfl) hml.symm 0 rfl (by decide)
    have N201 := Fr.app N0 M201
    have g202 := jA X201 hx (jY X201 hx st201 (hE 2 rfl) rfl (by decide) (pc' := 145) (by decide)) (hE 76 rfl) rfl rfl
    obtain ⟨_, L203, T203, ⟨rfl, M203, e203⟩, X203, st203⟩ := own_callV X201 hx hZ hown (hw _ (mi 223 rfl)) (wd14 hw) (notFace_of_selects (args := #[]) (mvT hZ (hw _ (mi 168 rfl)))) E7_ (rm_isl0 hw a2 cs h0 n0 O0 SC_ hcs y198) g202 e201 [] rfl (lenOf pd_13 rfl) (hE 77 rfl) hml.symm 0 rfl (by decide)
    have N203 := Fr.app N201 M203
    have g204 := jA X203 hx (jN X203 hx st203 (hE 78 rfl) rfl (by decide)) (hE 79 rfl) rfl rfl
    obtain ⟨T205, X205, e205, g205⟩ := own_getF X203 hx hZ hown (hw _ (mi 66 rfl)) Via.refl e203 F1_ g204 (hE 80 rfl)
    have g206 := jA X205 hx g205 (hE 81 rfl) rfl rfl
    obtain ⟨T207, X207, e207, g207⟩ := own_getF X205 hx hZ hown (hw _ (mi 80 rfl)) Via.refl e205 F3_ g206 (hE 82 rfl)
    have g208 := jI X207 hx (jI X207 hx (jA X207 hx g207 (hE 83 rfl) rfl rfl) (hE 84 rfl) rfl) (hE 85 rfl) rfl
    obtain ⟨_, L209, T209, ⟨rfl, M209, K209, y210⟩, X209, st209⟩ := own_callS X207 hx hZ hown (hw _ (mi 367 rfl)) (wd45 hw) (rm_pcs hw v1 kv ls cs fm a2 u2 ku xs (0 : Int32) (Int32.ofNat xs.length) (own_lb xs) o1 n1 h0 n0 O0 y196 E7_ y198 F9_ y199 hbx hcx hcap hon (Or.inl ⟨rfl, rfl, rfl, lx⟩) G18_ NE20_ NE21_ hW) g208 e207 [] rfl (lenOf pd_34 rfl) (hE 86 rfl) hml.symm 0 rfl (by decide)
    have N209 := Fr.app N203 M209
    have O211 := O0.keep K209 (allS G18_ all0)
    have g212 := jd X209 hx (jA X209 hx (jg X209 hx st209 (hE 87 rfl) (pc' := 194) (by decide)) (hE 105 rfl) rfl rfl) (hE 106 rfl) rfl rfl
    have y213 := (F3_.keep K209 (ninS (Ne.symm NE19_) nin0))
    obtain ⟨T214, X214, e214, g214⟩ := own_getF X209 hx hZ hown (hw _ (mi 80 rfl)) Via.refl rfl y213 g212 (hE 107 rfl)
    have g215 := jM X214 hx (jI X214 hx (jI X214 hx g214 (hE 108 rfl) rfl) (hE 109 rfl) rfl) (hE 110 rfl) rfl
    have g216 := own_rwS g215 (own_subo (o := o1) (n := n1) (by omega) : ((Int32.ofNat (o1 + n1)) - (Int32.ofNat o1)) = (Int32.ofNat n1))
    have g217 := jP X214 hx g216 (hE 111 rfl) rfl
    have g218 := own_rwS g217 (own_cntsl (ls := ls) hon : ((Int32.ofNat ls.length) + (Int32.ofNat n1)) = (Int32.ofNat (ls ++ own_sl xs o1 n1).length))
    have y219 := (E0_.keep K209)
    let lo221 : Array Slot := #[rv b1, rv a2, iv (Int32.ofNat o1), iv (Int32.ofNat (o1 + n1)), .unset, .unset, .unset, .unset]
    obtain ⟨T220, h220, X220, e220, W220, st220⟩ := putF X214 hx hZ hown (host := "") (Or.inl (hw _ (mi 80 rfl))) Via.refl e214 y213 y219 (Or.inl (hw _ (mi 81 rfl))) (hw _ (mi 53 rfl)) (ty := .int) (by decide) rfl rfl (g := (mkF m 203 lo221 [(.int (Int32.ofNat (ls ++ own_sl xs o1 n1).length)), (.ref b1)])) rfl rfl (hE 112 rfl)
    have O222 := O211.wr W220 G17_
    have y223 : Fld Z h220 b1 "java/lang/AbstractStringBuilder" "count" "I" (.int (Int32.ofNat (ls ++ own_sl xs o1 n1).length)) := y213.same W220
    have N220 := Fr.snoc X220 N209 G17_
    have g224 : Go p e below T220 (mkF m 206 lo221 []) A0 := fun t kont => g218 t (st220 t kont)
    have K225 : Keep h0 h220 [b1, v1] := (((Keep.refl h0 [b1, v1]).trans K209 (allS (P := fun x => x ∈ [b1, v1] ∨ h0.size ≤ x) (Or.inl (mi 1 rfl)) all0)).wr W220 (Or.inl (mi 0 rfl)))
    have y226 := (y219.wr W220)
    have y227 := ((F1_.keep K209 (ninS (Ne.symm NE19_) nin0)).other W220 (Or.inr (slot_ne (Or.inl (hw _ (mi 67 rfl))) (Or.inl (hw _ (mi 81 rfl))) (by decide) (t := (.array .byte)) (t' := .int) (by decide) (by decide))))
    have y228 := ((y195.keep K209 (ninS (Ne.symm NE19_) nin0)).other W220 (Or.inr (slot_ne (Or.inl (hw _ (mi 69 rfl))) (Or.inl (hw _ (mi 81 rfl))) (by decide) (t := .byte) (t' := .int) (by decide) (by decide))))
    have y229 := ((F4_.keep K209 (ninS (Ne.symm NE19_) nin0)).other W220 (Or.inr (slot_ne (Or.inl (hw _ (mi 365 rfl))) (Or.inl (hw _ (mi 81 rfl))) (by decide) (t := .boolean) (t' := .int) (by decide) (by decide))))
    have y230 := (y210.other W220 NE19_)
    refine own_leave X220 Bd (none) (fun _ => rfl) g224 (fun fs hr => X220.returnOut hx Bd.returns (hE 113 rfl) hr) (by decide) (by decide) ?_
    rw [e220]
    exact ⟨(1 : Int32), (512 : Int32), (own_PW (ls ++ own_sl xs o1 n1)), rfl, N220, K225, y226, y227, y228, y223, y229, y230, Or.inr ⟨rfl, rfl, rfl⟩⟩
  have y231 := F8_
  rw [f1] at y231
  have y232 := A10_
  rw [f2, f3] at y232
  have g233 := jA X0 hx g0 (hE 0 rfl) rfl rfl
  obtain ⟨_, L234, T234, ⟨rfl, M234, e234⟩, X234, st234⟩ := own_callV X0 hx hZ hown (hw _ (mi 87 rfl)) (wd22 hw) (notFace_of_selects (args := #[]) (mvT hZ (hw _ (mi 90 rfl)))) E0_ (rm_al1 hw b1 cs h0 n0 O0 SC_ hcs y195) g233 e0 [] rfl (lenOf pd_13 rfl) (hE 1 rfl) hml.symm 0 rfl (by decide)
  have N234 := Fr.app N0 M234
  have g235 := jA X234 hx (jY X234 hx st234 (hE 2 rfl) rfl (by decide) (pc' := 145) (by decide)) (hE 76 rfl) rfl rfl
  obtain ⟨_, L236, T236, ⟨rfl, M236, e236⟩, X236, st236⟩ := own_callV X234 hx hZ hown (hw _ (mi 223 rfl)) (wd14 hw) (notFace_of_selects (args := #[]) (mvT hZ (hw _ (mi 168 rfl)))) E7_ (rm_isl1 hw a2 cs h0 n0 O0 SC_ hcs y231) g235 e234 [] rfl (lenOf pd_13 rfl) (hE 77 rfl) hml.symm 0 rfl (by decide)
  have N236 := Fr.app N234 M236
  have g237 := jA X236 hx (jY X236 hx st236 (hE 78 rfl) rfl (by decide) (pc' := 169) (by decide)) (hE 88 rfl) rfl rfl
  obtain ⟨_, L238, T238, ⟨rfl, M238, e238⟩, X238, st238⟩ := own_callV X236 hx hZ hown (hw _ (mi 224 rfl)) (wd43 hw) (notFace_of_selects (args := #[]) (mvT hZ (hw _ (mi 227 rfl)))) E7_ (rm_sval hw a2 u2 h0 n0 O0 F9_) g237 e236 [] rfl (lenOf pd_24 rfl) (hE 89 rfl) hml.symm 0 rfl (by decide)
  have N238 := Fr.app N236 M238
  have g239 := jL X238 hx (jc X238 hx (jI X238 hx st238 (hE 90 rfl) rfl) (hE 91 rfl) 1 rfl) (hE 92 rfl) rfl
  have g240 := own_rwS g239 (own_dbl (n := o1) (by omega) : ((Int32.ofNat o1) <<< ((1 : Int32) &&& 31)) = (Int32.ofNat (2 * o1)))
  have g241 := jA X238 hx g240 (hE 93 rfl) rfl rfl
  obtain ⟨T242, X242, e242, g242⟩ := own_getF X238 hx hZ hown (hw _ (mi 66 rfl)) Via.refl e238 F1_ g241 (hE 94 rfl)
  have g243 := jA X242 hx g242 (hE 95 rfl) rfl rfl
  obtain ⟨T244, X244, e244, g244⟩ := own_getF X242 hx hZ hown (hw _ (mi 80 rfl)) Via.refl e242 F3_ g243 (hE 96 rfl)
  have g245 := jL X244 hx (jc X244 hx g244 (hE 97 rfl) 1 rfl) (hE 98 rfl) rfl
  have g246 := own_rwS g245 (own_dbl (n := ls.length) (by omega) : ((Int32.ofNat ls.length) <<< ((1 : Int32) &&& 31)) = (Int32.ofNat (2 * ls.length)))
  have g247 := jM X244 hx (jI X244 hx (jI X244 hx g246 (hE 99 rfl) rfl) (hE 100 rfl) rfl) (hE 101 rfl) rfl
  have g248 := own_rwS g247 (own_subo (o := o1) (n := n1) (by omega) : ((Int32.ofNat (o1 + n1)) - (Int32.ofNat o1)) = (Int32.ofNat n1))
  have g249 := jL X244 hx (jc X244 hx g248 (hE 102 rfl) 1 rfl) (hE 103 rfl) rfl
  have g250 := own_rwS g249 (own_dbl (n := n1) (by omega) : ((Int32.ofNat n1) <<< ((1 : Int32) &&& 31)) = (Int32.ofNat (2 * n1)))
  let lo252 : Array Slot := #[rv b1, rv a2, iv (Int32.ofNat o1), iv (Int32.ofNat (o1 + n1)), .unset, .unset, .unset, .unset]
  obtain ⟨T251, h251, L251, X251, e251, N251, K251, y251, st251⟩ := cpA X244 hx hZ hown (hw _ (mi 229 rfl)) (hw _ (mi 145 rfl)) (hw _ (mi 143 rfl)) (hw _ (mi 144 rfl)) e244 y232 y196 (Or.inl ⟨rfl, rfl⟩) (sp := (Int32.ofNat (2 * o1))) (dp := (Int32.ofNat (2 * ls.length))) (nn := (Int32.ofNat (2 * n1))) (own_nonneg (by omega)) (own_nonneg (by omega)) (own_nonneg (by omega)) (by rw [own_clamp (by omega), own_clamp (by omega), own_clamp (by omega)]; omega) (by rw [own_clamp (by omega), own_clamp (by omega)]; show _ ≤ 512; omega) rfl (by rw [own_clamp (by omega), own_clamp (by omega), own_PWlen (by omega)]; omega) N238 G18_ (g := (mkF m 191 lo252 [(.int (Int32.ofNat (2 * n1))), (.int (Int32.ofNat (2 * ls.length))), (.ref v1), (.int (Int32.ofNat (2 * o1))), (.ref u2)])) rfl (by rw [hml]; rfl) (rest := []) rfl (hE 104 rfl) (by decide) (W := 0) (by show 2 * 0 + _ ≤ _; exact Nat.le_of_eq rfl) (by decide)
  have O253 := O0.keep K251 (allS G18_ all0)
  have y254 : Arv Z h251 v1 kv .byte (512 : Int32) (own_PW (ls ++ own_sl xs o1 n1)) (.int 0) := by have q := y251; rw [own_clamp (show 2 * ls.length < 2147483648 by omega), own_clamp (show 2 * n1 < 2147483648 by omega), own_clamp (show 2 * o1 < 2147483648 by omega), own_cpWs hon (by omega)] at q; exact q
  have g255 : Go p e below T251 (mkF m 194 lo252 []) A0 := fun t kont => g250 t (st251 t kont)
  have g256 := jd X251 hx (jA X251 hx g255 (hE 105 rfl) rfl rfl) (hE 106 rfl) rfl rfl
  have y257 := (F3_.keep K251 (ninS (Ne.symm NE19_) nin0))
  obtain ⟨T258, X258, e258, g258⟩ := own_getF X251 hx hZ hown (hw _ (mi 80 rfl)) Via.refl e251 y257 g256 (hE 107 rfl)
  have g259 := jM X258 hx (jI X258 hx (jI X258 hx g258 (hE 108 rfl) rfl) (hE 109 rfl) rfl) (hE 110 rfl) rfl
  have g260 := own_rwS g259 (own_subo (o := o1) (n := n1) (by omega) : ((Int32.ofNat (o1 + n1)) - (Int32.ofNat o1)) = (Int32.ofNat n1))
  have g261 := jP X258 hx g260 (hE 111 rfl) rfl
  have g262 := own_rwS g261 (own_cntsl (ls := ls) hon : ((Int32.ofNat ls.length) + (Int32.ofNat n1)) = (Int32.ofNat (ls ++ own_sl xs o1 n1).length))
  have y263 := (E0_.keep K251)
  obtain ⟨T264, h264, X264, e264, W264, st264⟩ := putF X258 hx hZ hown (host := "") (Or.inl (hw _ (mi 80 rfl))) Via.refl e258 y257 y263 (Or.inl (hw _ (mi 81 rfl))) (hw _ (mi 53 rfl)) (ty := .int) (by decide) rfl rfl (g := (mkF m 203 lo252 [(.int (Int32.ofNat (ls ++ own_sl xs o1 n1).length)), (.ref b1)])) rfl rfl (hE 112 rfl)
  have O265 := O253.wr W264 G17_
  have y266 : Fld Z h264 b1 "java/lang/AbstractStringBuilder" "count" "I" (.int (Int32.ofNat (ls ++ own_sl xs o1 n1).length)) := y257.same W264
  have N264 := Fr.snoc X264 N251 G17_
  have g267 : Go p e below T264 (mkF m 206 lo252 []) A0 := fun t kont => g262 t (st264 t kont)
  have K268 : Keep h0 h264 [b1, v1] := (((Keep.refl h0 [b1, v1]).trans K251 (allS (P := fun x => x ∈ [b1, v1] ∨ h0.size ≤ x) (Or.inl (mi 1 rfl)) all0)).wr W264 (Or.inl (mi 0 rfl)))
  have y269 := (y263.wr W264)
  have y270 := ((F1_.keep K251 (ninS (Ne.symm NE19_) nin0)).other W264 (Or.inr (slot_ne (Or.inl (hw _ (mi 67 rfl))) (Or.inl (hw _ (mi 81 rfl))) (by decide) (t := (.array .byte)) (t' := .int) (by decide) (by decide))))
  have y271 := ((y195.keep K251 (ninS (Ne.symm NE19_) nin0)).other W264 (Or.inr (slot_ne (Or.inl (hw _ (mi 69 rfl))) (Or.inl (hw _ (mi 81 rfl))) (by decide) (t := .byte) (t' := .int) (by decide) (by decide))))
  have y272 := ((F4_.keep K251 (ninS (Ne.symm NE19_) nin0)).other W264 (Or.inr (slot_ne (Or.inl (hw _ (mi 365 rfl))) (Or.inl (hw _ (mi 81 rfl))) (by decide) (t := .boolean) (t' := .int) (by decide) (by decide))))
  have y273 := (y254.other W264 NE19_)
  refine own_leave X264 Bd (none) (fun _ => rfl) g267 (fun fs hr => X264.returnOut hx Bd.returns (hE 113 rfl) hr) (by decide) (by decide) ?_
  rw [e264]
  exact ⟨(1 : Int32), (512 : Int32), (own_PW (ls ++ own_sl xs o1 n1)), rfl, N264, K268, y269, y270, y271, y266, y272, y273, Or.inr ⟨rfl, rfl, rfl⟩⟩
theorem rm_acI (hw : HW a0 Z) (b1 v1 : Addr) (kv : ClassId) (ls : List Int32) (cs : Int32) (fm : Value) (a2 u2 : Addr) (ku : ClassId) (xs : List Int32) (o1 n1 rn : Nat) (h0 : Heap) (n0 : Nat) (O0 : Old Z n0 h0) (E0_ : Exa Z h0 b1 "java/lang/StringBuilder") (F1_ : Fld Z h0 b1 "java/lang/AbstractStringBuilder" "value" "[B" (.ref v1)) (F2_ : Fld Z h0 b1 "java/lang/AbstractStringBuilder" "coder" "B" (.int 0)) (F3_ : Fld Z h0 b1 "java/lang/AbstractStringBuilder" "count" "I" (.int (Int32.ofNat ls.length))) (F4_ : Fld Z h0 b1 "java/lang/AbstractStringBuilder" "maybeLatin1" "Z" (.int 0)) (A5_ : Arv Z h0 v1 kv .byte (256 : Int32) (own_PL ls) (.int 0)) (E6_ : Exa Z h0 a2 "java/lang/String") (F7_ : Fld Z h0 a2 "java/lang/String" "coder" "B" (.int 1)) (F8_ : Fld Z h0 a2 "java/lang/String" "value" "[B" (.ref u2)) (A9_ : Arv Z h0 u2 ku .byte (Int32.ofNat (2 * xs.length)) (own_wb xs) (.int 0)) (hbx : xs.length ≤ 40) (hcx : own_chars xs) (hcap : ls.length ≤ 160) (hon : o1 + n1 ≤ xs.length) (cl : own_chars ls) (ll : own_lat ls) (hrn : rn < n1) (hrw : (255 : Int32) < xs.getD (o1 + rn) 0) (hrl : ∀ i, i < rn → ¬ ((255 : Int32) < xs.getD (o1 + i) 0)) (G19_ : n0 ≤ b1) (G20_ : n0 ≤ v1) (NE21_ : ¬ (v1 = b1)) (NE22_ : ¬ (u2 = v1)) (NE23_ : ¬ (a2 = v1)) (NE24_ : ¬ (a2 = b1)) (NE25_ : ¬ (u2 = b1)) (hW : own_W Z cs fm) :
    own_M l mN56 (Jvm.Cond.code mN56 jdk_68_method_75_code 8 none) [] (⟨6, 1, 512, 89⟩ : Room) #[(.ref b1), (.ref a2), (.int (Int32.ofNat o1)), (.int (Int32.ofNat (o1 + n1)))] Z h0 (fun v h L => ∃ (r : Addr), ∃ (kid : ClassId), v = none ∧ Fr n0 L ∧ Keep h0 h [b1, v1] ∧ (Exa Z h b1 "java/lang/StringBuilder") ∧ (Fld Z h b1 "java/lang/AbstractStringBuilder" "value" "[B" (.ref r)) ∧ (Fld Z h b1 "java/lang/AbstractStringBuilder" "coder" "B" (.int 1)) ∧ (Fld Z h b1 "java/lang/AbstractStringBuilder" "count" "I" (.int (Int32.ofNat (ls ++ own_sl xs o1 n1).length))) ∧ (Fld Z h b1 "java/lang/AbstractStringBuilder" "maybeLatin1" "Z" (.int 0)) ∧ h0.size ≤ r ∧ (Arv Z h r kid .byte (512 : Int32) (own_PW (ls ++ own_sl xs o1 n1)) (.int 0))) := by
  refine own_open n0 (plainFor_of_name pn_4) (fun m => ef_RRII8 m b1 a2 (Int32.ofNat o1) (Int32.ofNat (o1 + n1)) ) ?_
  intro p e s m below meth c s₁ A0 Bd hx hby hml hown hnm hZ hh X0 e0 N0 g0
  obtain ⟨SC_, hcs, SF_, hfm, SU1_, SU2_, SU3_⟩ := id hW
  have hE := own_hd hby E43
  have g101 := jA X0 hx g0 (hE 0 rfl) rfl rfl
  obtain ⟨_, L102, T102, ⟨rfl, M102, e102⟩, X102, st102⟩ := own_callV X0 hx hZ hown (hw _ (mi 87 rfl)) (wd22 hw) (notFace_of_selects (args := #[]) (mvT hZ (hw _ (mi 90 rfl)))) E0_ (rm_al0 hw b1 cs h0 n0 O0 SC_ hcs F2_) g101 e0 [] rfl (lenOf pd_13 rfl) (hE 1 rfl) hml.symm 0 rfl (by decide)
  have N102 := Fr.app N0 M102
  have g103 := jA X102 hx (jN X102 hx st102 (hE 2 rfl) rfl (by decide)) (hE 3 rfl) rfl rfl
  obtain ⟨_, L104, T104, ⟨rfl, M104, e104⟩, X104, st104⟩ := own_callV X102 hx hZ hown (hw _ (mi 223 rfl)) (wd14 hw) (notFace_of_selects (args := #[]) (mvT hZ (hw _ (mi 168 rfl)))) E6_ (rm_isl1 hw a2 cs h0 n0 O0 SC_ hcs F7_) g103 e102 [] rfl (lenOf pd_13 rfl) (hE 4 rfl) hml.symm 0 rfl (by decide)
  have N104 := Fr.app N102 M104
  have g105 := jA X104 hx (jY X104 hx st104 (hE 5 rfl) rfl (by decide) (pc' := 36) (by decide)) (hE 18 rfl) rfl rfl
  obtain ⟨T106, X106, e106, g106⟩ := own_getF X104 hx hZ hown (hw _ (mi 66 rfl)) Via.refl e104 F1_ g105 (hE 19 rfl)
  have g107 := jA X106 hx (js X106 hx (jI X106 hx (jt X106 hx g106 (hE 20 rfl) rfl rfl (l' := #[rv b1, rv a2, iv (Int32.ofNat o1), iv (Int32.ofNat (o1 + n1)), rv v1, .unset, .unset, .unset]) rfl) (hE 21 rfl) rfl) (hE 22 rfl) rfl (l' := #[rv b1, rv a2, iv (Int32.ofNat o1), iv (Int32.ofNat (o1 + n1)), rv v1, iv (Int32.ofNat o1), .unset, .unset]) rfl) (hE 23 rfl) rfl rfl
  obtain ⟨T108, X108, e108, g108⟩ := own_getF X106 hx hZ hown (hw _ (mi 80 rfl)) Via.refl e106 F3_ g107 (hE 24 rfl)
  have g109 := js X108 hx g108 (hE 25 rfl) rfl (l' := #[rv b1, rv a2, iv (Int32.ofNat o1), iv (Int32.ofNat (o1 + n1)), rv v1, iv (Int32.ofNat o1), iv (Int32.ofNat ls.length), .unset]) rfl
  have loop110 : ∀ k : Nat, k ≤ rn → ∃ (T110 : State) (lc110 : List Loc) (h110 : Heap) (sl7 : Slot), Stand p l e (⟨6, 1, 512, 89⟩ : Room) s m #[(.ref b1), (.ref a2), (.int (Int32.ofNat o1)), (.int (Int32.ofNat (o1 + n1)))] below meth c T110 lc110 0 0 ∧ T110.heap = h110 ∧ Keep h0 h110 [v1] ∧ Fr n0 lc110 ∧ One sl7 ∧ (Arv Z h110 v1 kv .byte (256 : Int32) (own_PL (ls ++ own_sl xs o1 k)) (.int 0)) ∧ Go p e below T110 (mkF m 51 #[rv b1, rv a2, iv (Int32.ofNat o1), iv (Int32.ofNat (o1 + n1)), rv v1, iv (Int32.ofNat (o1 + k)), iv (Int32.ofNat (ls.length + k)), sl7] []) A0 := by
    intro k
    induction k with
    | zero =>
      intro _
      exact ⟨_, _, _, .unset, X108, e108, (Keep.refl _ _), N104, One.u, (by rw [own_sl0, List.append_nil]; exact A5_), g109⟩
    | succ k ih =>
      intro hk_k
      obtain ⟨T111, lc111, h111, sl7, X111, e111, K111, N111, One_sl7, y112, g111⟩ := ih (Nat.le_of_succ_le hk_k)
      have O113 := O0.keep K111 (allS G20_ all0)
      have g114 := ji X111 hx (jA X111 hx (jn X111 hx (jI X111 hx (ji X111 hx g111 (hE 26 rfl) rfl) (hE 27 rfl) rfl) (hE 28 rfl) rfl (tlt (own_lt (by omega) (by omega) : (Int32.ofNat (o1 + k)) < (Int32.ofNat (o1 + n1)))).2.1) (hE 29 rfl) rfl rfl) (hE 30 rfl) rfl
      have y116 := (E6_.keep K111)
      have y117 := (F8_.keep K111 (ninS NE23_ nin0))
      have y118 := (F7_.keep K111 (ninS NE23_ nin0))
      have y119 := (A9_.keep K111 (ninS NE22_ nin0))
      obtain ⟨_, L115, T115, ⟨rfl, M115, e115⟩, X115, st115⟩ := own_callV X111 hx hZ hown (hw _ (mi 325 rfl)) (wd44 hw) (notFace_of_selects (args := #[]) (mvT hZ (hw _ (mi 163 rfl)))) y116 (rm_chaG hw a2 u2 ku (1 : Int32) (Int32.ofNat (2 * xs.length)) (own_wb xs) xs cs (o1 + k) fm h111 n0 O113 y117 y118 y116 y119 (Or.inr ⟨rfl, rfl, rfl⟩) (hbx) (by omega) (hcx) hW) g114 e111 [] rfl (lenOf pd_33 rfl) (hE 31 rfl) hml.symm 0 rfl (by decide)
      have N115 := Fr.app N111 M115
      have g120 := ji X115 hx (js X115 hx st115 (hE 32 rfl) rfl (l' := #[rv b1, rv a2, iv (Int32.ofNat o1), iv (Int32.ofNat (o1 + n1)), rv v1, iv (Int32.ofNat (o1 + k)), iv (Int32.ofNat (ls.length + k)), iv (xs.getD (o1 + k) 0)]) (XS.store1 (o := sl7) rfl One_sl7 rfl)) (hE 33 rfl) rfl
      obtain ⟨_, L121, T121, ⟨rfl, M121, e121⟩, X121, st121⟩ := own_callS X115 hx hZ hown (hw _ (mi 92 rfl)) (wd25 hw) (rm_canE hw (xs.getD (o1 + k) 0) h111 n0 O113 (hrl k (by omega))) g120 e115 [] rfl (lenOf pd_19 rfl) (hE 34 rfl) hml.symm 0 rfl (by decide)
      have N121 := Fr.app N115 M121
      have g122 := jx X121 hx (ji X121 hx (jk X121 hx (ji X121 hx (ja X121 hx (jN X121 hx st121 (hE 35 rfl) rfl (by decide)) (hE 36 rfl) rfl rfl) (hE 37 rfl) rfl) (hE 38 rfl) rfl (l' := #[rv b1, rv a2, iv (Int32.ofNat o1), iv (Int32.ofNat (o1 + n1)), rv v1, iv (Int32.ofNat (o1 + k)), iv ((Int32.ofNat (ls.length + k)) + (1 : Int32)), iv (xs.getD (o1 + k) 0)]) rfl) (hE 39 rfl) rfl) (hE 40 rfl) rfl
      have zz123 := y112
      obtain ⟨cl123, Ar123, q123, S123, M123, H123, G123⟩ := zz123
      have in123 : ¬ ((Int32.ofNat (ls.length + k)) < 0 ∨ cl123.slots.size ≤ ((Int32.ofNat (ls.length + k))).toNatClampNeg) := inb_of S123 ⟨own_nonneg (by omega), own_lt (b := 256) (by omega) (by decide)⟩
      let lo124 : Array Slot := #[rv b1, rv a2, iv (Int32.ofNat o1), iv (Int32.ofNat (o1 + n1)), rv v1, iv (Int32.ofNat (o1 + k)), iv ((Int32.ofNat (ls.length + k)) + (1 : Int32)), iv (xs.getD (o1 + k) 0)]
      obtain ⟨T123, h123, X123, e123, W123, st123⟩ := stB X121 hx hZ e121 Ar123 (j := (Int32.ofNat (ls.length + k))) in123 (g := (mkF m 83 lo124 [(.int ((xs.getD (o1 + k) 0).toInt8.toInt32)), (.int (Int32.ofNat (ls.length + k))), (.ref v1)])) rfl rfl (hE 41 rfl)
      rw [show nar .byte ((xs.getD (o1 + k) 0).toInt8.toInt32) = ((xs.getD (o1 + k) 0).toInt8.toInt32) from (own_narb _)] at W123
      have O125 := O113.wr W123 G20_
      have y126 : Arv Z h123 v1 kv .byte (256 : Int32) ((own_PL (ls ++ own_sl xs o1 k)).set (ls.length + k) (.int ((xs.getD (o1 + k) 0).toInt8.toInt32))) (.int 0) := Arv.set Ar123 q123 S123 M123 H123 G123 (own_ft_byte (z := ((xs.getD (o1 + k) 0).toInt8.toInt32)) (own_narb _)) W123 (ls.length + k) (own_clamp (by omega)) (by rw [own_PLlen (by rw [own_lsl (by omega)]; omega)]; omega)
      have N123 := Fr.snoc X123 N121 G20_
      have g127 : Go p e below T123 (mkF m 84 lo124 []) A0 := fun t kont => g122 t (st123 t kont)
      have g128 := jg X123 hx (jk X123 hx (jg X123 hx g127 (hE 42 rfl) (pc' := 136) (by decide)) (hE 73 rfl) rfl (l' := #[rv b1, rv a2, iv (Int32.ofNat o1), iv (Int32.ofNat (o1 + n1)), rv v1, iv ((Int32.ofNat (o1 + k)) + (1 : Int32)), iv ((Int32.ofNat (ls.length + k)) + (1 : Int32)), iv (xs.getD (o1 + k) 0)]) rfl) (hE 74 rfl) (pc' := 51) (by decide)
      have g129 : Go p e below T123 (mkF m 51 #[rv b1, rv a2, iv (Int32.ofNat o1), iv (Int32.ofNat (o1 + n1)), rv v1, iv (Int32.ofNat (o1 + (k + 1))), iv (Int32.ofNat (ls.length + (k + 1))), iv (xs.getD (o1 + k) 0)] []) A0 := by rw [← Nat.add_assoc o1 k 1, ← Nat.add_assoc ls.length k 1, ← own_succ (o1 + k), ← own_succ (ls.length + k)]; exact g128
      exact ⟨_, _, _, (iv (xs.getD (o1 + k) 0)), X123, e123, (((Keep.refl h0 [v1]).trans K111 (allS (P := fun x => x ∈ [v1] ∨ h0.size ≤ x) (Or.inl (mi 0 rfl)) all0)).wr W123 (Or.inl (mi 0 rfl))), N123, (One.val rfl), (by have q := y126; rw [own_PLsl (by omega) (by omega)] at q; exact q), g129⟩
  obtain ⟨T130, lc130, h130, sl7, X130, e130, K130, N130, One_sl7, y131, g130⟩ := loop110 rn (Nat.le_refl _)
  have O132 := O0.keep K130 (allS G20_ all0)
  have g133 := ji X130 hx (jA X130 hx (jn X130 hx (jI X130 hx (ji X130 hx g130 (hE 26 rfl) rfl) (hE 27 rfl) rfl) (hE 28 rfl) rfl (tlt (own_lt (by omega) (by omega) : (Int32.ofNat (o1 + rn)) < (Int32.ofNat (o1 + n1)))).2.1) (hE 29 rfl) rfl rfl) (hE 30 rfl) rfl
  have y135 := (E6_.keep K130)
  have y136 := (F8_.keep K130 (ninS NE23_ nin0))
  have y137 := (F7_.keep K130 (ninS NE23_ nin0))
  have y138 := (A9_.keep K130 (ninS NE22_ nin0))
  obtain ⟨_, L134, T134, ⟨rfl, M134, e134⟩, X134, st134⟩ := own_callV X130 hx hZ hown (hw _ (mi 325 rfl)) (wd44 hw) (notFace_of_selects (args := #[]) (mvT hZ (hw _ (mi 163 rfl)))) y135 (rm_chaG hw a2 u2 ku (1 : Int32) (Int32.ofNat (2 * xs.length)) (own_wb xs) xs cs (o1 + rn) fm h130 n0 O132 y136 y137 y135 y138 (Or.inr ⟨rfl, rfl, rfl⟩) (hbx) (by omega) (hcx) hW) g133 e130 [] rfl (lenOf pd_33 rfl) (hE 31 rfl) hml.symm 0 rfl (by decide)
  have N134 := Fr.app N130 M134
  have g139 := ji X134 hx (js X134 hx st134 (hE 32 rfl) rfl (l' := #[rv b1, rv a2, iv (Int32.ofNat o1), iv (Int32.ofNat (o1 + n1)), rv v1, iv (Int32.ofNat (o1 + rn)), iv (Int32.ofNat (ls.length + rn)), iv (xs.getD (o1 + rn) 0)]) (XS.store1 (o := sl7) rfl One_sl7 rfl)) (hE 33 rfl) rfl
  obtain ⟨_, L140, T140, ⟨rfl, M140, e140⟩, X140, st140⟩ := own_callS X134 hx hZ hown (hw _ (mi 92 rfl)) (wd25 hw) (rm_canW hw (xs.getD (o1 + rn) 0) h130 n0 O132 ((hcx (o1 + rn) (by omega)).1) (hrw)) g139 e134 [] rfl (lenOf pd_19 rfl) (hE 34 rfl) hml.symm 0 rfl (by decide)
  have N140 := Fr.app N134 M140
  have g141 := ji X140 hx (jA X140 hx (jY X140 hx st140 (hE 35 rfl) rfl (by decide) (pc' := 87) (by decide)) (hE 43 rfl) rfl rfl) (hE 44 rfl) rfl
  have g142 : Go p e below T140 (mkF m 90 #[rv b1, rv a2, iv (Int32.ofNat o1), iv (Int32.ofNat (o1 + n1)), rv v1, iv (Int32.ofNat (o1 + rn)), iv (Int32.ofNat (ls ++ own_sl xs o1 rn).length), iv (xs.getD (o1 + rn) 0)] [(.int (Int32.ofNat (ls ++ own_sl xs o1 rn).length)), (.ref b1)]) A0 := by have z : Go p e below T140 (mkF m 90 #[rv b1, rv a2, iv (Int32.ofNat o1), iv (Int32.ofNat (o1 + n1)), rv v1, iv (Int32.ofNat (o1 + rn)), iv (Int32.ofNat (ls.length + rn)), iv (xs.getD (o1 + rn) 0)] [(.int (Int32.ofNat (ls.length + rn))), (.ref b1)]) A0 := g141; rw [own_lslI (ls := ls) (xs := xs) (o := o1) (n := rn) (by omega)] at z; exact z
  have y143 := (E0_.keep K130)
  have y144 := (F3_.keep K130 (ninS (Ne.symm NE21_) nin0))
  let lo146 : Array Slot := #[rv b1, rv a2, iv (Int32.ofNat o1), iv (Int32.ofNat (o1 + n1)), rv v1, iv (Int32.ofNat (o1 + rn)), iv (Int32.ofNat (ls ++ own_sl xs o1 rn).length), iv (xs.getD (o1 + rn) 0)]
  obtain ⟨T145, h145, X145, e145, W145, st145⟩ := putF X140 hx hZ hown (host := "") (Or.inl (hw _ (mi 80 rfl))) Via.refl e140 y144 y143 (Or.inl (hw _ (mi 81 rfl))) (hw _ (mi 53 rfl)) (ty := .int) (by decide) rfl rfl (g := (mkF m 90 lo146 [(.int (Int32.ofNat (ls ++ own_sl xs o1 rn).length)), (.ref b1)])) rfl rfl (hE 45 rfl)
  have O147 := O132.wr W145 G19_
  have y148 : Fld Z h145 b1 "java/lang/AbstractStringBuilder" "count" "I" (.int (Int32.ofNat (ls ++ own_sl xs o1 rn).length)) := y144.same W145
  have N145 := Fr.snoc X145 N140 G19_
  have g149 : Go p e below T145 (mkF m 93 lo146 []) A0 := fun t kont => g142 t (st145 t kont)
  have g150 := jA X145 hx g149 (hE 46 rfl) rfl rfl
  have y152 := (y143.wr W145)
  have y153 := ((F1_.keep K130 (ninS (Ne.symm NE21_) nin0)).other W145 (Or.inr (slot_ne (Or.inl (hw _ (mi 67 rfl))) (Or.inl (hw _ (mi 81 rfl))) (by decide) (t := (.array .byte)) (t' := .int) (by decide) (by decide))))
  have y154 := ((F2_.keep K130 (ninS (Ne.symm NE21_) nin0)).other W145 (Or.inr (slot_ne (Or.inl (hw _ (mi 69 rfl))) (Or.inl (hw _ (mi 81 rfl))) (by decide) (t := .byte) (t' := .int) (by decide) (by decide))))
  have y155 := ((F4_.keep K130 (ninS (Ne.symm NE21_) nin0)).other W145 (Or.inr (slot_ne (Or.inl (hw _ (mi 365 rfl))) (Or.inl (hw _ (mi 81 rfl))) (by decide) (t := .boolean) (t' := .int) (by decide) (by decide))))
  have y156 := (y131.other W145 NE21_)
  obtain ⟨_, L151, T151, ⟨r157, r158, rfl, M151, K151, y159, y160, y161, y162, y163, y164, y165⟩, X151, st151⟩ := own_callP X145 hx hZ hown (hw _ (mi 326 rfl)) (wd35 hw) y152 (rm_aInf hw b1 v1 kv (ls ++ own_sl xs o1 rn) cs fm h145 n0 O147 y152 y153 y154 y148 y155 y156 G19_ G20_ NE21_ (by rw [own_lsl (by omega)]; omega) (own_chars_app cl (own_sl_chars hcx (by omega))) (own_lat_app ll (own_sl_latN (by omega) hrl)) hW) g150 e145 [] rfl (lenOf pd_27 rfl) (hE 47 rfl) hml.symm 0 rfl (by decide)
  have N151 := Fr.app N145 M151
  have O166 := O147.keep K151 (allS G19_ all0)
  have g167 := jA X151 hx st151 (hE 48 rfl) rfl rfl
  have y169 := ((y135.wr W145).keep K151)
  have y170 := ((y136.other W145 (Or.inl NE24_)).keep K151 (ninS NE24_ nin0))
  obtain ⟨_, L168, T168, ⟨rfl, M168, e168⟩, X168, st168⟩ := own_callV X151 hx hZ hown (hw _ (mi 224 rfl)) (wd43 hw) (notFace_of_selects (args := #[]) (mvT hZ (hw _ (mi 227 rfl)))) y169 (rm_sval hw a2 u2 T151.heap n0 O166 y170) g167 rfl [] rfl (lenOf pd_24 rfl) (hE 49 rfl) hml.symm 0 rfl (by decide)
  have N168 := Fr.app N151 M168
  have g171 := jL X168 hx (jc X168 hx (ji X168 hx st168 (hE 50 rfl) rfl) (hE 51 rfl) 1 rfl) (hE 52 rfl) rfl
  have g172 := own_rwS g171 (own_dbl (n := o1 + rn) (by omega) : ((Int32.ofNat (o1 + rn)) <<< ((1 : Int32) &&& 31)) = (Int32.ofNat (2 * (o1 + rn))))
  have g173 := jA X168 hx g172 (hE 53 rfl) rfl rfl
  obtain ⟨T174, X174, e174, g174⟩ := own_getF X168 hx hZ hown (hw _ (mi 66 rfl)) Via.refl e168 y160 g173 (hE 54 rfl)
  have g175 := jL X174 hx (jc X174 hx (ji X174 hx g174 (hE 55 rfl) rfl) (hE 56 rfl) 1 rfl) (hE 57 rfl) rfl
  have g176 := own_rwS g175 (own_dbl (n := (ls ++ own_sl xs o1 rn).length) (by rw [own_lsl (by omega)]; omega) : ((Int32.ofNat (ls ++ own_sl xs o1 rn).length) <<< ((1 : Int32) &&& 31)) = (Int32.ofNat (2 * (ls ++ own_sl xs o1 rn).length)))
  have g177 := jM X174 hx (ji X174 hx (jI X174 hx g176 (hE 58 rfl) rfl) (hE 59 rfl) rfl) (hE 60 rfl) rfl
  have g178 := own_rwS g177 (own_subor (o := o1) (n := n1) (r := rn) (by omega) (by omega) : ((Int32.ofNat (o1 + n1)) - (Int32.ofNat (o1 + rn))) = (Int32.ofNat (n1 - rn)))
  have g179 := jL X174 hx (jc X174 hx g178 (hE 61 rfl) 1 rfl) (hE 62 rfl) rfl
  have g180 := own_rwS g179 (own_dbl (n := n1 - rn) (by omega) : ((Int32.ofNat (n1 - rn)) <<< ((1 : Int32) &&& 31)) = (Int32.ofNat (2 * (n1 - rn))))
  have y182 := ((y138.other W145 NE25_).keep K151 (ninS NE25_ nin0))
  have ge183 : n0 ≤ r157 := Nat.le_trans (own_old_le O147) y164
  obtain ⟨T181, h181, L181, X181, e181, N181, K181, y181, st181⟩ := cpA X174 hx hZ hown (hw _ (mi 229 rfl)) (hw _ (mi 145 rfl)) (hw _ (mi 143 rfl)) (hw _ (mi 144 rfl)) e174 y182 y165 (Or.inl ⟨rfl, rfl⟩) (sp := (Int32.ofNat (2 * (o1 + rn)))) (dp := (Int32.ofNat (2 * (ls ++ own_sl xs o1 rn).length))) (nn := (Int32.ofNat (2 * (n1 - rn)))) (own_nonneg (by omega)) (own_nonneg (by have q1 := own_lsl (ls := ls) (xs := xs) (o := o1) (n := rn) (by omega); omega)) (own_nonneg (by omega)) (by rw [own_clamp (by omega), own_clamp (by omega), own_clamp (by omega)]; omega) (by have q1 := own_lsl (ls := ls) (xs := xs) (o := o1) (n := rn) (by omega); rw [own_clamp (by omega), own_clamp (by omega)]; show _ ≤ 512; omega) rfl (by have q1 := own_lsl (ls := ls) (xs := xs) (o := o1) (n := rn) (by omega); rw [own_clamp (by omega), own_clamp (by omega), own_PWlen (by omega)]; omega) N168 ge183 (g := (mkF m 119 lo146 [(.int (Int32.ofNat (2 * (n1 - rn)))), (.int (Int32.ofNat (2 * (ls ++ own_sl xs o1 rn).length))), (.ref r157), (.int (Int32.ofNat (2 * (o1 + rn)))), (.ref u2)])) rfl (by rw [hml]; rfl) (rest := []) rfl (hE 63 rfl) (by decide) (W := 0) (by show 2 * 0 + _ ≤ _; exact Nat.le_of_eq rfl) (by decide)
  have O184 := O166.keep K181 (allS ge183 all0)
  have y185 : Arv Z h181 r157 r158 .byte (512 : Int32) (own_PW (ls ++ own_sl xs o1 n1)) (.int 0) := by have q := y181; rw [own_clamp (show 2 * (ls ++ own_sl xs o1 rn).length < 2147483648 by have q1 := own_lsl (ls := ls) (xs := xs) (o := o1) (n := rn) (by omega); omega), own_clamp (show 2 * (n1 - rn) < 2147483648 by omega), own_clamp (show 2 * (o1 + rn) < 2147483648 by omega), own_cpWr (by omega) hon (by omega)] at q; exact q
  have g186 : Go p e below T181 (mkF m 122 lo146 []) A0 := fun t kont => g180 t (st181 t kont)
  have g187 := jd X181 hx (jA X181 hx g186 (hE 64 rfl) rfl rfl) (hE 65 rfl) rfl rfl
  have y188 := (y162.keep K181 (ninS (Nat.ne_of_lt (Nat.lt_of_lt_of_le (Nat.lt_of_lt_of_le E0_.lt (Nat.le_trans K130.1 (Keep.of_wr W145).1)) y164)) nin0))
  obtain ⟨T189, X189, e189, g189⟩ := own_getF X181 hx hZ hown (hw _ (mi 80 rfl)) Via.refl e181 y188 g187 (hE 66 rfl)
  have g190 := jM X189 hx (ji X189 hx (jI X189 hx g189 (hE 67 rfl) rfl) (hE 68 rfl) rfl) (hE 69 rfl) rfl
  have g191 := own_rwS g190 (own_subor (o := o1) (n := n1) (r := rn) (by omega) (by omega) : ((Int32.ofNat (o1 + n1)) - (Int32.ofNat (o1 + rn))) = (Int32.ofNat (n1 - rn)))
  have g192 := jP X189 hx g191 (hE 70 rfl) rfl
  have g193 := own_rwS g192 (own_cntr (ls := ls) (xs := xs) (o := o1) (n := n1) (r := rn) (by omega) hon : ((Int32.ofNat (ls ++ own_sl xs o1 rn).length) + (Int32.ofNat (n1 - rn))) = (Int32.ofNat (ls ++ own_sl xs o1 n1).length))
  have y194 := (y159.keep K181)
  obtain ⟨T195, h195, X195, e195, W195, st195⟩ := putF X189 hx hZ hown (host := "") (Or.inl (hw _ (mi 80 rfl))) Via.refl e189 y188 y194 (Or.inl (hw _ (mi 81 rfl))) (hw _ (mi 53 rfl)) (ty := .int) (by decide) rfl rfl (g := (mkF m 132 lo146 [(.int (Int32.ofNat (ls ++ own_sl xs o1 n1).length)), (.ref b1)])) rfl rfl (hE 71 rfl)
  have O196 := O184.wr W195 G19_
  have y197 : Fld Z h195 b1 "java/lang/AbstractStringBuilder" "count" "I" (.int (Int32.ofNat (ls ++ own_sl xs o1 n1).length)) := y188.same W195
  have N195 := Fr.snoc X195 N181 G19_
  have g198 : Go p e below T195 (mkF m 135 lo146 []) A0 := fun t kont => g193 t (st195 t kont)
  have K199 : Keep h0 h195 [b1, v1] := ((((((Keep.refl h0 [b1, v1]).trans K130 (allS (P := fun x => x ∈ [b1, v1] ∨ h0.size ≤ x) (Or.inl (mi 1 rfl)) all0)).wr W145 (Or.inl (mi 0 rfl))).trans K151 (allS (P := fun x => x ∈ [b1, v1] ∨ h0.size ≤ x) (Or.inl (mi 0 rfl)) all0)).trans K181 (allS (P := fun x => x ∈ [b1, v1] ∨ h0.size ≤ x) (Or.inr (Nat.le_trans (Nat.le_trans K130.1 (Keep.of_wr W145).1) y164)) all0)).wr W195 (Or.inl (mi 0 rfl)))
  have y200 := (y194.wr W195)
  have y201 := ((y160.keep K181 (ninS (Nat.ne_of_lt (Nat.lt_of_lt_of_le (Nat.lt_of_lt_of_le E0_.lt (Nat.le_trans K130.1 (Keep.of_wr W145).1)) y164)) nin0)).other W195 (Or.inr (slot_ne (Or.inl (hw _ (mi 67 rfl))) (Or.inl (hw _ (mi 81 rfl))) (by decide) (t := (.array .byte)) (t' := .int) (by decide) (by decide))))
  have y202 := ((y161.keep K181 (ninS (Nat.ne_of_lt (Nat.lt_of_lt_of_le (Nat.lt_of_lt_of_le E0_.lt (Nat.le_trans K130.1 (Keep.of_wr W145).1)) y164)) nin0)).other W195 (Or.inr (slot_ne (Or.inl (hw _ (mi 69 rfl))) (Or.inl (hw _ (mi 81 rfl))) (by decide) (t := .byte) (t' := .int) (by decide) (by decide))))
  have y203 := ((y163.keep K181 (ninS (Nat.ne_of_lt (Nat.lt_of_lt_of_le (Nat.lt_of_lt_of_le E0_.lt (Nat.le_trans K130.1 (Keep.of_wr W145).1)) y164)) nin0)).other W195 (Or.inr (slot_ne (Or.inl (hw _ (mi 365 rfl))) (Or.inl (hw _ (mi 81 rfl))) (by decide) (t := .boolean) (t' := .int) (by decide) (by decide))))
  have y204 := (y185.other W195 (Ne.symm (Nat.ne_of_lt (Nat.lt_of_lt_of_le (Nat.lt_of_lt_of_le E0_.lt (Nat.le_trans K130.1 (Keep.of_wr W145).1)) y164))))
  refine own_leave X195 Bd (none) (fun _ => rfl) g198 (fun fs hr => X195.returnOut hx Bd.returns (hE 72 rfl) hr) (by decide) (by decide) ?_
  rw [e195]
  exact ⟨r157, r158, rfl, N195, K199, y200, y201, y202, y197, y203, (Nat.le_trans (Nat.le_trans K130.1 (Keep.of_wr W145).1) y164), y204⟩
theorem pd_35 : parseMethodDescriptor "(Ljava/lang/String;II)V" = some ⟨[(.object "java/lang/String"), .int, .int], none⟩ := by decide +kernel
theorem wd46 (hw : HW a0 Z) : own_wdP a0 Z mN56 jdk_68_method_75_code 8 none := ⟨hw _ (mi 219 rfl), (own_selP (hw _ (mi 221 rfl)) (hw _ (mi 220 rfl)) (hw _ (mi 219 rfl)) (by decide)), hw _ (mi 220 rfl), hw _ (mi 62 rfl), hw _ (mi 222 rfl), by decide⟩
theorem ef_RRII5 (m : MethodId) (x0 : Addr) (x1 : Addr) (x2 : Int32) (x3 : Int32)  : entryFrame m #[(.ref x0), (.ref x1), (.int x2), (.int x3)] 5 = mkF m 0 #[.val (.ref x0), .val (.ref x1), .val (.int x2), .val (.int x3), .unset] [] := by first | (simp [entryFrame, mkF, argsToLocals, Value.category]; done) | rfl
theorem rm_aaK (hw : HW a0 Z) (b1 v1 : Addr) (kv : ClassId) (ls : List Int32) (cd z1 : Int32) (vs : List Value) (cs : Int32) (fm : Value) (a2 u2 : Addr) (ku : ClassId) (xs : List Int32) (cx zx : Int32) (ux : List Value) (o1 n1 : Nat) (fi : Value) (h0 : Heap) (n0 : Nat) (O0 : Old Z n0 h0) (E0_ : Exa Z h0 b1 "java/lang/StringBuilder") (F1_ : Fld Z h0 b1 "java/lang/AbstractStringBuilder" "value" "[B" (.ref v1)) (F2_ : Fld Z h0 b1 "java/lang/AbstractStringBuilder" "coder" "B" (.int cd)) (F3_ : Fld Z h0 b1 "java/lang/AbstractStringBuilder" "count" "I" (.int (Int32.ofNat ls.length))) (F4_ : Fld Z h0 b1 "java/lang/AbstractStringBuilder" "maybeLatin1" "Z" (.int 0)) (A5_ : Arv Z h0 v1 kv .byte z1 vs (.int 0)) (hsb : own_sb ls cd z1 vs) (E7_ : Exa Z h0 a2 "java/lang/String") (F8_ : Fld Z h0 a2 "java/lang/String" "coder" "B" (.int cx)) (F9_ : Fld Z h0 a2 "java/lang/String" "value" "[B" (.ref u2)) (A10_ : Arv Z h0 u2 ku .byte zx ux (.int 0)) (hbx : xs.length ≤ 40) (hcx : own_chars xs) (hcap : ls.length ≤ 160) (hon : o1 + n1 ≤ xs.length) (hcod : own_cod xs cx zx ux) (hkp : cd = (1 : Int32) ∨ own_lat (own_sl xs o1 n1)) (G17_ : n0 ≤ b1) (G18_ : n0 ≤ v1) (NE19_ : ¬ (v1 = b1)) (NE20_ : ¬ (u2 = v1)) (NE21_ : ¬ (a2 = v1)) (NE22_ : ¬ (a2 = b1)) (NE23_ : ¬ (u2 = b1)) (S24_ : Sta Z Z.heap "jdk/internal/util/Preconditions" "IOOBE_FORMATTER" "Ljava/util/function/BiFunction;" fi) (hfi : fi.isRef = true) (hW : own_W Z cs fm) :
    own_M l mN57 (Jvm.Cond.code mN57 jdk_68_method_27_code 5 (some (.object "java/lang/AbstractStringBuilder"))) [] (⟨7, 0, 0, 104⟩ : Room) #[(.ref b1), (.ref a2), (.int (Int32.ofNat o1)), (.int (Int32.ofNat (o1 + n1)))] Z h0 (fun v h L => ∃ (cd2 : Int32), ∃ (z2 : Int32), ∃ (vs2 : List Value), v = some (.ref b1) ∧ Fr n0 L ∧ Keep h0 h [b1, v1] ∧ (Exa Z h b1 "java/lang/StringBuilder") ∧ (Fld Z h b1 "java/lang/AbstractStringBuilder" "value" "[B" (.ref v1)) ∧ (Fld Z h b1 "java/lang/AbstractStringBuilder" "coder" "B" (.int cd2)) ∧ (Fld Z h b1 "java/lang/AbstractStringBuilder" "count" "I" (.int (Int32.ofNat (ls ++ own_sl xs o1 n1).length))) ∧ (Fld Z h b1 "java/lang/AbstractStringBuilder" "maybeLatin1" "Z" (.int 0)) ∧ (Arv Z h v1 kv .byte z2 vs2 (.int 0)) ∧ (own_sb (ls ++ own_sl xs o1 n1) cd2 z2 vs2)) := by
  refine own_open n0 (plainFor_of_name pn_4) (fun m => ef_RRII5 m b1 a2 (Int32.ofNat o1) (Int32.ofNat (o1 + n1)) ) ?_
  intro p e s m below meth c s₁ A0 Bd hx hby hml hown hnm hZ hh X0 e0 N0 g0
  obtain ⟨SC_, hcs, SF_, hfm, SU1_, SU2_, SU3_⟩ := id hW
  have hE := own_hd hby E41
  have g101 := jA X0 hx (jI X0 hx (jI X0 hx (show Go p e below s₁ (mkF m 7 #[rv b1, rv a2, iv (Int32.ofNat o1), iv (Int32.ofNat (o1 + n1)), .unset] []) A0 from fun t kt => (jA X0 hx g0 (hE 0 rfl) rfl rfl) t (by refine XS.ifnonnullYes X0.here hx rfl (pc0 := 1) (pc' := 7) rfl (hE 1 rfl) rfl (by decide) (by decide) ?_; exact kt)) (hE 2 rfl) rfl) (hE 3 rfl) rfl) (hE 4 rfl) rfl rfl
  obtain ⟨_, L102, T102, ⟨rfl, M102, e102⟩, X102, st102⟩ := own_callF X0 hx hZ hown (hw _ (mi 205 rfl)) (hw _ (mi 206 rfl)) (mvT hZ (hw _ (mi 207 rfl))) (hw _ (mi 208 rfl)) (hw _ (mi 148 rfl)) (hw _ (mi 209 rfl)) (hw _ (mi 210 rfl)) (hw _ (mi 211 rfl)) (hw _ (mi 3 rfl)) (hw _ (mi 150 rfl)) (by decide) E7_ (rm_lenG hw a2 u2 ku cx zx ux xs cs h0 n0 O0 SC_ hcs F9_ F8_ E7_ A10_ (hcod) (hbx)) g101 e0 [(.int (Int32.ofNat (o1 + n1))), (.int (Int32.ofNat o1))] rfl (lenOf pd_23 rfl) (hE 5 rfl) hml.symm 2 rfl (by decide)
  have N102 := Fr.app N0 M102
  have y103 := S24_.ext O0.2
  obtain ⟨T104, X104, e104, g104⟩ := own_getS X102 hx hZ hown (hw _ (mi 212 rfl)) Via.refl e102 y103 st102 (hE 6 rfl)
  obtain ⟨_, L105, T105, ⟨rfl, M105, e105⟩, X105, st105⟩ := own_callS X104 hx hZ hown (hw _ (mi 214 rfl)) (wd40 hw) (rm_cfti hw o1 (o1 + n1) xs.length fi h0 n0 O0 hfi (by omega) (hon) (by omega)) g104 e104 [] rfl (lenOf pd_15 rfl) (hE 7 rfl) hml.symm 0 rfl (by decide)
  have N105 := Fr.app N102 M105
  have g106 := jM X105 hx (jI X105 hx (jI X105 hx (jo X105 hx st105 (hE 8 rfl) rfl rfl) (hE 9 rfl) rfl) (hE 10 rfl) rfl) (hE 11 rfl) rfl
  have g107 := own_rwS g106 (own_subo (o := o1) (n := n1) (by omega) : ((Int32.ofNat (o1 + n1)) - (Int32.ofNat o1)) = (Int32.ofNat n1))
  have g108 := jA X105 hx (jA X105 hx (js X105 hx g107 (hE 12 rfl) rfl (l' := #[rv b1, rv a2, iv (Int32.ofNat o1), iv (Int32.ofNat (o1 + n1)), iv (Int32.ofNat n1)]) rfl) (hE 13 rfl) rfl rfl) (hE 14 rfl) rfl rfl
  obtain ⟨T109, X109, e109, g109⟩ := own_getF X105 hx hZ hown (hw _ (mi 80 rfl)) Via.refl e105 F3_ g108 (hE 15 rfl)
  have g110 := jP X109 hx (ji X109 hx g109 (hE 16 rfl) rfl) (hE 17 rfl) rfl
  have g111 := own_rwS g110 (own_addn ls.length n1 : ((Int32.ofNat ls.length) + (Int32.ofNat n1)) = (Int32.ofNat (ls.length + n1)))
  obtain ⟨_, L112, T112, ⟨rfl, M112, e112⟩, X112, st112⟩ := own_callP X109 hx hZ hown (hw _ (mi 82 rfl)) (wd24 hw) E0_ (rm_ensN hw b1 (ls.length + n1) v1 kv cd z1 vs h0 n0 O0 F1_ F2_ A5_ (own_sbc hsb) (by omega)) g111 e109 [] rfl (lenOf pd_14 rfl) (hE 18 rfl) hml.symm 0 rfl (by decide)
  have N112 := Fr.app N105 M112
  have g113 := jA X112 hx st112 (hE 19 rfl) rfl rfl
  let lo115 : Array Slot := #[rv b1, rv a2, iv (Int32.ofNat o1), iv (Int32.ofNat (o1 + n1)), iv (Int32.ofNat n1)]
  obtain ⟨T114, X114, e114, st114⟩ := instY X112 hx hZ hown (hw _ (mi 217 rfl)) e112 (Ins.self E7_) (g := (mkF m 39 lo115 [(.ref a2)])) rfl rfl (hE 20 rfl)
  have g116 : Go p e below T114 (mkF m 42 lo115 [(.int 1)]) A0 := fun t kont => g113 t (st114 t kont)
  have g117 := jA X114 hx (jA X114 hx (jN X114 hx g116 (hE 21 rfl) rfl (by decide)) (hE 22 rfl) rfl rfl) (hE 23 rfl) rfl rfl
  obtain ⟨T118, X118, e118, st118⟩ := castY X114 hx hZ hown (hw _ (mi 217 rfl)) e114 (Ins.self E7_) (g := (mkF m 47 lo115 [(.ref a2), (.ref b1)])) rfl rfl (hE 24 rfl)
  have g119 : Go p e below T118 (mkF m 50 lo115 [(.ref a2), (.ref b1)]) A0 := fun t kont => g117 t (st118 t kont)
  have g120 := jI X118 hx (jI X118 hx g119 (hE 25 rfl) rfl) (hE 26 rfl) rfl
  obtain ⟨_, L121, T121, ⟨r122, r123, r124, rfl, M121, K121, y125, y126, y127, y128, y129, y130, y131⟩, X121, st121⟩ := own_callP X118 hx hZ hown (hw _ (mi 218 rfl)) (wd46 hw) E0_ (rm_acK hw b1 v1 kv ls cd z1 vs cs fm a2 u2 ku xs cx zx ux o1 n1 h0 n0 O0 E0_ F1_ F2_ F3_ F4_ A5_ hsb E7_ F8_ F9_ A10_ hbx hcx hcap hon hcod hkp G17_ G18_ NE19_ NE20_ NE21_ NE22_ NE23_ hW) g120 e118 [] rfl (lenOf pd_35 rfl) (hE 27 rfl) hml.symm 0 rfl (by decide)
  have N121 := Fr.app N112 M121
  have O132 := O0.keep K121 (allS G17_ (allS G18_ all0))
  have g133 := jA X121 hx (jg X121 hx st121 (hE 28 rfl) (pc' := 65) (by decide)) (hE 29 rfl) rfl rfl
  have K134 : Keep h0 T121.heap [b1, v1] := ((Keep.refl h0 [b1, v1]).trans K121 (allS (P := fun x => x ∈ [b1, v1] ∨ h0.size ≤ x) (Or.inl (mi 0 rfl)) (allS (P := fun x => x ∈ [b1, v1] ∨ h0.size ≤ x) (Or.inl (mi 1 rfl)) all0)))
  refine own_leave X121 Bd (some (.ref b1)) nofun g133 (fun fs hr => retOut X121 hx Bd.returns rfl (Or.inr (Or.inr (Or.inr (Or.inr ⟨rfl, rfl, rfl⟩)))) (hE 30 rfl) hr) (by decide) (by decide) ?_
  exact ⟨r122, r123, r124, rfl, N121, K134, y125, y126, y127, y128, y129, y130, y131⟩
theorem pd_36 : parseMethodDescriptor "(Ljava/lang/CharSequence;II)Ljava/lang/AbstractStringBuilder;" = some ⟨[(.object "java/lang/CharSequence"), .int, .int], some (.object "java/lang/AbstractStringBuilder")⟩ := by decide +kernel
theorem rm_saK (hw : HW a0 Z) (b1 v1 : Addr) (kv : ClassId) (ls : List Int32) (cd z1 : Int32) (vs : List Value) (cs : Int32) (fm : Value) (a2 u2 : Addr) (ku : ClassId) (xs : List Int32) (cx zx : Int32) (ux : List Value) (o1 n1 : Nat) (fi : Value) (e1 : Int32) (h0 : Heap) (n0 : Nat) (O0 : Old Z n0 h0) (E0_ : Exa Z h0 b1 "java/lang/StringBuilder") (F1_ : Fld Z h0 b1 "java/lang/AbstractStringBuilder" "value" "[B" (.ref v1)) (F2_ : Fld Z h0 b1 "java/lang/AbstractStringBuilder" "coder" "B" (.int cd)) (F3_ : Fld Z h0 b1 "java/lang/AbstractStringBuilder" "count" "I" (.int (Int32.ofNat ls.length))) (F4_ : Fld Z h0 b1 "java/lang/AbstractStringBuilder" "maybeLatin1" "Z" (.int 0)) (A5_ : Arv Z h0 v1 kv .byte z1 vs (.int 0)) (hsb : own_sb ls cd z1 vs) (E7_ : Exa Z h0 a2 "java/lang/String") (F8_ : Fld Z h0 a2 "java/lang/String" "coder" "B" (.int cx)) (F9_ : Fld Z h0 a2 "java/lang/String" "value" "[B" (.ref u2)) (A10_ : Arv Z h0 u2 ku .byte zx ux (.int 0)) (hbx : xs.length ≤ 40) (hcx : own_chars xs) (hcap : ls.length ≤ 160) (hon : o1 + n1 ≤ xs.length) (hcod : own_cod xs cx zx ux) (hkp : cd = (1 : Int32) ∨ own_lat (own_sl xs o1 n1)) (G17_ : n0 ≤ b1) (G18_ : n0 ≤ v1) (NE19_ : ¬ (v1 = b1)) (NE20_ : ¬ (u2 = v1)) (NE21_ : ¬ (a2 = v1)) (NE22_ : ¬ (a2 = b1)) (NE23_ : ¬ (u2 = b1)) (S24_ : Sta Z Z.heap "jdk/internal/util/Preconditions" "IOOBE_FORMATTER" "Ljava/util/function/BiFunction;" fi) (hfi : fi.isRef = true) (he : e1 = Int32.ofNat (o1 + n1)) (hW : own_W Z cs fm) :
    own_M l mN58 (Jvm.Cond.code mN58 jdk_67_method_10_code 4 (some (.object "java/lang/StringBuilder"))) [] (⟨8, 0, 0, 120⟩ : Room) #[(.ref b1), (.ref a2), (.int (Int32.ofNat o1)), (.int e1)] Z h0 (fun v h L => ∃ (cd2 : Int32), ∃ (z2 : Int32), ∃ (vs2 : List Value), v = some (.ref b1) ∧ Fr n0 L ∧ Keep h0 h [b1, v1] ∧ (Exa Z h b1 "java/lang/StringBuilder") ∧ (Fld Z h b1 "java/lang/AbstractStringBuilder" "value" "[B" (.ref v1)) ∧ (Fld Z h b1 "java/lang/AbstractStringBuilder" "coder" "B" (.int cd2)) ∧ (Fld Z h b1 "java/lang/AbstractStringBuilder" "count" "I" (.int (Int32.ofNat (ls ++ own_sl xs o1 n1).length))) ∧ (Fld Z h b1 "java/lang/AbstractStringBuilder" "maybeLatin1" "Z" (.int 0)) ∧ (Arv Z h v1 kv .byte z2 vs2 (.int 0)) ∧ (own_sb (ls ++ own_sl xs o1 n1) cd2 z2 vs2)) := by
  refine own_open n0 (plainFor_of_name pn_5) (fun m => ef_RRII4 m b1 a2 (Int32.ofNat o1) e1 ) ?_
  intro p e s m below meth c s₁ A0 Bd hx hby hml hown hnm hZ hh X0 e0 N0 g0
  obtain ⟨SC_, hcs, SF_, hfm, SU1_, SU2_, SU3_⟩ := id hW
  have hE := own_hd hby E40
  have g101 : Go p e below s₁ (mkF m 0 #[rv b1, rv a2, iv (Int32.ofNat o1), iv (Int32.ofNat (o1 + n1))] []) A0 := by have z : Go p e below s₁ (mkF m 0 #[rv b1, rv a2, iv (Int32.ofNat o1), iv e1] []) A0 := g0; rw [he] at z; exact z
  have g102 := jI X0 hx (jI X0 hx (jA X0 hx (jA X0 hx g101 (hE 0 rfl) rfl rfl) (hE 1 rfl) rfl rfl) (hE 2 rfl) rfl) (hE 3 rfl) rfl
  obtain ⟨_, L103, T103, ⟨r104, r105, r106, rfl, M103, K103, y107, y108, y109, y110, y111, y112, y113⟩, X103, st103⟩ := own_callU X0 hx hZ hown (hw _ (mi 201 rfl)) (own_same (y := mN57) (hw _ (mi 85 rfl)) rfl (hw _ (mi 202 rfl)) (by decide)) (hw _ (mi 202 rfl)) (hw _ (mi 77 rfl)) (hw _ (mi 62 rfl)) (hw _ (mi 204 rfl)) (by decide) E0_ (rm_aaK hw b1 v1 kv ls cd z1 vs cs fm a2 u2 ku xs cx zx ux o1 n1 fi h0 n0 O0 E0_ F1_ F2_ F3_ F4_ A5_ hsb E7_ F8_ F9_ A10_ hbx hcx hcap hon hcod hkp G17_ G18_ NE19_ NE20_ NE21_ NE22_ NE23_ S24_ hfi hW) g102 e0 [] rfl (lenOf pd_36 rfl) (hE 4 rfl) hml.symm 0 rfl (by decide)
  have N103 := Fr.app N0 M103
  have O114 := O0.keep K103 (allS G17_ (allS G18_ all0))
  have g115 := jA X103 hx (jo X103 hx st103 (hE 5 rfl) rfl rfl) (hE 6 rfl) rfl rfl
  have K116 : Keep h0 T103.heap [b1, v1] := ((Keep.refl h0 [b1, v1]).trans K103 (allS (P := fun x => x ∈ [b1, v1] ∨ h0.size ≤ x) (Or.inl (mi 0 rfl)) (allS (P := fun x => x ∈ [b1, v1] ∨ h0.size ≤ x) (Or.inl (mi 1 rfl)) all0)))
  refine own_leave X103 Bd (some (.ref b1)) nofun g115 (fun fs hr => retOut X103 hx Bd.returns rfl (Or.inr (Or.inr (Or.inr (Or.inr ⟨rfl, rfl, rfl⟩)))) (hE 7 rfl) hr) (by decide) (by decide) ?_
  exact ⟨r104, r105, r106, rfl, N103, K116, y107, y108, y109, y110, y111, y112, y113⟩
theorem rm_aaG (hw : HW a0 Z) (b1 v1 : Addr) (kv : ClassId) (ls : List Int32) (cd z1 : Int32) (vs : List Value) (cs : Int32) (fm : Value) (a2 u2 : Addr) (ku : ClassId) (xs : List Int32) (cx zx : Int32) (ux : List Value) (o1 n1 : Nat) (fi : Value) (h0 : Heap) (n0 : Nat) (O0 : Old Z n0 h0) (E0_ : Exa Z h0 b1 "java/lang/StringBuilder") (F1_ : Fld Z h0 b1 "java/lang/AbstractStringBuilder" "value" "[B" (.ref v1)) (F2_ : Fld Z h0 b1 "java/lang/AbstractStringBuilder" "coder" "B" (.int cd)) (F3_ : Fld Z h0 b1 "java/lang/AbstractStringBuilder" "count" "I" (.int (Int32.ofNat ls.length))) (F4_ : Fld Z h0 b1 "java/lang/AbstractStringBuilder" "maybeLatin1" "Z" (.int 0)) (A5_ : Arv Z h0 v1 kv .byte z1 vs (.int 0)) (hsb : own_sb ls cd z1 vs) (E7_ : Exa Z h0 a2 "java/lang/String") (F8_ : Fld Z h0 a2 "java/lang/String" "coder" "B" (.int cx)) (F9_ : Fld Z h0 a2 "java/lang/String" "value" "[B" (.ref u2)) (A10_ : Arv Z h0 u2 ku .byte zx ux (.int 0)) (hbx : xs.length ≤ 40) (hcx : own_chars xs) (hcap : ls.length ≤ 160) (hon : o1 + n1 ≤ xs.length) (hcod : own_cod xs cx zx ux) (G16_ : n0 ≤ b1) (G17_ : n0 ≤ v1) (NE18_ : ¬ (v1 = b1)) (NE19_ : ¬ (u2 = v1)) (NE20_ : ¬ (a2 = v1)) (NE21_ : ¬ (a2 = b1)) (NE22_ : ¬ (u2 = b1)) (S23_ : Sta Z Z.heap "jdk/internal/util/Preconditions" "IOOBE_FORMATTER" "Ljava/util/function/BiFunction;" fi) (hfi : fi.isRef = true) (hW : own_W Z cs fm) :
    own_M l mN57 (Jvm.Cond.code mN57 jdk_68_method_27_code 5 (some (.object "java/lang/AbstractStringBuilder"))) [] (⟨7, 1, 512, 108⟩ : Room) #[(.ref b1), (.ref a2), (.int (Int32.ofNat o1)), (.int (Int32.ofNat (o1 + n1)))] Z h0 (fun v h L => ∃ (r : Addr), ∃ (kid : ClassId), ∃ (cd2 : Int32), ∃ (z2 : Int32), ∃ (vs2 : List Value), v = some (.ref b1) ∧ Fr n0 L ∧ Keep h0 h [b1, v1] ∧ (Exa Z h b1 "java/lang/StringBuilder") ∧ (Fld Z h b1 "java/lang/AbstractStringBuilder" "value" "[B" (.ref r)) ∧ (Fld Z h b1 "java/lang/AbstractStringBuilder" "coder" "B" (.int cd2)) ∧ (Fld Z h b1 "java/lang/AbstractStringBuilder" "count" "I" (.int (Int32.ofNat (ls ++ own_sl xs o1 n1).length))) ∧ (Fld Z h b1 "java/lang/AbstractStringBuilder" "maybeLatin1" "Z" (.int 0)) ∧ (Arv Z h r kid .byte z2 vs2 (.int 0)) ∧ (r = v1 ∨ h0.size ≤ r) ∧ (own_sb (ls ++ own_sl xs o1 n1) cd2 z2 vs2) ∧ (¬ (r = b1))) := by
  refine own_open n0 (plainFor_of_name pn_4) (fun m => ef_RRII5 m b1 a2 (Int32.ofNat o1) (Int32.ofNat (o1 + n1)) ) ?_
  intro p e s m below meth c s₁ A0 Bd hx hby hml hown hnm hZ hh X0 e0 N0 g0
  obtain ⟨SC_, hcs, SF_, hfm, SU1_, SU2_, SU3_⟩ := id hW
  have hE := own_hd hby E41
  have g101 := jA X0 hx (jI X0 hx (jI X0 hx (show Go p e below s₁ (mkF m 7 #[rv b1, rv a2, iv (Int32.ofNat o1), iv (Int32.ofNat (o1 + n1)), .unset] []) A0 from fun t kt => (jA X0 hx g0 (hE 0 rfl) rfl rfl) t (by refine XS.ifnonnullYes X0.here hx rfl (pc0 := 1) (pc' := 7) rfl (hE 1 rfl) rfl (by decide) (by decide) ?_; exact kt)) (hE 2 rfl) rfl) (hE 3 rfl) rfl) (hE 4 rfl) rfl rfl
  obtain ⟨_, L102, T102, ⟨rfl, M102, e102⟩, X102, st102⟩ := own_callF X0 hx hZ hown (hw _ (mi 205 rfl)) (hw _ (mi 206 rfl)) (mvT hZ (hw _ (mi 207 rfl))) (hw _ (mi 208 rfl)) (hw _ (mi 148 rfl)) (hw _ (mi 209 rfl)) (hw _ (mi 210 rfl)) (hw _ (mi 211 rfl)) (hw _ (mi 3 rfl)) (hw _ (mi 150 rfl)) (by decide) E7_ (rm_lenG hw a2 u2 ku cx zx ux xs cs h0 n0 O0 SC_ hcs F9_ F8_ E7_ A10_ (hcod) (hbx)) g101 e0 [(.int (Int32.ofNat (o1 + n1))), (.int (Int32.ofNat o1))] rfl (lenOf pd_23 rfl) (hE 5 rfl) hml.symm 2 rfl (by decide)
  have N102 := Fr.app N0 M102
  have y103 := S23_.ext O0.2
  obtain ⟨T104, X104, e104, g104⟩ := own_getS X102 hx hZ hown (hw _ (mi 212 rfl)) Via.refl e102 y103 st102 (hE 6 rfl)
  obtain ⟨_, L105, T105, ⟨rfl, M105, e105⟩, X105, st105⟩ := own_callS X104 hx hZ hown (hw _ (mi 214 rfl)) (wd40 hw) (rm_cfti hw o1 (o1 + n1) xs.length fi h0 n0 O0 hfi (by omega) (hon) (by omega)) g104 e104 [] rfl (lenOf pd_15 rfl) (hE 7 rfl) hml.symm 0 rfl (by decide)
  have N105 := Fr.app N102 M105
  have g106 := jM X105 hx (jI X105 hx (jI X105 hx (jo X105 hx st105 (hE 8 rfl) rfl rfl) (hE 9 rfl) rfl) (hE 10 rfl) rfl) (hE 11 rfl) rfl
  have g107 := own_rwS g106 (own_subo (o := o1) (n := n1) (by omega) : ((Int32.ofNat (o1 + n1)) - (Int32.ofNat o1)) = (Int32.ofNat n1))
  have g108 := jA X105 hx (jA X105 hx (js X105 hx g107 (hE 12 rfl) rfl (l' := #[rv b1, rv a2, iv (Int32.ofNat o1), iv (Int32.ofNat (o1 + n1)), iv (Int32.ofNat n1)]) rfl) (hE 13 rfl) rfl rfl) (hE 14 rfl) rfl rfl
  obtain ⟨T109, X109, e109, g109⟩ := own_getF X105 hx hZ hown (hw _ (mi 80 rfl)) Via.refl e105 F3_ g108 (hE 15 rfl)
  have g110 := jP X109 hx (ji X109 hx g109 (hE 16 rfl) rfl) (hE 17 rfl) rfl
  have g111 := own_rwS g110 (own_addn ls.length n1 : ((Int32.ofNat ls.length) + (Int32.ofNat n1)) = (Int32.ofNat (ls.length + n1)))
  obtain ⟨_, L112, T112, ⟨rfl, M112, e112⟩, X112, st112⟩ := own_callP X109 hx hZ hown (hw _ (mi 82 rfl)) (wd24 hw) E0_ (rm_ensN hw b1 (ls.length + n1) v1 kv cd z1 vs h0 n0 O0 F1_ F2_ A5_ (own_sbc hsb) (by omega)) g111 e109 [] rfl (lenOf pd_14 rfl) (hE 18 rfl) hml.symm 0 rfl (by decide)
  have N112 := Fr.app N105 M112
  have g113 := jA X112 hx st112 (hE 19 rfl) rfl rfl
  let lo115 : Array Slot := #[rv b1, rv a2, iv (Int32.ofNat o1), iv (Int32.ofNat (o1 + n1)), iv (Int32.ofNat n1)]
  obtain ⟨T114, X114, e114, st114⟩ := instY X112 hx hZ hown (hw _ (mi 217 rfl)) e112 (Ins.self E7_) (g := (mkF m 39 lo115 [(.ref a2)])) rfl rfl (hE 20 rfl)
  have g116 : Go p e below T114 (mkF m 42 lo115 [(.int 1)]) A0 := fun t kont => g113 t (st114 t kont)
  have g118 := jN X114 hx g116 (hE 21 rfl) rfl (by decide)
  by_cases c117 : cd = (1 : Int32) ∨ own_lat (own_sl xs o1 n1)
  ·
    have g119 := jA X114 hx (jA X114 hx g118 (hE 22 rfl) rfl rfl) (hE 23 rfl) rfl rfl
    obtain ⟨T120, X120, e120, st120⟩ := castY X114 hx hZ hown (hw _ (mi 217 rfl)) e114 (Ins.self E7_) (g := (mkF m 47 lo115 [(.ref a2), (.ref b1)])) rfl rfl (hE 24 rfl)
    have g121 : Go p e below T120 (mkF m 50 lo115 [(.ref a2), (.ref b1)]) A0 := fun t kont => g119 t (st120 t kont)
    have g122 := jI X120 hx (jI X120 hx g121 (hE 25 rfl) rfl) (hE 26 rfl) rfl
    obtain ⟨_, L123, T123, ⟨r124, r125, r126, rfl, M123, K123, y127, y128, y129, y130, y131, y132, y133⟩, X123, st123⟩ := own_callP X120 hx hZ hown (hw _ (mi 218 rfl)) (wd46 hw) E0_ (rm_acK hw b1 v1 kv ls cd z1 vs cs fm a2 u2 ku xs cx zx ux o1 n1 h0 n0 O0 E0_ F1_ F2_ F3_ F4_ A5_ hsb E7_ F8_ F9_ A10_ hbx hcx hcap hon hcod (c117) G16_ G17_ NE18_ NE19_ NE20_ NE21_ NE22_ hW) g122 e120 [] rfl (lenOf pd_35 rfl) (hE 27 rfl) hml.symm 0 rfl (by decide)
    have N123 := Fr.app N112 M123
    have O134 := O0.keep K123 (allS G16_ (allS G17_ all0))
    have g135 := jA X123 hx (jg X123 hx st123 (hE 28 rfl) (pc' := 65) (by decide)) (hE 29 rfl) rfl rfl
    have K136 : Keep h0 T123.heap [b1, v1] := ((Keep.refl h0 [b1, v1]).trans K123 (allS (P := fun x => x ∈ [b1, v1] ∨ h0.size ≤ x) (Or.inl (mi 0 rfl)) (allS (P := fun x => x ∈ [b1, v1] ∨ h0.size ≤ x) (Or.inl (mi 1 rfl)) all0)))
    refine own_leave X123 Bd (some (.ref b1)) nofun g135 (fun fs hr => retOut X123 hx Bd.returns rfl (Or.inr (Or.inr (Or.inr (Or.inr ⟨rfl, rfl, rfl⟩)))) (hE 30 rfl) hr) (by decide) (by decide) ?_
    exact ⟨v1, kv, r124, r125, r126, rfl, N123, K136, y127, y128, y129, y130, y131, y132, (Or.inl rfl), y133, NE18_⟩
  have hq0 : cd = (0 : Int32) ∧ z1 = (256 : Int32) ∧ vs = own_PL ls ∧ own_lat ls ∧ own_chars ls := hsb.resolve_right (fun q => c117 (Or.inl q.1))
  obtain ⟨e1, e2, e3, ll, cl⟩ := hq0
  have hnl : ¬ own_lat (own_sl xs o1 n1) := fun q => c117 (Or.inr q)
  have hq1 : cx = (1 : Int32) ∧ zx = Int32.ofNat (2 * xs.length) ∧ ux = own_wb xs := hcod.resolve_left (fun q => hnl (own_lat_sl q.2.2.2 o1 n1))
  obtain ⟨f1, f2, f3⟩ := hq1
  obtain ⟨rn, hr1, hr2, hr3⟩ := own_sl_first hon hnl
  have y137 := F2_
  rw [e1] at y137
  have y138 := F8_
  rw [f1] at y138
  have y139 := A5_
  rw [e2, e3] at y139
  have y140 := A10_
  rw [f2, f3] at y140
  have g141 := jA X114 hx (jA X114 hx g118 (hE 22 rfl) rfl rfl) (hE 23 rfl) rfl rfl
  obtain ⟨T142, X142, e142, st142⟩ := castY X114 hx hZ hown (hw _ (mi 217 rfl)) e114 (Ins.self E7_) (g := (mkF m 47 lo115 [(.ref a2), (.ref b1)])) rfl rfl (hE 24 rfl)
  have g143 : Go p e below T142 (mkF m 50 lo115 [(.ref a2), (.ref b1)]) A0 := fun t kont => g141 t (st142 t kont)
  have g144 := jI X142 hx (jI X142 hx g143 (hE 25 rfl) rfl) (hE 26 rfl) rfl
  obtain ⟨_, L145, T145, ⟨r146, r147, rfl, M145, K145, y148, y149, y150, y151, y152, y153, y154⟩, X145, st145⟩ := own_callP X142 hx hZ hown (hw _ (mi 218 rfl)) (wd46 hw) E0_ (rm_acI hw b1 v1 kv ls cs fm a2 u2 ku xs o1 n1 rn h0 n0 O0 E0_ F1_ y137 F3_ F4_ y139 E7_ y138 F9_ y140 hbx hcx hcap hon (cl) (ll) (hr1) (hr2) (hr3) G16_ G17_ NE18_ NE19_ NE20_ NE21_ NE22_ hW) g144 e142 [] rfl (lenOf pd_35 rfl) (hE 27 rfl) hml.symm 0 rfl (by decide)
  have N145 := Fr.app N112 M145
  have O155 := O0.keep K145 (allS G16_ (allS G17_ all0))
  have g156 := jA X145 hx (jg X145 hx st145 (hE 28 rfl) (pc' := 65) (by decide)) (hE 29 rfl) rfl rfl
  have K157 : Keep h0 T145.heap [b1, v1] := ((Keep.refl h0 [b1, v1]).trans K145 (allS (P := fun x => x ∈ [b1, v1] ∨ h0.size ≤ x) (Or.inl (mi 0 rfl)) (allS (P := fun x => x ∈ [b1, v1] ∨ h0.size ≤ x) (Or.inl (mi 1 rfl)) all0)))
  refine own_leave X145 Bd (some (.ref b1)) nofun g156 (fun fs hr => retOut X145 hx Bd.returns rfl (Or.inr (Or.inr (Or.inr (Or.inr ⟨rfl, rfl, rfl⟩)))) (hE 30 rfl) hr) (by decide) (by decide) ?_
  exact ⟨r146, r147, (1 : Int32), (512 : Int32), (own_PW (ls ++ own_sl xs o1 n1)), rfl, N145, K157, y148, y149, y150, y151, y152, y154, (Or.inr y153), Or.inr ⟨rfl, rfl, rfl⟩, (Ne.symm (Nat.ne_of_lt (Nat.lt_of_lt_of_le E0_.lt y153)))⟩
theorem rm_saG (hw : HW a0 Z) (b1 v1 : Addr) (kv : ClassId) (ls : List Int32) (cd z1 : Int32) (vs : List Value) (cs : Int32) (fm : Value) (a2 u2 : Addr) (ku : ClassId) (xs : List Int32) (cx zx : Int32) (ux : List Value) (o1 n1 : Nat) (fi : Value) (e1 : Int32) (h0 : Heap) (n0 : Nat) (O0 : Old Z n0 h0) (E0_ : Exa Z h0 b1 "java/lang/StringBuilder") (F1_ : Fld Z h0 b1 "java/lang/AbstractStringBuilder" "value" "[B" (.ref v1)) (F2_ : Fld Z h0 b1 "java/lang/AbstractStringBuilder" "coder" "B" (.int cd)) (F3_ : Fld Z h0 b1 "java/lang/AbstractStringBuilder" "count" "I" (.int (Int32.ofNat ls.length))) (F4_ : Fld Z h0 b1 "java/lang/AbstractStringBuilder" "maybeLatin1" "Z" (.int 0)) (A5_ : Arv Z h0 v1 kv .byte z1 vs (.int 0)) (hsb : own_sb ls cd z1 vs) (E7_ : Exa Z h0 a2 "java/lang/String") (F8_ : Fld Z h0 a2 "java/lang/String" "coder" "B" (.int cx)) (F9_ : Fld Z h0 a2 "java/lang/String" "value" "[B" (.ref u2)) (A10_ : Arv Z h0 u2 ku .byte zx ux (.int 0)) (hbx : xs.length ≤ 40) (hcx : own_chars xs) (hcap : ls.length ≤ 160) (hon : o1 + n1 ≤ xs.length) (hcod : own_cod xs cx zx ux) (G16_ : n0 ≤ b1) (G17_ : n0 ≤ v1) (NE18_ : ¬ (v1 = b1)) (NE19_ : ¬ (u2 = v1)) (NE20_ : ¬ (a2 = v1)) (NE21_ : ¬ (a2 = b1)) (NE22_ : ¬ (u2 = b1)) (S23_ : Sta Z Z.heap "jdk/internal/util/Preconditions" "IOOBE_FORMATTER" "Ljava/util/function/BiFunction;" fi) (hfi : fi.isRef = true) (he : e1 = Int32.ofNat (o1 + n1)) (hW : own_W Z cs fm) :
    own_M l mN58 (Jvm.Cond.code mN58 jdk_67_method_10_code 4 (some (.object "java/lang/StringBuilder"))) [] (⟨8, 1, 512, 124⟩ : Room) #[(.ref b1), (.ref a2), (.int (Int32.ofNat o1)), (.int e1)] Z h0 (fun v h L => ∃ (r : Addr), ∃ (kid : ClassId), ∃ (cd2 : Int32), ∃ (z2 : Int32), ∃ (vs2 : List Value), v = some (.ref b1) ∧ Fr n0 L ∧ Keep h0 h [b1, v1] ∧ (Exa Z h b1 "java/lang/StringBuilder") ∧ (Fld Z h b1 "java/lang/AbstractStringBuilder" "value" "[B" (.ref r)) ∧ (Fld Z h b1 "java/lang/AbstractStringBuilder" "coder" "B" (.int cd2)) ∧ (Fld Z h b1 "java/lang/AbstractStringBuilder" "count" "I" (.int (Int32.ofNat (ls ++ own_sl xs o1 n1).length))) ∧ (Fld Z h b1 "java/lang/AbstractStringBuilder" "maybeLatin1" "Z" (.int 0)) ∧ (Arv Z h r kid .byte z2 vs2 (.int 0)) ∧ (r = v1 ∨ h0.size ≤ r) ∧ (own_sb (ls ++ own_sl xs o1 n1) cd2 z2 vs2) ∧ (¬ (r = b1))) := by
  refine own_open n0 (plainFor_of_name pn_5) (fun m => ef_RRII4 m b1 a2 (Int32.ofNat o1) e1 ) ?_
  intro p e s m below meth c s₁ A0 Bd hx hby hml hown hnm hZ hh X0 e0 N0 g0
  obtain ⟨SC_, hcs, SF_, hfm, SU1_, SU2_, SU3_⟩ := id hW
  have hE := own_hd hby E40
  have g101 : Go p e below s₁ (mkF m 0 #[rv b1, rv a2, iv (Int32.ofNat o1), iv (Int32.ofNat (o1 + n1))] []) A0 := by have z : Go p e below s₁ (mkF m 0 #[rv b1, rv a2, iv (Int32.ofNat o1), iv e1] []) A0 := g0; rw [he] at z; exact z
  have g102 := jI X0 hx (jI X0 hx (jA X0 hx (jA X0 hx g101 (hE 0 rfl) rfl rfl) (hE 1 rfl) rfl rfl) (hE 2 rfl) rfl) (hE 3 rfl) rfl
  obtain ⟨_, L103, T103, ⟨r104, r105, r106, r107, r108, rfl, M103, K103, y109, y110, y111, y112, y113, y114, y115, y116, y117⟩, X103, st103⟩ := own_callU X0 hx hZ hown (hw _ (mi 201 rfl)) (own_same (y := mN57) (hw _ (mi 85 rfl)) rfl (hw _ (mi 202 rfl)) (by decide)) (hw _ (mi 202 rfl)) (hw _ (mi 77 rfl)) (hw _ (mi 62 rfl)) (hw _ (mi 204 rfl)) (by decide) E0_ (rm_aaG hw b1 v1 kv ls cd z1 vs cs fm a2 u2 ku xs cx zx ux o1 n1 fi h0 n0 O0 E0_ F1_ F2_ F3_ F4_ A5_ hsb E7_ F8_ F9_ A10_ hbx hcx hcap hon hcod G16_ G17_ NE18_ NE19_ NE20_ NE21_ NE22_ S23_ hfi hW) g102 e0 [] rfl (lenOf pd_36 rfl) (hE 4 rfl) hml.symm 0 rfl (by decide)
  have N103 := Fr.app N0 M103
  have O118 := O0.keep K103 (allS G16_ (allS G17_ all0))
  have g119 := jA X103 hx (jo X103 hx st103 (hE 5 rfl) rfl rfl) (hE 6 rfl) rfl rfl
  have K120 : Keep h0 T103.heap [b1, v1] := ((Keep.refl h0 [b1, v1]).trans K103 (allS (P := fun x => x ∈ [b1, v1] ∨ h0.size ≤ x) (Or.inl (mi 0 rfl)) (allS (P := fun x => x ∈ [b1, v1] ∨ h0.size ≤ x) (Or.inl (mi 1 rfl)) all0)))
  refine own_leave X103 Bd (some (.ref b1)) nofun g119 (fun fs hr => retOut X103 hx Bd.returns rfl (Or.inr (Or.inr (Or.inr (Or.inr ⟨rfl, rfl, rfl⟩)))) (hE 7 rfl) hr) (by decide) (by decide) ?_
  exact ⟨r104, r105, r106, r107, r108, rfl, N103, K120, y109, y110, y111, y112, y113, y114, (own_alt_trans y115 (Or.inl rfl) (Nat.le_refl _)), y116, y117⟩
theorem pn_7 : plainName "java/lang/Integer" = true := by first | (simp [plainName, overriddenIn]; done) | decide +kernel
theorem ef_I4 (m : MethodId) (x0 : Int32)  : entryFrame m #[(.int x0)] 4 = mkF m 0 #[.val (.int x0), .unset, .unset, .unset] [] := by first | (simp [entryFrame, mkF, argsToLocals, Value.category]; done) | rfl
theorem rm_ssP (hw : HW a0 Z) (d1 : Nat) (h0 : Heap) (n0 : Nat) (O0 : Old Z n0 h0) (hd9 : d1 ≤ 9) :
    own_M l mN59 (Jvm.Cond.code mN59 jdk_33_method_13_code 4 (some .int)) [] (⟨0, 0, 0, 0⟩ : Room) #[(.int (Int32.ofNat d1))] Z h0 (fun v h L => v = some (.int 1) ∧ Fr n0 L ∧ h = h0) := by
  refine own_open n0 (plainFor_of_name pn_7) (fun m => ef_I4 m (Int32.ofNat d1) ) ?_
  intro p e s m below meth c s₁ A0 Bd hx hby hml hown hnm hZ hh X0 e0 N0 g0
  have hE := own_hd hby E53
  have g101 := jP X0 hx (jI X0 hx (jI X0 hx (jn X0 hx (jI X0 hx (jI X0 hx (jn X0 hx (jb X0 hx (jI X0 hx (jS X0 hx (jc X0 hx (jS X0 hx (jb X0 hx (jS X0 hx (jm X0 hx (jI X0 hx (jS X0 hx (jc X0 hx (jN X0 hx (jI X0 hx (jS X0 hx (jc X0 hx g0 (hE 0 rfl) 1 rfl) (hE 1 rfl) rfl (l' := #[iv (Int32.ofNat d1), iv 1, .unset, .unset]) rfl) (hE 2 rfl) rfl) (hE 3 rfl) rfl ((if0 _ _).trans (flt (own_nonneg (by omega) : ¬ ((Int32.ofNat d1) < (0 : Int32)))).1)) (hE 4 rfl) 0 rfl) (hE 5 rfl) rfl (l' := #[iv (Int32.ofNat d1), iv 0, .unset, .unset]) rfl) (hE 6 rfl) rfl) (hE 7 rfl) rfl) (hE 8 rfl) rfl (l' := #[iv ((-(Int32.ofNat d1))), iv 0, .unset, .unset]) rfl) (hE 9 rfl) (-10) rfl) (hE 10 rfl) rfl (l' := #[iv ((-(Int32.ofNat d1))), iv 0, iv (-10 : Int32), .unset]) rfl) (hE 11 rfl) 1 rfl) (hE 12 rfl) rfl (l' := #[iv ((-(Int32.ofNat d1))), iv 0, iv (-10 : Int32), iv 1]) rfl) (hE 13 rfl) rfl) (hE 14 rfl) 10 rfl) (hE 15 rfl) rfl (by decide)) (hE 16 rfl) rfl) (hE 17 rfl) rfl) (hE 18 rfl) rfl (tlt (own_ltneg hd9 (by decide) : (-10 : Int32) < ((-(Int32.ofNat d1))))).2.2.2) (hE 19 rfl) rfl) (hE 20 rfl) rfl) (hE 21 rfl) rfl
  refine own_leave X0 Bd (some (.int 1)) nofun g101 (fun fs hr => retI X0 hx Bd.returns (hE 22 rfl) hr) (by decide) (by decide) ?_
  rw [e0]
  exact ⟨rfl, N0, rfl⟩
theorem rm_ssM (hw : HW a0 Z) (d1 : Nat) (h0 : Heap) (n0 : Nat) (O0 : Old Z n0 h0) (hd1 : 1 ≤ d1) (hd9 : d1 ≤ 9) :
    own_M l mN59 (Jvm.Cond.code mN59 jdk_33_method_13_code 4 (some .int)) [] (⟨0, 0, 0, 0⟩ : Room) #[(.int (-(Int32.ofNat d1)))] Z h0 (fun v h L => v = some (.int 2) ∧ Fr n0 L ∧ h = h0) := by
  refine own_open n0 (plainFor_of_name pn_7) (fun m => ef_I4 m (-(Int32.ofNat d1)) ) ?_
  intro p e s m below meth c s₁ A0 Bd hx hby hml hown hnm hZ hh X0 e0 N0 g0
  have hE := own_hd hby E53
  have g101 := jP X0 hx (jI X0 hx (jI X0 hx (jn X0 hx (jI X0 hx (jI X0 hx (jn X0 hx (jb X0 hx (jI X0 hx (jS X0 hx (jc X0 hx (jS X0 hx (jb X0 hx (jY X0 hx (jI X0 hx (jS X0 hx (jc X0 hx g0 (hE 0 rfl) 1 rfl) (hE 1 rfl) rfl (l' := #[iv (-(Int32.ofNat d1)), iv 1, .unset, .unset]) rfl) (hE 2 rfl) rfl) (hE 3 rfl) rfl ((if0 _ _).trans (tlt (own_neglt hd1 hd9 : (-(Int32.ofNat d1)) < (0 : Int32))).1) (pc' := 11) (by decide)) (hE 9 rfl) (-10) rfl) (hE 10 rfl) rfl (l' := #[iv (-(Int32.ofNat d1)), iv 1, iv (-10 : Int32), .unset]) rfl) (hE 11 rfl) 1 rfl) (hE 12 rfl) rfl (l' := #[iv (-(Int32.ofNat d1)), iv 1, iv (-10 : Int32), iv 1]) rfl) (hE 13 rfl) rfl) (hE 14 rfl) 10 rfl) (hE 15 rfl) rfl (by decide)) (hE 16 rfl) rfl) (hE 17 rfl) rfl) (hE 18 rfl) rfl (tlt (own_ltneg hd9 (by decide) : (-10 : Int32) < (-(Int32.ofNat d1)))).2.2.2) (hE 19 rfl) rfl) (hE 20 rfl) rfl) (hE 21 rfl) rfl
  refine own_leave X0 Bd (some (.int 2)) nofun g101 (fun fs hr => retI X0 hx Bd.returns (hE 22 rfl) hr) (by decide) (by decide) ?_
  rw [e0]
  exact ⟨rfl, N0, rfl⟩
theorem ef_IIR7 (m : MethodId) (x0 : Int32) (x1 : Int32) (x2 : Addr)  : entryFrame m #[(.int x0), (.int x1), (.ref x2)] 7 = mkF m 0 #[.val (.int x0), .val (.int x1), .val (.ref x2), .unset, .unset, .unset, .unset] [] := by first | (simp [entryFrame, mkF, argsToLocals, Value.category]; done) | rfl
theorem rm_gcP (hw : HW a0 Z) (v1 : Addr) (kv : ClassId) (ls : List Int32) (d1 : Nat) (dg : Addr) (kg : ClassId) (dgs : List Value) (h0 : Heap) (n0 : Nat) (O0 : Old Z n0 h0) (A0_ : Arv Z h0 v1 kv .byte (256 : Int32) (own_PL ls) (.int 0)) (G1_ : n0 ≤ v1) (hcap : ls.length ≤ 200) (hd9 : d1 ≤ 9) (S4_ : Sta Z Z.heap "java/lang/Integer" "DigitOnes" "[B" (.ref dg)) (ZA5_ : Arv Z Z.heap dg kg .byte (100 : Int32) dgs (.int 0)) (hdg : ∀ i, i < 10 → dgs.getD i (.int 0) = .int (Int32.ofNat (48 + i))) :
    own_M l mN60 (Jvm.Cond.code mN60 jdk_33_method_12_code 7 (some .int)) [] (⟨0, 0, 0, 0⟩ : Room) #[(.int (Int32.ofNat d1)), (.int (Int32.ofNat (ls.length + 1))), (.ref v1)] Z h0 (fun v h L => v = some (.int (Int32.ofNat ls.length)) ∧ Fr n0 L ∧ Keep h0 h [v1] ∧ (Arv Z h v1 kv .byte (256 : Int32) (own_PL (ls ++ [Int32.ofNat (48 + d1)])) (.int 0))) := by
  refine own_open n0 (plainFor_of_name pn_7) (fun m => ef_IIR7 m (Int32.ofNat d1) (Int32.ofNat (ls.length + 1)) v1 ) ?_
  intro p e s m below meth c s₁ A0 Bd hx hby hml hown hnm hZ hh X0 e0 N0 g0
  have hE := own_hd hby E54
  have g101 := jk X0 hx (jA X0 hx (jy X0 hx (jb X0 hx (jI X0 hx (jS X0 hx (jm X0 hx (jI X0 hx (jN X0 hx (ji X0 hx (js X0 hx (jc X0 hx (jY X0 hx (jI X0 hx (js X0 hx (jI X0 hx g0 (hE 0 rfl) rfl) (hE 1 rfl) rfl (l' := #[iv (Int32.ofNat d1), iv (Int32.ofNat (ls.length + 1)), rv v1, .unset, .unset, iv (Int32.ofNat (ls.length + 1)), .unset]) rfl) (hE 2 rfl) rfl) (hE 3 rfl) rfl ((if0 _ _).trans (flt (own_nonneg (by omega) : ¬ ((Int32.ofNat d1) < (0 : Int32)))).2.1) (pc' := 11) (by decide)) (hE 6 rfl) 0 rfl) (hE 7 rfl) rfl (l' := #[iv (Int32.ofNat d1), iv (Int32.ofNat (ls.length + 1)), rv v1, .unset, .unset, iv (Int32.ofNat (ls.length + 1)), iv 0]) rfl) (hE 8 rfl) rfl) (hE 9 rfl) rfl (by decide)) (hE 10 rfl) rfl) (hE 11 rfl) rfl) (hE 12 rfl) rfl (l' := #[iv ((-(Int32.ofNat d1))), iv (Int32.ofNat (ls.length + 1)), rv v1, .unset, .unset, iv (Int32.ofNat (ls.length + 1)), iv 0]) rfl) (hE 13 rfl) rfl) (hE 14 rfl) (-100) rfl) (hE 15 rfl) rfl (tlt (own_ltneg hd9 (by decide) : (-100 : Int32) < ((-(Int32.ofNat d1))))).2.2.1 (pc' := 72) (by decide)) (hE 16 rfl) rfl rfl) (hE 17 rfl) rfl (l' := #[iv ((-(Int32.ofNat d1))), iv (Int32.ofNat (ls.length + 1)), rv v1, .unset, .unset, iv ((Int32.ofNat (ls.length + 1)) + (-1 : Int32)), iv 0]) rfl
  have g102 : Go p e below s₁ (mkF m 76 #[iv ((-(Int32.ofNat d1))), iv (Int32.ofNat (ls.length + 1)), rv v1, .unset, .unset, iv (Int32.ofNat ls.length), iv 0] [(.ref v1)]) A0 := by have z : Go p e below s₁ (mkF m 76 #[iv ((-(Int32.ofNat d1))), iv (Int32.ofNat (ls.length + 1)), rv v1, .unset, .unset, iv ((Int32.ofNat (ls.length + 1)) + (-1 : Int32)), iv 0] [(.ref v1)]) A0 := g101; rw [own_pred (ls.length)] at z; exact z
  have g103 := ji X0 hx g102 (hE 18 rfl) rfl
  have y104 := S4_.ext O0.2
  obtain ⟨T105, X105, e105, g105⟩ := own_getS X0 hx hZ hown (hw _ (mi 283 rfl)) Via.refl e0 y104 g103 (hE 19 rfl)
  have g106 := jm X105 hx (jI X105 hx g105 (hE 20 rfl) rfl) (hE 21 rfl) rfl
  have g107 := own_rwS g106 (Int32.neg_neg (a := Int32.ofNat d1) : ((-((-(Int32.ofNat d1))))) = (Int32.ofNat d1))
  have y108 := ZA5_.ext O0.2
  have zz109 := y108
  obtain ⟨cl109, Ar109, q109, S109, M109, H109, G109⟩ := zz109
  have in109 : ¬ ((Int32.ofNat d1) < 0 ∨ cl109.slots.size ≤ ((Int32.ofNat d1)).toNatClampNeg) := inb_of S109 ⟨own_nonneg (by omega), own_lt (b := 100) (by omega) (by decide)⟩
  have at109 : cl109.slots[((Int32.ofNat d1)).toNatClampNeg]? = some (.int (Int32.ofNat (48 + d1))) := Has.at H109 in109 (by rw [own_clamp (by omega)]; exact hdg d1 (by omega))
  let lo110 : Array Slot := #[iv ((-(Int32.ofNat d1))), iv (Int32.ofNat (ls.length + 1)), rv v1, .unset, .unset, iv (Int32.ofNat ls.length), iv 0]
  have g111 : Go p e below T105 (mkF m 84 lo110 [(.int (Int32.ofNat (48 + d1))), (.int (Int32.ofNat ls.length)), (.ref v1)]) A0 := fun t kont => g107 t (X105.baloadBytes hx (j := (Int32.ofNat d1)) (v := (.int (Int32.ofNat (48 + d1)))) (by rw [e105]; exact Ar109.1) (State.isArrayOf_alike hZ.alike Ar109.2.1) Ar109.2.2 in109 at109 (g := (mkF m 83 lo110 [(.int (Int32.ofNat d1)), (.ref dg), (.int (Int32.ofNat ls.length)), (.ref v1)])) rfl rfl (hE 22 rfl) t kont)
  have zz112 := A0_
  obtain ⟨cl112, Ar112, q112, S112, M112, H112, G112⟩ := zz112
  have in112 : ¬ ((Int32.ofNat ls.length) < 0 ∨ cl112.slots.size ≤ ((Int32.ofNat ls.length)).toNatClampNeg) := inb_of S112 ⟨own_nonneg (by omega), own_lt (b := 256) (by omega) (by decide)⟩
  obtain ⟨T112, h112, X112, e112, W112, st112⟩ := stB X105 hx hZ e105 Ar112 (j := (Int32.ofNat ls.length)) in112 (g := (mkF m 84 lo110 [(.int (Int32.ofNat (48 + d1))), (.int (Int32.ofNat ls.length)), (.ref v1)])) rfl rfl (hE 23 rfl)
  rw [show nar .byte (Int32.ofNat (48 + d1)) = ((Int32.ofNat (48 + d1)).toInt8.toInt32) from (by rfl)] at W112
  have O113 := O0.wr W112 G1_
  have y114 : Arv Z h112 v1 kv .byte (256 : Int32) ((own_PL ls).set ls.length (.int ((Int32.ofNat (48 + d1)).toInt8.toInt32))) (.int 0) := Arv.set Ar112 q112 S112 M112 H112 G112 (own_ft_byte (z := (Int32.ofNat (48 + d1))) (by rfl)) W112 ls.length (own_clamp (by omega)) (by rw [own_PLlen (by omega)]; omega)
  have N112 := Fr.snoc X112 N0 G1_
  have g115 : Go p e below T112 (mkF m 85 lo110 []) A0 := fun t kont => g111 t (st112 t kont)
  have g116 := ji X112 hx (jY X112 hx (ji X112 hx (jy X112 hx (jb X112 hx (jI X112 hx g115 (hE 24 rfl) rfl) (hE 25 rfl) (-9) rfl) (hE 26 rfl) rfl (flt (own_neg9 hd9 : ¬ (((-(Int32.ofNat d1))) < (-9 : Int32)))).2.1 (pc' := 104) (by decide)) (hE 27 rfl) rfl) (hE 28 rfl) rfl (by decide) (pc' := 118) (by decide)) (hE 34 rfl) rfl
  have K117 : Keep h0 h112 [v1] := ((Keep.refl h0 [v1]).wr W112 (Or.inl (mi 0 rfl)))
  refine own_leave X112 Bd (some (.int (Int32.ofNat ls.length))) nofun g116 (fun fs hr => retI X112 hx Bd.returns (hE 35 rfl) hr) (by decide) (by decide) ?_
  rw [e112]
  exact ⟨rfl, N112, K117, (by have q := y114; rw [own_PLset (by omega)] at q; exact q)⟩
theorem rm_ugP (hw : HW a0 Z) (v1 : Addr) (kv : ClassId) (ls : List Int32) (d1 : Nat) (dg : Addr) (kg : ClassId) (dgs : List Value) (cs : Int32) (fm : Value) (h0 : Heap) (n0 : Nat) (O0 : Old Z n0 h0) (A0_ : Arv Z h0 v1 kv .byte (512 : Int32) (own_PW ls) (.int 0)) (G1_ : n0 ≤ v1) (hcap : ls.length ≤ 200) (hd9 : d1 ≤ 9) (S4_ : Sta Z Z.heap "java/lang/Integer" "DigitOnes" "[B" (.ref dg)) (ZA5_ : Arv Z Z.heap dg kg .byte (100 : Int32) dgs (.int 0)) (hdg : ∀ i, i < 10 → dgs.getD i (.int 0) = .int (Int32.ofNat (48 + i))) (hW : own_W Z cs fm) :
    own_M l mN61 (Jvm.Cond.code mN61 jdk_52_method_89_code 7 (some .int)) [] (⟨1, 0, 0, 14⟩ : Room) #[(.int (Int32.ofNat d1)), (.int (Int32.ofNat (ls.length + 1))), (.ref v1)] Z h0 (fun v h L => v = some (.int (Int32.ofNat ls.length)) ∧ Fr n0 L ∧ Keep h0 h [v1] ∧ (Arv Z h v1 kv .byte (512 : Int32) (own_PW (ls ++ [Int32.ofNat (48 + d1)])) (.int 0))) := by
  refine own_open n0 (plainFor_of_name pn_2) (fun m => ef_IIR7 m (Int32.ofNat d1) (Int32.ofNat (ls.length + 1)) v1 ) ?_
  intro p e s m below meth c s₁ A0 Bd hx hby hml hown hnm hZ hh X0 e0 N0 g0
  obtain ⟨SC_, hcs, SF_, hfm, SU1_, SU2_, SU3_⟩ := id hW
  have hE := own_hd hby E77
  have g101 := jk X0 hx (jA X0 hx (jy X0 hx (jb X0 hx (jI X0 hx (jS X0 hx (jm X0 hx (jI X0 hx (jN X0 hx (ji X0 hx (js X0 hx (jc X0 hx (jY X0 hx (jI X0 hx (js X0 hx (jI X0 hx g0 (hE 0 rfl) rfl) (hE 1 rfl) rfl (l' := #[iv (Int32.ofNat d1), iv (Int32.ofNat (ls.length + 1)), rv v1, .unset, .unset, iv (Int32.ofNat (ls.length + 1)), .unset]) rfl) (hE 2 rfl) rfl) (hE 3 rfl) rfl ((if0 _ _).trans (flt (own_nonneg (by omega) : ¬ ((Int32.ofNat d1) < (0 : Int32)))).2.1) (pc' := 11) (by decide)) (hE 6 rfl) 0 rfl) (hE 7 rfl) rfl (l' := #[iv (Int32.ofNat d1), iv (Int32.ofNat (ls.length + 1)), rv v1, .unset, .unset, iv (Int32.ofNat (ls.length + 1)), iv 0]) rfl) (hE 8 rfl) rfl) (hE 9 rfl) rfl (by decide)) (hE 10 rfl) rfl) (hE 11 rfl) rfl) (hE 12 rfl) rfl (l' := #[iv ((-(Int32.ofNat d1))), iv (Int32.ofNat (ls.length + 1)), rv v1, .unset, .unset, iv (Int32.ofNat (ls.length + 1)), iv 0]) rfl) (hE 13 rfl) rfl) (hE 14 rfl) (-100) rfl) (hE 15 rfl) rfl (tlt (own_ltneg hd9 (by decide) : (-100 : Int32) < ((-(Int32.ofNat d1))))).2.2.1 (pc' := 76) (by decide)) (hE 16 rfl) rfl rfl) (hE 17 rfl) rfl (l' := #[iv ((-(Int32.ofNat d1))), iv (Int32.ofNat (ls.length + 1)), rv v1, .unset, .unset, iv ((Int32.ofNat (ls.length + 1)) + (-1 : Int32)), iv 0]) rfl
  have g102 : Go p e below s₁ (mkF m 80 #[iv ((-(Int32.ofNat d1))), iv (Int32.ofNat (ls.length + 1)), rv v1, .unset, .unset, iv (Int32.ofNat ls.length), iv 0] [(.ref v1)]) A0 := by have z : Go p e below s₁ (mkF m 80 #[iv ((-(Int32.ofNat d1))), iv (Int32.ofNat (ls.length + 1)), rv v1, .unset, .unset, iv ((Int32.ofNat (ls.length + 1)) + (-1 : Int32)), iv 0] [(.ref v1)]) A0 := g101; rw [own_pred (ls.length)] at z; exact z
  have g103 := ji X0 hx g102 (hE 18 rfl) rfl
  have y104 := S4_.ext O0.2
  obtain ⟨T105, X105, e105, g105⟩ := own_getS X0 hx hZ hown (hw _ (mi 363 rfl)) Via.refl e0 y104 g103 (hE 19 rfl)
  have g106 := jm X105 hx (jI X105 hx g105 (hE 20 rfl) rfl) (hE 21 rfl) rfl
  have g107 := own_rwS g106 (Int32.neg_neg (a := Int32.ofNat d1) : ((-((-(Int32.ofNat d1))))) = (Int32.ofNat d1))
  have y108 := ZA5_.ext O0.2
  have zz109 := y108
  obtain ⟨cl109, Ar109, q109, S109, M109, H109, G109⟩ := zz109
  have in109 : ¬ ((Int32.ofNat d1) < 0 ∨ cl109.slots.size ≤ ((Int32.ofNat d1)).toNatClampNeg) := inb_of S109 ⟨own_nonneg (by omega), own_lt (b := 100) (by omega) (by decide)⟩
  have at109 : cl109.slots[((Int32.ofNat d1)).toNatClampNeg]? = some (.int (Int32.ofNat (48 + d1))) := Has.at H109 in109 (by rw [own_clamp (by omega)]; exact hdg d1 (by omega))
  let lo110 : Array Slot := #[iv ((-(Int32.ofNat d1))), iv (Int32.ofNat (ls.length + 1)), rv v1, .unset, .unset, iv (Int32.ofNat ls.length), iv 0]
  have g111 : Go p e below T105 (mkF m 88 lo110 [(.int (Int32.ofNat (48 + d1))), (.int (Int32.ofNat ls.length)), (.ref v1)]) A0 := fun t kont => g107 t (X105.baloadBytes hx (j := (Int32.ofNat d1)) (v := (.int (Int32.ofNat (48 + d1)))) (by rw [e105]; exact Ar109.1) (State.isArrayOf_alike hZ.alike Ar109.2.1) Ar109.2.2 in109 at109 (g := (mkF m 87 lo110 [(.int (Int32.ofNat d1)), (.ref dg), (.int (Int32.ofNat ls.length)), (.ref v1)])) rfl rfl (hE 22 rfl) t kont)
  obtain ⟨_, L112, T112, ⟨rfl, M112, K112, y113⟩, X112, st112⟩ := own_callS X105 hx hZ hown (hw _ (mi 296 rfl)) (wd2 hw) (rm_putG hw v1 ls.length (Int32.ofNat (48 + d1)) kv (512 : Int32) (own_PW ls) cs fm h0 n0 O0 A0_ G1_ (by rw [own_PWlen (by omega)]; omega) (by rw [own_PWlen (by omega)]; rfl) (by rw [own_PWlen (by omega)]; decide) hW) g111 e105 [] rfl (lenOf pd_2 rfl) (hE 23 rfl) hml.symm 0 rfl (by decide)
  have N112 := Fr.app N0 M112
  have O114 := O0.keep K112 (allS G1_ all0)
  have g115 := ji X112 hx (jY X112 hx (ji X112 hx (jy X112 hx (jb X112 hx (jI X112 hx st112 (hE 24 rfl) rfl) (hE 25 rfl) (-9) rfl) (hE 26 rfl) rfl (flt (own_neg9 hd9 : ¬ (((-(Int32.ofNat d1))) < (-9 : Int32)))).2.1 (pc' := 112) (by decide)) (hE 27 rfl) rfl) (hE 28 rfl) rfl (by decide) (pc' := 128) (by decide)) (hE 34 rfl) rfl
  have K116 : Keep h0 T112.heap [v1] := ((Keep.refl h0 [v1]).trans K112 (allS (P := fun x => x ∈ [v1] ∨ h0.size ≤ x) (Or.inl (mi 0 rfl)) all0))
  refine own_leave X112 Bd (some (.int (Int32.ofNat ls.length))) nofun g115 (fun fs hr => retI X112 hx Bd.returns (hE 35 rfl) hr) (by decide) (by decide) ?_
  exact ⟨rfl, N112, K116, (by have q := y113; rw [own_PWset (by omega)] at q; exact q)⟩
theorem pd_37 : parseMethodDescriptor "(II[B)I" = some ⟨[.int, .int, (.array .byte)], some .int⟩ := by decide +kernel
theorem wd47 (hw : HW a0 Z) : own_wdS a0 Z mN61 jdk_52_method_89_code 7 (some .int) := ⟨hw _ (mi 361 rfl), hw _ (mi 37 rfl), hw _ (mi 362 rfl), by decide⟩
theorem ef_IIIR5 (m : MethodId) (x0 : Int32) (x1 : Int32) (x2 : Int32) (x3 : Addr)  : entryFrame m #[(.int x0), (.int x1), (.int x2), (.ref x3)] 5 = mkF m 0 #[.val (.int x0), .val (.int x1), .val (.int x2), .val (.ref x3), .unset] [] := by first | (simp [entryFrame, mkF, argsToLocals, Value.category]; done) | rfl
theorem rm_uhP (hw : HW a0 Z) (v1 : Addr) (kv : ClassId) (ls : List Int32) (d1 : Nat) (dg : Addr) (kg : ClassId) (dgs : List Value) (fm : Value) (cs : Int32) (h0 : Heap) (n0 : Nat) (O0 : Old Z n0 h0) (A0_ : Arv Z h0 v1 kv .byte (512 : Int32) (own_PW ls) (.int 0)) (G1_ : n0 ≤ v1) (hcap : ls.length ≤ 200) (hd9 : d1 ≤ 9) (S4_ : Sta Z Z.heap "java/lang/Integer" "DigitOnes" "[B" (.ref dg)) (ZA5_ : Arv Z Z.heap dg kg .byte (100 : Int32) dgs (.int 0)) (hdg : ∀ i, i < 10 → dgs.getD i (.int 0) = .int (Int32.ofNat (48 + i))) (hW : own_W Z cs fm) :
    own_M l mN62 (Jvm.Cond.code mN62 jdk_52_method_77_code 5 (some .int)) [] (⟨3, 0, 0, 43⟩ : Room) #[(.int (Int32.ofNat d1)), (.int (Int32.ofNat ls.length)), (.int (Int32.ofNat (ls.length + 1))), (.ref v1)] Z h0 (fun v h L => v = some (.int (Int32.ofNat ls.length)) ∧ Fr n0 L ∧ Keep h0 h [v1] ∧ (Arv Z h v1 kv .byte (512 : Int32) (own_PW (ls ++ [Int32.ofNat (48 + d1)])) (.int 0))) := by
  refine own_open n0 (plainFor_of_name pn_2) (fun m => ef_IIIR5 m (Int32.ofNat d1) (Int32.ofNat ls.length) (Int32.ofNat (ls.length + 1)) v1 ) ?_
  intro p e s m below meth c s₁ A0 Bd hx hby hml hown hnm hZ hh X0 e0 N0 g0
  obtain ⟨SC_, hcs, SF_, hfm, SU1_, SU2_, SU3_⟩ := id hW
  have hE := own_hd hby E74
  have g101 := jA X0 hx (jI X0 hx (jI X0 hx g0 (hE 0 rfl) rfl) (hE 1 rfl) rfl) (hE 2 rfl) rfl rfl
  obtain ⟨_, L102, T102, ⟨rfl, M102, e102⟩, X102, st102⟩ := own_callS X0 hx hZ hown (hw _ (mi 353 rfl)) (wd42 hw) (rm_ucbe hw ls.length (ls.length + 1) v1 kv (own_PW ls) fm cs h0 n0 O0 A0_ (by omega) (by omega) hW) g101 e0 [] rfl (lenOf pd_17 rfl) (hE 3 rfl) hml.symm 0 rfl (by decide)
  have N102 := Fr.app N0 M102
  have g103 := jA X102 hx (jI X102 hx (jI X102 hx st102 (hE 4 rfl) rfl) (hE 5 rfl) rfl) (hE 6 rfl) rfl rfl
  obtain ⟨_, L104, T104, ⟨rfl, M104, K104, y105⟩, X104, st104⟩ := own_callS X102 hx hZ hown (hw _ (mi 360 rfl)) (wd47 hw) (rm_ugP hw v1 kv ls d1 dg kg dgs cs fm h0 n0 O0 A0_ G1_ hcap hd9 S4_ ZA5_ hdg hW) g103 e102 [] rfl (lenOf pd_37 rfl) (hE 7 rfl) hml.symm 0 rfl (by decide)
  have N104 := Fr.app N102 M104
  have O106 := O0.keep K104 (allS G1_ all0)
  have g107 := js X104 hx st104 (hE 8 rfl) rfl (l' := #[iv (Int32.ofNat d1), iv (Int32.ofNat ls.length), iv (Int32.ofNat (ls.length + 1)), rv v1, iv (Int32.ofNat ls.length)]) rfl
  have y108 := SU1_.ext O106.2
  obtain ⟨T109, X109, e109, g109⟩ := own_getS X104 hx hZ hown (hw _ (mi 299 rfl)) Via.refl rfl y108 g107 (hE 9 rfl)
  have g110 := ji X109 hx (jY X109 hx g109 (hE 10 rfl) rfl (by decide) (pc' := 34) (by decide)) (hE 11 rfl) rfl
  have K111 : Keep h0 T104.heap [v1] := ((Keep.refl h0 [v1]).trans K104 (allS (P := fun x => x ∈ [v1] ∨ h0.size ≤ x) (Or.inl (mi 0 rfl)) all0))
  refine own_leave X109 Bd (some (.int (Int32.ofNat ls.length))) nofun g110 (fun fs hr => retI X109 hx Bd.returns (hE 12 rfl) hr) (by decide) (by decide) ?_
  rw [e109]
  exact ⟨rfl, N104, K111, y105⟩
theorem rm_gcM (hw : HW a0 Z) (v1 : Addr) (kv : ClassId) (ls : List Int32) (d1 : Nat) (dg : Addr) (kg : ClassId) (dgs : List Value) (h0 : Heap) (n0 : Nat) (O0 : Old Z n0 h0) (A0_ : Arv Z h0 v1 kv .byte (256 : Int32) (own_PL ls) (.int 0)) (G1_ : n0 ≤ v1) (hcap : ls.length ≤ 200) (hd1 : 1 ≤ d1) (hd9 : d1 ≤ 9) (S5_ : Sta Z Z.heap "java/lang/Integer" "DigitOnes" "[B" (.ref dg)) (ZA6_ : Arv Z Z.heap dg kg .byte (100 : Int32) dgs (.int 0)) (hdg : ∀ i, i < 10 → dgs.getD i (.int 0) = .int (Int32.ofNat (48 + i))) :
    own_M l mN60 (Jvm.Cond.code mN60 jdk_33_method_12_code 7 (some .int)) [] (⟨0, 0, 0, 0⟩ : Room) #[(.int (-(Int32.ofNat d1))), (.int (Int32.ofNat (ls.length + 1 + 1))), (.ref v1)] Z h0 (fun v h L => v = some (.int (Int32.ofNat ls.length)) ∧ Fr n0 L ∧ Keep h0 h [v1] ∧ (Arv Z h v1 kv .byte (256 : Int32) (own_PL (ls ++ [45, Int32.ofNat (48 + d1)])) (.int 0))) := by
  refine own_open n0 (plainFor_of_name pn_7) (fun m => ef_IIR7 m (-(Int32.ofNat d1)) (Int32.ofNat (ls.length + 1 + 1)) v1 ) ?_
  intro p e s m below meth c s₁ A0 Bd hx hby hml hown hnm hZ hh X0 e0 N0 g0
  have hE := own_hd hby E54
  have g101 := jk X0 hx (jA X0 hx (jy X0 hx (jb X0 hx (jI X0 hx (jY X0 hx (ji X0 hx (js X0 hx (jg X0 hx (jc X0 hx (jN X0 hx (jI X0 hx (js X0 hx (jI X0 hx g0 (hE 0 rfl) rfl) (hE 1 rfl) rfl (l' := #[iv (-(Int32.ofNat d1)), iv (Int32.ofNat (ls.length + 1 + 1)), rv v1, .unset, .unset, iv (Int32.ofNat (ls.length + 1 + 1)), .unset]) rfl) (hE 2 rfl) rfl) (hE 3 rfl) rfl ((if0 _ _).trans (tlt (own_neglt hd1 hd9 : (-(Int32.ofNat d1)) < (0 : Int32))).2.1)) (hE 4 rfl) 1 rfl) (hE 5 rfl) (pc' := 12) (by decide)) (hE 7 rfl) rfl (l' := #[iv (-(Int32.ofNat d1)), iv (Int32.ofNat (ls.length + 1 + 1)), rv v1, .unset, .unset, iv (Int32.ofNat (ls.length + 1 + 1)), iv 1]) rfl) (hE 8 rfl) rfl) (hE 9 rfl) rfl (by decide) (pc' := 22) (by decide)) (hE 13 rfl) rfl) (hE 14 rfl) (-100) rfl) (hE 15 rfl) rfl (tlt (own_ltneg hd9 (by decide) : (-100 : Int32) < (-(Int32.ofNat d1)))).2.2.1 (pc' := 72) (by decide)) (hE 16 rfl) rfl rfl) (hE 17 rfl) rfl (l' := #[iv (-(Int32.ofNat d1)), iv (Int32.ofNat (ls.length + 1 + 1)), rv v1, .unset, .unset, iv ((Int32.ofNat (ls.length + 1 + 1)) + (-1 : Int32)), iv 1]) rfl
  have g102 : Go p e below s₁ (mkF m 76 #[iv (-(Int32.ofNat d1)), iv (Int32.ofNat (ls.length + 1 + 1)), rv v1, .unset, .unset, iv (Int32.ofNat (ls.length + 1)), iv 1] [(.ref v1)]) A0 := by have z : Go p e below s₁ (mkF m 76 #[iv (-(Int32.ofNat d1)), iv (Int32.ofNat (ls.length + 1 + 1)), rv v1, .unset, .unset, iv ((Int32.ofNat (ls.length + 1 + 1)) + (-1 : Int32)), iv 1] [(.ref v1)]) A0 := g101; rw [own_pred ((ls.length + 1))] at z; exact z
  have g103 := ji X0 hx g102 (hE 18 rfl) rfl
  have y104 := S5_.ext O0.2
  obtain ⟨T105, X105, e105, g105⟩ := own_getS X0 hx hZ hown (hw _ (mi 283 rfl)) Via.refl e0 y104 g103 (hE 19 rfl)
  have g106 := jm X105 hx (jI X105 hx g105 (hE 20 rfl) rfl) (hE 21 rfl) rfl
  have g107 := own_rwS g106 (Int32.neg_neg (a := Int32.ofNat d1) : ((-(-(Int32.ofNat d1)))) = (Int32.ofNat d1))
  have y108 := ZA6_.ext O0.2
  have zz109 := y108
  obtain ⟨cl109, Ar109, q109, S109, M109, H109, G109⟩ := zz109
  have in109 : ¬ ((Int32.ofNat d1) < 0 ∨ cl109.slots.size ≤ ((Int32.ofNat d1)).toNatClampNeg) := inb_of S109 ⟨own_nonneg (by omega), own_lt (b := 100) (by omega) (by decide)⟩
  have at109 : cl109.slots[((Int32.ofNat d1)).toNatClampNeg]? = some (.int (Int32.ofNat (48 + d1))) := Has.at H109 in109 (by rw [own_clamp (by omega)]; exact hdg d1 (by omega))
  let lo110 : Array Slot := #[iv (-(Int32.ofNat d1)), iv (Int32.ofNat (ls.length + 1 + 1)), rv v1, .unset, .unset, iv (Int32.ofNat (ls.length + 1)), iv 1]
  have g111 : Go p e below T105 (mkF m 84 lo110 [(.int (Int32.ofNat (48 + d1))), (.int (Int32.ofNat (ls.length + 1))), (.ref v1)]) A0 := fun t kont => g107 t (X105.baloadBytes hx (j := (Int32.ofNat d1)) (v := (.int (Int32.ofNat (48 + d1)))) (by rw [e105]; exact Ar109.1) (State.isArrayOf_alike hZ.alike Ar109.2.1) Ar109.2.2 in109 at109 (g := (mkF m 83 lo110 [(.int (Int32.ofNat d1)), (.ref dg), (.int (Int32.ofNat (ls.length + 1))), (.ref v1)])) rfl rfl (hE 22 rfl) t kont)
  have zz112 := A0_
  obtain ⟨cl112, Ar112, q112, S112, M112, H112, G112⟩ := zz112
  have in112 : ¬ ((Int32.ofNat (ls.length + 1)) < 0 ∨ cl112.slots.size ≤ ((Int32.ofNat (ls.length + 1))).toNatClampNeg) := inb_of S112 ⟨own_nonneg (by omega), own_lt (b := 256) (by omega) (by decide)⟩
  obtain ⟨T112, h112, X112, e112, W112, st112⟩ := stB X105 hx hZ e105 Ar112 (j := (Int32.ofNat (ls.length + 1))) in112 (g := (mkF m 84 lo110 [(.int (Int32.ofNat (48 + d1))), (.int (Int32.ofNat (ls.length + 1))), (.ref v1)])) rfl rfl (hE 23 rfl)
  rw [show nar .byte (Int32.ofNat (48 + d1)) = ((Int32.ofNat (48 + d1)).toInt8.toInt32) from (by rfl)] at W112
  have O113 := O0.wr W112 G1_
  have y114 : Arv Z h112 v1 kv .byte (256 : Int32) ((own_PL ls).set (ls.length + 1) (.int ((Int32.ofNat (48 + d1)).toInt8.toInt32))) (.int 0) := Arv.set Ar112 q112 S112 M112 H112 G112 (own_ft_byte (z := (Int32.ofNat (48 + d1))) (by rfl)) W112 (ls.length + 1) (own_clamp (by omega)) (by rw [own_PLlen (by omega)]; omega)
  have N112 := Fr.snoc X112 N0 G1_
  have g115 : Go p e below T112 (mkF m 85 lo110 []) A0 := fun t kont => g111 t (st112 t kont)
  have g116 := jk X112 hx (jA X112 hx (jN X112 hx (ji X112 hx (jy X112 hx (jb X112 hx (jI X112 hx g115 (hE 24 rfl) rfl) (hE 25 rfl) (-9) rfl) (hE 26 rfl) rfl (flt (own_neg9 hd9 : ¬ ((-(Int32.ofNat d1)) < (-9 : Int32)))).2.1 (pc' := 104) (by decide)) (hE 27 rfl) rfl) (hE 28 rfl) rfl (by decide)) (hE 29 rfl) rfl rfl) (hE 30 rfl) rfl (l' := #[iv (-(Int32.ofNat d1)), iv (Int32.ofNat (ls.length + 1 + 1)), rv v1, .unset, .unset, iv ((Int32.ofNat (ls.length + 1)) + (-1 : Int32)), iv 1]) rfl
  have g117 : Go p e below T112 (mkF m 113 #[iv (-(Int32.ofNat d1)), iv (Int32.ofNat (ls.length + 1 + 1)), rv v1, .unset, .unset, iv (Int32.ofNat ls.length), iv 1] [(.ref v1)]) A0 := by have z : Go p e below T112 (mkF m 113 #[iv (-(Int32.ofNat d1)), iv (Int32.ofNat (ls.length + 1 + 1)), rv v1, .unset, .unset, iv ((Int32.ofNat (ls.length + 1)) + (-1 : Int32)), iv 1] [(.ref v1)]) A0 := g116; rw [own_pred (ls.length)] at z; exact z
  have g118 := jb X112 hx (ji X112 hx g117 (hE 31 rfl) rfl) (hE 32 rfl) 45 rfl
  have zz119 := y114
  obtain ⟨cl119, Ar119, q119, S119, M119, H119, G119⟩ := zz119
  have in119 : ¬ ((Int32.ofNat ls.length) < 0 ∨ cl119.slots.size ≤ ((Int32.ofNat ls.length)).toNatClampNeg) := inb_of S119 ⟨own_nonneg (by omega), own_lt (b := 256) (by omega) (by decide)⟩
  let lo120 : Array Slot := #[iv (-(Int32.ofNat d1)), iv (Int32.ofNat (ls.length + 1 + 1)), rv v1, .unset, .unset, iv (Int32.ofNat ls.length), iv 1]
  obtain ⟨T119, h119, X119, e119, W119, st119⟩ := stB X112 hx hZ e112 Ar119 (j := (Int32.ofNat ls.length)) in119 (g := (mkF m 117 lo120 [(.int 45), (.int (Int32.ofNat ls.length)), (.ref v1)])) rfl rfl (hE 33 rfl)
  rw [show nar .byte (45 : Int32) = (45 : Int32) from (by decide : nar .byte (45 : Int32) = (45 : Int32))] at W119
  have O121 := O113.wr W119 G1_
  have y122 : Arv Z h119 v1 kv .byte (256 : Int32) (((own_PL ls).set (ls.length + 1) (.int ((Int32.ofNat (48 + d1)).toInt8.toInt32))).set ls.length (.int 45)) (.int 0) := Arv.set Ar119 q119 S119 M119 H119 G119 (own_ft_byte (z := (45 : Int32)) (by decide : nar .byte (45 : Int32) = (45 : Int32))) W119 ls.length (own_clamp (by omega)) (by rw [List.length_set, own_PLlen (by omega)]; omega)
  have N119 := Fr.snoc X119 N112 G1_
  have g123 : Go p e below T119 (mkF m 118 lo120 []) A0 := fun t kont => g118 t (st119 t kont)
  have g124 := ji X119 hx g123 (hE 34 rfl) rfl
  have K125 : Keep h0 h119 [v1] := (((Keep.refl h0 [v1]).wr W112 (Or.inl (mi 0 rfl))).wr W119 (Or.inl (mi 0 rfl)))
  refine own_leave X119 Bd (some (.int (Int32.ofNat ls.length))) nofun g124 (fun fs hr => retI X119 hx Bd.returns (hE 35 rfl) hr) (by decide) (by decide) ?_
  rw [e119]
  exact ⟨rfl, N119, K125, (by have q := y122; rw [own_PLneg (by omega)] at q; exact q)⟩
theorem rm_ugM (hw : HW a0 Z) (v1 : Addr) (kv : ClassId) (ls : List Int32) (d1 : Nat) (dg : Addr) (kg : ClassId) (dgs : List Value) (cs : Int32) (fm : Value) (h0 : Heap) (n0 : Nat) (O0 : Old Z n0 h0) (A0_ : Arv Z h0 v1 kv .byte (512 : Int32) (own_PW ls) (.int 0)) (G1_ : n0 ≤ v1) (hcap : ls.length ≤ 200) (hd1 : 1 ≤ d1) (hd9 : d1 ≤ 9) (S5_ : Sta Z Z.heap "java/lang/Integer" "DigitOnes" "[B" (.ref dg)) (ZA6_ : Arv Z Z.heap dg kg .byte (100 : Int32) dgs (.int 0)) (hdg : ∀ i, i < 10 → dgs.getD i (.int 0) = .int (Int32.ofNat (48 + i))) (hW : own_W Z cs fm) :
    own_M l mN61 (Jvm.Cond.code mN61 jdk_52_method_89_code 7 (some .int)) [] (⟨1, 0, 0, 14⟩ : Room) #[(.int (-(Int32.ofNat d1))), (.int (Int32.ofNat (ls.length + 1 + 1))), (.ref v1)] Z h0 (fun v h L => v = some (.int (Int32.ofNat ls.length)) ∧ Fr n0 L ∧ Keep h0 h [v1] ∧ (Arv Z h v1 kv .byte (512 : Int32) (own_PW (ls ++ [45, Int32.ofNat (48 + d1)])) (.int 0))) := by
  refine own_open n0 (plainFor_of_name pn_2) (fun m => ef_IIR7 m (-(Int32.ofNat d1)) (Int32.ofNat (ls.length + 1 + 1)) v1 ) ?_
  intro p e s m below meth c s₁ A0 Bd hx hby hml hown hnm hZ hh X0 e0 N0 g0
  obtain ⟨SC_, hcs, SF_, hfm, SU1_, SU2_, SU3_⟩ := id hW
  have hE := own_hd hby E77
  have g101 := jk X0 hx (jA X0 hx (jy X0 hx (jb X0 hx (jI X0 hx (jY X0 hx (ji X0 hx (js X0 hx (jg X0 hx (jc X0 hx (jN X0 hx (jI X0 hx (js X0 hx (jI X0 hx g0 (hE 0 rfl) rfl) (hE 1 rfl) rfl (l' := #[iv (-(Int32.ofNat d1)), iv (Int32.ofNat (ls.length + 1 + 1)), rv v1, .unset, .unset, iv (Int32.ofNat (ls.length + 1 + 1)), .unset]) rfl) (hE 2 rfl) rfl) (hE 3 rfl) rfl ((if0 _ _).trans (tlt (own_neglt hd1 hd9 : (-(Int32.ofNat d1)) < (0 : Int32))).2.1)) (hE 4 rfl) 1 rfl) (hE 5 rfl) (pc' := 12) (by decide)) (hE 7 rfl) rfl (l' := #[iv (-(Int32.ofNat d1)), iv (Int32.ofNat (ls.length + 1 + 1)), rv v1, .unset, .unset, iv (Int32.ofNat (ls.length + 1 + 1)), iv 1]) rfl) (hE 8 rfl) rfl) (hE 9 rfl) rfl (by decide) (pc' := 22) (by decide)) (hE 13 rfl) rfl) (hE 14 rfl) (-100) rfl) (hE 15 rfl) rfl (tlt (own_ltneg hd9 (by decide) : (-100 : Int32) < (-(Int32.ofNat d1)))).2.2.1 (pc' := 76) (by decide)) (hE 16 rfl) rfl rfl) (hE 17 rfl) rfl (l' := #[iv (-(Int32.ofNat d1)), iv (Int32.ofNat (ls.length + 1 + 1)), rv v1, .unset, .unset, iv ((Int32.ofNat (ls.length + 1 + 1)) + (-1 : Int32)), iv 1]) rfl
  have g102 : Go p e below s₁ (mkF m 80 #[iv (-(Int32.ofNat d1)), iv (Int32.ofNat (ls.length + 1 + 1)), rv v1, .unset, .unset, iv (Int32.ofNat (ls.length + 1)), iv 1] [(.ref v1)]) A0 := by have z : Go p e below s₁ (mkF m 80 #[iv (-(Int32.ofNat d1)), iv (Int32.ofNat (ls.length + 1 + 1)), rv v1, .unset, .unset, iv ((Int32.ofNat (ls.length + 1 + 1)) + (-1 : Int32)), iv 1] [(.ref v1)]) A0 := g101; rw [own_pred ((ls.length + 1))] at z; exact z
  have g103 := ji X0 hx g102 (hE 18 rfl) rfl
  have y104 := S5_.ext O0.2
  obtain ⟨T105, X105, e105, g105⟩ := own_getS X0 hx hZ hown (hw _ (mi 363 rfl)) Via.refl e0 y104 g103 (hE 19 rfl)
  have g106 := jm X105 hx (jI X105 hx g105 (hE 20 rfl) rfl) (hE 21 rfl) rfl
  have g107 := own_rwS g106 (Int32.neg_neg (a := Int32.ofNat d1) : ((-(-(Int32.ofNat d1)))) = (Int32.ofNat d1))
  have y108 := ZA6_.ext O0.2
  have zz109 := y108
  obtain ⟨cl109, Ar109, q109, S109, M109, H109, G109⟩ := zz109
  have in109 : ¬ ((Int32.ofNat d1) < 0 ∨ cl109.slots.size ≤ ((Int32.ofNat d1)).toNatClampNeg) := inb_of S109 ⟨own_nonneg (by omega), own_lt (b := 100) (by omega) (by decide)⟩
  have at109 : cl109.slots[((Int32.ofNat d1)).toNatClampNeg]? = some (.int (Int32.ofNat (48 + d1))) := Has.at H109 in109 (by rw [own_clamp (by omega)]; exact hdg d1 (by omega))
  let lo110 : Array Slot := #[iv (-(Int32.ofNat d1)), iv (Int32.ofNat (ls.length + 1 + 1)), rv v1, .unset, .unset, iv (Int32.ofNat (ls.length + 1)), iv 1]
  have g111 : Go p e below T105 (mkF m 88 lo110 [(.int (Int32.ofNat (48 + d1))), (.int (Int32.ofNat (ls.length + 1))), (.ref v1)]) A0 := fun t kont => g107 t (X105.baloadBytes hx (j := (Int32.ofNat d1)) (v := (.int (Int32.ofNat (48 + d1)))) (by rw [e105]; exact Ar109.1) (State.isArrayOf_alike hZ.alike Ar109.2.1) Ar109.2.2 in109 at109 (g := (mkF m 87 lo110 [(.int (Int32.ofNat d1)), (.ref dg), (.int (Int32.ofNat (ls.length + 1))), (.ref v1)])) rfl rfl (hE 22 rfl) t kont)
  obtain ⟨_, L112, T112, ⟨rfl, M112, K112, y113⟩, X112, st112⟩ := own_callS X105 hx hZ hown (hw _ (mi 296 rfl)) (wd2 hw) (rm_putG hw v1 (ls.length + 1) (Int32.ofNat (48 + d1)) kv (512 : Int32) (own_PW ls) cs fm h0 n0 O0 A0_ G1_ (by rw [own_PWlen (by omega)]; omega) (by rw [own_PWlen (by omega)]; rfl) (by rw [own_PWlen (by omega)]; decide) hW) g111 e105 [] rfl (lenOf pd_2 rfl) (hE 23 rfl) hml.symm 0 rfl (by decide)
  have N112 := Fr.app N0 M112
  have O114 := O0.keep K112 (allS G1_ all0)
  have g115 := jk X112 hx (jA X112 hx (jN X112 hx (ji X112 hx (jy X112 hx (jb X112 hx (jI X112 hx st112 (hE 24 rfl) rfl) (hE 25 rfl) (-9) rfl) (hE 26 rfl) rfl (flt (own_neg9 hd9 : ¬ ((-(Int32.ofNat d1)) < (-9 : Int32)))).2.1 (pc' := 112) (by decide)) (hE 27 rfl) rfl) (hE 28 rfl) rfl (by decide)) (hE 29 rfl) rfl rfl) (hE 30 rfl) rfl (l' := #[iv (-(Int32.ofNat d1)), iv (Int32.ofNat (ls.length + 1 + 1)), rv v1, .unset, .unset, iv ((Int32.ofNat (ls.length + 1)) + (-1 : Int32)), iv 1]) rfl
  have g116 : Go p e below T112 (mkF m 121 #[iv (-(Int32.ofNat d1)), iv (Int32.ofNat (ls.length + 1 + 1)), rv v1, .unset, .unset, iv (Int32.ofNat ls.length), iv 1] [(.ref v1)]) A0 := by have z : Go p e below T112 (mkF m 121 #[iv (-(Int32.ofNat d1)), iv (Int32.ofNat (ls.length + 1 + 1)), rv v1, .unset, .unset, iv ((Int32.ofNat (ls.length + 1)) + (-1 : Int32)), iv 1] [(.ref v1)]) A0 := g115; rw [own_pred (ls.length)] at z; exact z
  have g117 := jb X112 hx (ji X112 hx g116 (hE 31 rfl) rfl) (hE 32 rfl) 45 rfl
  obtain ⟨_, L118, T118, ⟨rfl, M118, K118, y119⟩, X118, st118⟩ := own_callS X112 hx hZ hown (hw _ (mi 296 rfl)) (wd2 hw) (rm_putG hw v1 ls.length (45 : Int32) kv (512 : Int32) (((own_PW ls).set (2 * (ls.length + 1)) (.int (((Int32.ofNat (48 + d1)) >>> ((0 : Int32) &&& 31)).toInt8.toInt32))).set (2 * (ls.length + 1) + 1) (.int (((Int32.ofNat (48 + d1)) >>> ((8 : Int32) &&& 31)).toInt8.toInt32))) cs fm T112.heap n0 O114 y113 G1_ (by rw [List.length_set, List.length_set]; rw [own_PWlen (by omega)]; omega) (by rw [List.length_set, List.length_set]; rw [own_PWlen (by omega)]; rfl) (by rw [List.length_set, List.length_set]; rw [own_PWlen (by omega)]; decide) hW) g117 rfl [] rfl (lenOf pd_2 rfl) (hE 33 rfl) hml.symm 0 rfl (by decide)
  have N118 := Fr.app N112 M118
  have O120 := O114.keep K118 (allS G1_ all0)
  have g121 := ji X118 hx st118 (hE 34 rfl) rfl
  have K122 : Keep h0 T118.heap [v1] := (((Keep.refl h0 [v1]).trans K112 (allS (P := fun x => x ∈ [v1] ∨ h0.size ≤ x) (Or.inl (mi 0 rfl)) all0)).trans K118 (allS (P := fun x => x ∈ [v1] ∨ h0.size ≤ x) (Or.inl (mi 0 rfl)) all0))
  refine own_leave X118 Bd (some (.int (Int32.ofNat ls.length))) nofun g121 (fun fs hr => retI X118 hx Bd.returns (hE 35 rfl) hr) (by decide) (by decide) ?_
  exact ⟨rfl, N118, K122, (by have q := y119; rw [own_PWneg (by omega)] at q; exact q)⟩
theorem rm_uhM (hw : HW a0 Z) (v1 : Addr) (kv : ClassId) (ls : List Int32) (d1 : Nat) (dg : Addr) (kg : ClassId) (dgs : List Value) (fm : Value) (cs : Int32) (h0 : Heap) (n0 : Nat) (O0 : Old Z n0 h0) (A0_ : Arv Z h0 v1 kv .byte (512 : Int32) (own_PW ls) (.int 0)) (G1_ : n0 ≤ v1) (hcap : ls.length ≤ 200) (hd1 : 1 ≤ d1) (hd9 : d1 ≤ 9) (S5_ : Sta Z Z.heap "java/lang/Integer" "DigitOnes" "[B" (.ref dg)) (ZA6_ : Arv Z Z.heap dg kg .byte (100 : Int32) dgs (.int 0)) (hdg : ∀ i, i < 10 → dgs.getD i (.int 0) = .int (Int32.ofNat (48 + i))) (hW : own_W Z cs fm) :
    own_M l mN62 (Jvm.Cond.code mN62 jdk_52_method_77_code 5 (some .int)) [] (⟨3, 0, 0, 43⟩ : Room) #[(.int (-(Int32.ofNat d1))), (.int (Int32.ofNat ls.length)), (.int (Int32.ofNat (ls.length + 1 + 1))), (.ref v1)] Z h0 (fun v h L => v = some (.int (Int32.ofNat ls.length)) ∧ Fr n0 L ∧ Keep h0 h [v1] ∧ (Arv Z h v1 kv .byte (512 : Int32) (own_PW (ls ++ [45, Int32.ofNat (48 + d1)])) (.int 0))) := by
  refine own_open n0 (plainFor_of_name pn_2) (fun m => ef_IIIR5 m (-(Int32.ofNat d1)) (Int32.ofNat ls.length) (Int32.ofNat (ls.length + 1 + 1)) v1 ) ?_
  intro p e s m below meth c s₁ A0 Bd hx hby hml hown hnm hZ hh X0 e0 N0 g0
  obtain ⟨SC_, hcs, SF_, hfm, SU1_, SU2_, SU3_⟩ := id hW
  have hE := own_hd hby E74
  have g101 := jA X0 hx (jI X0 hx (jI X0 hx g0 (hE 0 rfl) rfl) (hE 1 rfl) rfl) (hE 2 rfl) rfl rfl
  obtain ⟨_, L102, T102, ⟨rfl, M102, e102⟩, X102, st102⟩ := own_callS X0 hx hZ hown (hw _ (mi 353 rfl)) (wd42 hw) (rm_ucbe hw ls.length (ls.length + 1 + 1) v1 kv (own_PW ls) fm cs h0 n0 O0 A0_ (by omega) (by omega) hW) g101 e0 [] rfl (lenOf pd_17 rfl) (hE 3 rfl) hml.symm 0 rfl (by decide)
  have N102 := Fr.app N0 M102
  have g103 := jA X102 hx (jI X102 hx (jI X102 hx st102 (hE 4 rfl) rfl) (hE 5 rfl) rfl) (hE 6 rfl) rfl rfl
  obtain ⟨_, L104, T104, ⟨rfl, M104, K104, y105⟩, X104, st104⟩ := own_callS X102 hx hZ hown (hw _ (mi 360 rfl)) (wd47 hw) (rm_ugM hw v1 kv ls d1 dg kg dgs cs fm h0 n0 O0 A0_ G1_ hcap hd1 hd9 S5_ ZA6_ hdg hW) g103 e102 [] rfl (lenOf pd_37 rfl) (hE 7 rfl) hml.symm 0 rfl (by decide)
  have N104 := Fr.app N102 M104
  have O106 := O0.keep K104 (allS G1_ all0)
  have g107 := js X104 hx st104 (hE 8 rfl) rfl (l' := #[iv (-(Int32.ofNat d1)), iv (Int32.ofNat ls.length), iv (Int32.ofNat (ls.length + 1 + 1)), rv v1, iv (Int32.ofNat ls.length)]) rfl
  have y108 := SU1_.ext O106.2
  obtain ⟨T109, X109, e109, g109⟩ := own_getS X104 hx hZ hown (hw _ (mi 299 rfl)) Via.refl rfl y108 g107 (hE 9 rfl)
  have g110 := ji X109 hx (jY X109 hx g109 (hE 10 rfl) rfl (by decide) (pc' := 34) (by decide)) (hE 11 rfl) rfl
  have K111 : Keep h0 T104.heap [v1] := ((Keep.refl h0 [v1]).trans K104 (allS (P := fun x => x ∈ [v1] ∨ h0.size ≤ x) (Or.inl (mi 0 rfl)) all0))
  refine own_leave X109 Bd (some (.int (Int32.ofNat ls.length))) nofun g110 (fun fs hr => retI X109 hx Bd.returns (hE 12 rfl) hr) (by decide) (by decide) ?_
  rw [e109]
  exact ⟨rfl, N104, K111, y105⟩
theorem wd48 (hw : HW a0 Z) : own_wdS a0 Z mN59 jdk_33_method_13_code 4 (some .int) := ⟨hw _ (mi 277 rfl), hw _ (mi 278 rfl), hw _ (mi 279 rfl), by decide⟩
theorem wd49 (hw : HW a0 Z) : own_wdS a0 Z mN60 jdk_33_method_12_code 7 (some .int) := ⟨hw _ (mi 281 rfl), hw _ (mi 278 rfl), hw _ (mi 282 rfl), by decide⟩
theorem pd_38 : parseMethodDescriptor "(III[B)I" = some ⟨[.int, .int, .int, (.array .byte)], some .int⟩ := by decide +kernel
theorem wd50 (hw : HW a0 Z) : own_wdS a0 Z mN62 jdk_52_method_77_code 5 (some .int) := ⟨hw _ (mi 351 rfl), hw _ (mi 37 rfl), hw _ (mi 352 rfl), by decide⟩
theorem ef_RI4 (m : MethodId) (x0 : Addr) (x1 : Int32)  : entryFrame m #[(.ref x0), (.int x1)] 4 = mkF m 0 #[.val (.ref x0), .val (.int x1), .unset, .unset] [] := by first | (simp [entryFrame, mkF, argsToLocals, Value.category]; done) | rfl
theorem rm_iaN (hw : HW a0 Z) (b1 v1 : Addr) (kv : ClassId) (ls : List Int32) (cd z1 : Int32) (vs : List Value) (cs : Int32) (fm : Value) (r1 : Int32) (ds : List Int32) (dg : Addr) (kg : ClassId) (dgs : List Value) (h0 : Heap) (n0 : Nat) (O0 : Old Z n0 h0) (E0_ : Exa Z h0 b1 "java/lang/StringBuilder") (F1_ : Fld Z h0 b1 "java/lang/AbstractStringBuilder" "value" "[B" (.ref v1)) (F2_ : Fld Z h0 b1 "java/lang/AbstractStringBuilder" "coder" "B" (.int cd)) (F3_ : Fld Z h0 b1 "java/lang/AbstractStringBuilder" "count" "I" (.int (Int32.ofNat ls.length))) (F4_ : Fld Z h0 b1 "java/lang/AbstractStringBuilder" "maybeLatin1" "Z" (.int 0)) (A5_ : Arv Z h0 v1 kv .byte z1 vs (.int 0)) (hsb : own_sb ls cd z1 vs) (hrd : own_rd r1 ds) (G8_ : n0 ≤ b1) (G9_ : n0 ≤ v1) (NE10_ : ¬ (v1 = b1)) (hcap : ls.length ≤ 200) (S12_ : Sta Z Z.heap "java/lang/Integer" "DigitOnes" "[B" (.ref dg)) (ZA13_ : Arv Z Z.heap dg kg .byte (100 : Int32) dgs (.int 0)) (hdg : ∀ i, i < 10 → dgs.getD i (.int 0) = .int (Int32.ofNat (48 + i))) (hW : own_W Z cs fm) :
    own_M l mN63 (Jvm.Cond.code mN63 jdk_68_method_32_code 4 (some (.object "java/lang/AbstractStringBuilder"))) [] (⟨4, 0, 0, 59⟩ : Room) #[(.ref b1), (.int r1)] Z h0 (fun v h L => ∃ (cd2 : Int32), ∃ (z2 : Int32), ∃ (vs2 : List Value), v = some (.ref b1) ∧ Fr n0 L ∧ Keep h0 h [b1, v1] ∧ (Exa Z h b1 "java/lang/StringBuilder") ∧ (Fld Z h b1 "java/lang/AbstractStringBuilder" "value" "[B" (.ref v1)) ∧ (Fld Z h b1 "java/lang/AbstractStringBuilder" "coder" "B" (.int cd2)) ∧ (Fld Z h b1 "java/lang/AbstractStringBuilder" "count" "I" (.int (Int32.ofNat (ls ++ ds).length))) ∧ (Fld Z h b1 "java/lang/AbstractStringBuilder" "maybeLatin1" "Z" (.int 0)) ∧ (Arv Z h v1 kv .byte z2 vs2 (.int 0)) ∧ (own_sb (ls ++ ds) cd2 z2 vs2)) := by
  refine own_open n0 (plainFor_of_name pn_4) (fun m => ef_RI4 m b1 r1 ) ?_
  intro p e s m below meth c s₁ A0 Bd hx hby hml hown hnm hZ hh X0 e0 N0 g0
  obtain ⟨SC_, hcs, SF_, hfm, SU1_, SU2_, SU3_⟩ := id hW
  have hE := own_hd hby E52
  have hq := hrd
  rcases hq with ⟨d1, hd9, e5, e6⟩ | ⟨d1, hd1, hd9, e5, e6⟩
  ·
    have g101 : Go p e below s₁ (mkF m 0 #[rv b1, iv (Int32.ofNat d1), .unset, .unset] []) A0 := by have z : Go p e below s₁ (mkF m 0 #[rv b1, iv r1, .unset, .unset] []) A0 := g0; rw [e5] at z; exact z
    have hq102 := hsb
    rcases hq102 with ⟨e1, e2, e3, ll, cl⟩ | ⟨e1, e2, e3⟩
    ·
      have y103 := F2_
      rw [e1] at y103
      have y104 := A5_
      rw [e2, e3] at y104
      have g105 := jA X0 hx g101 (hE 0 rfl) rfl rfl
      obtain ⟨T106, X106, e106, g106⟩ := own_getF X0 hx hZ hown (hw _ (mi 80 rfl)) Via.refl e0 F3_ g105 (hE 1 rfl)
      have g107 := jI X106 hx (jI X106 hx (jS X106 hx g106 (hE 2 rfl) rfl (l' := #[rv b1, iv (Int32.ofNat d1), iv (Int32.ofNat ls.length), .unset]) rfl) (hE 3 rfl) rfl) (hE 4 rfl) rfl
      obtain ⟨_, L108, T108, ⟨rfl, M108, e108⟩, X108, st108⟩ := own_callS X106 hx hZ hown (hw _ (mi 276 rfl)) (wd48 hw) (rm_ssP hw d1 h0 n0 O0 hd9) g107 e106 [(.int (Int32.ofNat ls.length))] rfl (lenOf pd_0 rfl) (hE 5 rfl) hml.symm 1 rfl (by decide)
      have N108 := Fr.app N0 M108
      have g109 := jP X108 hx st108 (hE 6 rfl) rfl
      have g110 := own_rwS g109 (own_succ ls.length : ((Int32.ofNat ls.length) + (1 : Int32)) = (Int32.ofNat (ls.length + 1)))
      have g111 := jI X108 hx (jA X108 hx (jS X108 hx g110 (hE 7 rfl) rfl (l' := #[rv b1, iv (Int32.ofNat d1), iv (Int32.ofNat ls.length), iv (Int32.ofNat (ls.length + 1))]) rfl) (hE 8 rfl) rfl rfl) (hE 9 rfl) rfl
      obtain ⟨_, L112, T112, ⟨rfl, M112, e112⟩, X112, st112⟩ := own_callP X108 hx hZ hown (hw _ (mi 82 rfl)) (wd24 hw) E0_ (rm_ensN hw b1 (ls.length + 1) v1 kv (0 : Int32) (256 : Int32) (own_PL ls) h0 n0 O0 F1_ y103 y104 (Or.inl ⟨rfl, rfl⟩) (by omega)) g111 e108 [] rfl (lenOf pd_14 rfl) (hE 10 rfl) hml.symm 0 rfl (by decide)
      have N112 := Fr.app N108 M112
      have g113 := jA X112 hx st112 (hE 11 rfl) rfl rfl
      obtain ⟨_, L114, T114, ⟨rfl, M114, e114⟩, X114, st114⟩ := own_callV X112 hx hZ hown (hw _ (mi 87 rfl)) (wd22 hw) (notFace_of_selects (args := #[]) (mvT hZ (hw _ (mi 90 rfl)))) E0_ (rm_al0 hw b1 cs h0 n0 O0 SC_ hcs y103) g113 e112 [] rfl (lenOf pd_13 rfl) (hE 12 rfl) hml.symm 0 rfl (by decide)
      have N114 := Fr.app N112 M114
      have g115 := jA X114 hx (jI X114 hx (jI X114 hx (jN X114 hx st114 (hE 13 rfl) rfl (by decide)) (hE 14 rfl) rfl) (hE 15 rfl) rfl) (hE 16 rfl) rfl rfl
      obtain ⟨T116, X116, e116, g116⟩ := own_getF X114 hx hZ hown (hw _ (mi 66 rfl)) Via.refl e114 F1_ g115 (hE 17 rfl)
      obtain ⟨_, L117, T117, ⟨rfl, M117, K117, y118⟩, X117, st117⟩ := own_callS X116 hx hZ hown (hw _ (mi 280 rfl)) (wd49 hw) (rm_gcP hw v1 kv ls d1 dg kg dgs h0 n0 O0 y104 G9_ hcap hd9 S12_ ZA13_ hdg) g116 e116 [] rfl (lenOf pd_37 rfl) (hE 18 rfl) hml.symm 0 rfl (by decide)
      have N117 := Fr.app N114 M117
      have O119 := O0.keep K117 (allS G9_ all0)
      have y120 : Arv Z T117.heap v1 kv .byte (256 : Int32) (own_PL (ls ++ ds)) (.int 0) := by have q := y118; rw [← e6] at q; exact q
      have g121 := jI X117 hx (jA X117 hx (jg X117 hx (jo X117 hx st117 (hE 19 rfl) rfl rfl) (hE 20 rfl) (pc' := 48) (by decide)) (hE 28 rfl) rfl rfl) (hE 29 rfl) rfl
      have g122 : Go p e below T117 (mkF m 50 #[rv b1, iv (Int32.ofNat d1), iv (Int32.ofNat ls.length), iv (Int32.ofNat (ls ++ ds).length)] [(.int (Int32.ofNat (ls ++ ds).length)), (.ref b1)]) A0 := by have z : Go p e below T117 (mkF m 50 #[rv b1, iv (Int32.ofNat d1), iv (Int32.ofNat ls.length), iv (Int32.ofNat (ls.length + 1))] [(.int (Int32.ofNat (ls.length + 1))), (.ref b1)]) A0 := g121; rw [own_cntd1 (ls := ls) e6] at z; exact z
      have y123 := (E0_.keep K117)
      have y124 := (F3_.keep K117 (ninS (Ne.symm NE10_) nin0))
      let lo126 : Array Slot := #[rv b1, iv (Int32.ofNat d1), iv (Int32.ofNat ls.length), iv (Int32.ofNat (ls ++ ds).length)]
      obtain ⟨T125, h125, X125, e125, W125, st125⟩ := putF X117 hx hZ hown (host := "") (Or.inl (hw _ (mi 80 rfl))) Via.refl rfl y124 y123 (Or.inl (hw _ (mi 81 rfl))) (hw _ (mi 53 rfl)) (ty := .int) (by decide) rfl rfl (g := (mkF m 50 lo126 [(.int (Int32.ofNat (ls ++ ds).length)), (.ref b1)])) rfl rfl (hE 30 rfl)
      have O127 := O119.wr W125 G8_
      have y128 : Fld Z h125 b1 "java/lang/AbstractStringBuilder" "count" "I" (.int (Int32.ofNat (ls ++ ds).length)) := y124.same W125
      have N125 := Fr.snoc X125 N117 G8_
      have g129 : Go p e below T125 (mkF m 53 lo126 []) A0 := fun t kont => g122 t (st125 t kont)
      have g130 := jA X125 hx g129 (hE 31 rfl) rfl rfl
      have K131 : Keep h0 h125 [b1, v1] := (((Keep.refl h0 [b1, v1]).trans K117 (allS (P := fun x => x ∈ [b1, v1] ∨ h0.size ≤ x) (Or.inl (mi 1 rfl)) all0)).wr W125 (Or.inl (mi 0 rfl)))
      have y132 := (y123.wr W125)
      have y133 := ((F1_.keep K117 (ninS (Ne.symm NE10_) nin0)).other W125 (Or.inr (slot_ne (Or.inl (hw _ (mi 67 rfl))) (Or.inl (hw _ (mi 81 rfl))) (by decide) (t := (.array .byte)) (t' := .int) (by decide) (by decide))))
      have y134 := ((y103.keep K117 (ninS (Ne.symm NE10_) nin0)).other W125 (Or.inr (slot_ne (Or.inl (hw _ (mi 69 rfl))) (Or.inl (hw _ (mi 81 rfl))) (by decide) (t := .byte) (t' := .int) (by decide) (by decide))))
      have y135 := ((F4_.keep K117 (ninS (Ne.symm NE10_) nin0)).other W125 (Or.inr (slot_ne (Or.inl (hw _ (mi 365 rfl))) (Or.inl (hw _ (mi 81 rfl))) (by decide) (t := .boolean) (t' := .int) (by decide) (by decide))))
      have y136 := (y120.other W125 NE10_)
      refine own_leave X125 Bd (some (.ref b1)) nofun g130 (fun fs hr => retOut X125 hx Bd.returns rfl (Or.inr (Or.inr (Or.inr (Or.inr ⟨rfl, rfl, rfl⟩)))) (hE 32 rfl) hr) (by decide) (by decide) ?_
      rw [e125]
      exact ⟨(0 : Int32), (256 : Int32), (own_PL (ls ++ ds)), rfl, N125, K131, y132, y133, y134, y128, y135, y136, Or.inl ⟨rfl, rfl, rfl, own_lat_app ll (own_rdlat hrd).1, own_chars_app cl (own_rdlat hrd).2.1⟩⟩
    have y137 := F2_
    rw [e1] at y137
    have y138 := A5_
    rw [e2, e3] at y138
    have g139 := jA X0 hx g101 (hE 0 rfl) rfl rfl
    obtain ⟨T140, X140, e140, g140⟩ := own_getF X0 hx hZ hown (hw _ (mi 80 rfl)) Via.refl e0 F3_ g139 (hE 1 rfl)
    have g141 := jI X140 hx (jI X140 hx (jS X140 hx g140 (hE 2 rfl) rfl (l' := #[rv b1, iv (Int32.ofNat d1), iv (Int32.ofNat ls.length), .unset]) rfl) (hE 3 rfl) rfl) (hE 4 rfl) rfl
    obtain ⟨_, L142, T142, ⟨rfl, M142, e142⟩, X142, st142⟩ := own_callS X140 hx hZ hown (hw _ (mi 276 rfl)) (wd48 hw) (rm_ssP hw d1 h0 n0 O0 hd9) g141 e140 [(.int (Int32.ofNat ls.length))] rfl (lenOf pd_0 rfl) (hE 5 rfl) hml.symm 1 rfl (by decide)
    have N142 := Fr.app N0 M142
    have g143 := jP X142 hx st142 (hE 6 rfl) rfl
    have g144 := own_rwS g143 (own_succ ls.length : ((Int32.ofNat ls.length) + (1 : Int32)) = (Int32.ofNat (ls.length + 1)))
    have g145 := jI X142 hx (jA X142 hx (jS X142 hx g144 (hE 7 rfl) rfl (l' := #[rv b1, iv (Int32.ofNat d1), iv (Int32.ofNat ls.length), iv (Int32.ofNat (ls.length + 1))]) rfl) (hE 8 rfl) rfl rfl) (hE 9 rfl) rfl
    obtain ⟨_, L146, T146, ⟨rfl, M146, e146⟩, X146, st146⟩ := own_callP X142 hx hZ hown (hw _ (mi 82 rfl)) (wd24 hw) E0_ (rm_ensN hw b1 (ls.length + 1) v1 kv (1 : Int32) (512 : Int32) (own_PW ls) h0 n0 O0 F1_ y137 y138 (Or.inr ⟨rfl, rfl⟩) (by omega)) g145 e142 [] rfl (lenOf pd_14 rfl) (hE 10 rfl) hml.symm 0 rfl (by decide)
    have N146 := Fr.app N142 M146
    have g147 := jA X146 hx st146 (hE 11 rfl) rfl rfl
    obtain ⟨_, L148, T148, ⟨rfl, M148, e148⟩, X148, st148⟩ := own_callV X146 hx hZ hown (hw _ (mi 87 rfl)) (wd22 hw) (notFace_of_selects (args := #[]) (mvT hZ (hw _ (mi 90 rfl)))) E0_ (rm_al1 hw b1 cs h0 n0 O0 SC_ hcs y137) g147 e146 [] rfl (lenOf pd_13 rfl) (hE 12 rfl) hml.symm 0 rfl (by decide)
    have N148 := Fr.app N146 M148
    have g149 := jA X148 hx (jI X148 hx (jI X148 hx (jI X148 hx (jY X148 hx st148 (hE 13 rfl) rfl (by decide) (pc' := 37) (by decide)) (hE 21 rfl) rfl) (hE 22 rfl) rfl) (hE 23 rfl) rfl) (hE 24 rfl) rfl rfl
    obtain ⟨T150, X150, e150, g150⟩ := own_getF X148 hx hZ hown (hw _ (mi 66 rfl)) Via.refl e148 F1_ g149 (hE 25 rfl)
    obtain ⟨_, L151, T151, ⟨rfl, M151, K151, y152⟩, X151, st151⟩ := own_callS X150 hx hZ hown (hw _ (mi 350 rfl)) (wd50 hw) (rm_uhP hw v1 kv ls d1 dg kg dgs fm cs h0 n0 O0 y138 G9_ hcap hd9 S12_ ZA13_ hdg hW) g150 e150 [] rfl (lenOf pd_38 rfl) (hE 26 rfl) hml.symm 0 rfl (by decide)
    have N151 := Fr.app N148 M151
    have O153 := O0.keep K151 (allS G9_ all0)
    have y154 : Arv Z T151.heap v1 kv .byte (512 : Int32) (own_PW (ls ++ ds)) (.int 0) := by have q := y152; rw [← e6] at q; exact q
    have g155 := jI X151 hx (jA X151 hx (jo X151 hx st151 (hE 27 rfl) rfl rfl) (hE 28 rfl) rfl rfl) (hE 29 rfl) rfl
    have g156 : Go p e below T151 (mkF m 50 #[rv b1, iv (Int32.ofNat d1), iv (Int32.ofNat ls.length), iv (Int32.ofNat (ls ++ ds).length)] [(.int (Int32.ofNat (ls ++ ds).length)), (.ref b1)]) A0 := by have z : Go p e below T151 (mkF m 50 #[rv b1, iv (Int32.ofNat d1), iv (Int32.ofNat ls.length), iv (Int32.ofNat (ls.length + 1))] [(.int (Int32.ofNat (ls.length + 1))), (.ref b1)]) A0 := g155; rw [own_cntd1 (ls := ls) e6] at z; exact z
    have y157 := (E0_.keep K151)
    have y158 := (F3_.keep K151 (ninS (Ne.symm NE10_) nin0))
    let lo160 : Array Slot := #[rv b1, iv (Int32.ofNat d1), iv (Int32.ofNat ls.length), iv (Int32.ofNat (ls ++ ds).length)]
    obtain ⟨T159, h159, X159, e159, W159, st159⟩ := putF X151 hx hZ hown (host := "") (Or.inl (hw _ (mi 80 rfl))) Via.refl rfl y158 y157 (Or.inl (hw _ (mi 81 rfl))) (hw _ (mi 53 rfl)) (ty := .int) (by decide) rfl rfl (g := (mkF m 50 lo160 [(.int (Int32.ofNat (ls ++ ds).length)), (.ref b1)])) rfl rfl (hE 30 rfl)
    have O161 := O153.wr W159 G8_
    have y162 : Fld Z h159 b1 "java/lang/AbstractStringBuilder" "count" "I" (.int (Int32.ofNat (ls ++ ds).length)) := y158.same W159
    have N159 := Fr.snoc X159 N151 G8_
    have g163 : Go p e below T159 (mkF m 53 lo160 []) A0 := fun t kont => g156 t (st159 t kont)
    have g164 := jA X159 hx g163 (hE 31 rfl) rfl rfl
    have K165 : Keep h0 h159 [b1, v1] := (((Keep.refl h0 [b1, v1]).trans K151 (allS (P := fun x => x ∈ [b1, v1] ∨ h0.size ≤ x) (Or.inl (mi 1 rfl)) all0)).wr W159 (Or.inl (mi 0 rfl)))
    have y166 := (y157.wr W159)
    have y167 := ((F1_.keep K151 (ninS (Ne.symm NE10_) nin0)).other W159 (Or.inr (slot_ne (Or.inl (hw _ (mi 67 rfl))) (Or.inl (hw _ (mi 81 rfl))) (by decide) (t := (.array .byte)) (t' := .int) (by decide) (by decide))))
    have y168 := ((y137.keep K151 (ninS (Ne.symm NE10_) nin0)).other W159 (Or.inr (slot_ne (Or.inl (hw _ (mi 69 rfl))) (Or.inl (hw _ (mi 81 rfl))) (by decide) (t := .byte) (t' := .int) (by decide) (by decide))))
    have y169 := ((F4_.keep K151 (ninS (Ne.symm NE10_) nin0)).other W159 (Or.inr (slot_ne (Or.inl (hw _ (mi 365 rfl))) (Or.inl (hw _ (mi 81 rfl))) (by decide) (t := .boolean) (t' := .int) (by decide) (by decide))))
    have y170 := (y154.other W159 NE10_)
    refine own_leave X159 Bd (some (.ref b1)) nofun g164 (fun fs hr => retOut X159 hx Bd.returns rfl (Or.inr (Or.inr (Or.inr (Or.inr ⟨rfl, rfl, rfl⟩)))) (hE 32 rfl) hr) (by decide) (by decide) ?_
    rw [e159]
    exact ⟨(1 : Int32), (512 : Int32), (own_PW (ls ++ ds)), rfl, N159, K165, y166, y167, y168, y162, y169, y170, Or.inr ⟨rfl, rfl, rfl⟩⟩
  have g171 : Go p e below s₁ (mkF m 0 #[rv b1, iv (-(Int32.ofNat d1)), .unset, .unset] []) A0 := by have z : Go p e below s₁ (mkF m 0 #[rv b1, iv r1, .unset, .unset] []) A0 := g0; rw [e5] at z; exact z
  have hq172 := hsb
  rcases hq172 with ⟨e1, e2, e3, ll, cl⟩ | ⟨e1, e2, e3⟩
  ·
    have y173 := F2_
    rw [e1] at y173
    have y174 := A5_
    rw [e2, e3] at y174
    have g175 := jA X0 hx g171 (hE 0 rfl) rfl rfl
    obtain ⟨T176, X176, e176, g176⟩ := own_getF X0 hx hZ hown (hw _ (mi 80 rfl)) Via.refl e0 F3_ g175 (hE 1 rfl)
    have g177 := jI X176 hx (jI X176 hx (jS X176 hx g176 (hE 2 rfl) rfl (l' := #[rv b1, iv (-(Int32.ofNat d1)), iv (Int32.ofNat ls.length), .unset]) rfl) (hE 3 rfl) rfl) (hE 4 rfl) rfl
    obtain ⟨_, L178, T178, ⟨rfl, M178, e178⟩, X178, st178⟩ := own_callS X176 hx hZ hown (hw _ (mi 276 rfl)) (wd48 hw) (rm_ssM hw d1 h0 n0 O0 hd1 hd9) g177 e176 [(.int (Int32.ofNat ls.length))] rfl (lenOf pd_0 rfl) (hE 5 rfl) hml.symm 1 rfl (by decide)
    have N178 := Fr.app N0 M178
    have g179 := jP X178 hx st178 (hE 6 rfl) rfl
    have g180 := own_rwS g179 (own_plus2 ls.length : ((Int32.ofNat ls.length) + (2 : Int32)) = (Int32.ofNat (ls.length + 1 + 1)))
    have g181 := jI X178 hx (jA X178 hx (jS X178 hx g180 (hE 7 rfl) rfl (l' := #[rv b1, iv (-(Int32.ofNat d1)), iv (Int32.ofNat ls.length), iv (Int32.ofNat (ls.length + 1 + 1))]) rfl) (hE 8 rfl) rfl rfl) (hE 9 rfl) rfl
    obtain ⟨_, L182, T182, ⟨rfl, M182, e182⟩, X182, st182⟩ := own_callP X178 hx hZ hown (hw _ (mi 82 rfl)) (wd24 hw) E0_ (rm_ensN hw b1 (ls.length + 1 + 1) v1 kv (0 : Int32) (256 : Int32) (own_PL ls) h0 n0 O0 F1_ y173 y174 (Or.inl ⟨rfl, rfl⟩) (by omega)) g181 e178 [] rfl (lenOf pd_14 rfl) (hE 10 rfl) hml.symm 0 rfl (by decide)
    have N182 := Fr.app N178 M182
    have g183 := jA X182 hx st182 (hE 11 rfl) rfl rfl
    obtain ⟨_, L184, T184, ⟨rfl, M184, e184⟩, X184, st184⟩ := own_callV X182 hx hZ hown (hw _ (mi 87 rfl)) (wd22 hw) (notFace_of_selects (args := #[]) (mvT hZ (hw _ (mi 90 rfl)))) E0_ (rm_al0 hw b1 cs h0 n0 O0 SC_ hcs y173) g183 e182 [] rfl (lenOf pd_13 rfl) (hE 12 rfl) hml.symm 0 rfl (by decide)
    have N184 := Fr.app N182 M184
    have g185 := jA X184 hx (jI X184 hx (jI X184 hx (jN X184 hx st184 (hE 13 rfl) rfl (by decide)) (hE 14 rfl) rfl) (hE 15 rfl) rfl) (hE 16 rfl) rfl rfl
    obtain ⟨T186, X186, e186, g186⟩ := own_getF X184 hx hZ hown (hw _ (mi 66 rfl)) Via.refl e184 F1_ g185 (hE 17 rfl)
    obtain ⟨_, L187, T187, ⟨rfl, M187, K187, y188⟩, X187, st187⟩ := own_callS X186 hx hZ hown (hw _ (mi 280 rfl)) (wd49 hw) (rm_gcM hw v1 kv ls d1 dg kg dgs h0 n0 O0 y174 G9_ hcap hd1 hd9 S12_ ZA13_ hdg) g186 e186 [] rfl (lenOf pd_37 rfl) (hE 18 rfl) hml.symm 0 rfl (by decide)
    have N187 := Fr.app N184 M187
    have O189 := O0.keep K187 (allS G9_ all0)
    have y190 : Arv Z T187.heap v1 kv .byte (256 : Int32) (own_PL (ls ++ ds)) (.int 0) := by have q := y188; rw [← e6] at q; exact q
    have g191 := jI X187 hx (jA X187 hx (jg X187 hx (jo X187 hx st187 (hE 19 rfl) rfl rfl) (hE 20 rfl) (pc' := 48) (by decide)) (hE 28 rfl) rfl rfl) (hE 29 rfl) rfl
    have g192 : Go p e below T187 (mkF m 50 #[rv b1, iv (-(Int32.ofNat d1)), iv (Int32.ofNat ls.length), iv (Int32.ofNat (ls ++ ds).length)] [(.int (Int32.ofNat (ls ++ ds).length)), (.ref b1)]) A0 := by have z : Go p e below T187 (mkF m 50 #[rv b1, iv (-(Int32.ofNat d1)), iv (Int32.ofNat ls.length), iv (Int32.ofNat (ls.length + 1 + 1))] [(.int (Int32.ofNat (ls.length + 1 + 1))), (.ref b1)]) A0 := g191; rw [own_cntd2 (ls := ls) e6] at z; exact z
    have y193 := (E0_.keep K187)
    have y194 := (F3_.keep K187 (ninS (Ne.symm NE10_) nin0))
    let lo196 : Array Slot := #[rv b1, iv (-(Int32.ofNat d1)), iv (Int32.ofNat ls.length), iv (Int32.ofNat (ls ++ ds).length)]
    obtain ⟨T195, h195, X195, e195, W195, st195⟩ := putF X187 hx hZ hown (host := "") (Or.inl (hw _ (mi 80 rfl))) Via.refl rfl y194 y193 (Or.inl (hw _ (mi 81 rfl))) (hw _ (mi 53 rfl)) (ty := .int) (by decide) rfl rfl (g := (mkF m 50 lo196 [(.int (Int32.ofNat (ls ++ ds).length)), (.ref b1)])) rfl rfl (hE 30 rfl)
    have O197 := O189.wr W195 G8_
    have y198 : Fld Z h195 b1 "java/lang/AbstractStringBuilder" "count" "I" (.int (Int32.ofNat (ls ++ ds).length)) := y194.same W195
    have N195 := Fr.snoc X195 N187 G8_
    have g199 : Go p e below T195 (mkF m 53 lo196 []) A0 := fun t kont => g192 t (st195 t kont)
    have g200 := jA X195 hx g199 (hE 31 rfl) rfl rfl
    have K201 : Keep h0 h195 [b1, v1] := (((Keep.refl h0 [b1, v1]).trans K187 (allS (P := fun x => x ∈ [b1, v1] ∨ h0.size ≤ x) (Or.inl (mi 1 rfl)) all0)).wr W195 (Or.inl (mi 0 rfl)))
    have y202 := (y193.wr W195)
    have y203 := ((F1_.keep K187 (ninS (Ne.symm NE10_) nin0)).other W195 (Or.inr (slot_ne (Or.inl (hw _ (mi 67 rfl))) (Or.inl (hw _ (mi 81 rfl))) (by decide) (t := (.array .byte)) (t' := .int) (by decide) (by decide))))
    have y204 := ((y173.keep K187 (ninS (Ne.symm NE10_) nin0)).other W195 (Or.inr (slot_ne (Or.inl (hw _ (mi 69 rfl))) (Or.inl (hw _ (mi 81 rfl))) (by decide) (t := .byte) (t' := .int) (by decide) (by decide))))
    have y205 := ((F4_.keep K187 (ninS (Ne.symm NE10_) nin0)).other W195 (Or.inr (slot_ne (Or.inl (hw _ (mi 365 rfl))) (Or.inl (hw _ (mi 81 rfl))) (by decide) (t := .boolean) (t' := .int) (by decide) (by decide))))
    have y206 := (y190.other W195 NE10_)
    refine own_leave X195 Bd (some (.ref b1)) nofun g200 (fun fs hr => retOut X195 hx Bd.returns rfl (Or.inr (Or.inr (Or.inr (Or.inr ⟨rfl, rfl, rfl⟩)))) (hE 32 rfl) hr) (by decide) (by decide) ?_
    rw [e195]
    exact ⟨(0 : Int32), (256 : Int32), (own_PL (ls ++ ds)), rfl, N195, K201, y202, y203, y204, y198, y205, y206, Or.inl ⟨rfl, rfl, rfl, own_lat_app ll (own_rdlat hrd).1, own_chars_app cl (own_rdlat hrd).2.1⟩⟩
  have y207 := F2_
  rw [e1] at y207
  have y208 := A5_
  rw [e2, e3] at y208
  have g209 := jA X0 hx g171 (hE 0 rfl) rfl rfl
  obtain ⟨T210, X210, e210, g210⟩ := own_getF X0 hx hZ hown (hw _ (mi 80 rfl)) Via.refl e0 F3_ g209 (hE 1 rfl)
  have g211 := jI X210 hx (jI X210 hx (jS X210 hx g210 (hE 2 rfl) rfl (l' := #[rv b1, iv (-(Int32.ofNat d1)), iv (Int32.ofNat ls.length), .unset]) rfl) (hE 3 rfl) rfl) (hE 4 rfl) rfl
  obtain ⟨_, L212, T212, ⟨rfl, M212, e212⟩, X212, st212⟩ := own_callS X210 hx hZ hown (hw _ (mi 276 rfl)) (wd48 hw) (rm_ssM hw d1 h0 n0 O0 hd1 hd9) g211 e210 [(.int (Int32.ofNat ls.length))] rfl (lenOf pd_0 rfl) (hE 5 rfl) hml.symm 1 rfl (by decide)
  have N212 := Fr.app N0 M212
  have g213 := jP X212 hx st212 (hE 6 rfl) rfl
  have g214 := own_rwS g213 (own_plus2 ls.length : ((Int32.ofNat ls.length) + (2 : Int32)) = (Int32.ofNat (ls.length + 1 + 1)))
  have g215 := jI X212 hx (jA X212 hx (jS X212 hx g214 (hE 7 rfl) rfl (l' := #[rv b1, iv (-(Int32.ofNat d1)), iv (Int32.ofNat ls.length), iv (Int32.ofNat (ls.length + 1 + 1))]) rfl) (hE 8 rfl) rfl rfl) (hE 9 rfl) rfl
  obtain ⟨_, L216, T216, ⟨rfl, M216, e216⟩, X216, st216⟩ := own_callP X212 hx hZ hown (hw _ (mi 82 rfl)) (wd24 hw) E0_ (rm_ensN hw b1 (ls.length + 1 + 1) v1 kv (1 : Int32) (512 : Int32) (own_PW ls) h0 n0 O0 F1_ y207 y208 (Or.inr ⟨rfl, rfl⟩) (by omega)) g215 e212 [] rfl (lenOf pd_14 rfl) (hE 10 rfl) hml.symm 0 rfl (by decide)
  have N216 := Fr.app N212 M216
  have g217 := jA X216 hx st216 (hE 11 rfl) rfl rfl
  obtain ⟨_, L218, T218, ⟨rfl, M218, e218⟩, X218, st218⟩ := own_callV X216 hx hZ hown (hw _ (mi 87 rfl)) (wd22 hw) (notFace_of_selects (args := #[]) (mvT hZ (hw _ (mi 90 rfl)))) E0_ (rm_al1 hw b1 cs h0 n0 O0 SC_ hcs y207) g217 e216 [] rfl (lenOf pd_13 rfl) (hE 12 rfl) hml.symm 0 rfl (by decide)
  have N218 := Fr.app N216 M218
  have g219 := jA X218 hx (jI X218 hx (jI X218 hx (jI X218 hx (jY X218 hx st218 (hE 13 rfl) rfl (by decide) (pc' := 37) (by decide)) (hE 21 rfl) rfl) (hE 22 rfl) rfl) (hE 23 rfl) rfl) (hE 24 rfl) rfl rfl
  obtain ⟨T220, X220, e220, g220⟩ := own_getF X218 hx hZ hown (hw _ (mi 66 rfl)) Via.refl e218 F1_ g219 (hE 25 rfl)
  obtain ⟨_, L221, T221, ⟨rfl, M221, K221, y222⟩, X221, st221⟩ := own_callS X220 hx hZ hown (hw _ (mi 350 rfl)) (wd50 hw) (rm_uhM hw v1 kv ls d1 dg kg dgs fm cs h0 n0 O0 y208 G9_ hcap hd1 hd9 S12_ ZA13_ hdg hW) g220 e220 [] rfl (lenOf pd_38 rfl) (hE 26 rfl) hml.symm 0 rfl (by decide)
  have N221 := Fr.app N218 M221
  have O223 := O0.keep K221 (allS G9_ all0)
  have y224 : Arv Z T221.heap v1 kv .byte (512 : Int32) (own_PW (ls ++ ds)) (.int 0) := by have q := y222; rw [← e6] at q; exact q
  have g225 := jI X221 hx (jA X221 hx (jo X221 hx st221 (hE 27 rfl) rfl rfl) (hE 28 rfl) rfl rfl) (hE 29 rfl) rfl
  have g226 : Go p e below T221 (mkF m 50 #[rv b1, iv (-(Int32.ofNat d1)), iv (Int32.ofNat ls.length), iv (Int32.ofNat (ls ++ ds).length)] [(.int (Int32.ofNat (ls ++ ds).length)), (.ref b1)]) A0 := by have z : Go p e below T221 (mkF m 50 #[rv b1, iv (-(Int32.ofNat d1)), iv (Int32.ofNat ls.length), iv (Int32.ofNat (ls.length + 1 + 1))] [(.int (Int32.ofNat (ls.length + 1 + 1))), (.ref b1)]) A0 := g225; rw [own_cntd2 (ls := ls) e6] at z; exact z
  have y227 := (E0_.keep K221)
  have y228 := (F3_.keep K221 (ninS (Ne.symm NE10_) nin0))
  let lo230 : Array Slot := #[rv b1, iv (-(Int32.ofNat d1)), iv (Int32.ofNat ls.length), iv (Int32.ofNat (ls ++ ds).length)]
  obtain ⟨T229, h229, X229, e229, W229, st229⟩ := putF X221 hx hZ hown (host := "") (Or.inl (hw _ (mi 80 rfl))) Via.refl rfl y228 y227 (Or.inl (hw _ (mi 81 rfl))) (hw _ (mi 53 rfl)) (ty := .int) (by decide) rfl rfl (g := (mkF m 50 lo230 [(.int (Int32.ofNat (ls ++ ds).length)), (.ref b1)])) rfl rfl (hE 30 rfl)
  have O231 := O223.wr W229 G8_
  have y232 : Fld Z h229 b1 "java/lang/AbstractStringBuilder" "count" "I" (.int (Int32.ofNat (ls ++ ds).length)) := y228.same W229
  have N229 := Fr.snoc X229 N221 G8_
  have g233 : Go p e below T229 (mkF m 53 lo230 []) A0 := fun t kont => g226 t (st229 t kont)
  have g234 := jA X229 hx g233 (hE 31 rfl) rfl rfl
  have K235 : Keep h0 h229 [b1, v1] := (((Keep.refl h0 [b1, v1]).trans K221 (allS (P := fun x => x ∈ [b1, v1] ∨ h0.size ≤ x) (Or.inl (mi 1 rfl)) all0)).wr W229 (Or.inl (mi 0 rfl)))
  have y236 := (y227.wr W229)
  have y237 := ((F1_.keep K221 (ninS (Ne.symm NE10_) nin0)).other W229 (Or.inr (slot_ne (Or.inl (hw _ (mi 67 rfl))) (Or.inl (hw _ (mi 81 rfl))) (by decide) (t := (.array .byte)) (t' := .int) (by decide) (by decide))))
  have y238 := ((y207.keep K221 (ninS (Ne.symm NE10_) nin0)).other W229 (Or.inr (slot_ne (Or.inl (hw _ (mi 69 rfl))) (Or.inl (hw _ (mi 81 rfl))) (by decide) (t := .byte) (t' := .int) (by decide) (by decide))))
  have y239 := ((F4_.keep K221 (ninS (Ne.symm NE10_) nin0)).other W229 (Or.inr (slot_ne (Or.inl (hw _ (mi 365 rfl))) (Or.inl (hw _ (mi 81 rfl))) (by decide) (t := .boolean) (t' := .int) (by decide) (by decide))))
  have y240 := (y224.other W229 NE10_)
  refine own_leave X229 Bd (some (.ref b1)) nofun g234 (fun fs hr => retOut X229 hx Bd.returns rfl (Or.inr (Or.inr (Or.inr (Or.inr ⟨rfl, rfl, rfl⟩)))) (hE 32 rfl) hr) (by decide) (by decide) ?_
  rw [e229]
  exact ⟨(1 : Int32), (512 : Int32), (own_PW (ls ++ ds)), rfl, N229, K235, y236, y237, y238, y232, y239, y240, Or.inr ⟨rfl, rfl, rfl⟩⟩
theorem pd_39 : parseMethodDescriptor "(I)Ljava/lang/AbstractStringBuilder;" = some ⟨[.int], some (.object "java/lang/AbstractStringBuilder")⟩ := by decide +kernel
theorem rm_siaN (hw : HW a0 Z) (b1 v1 : Addr) (kv : ClassId) (ls : List Int32) (cd z1 : Int32) (vs : List Value) (cs : Int32) (fm : Value) (r1 : Int32) (ds : List Int32) (dg : Addr) (kg : ClassId) (dgs : List Value) (h0 : Heap) (n0 : Nat) (O0 : Old Z n0 h0) (E0_ : Exa Z h0 b1 "java/lang/StringBuilder") (F1_ : Fld Z h0 b1 "java/lang/AbstractStringBuilder" "value" "[B" (.ref v1)) (F2_ : Fld Z h0 b1 "java/lang/AbstractStringBuilder" "coder" "B" (.int cd)) (F3_ : Fld Z h0 b1 "java/lang/AbstractStringBuilder" "count" "I" (.int (Int32.ofNat ls.length))) (F4_ : Fld Z h0 b1 "java/lang/AbstractStringBuilder" "maybeLatin1" "Z" (.int 0)) (A5_ : Arv Z h0 v1 kv .byte z1 vs (.int 0)) (hsb : own_sb ls cd z1 vs) (hrd : own_rd r1 ds) (G8_ : n0 ≤ b1) (G9_ : n0 ≤ v1) (NE10_ : ¬ (v1 = b1)) (hcap : ls.length ≤ 200) (S12_ : Sta Z Z.heap "java/lang/Integer" "DigitOnes" "[B" (.ref dg)) (ZA13_ : Arv Z Z.heap dg kg .byte (100 : Int32) dgs (.int 0)) (hdg : ∀ i, i < 10 → dgs.getD i (.int 0) = .int (Int32.ofNat (48 + i))) (hW : own_W Z cs fm) :
    own_M l mN64 (Jvm.Cond.code mN64 jdk_67_method_15_code 2 (some (.object "java/lang/StringBuilder"))) [] (⟨5, 0, 0, 74⟩ : Room) #[(.ref b1), (.int r1)] Z h0 (fun v h L => ∃ (cd2 : Int32), ∃ (z2 : Int32), ∃ (vs2 : List Value), v = some (.ref b1) ∧ Fr n0 L ∧ Keep h0 h [b1, v1] ∧ (Exa Z h b1 "java/lang/StringBuilder") ∧ (Fld Z h b1 "java/lang/AbstractStringBuilder" "value" "[B" (.ref v1)) ∧ (Fld Z h b1 "java/lang/AbstractStringBuilder" "coder" "B" (.int cd2)) ∧ (Fld Z h b1 "java/lang/AbstractStringBuilder" "count" "I" (.int (Int32.ofNat (ls ++ ds).length))) ∧ (Fld Z h b1 "java/lang/AbstractStringBuilder" "maybeLatin1" "Z" (.int 0)) ∧ (Arv Z h v1 kv .byte z2 vs2 (.int 0)) ∧ (own_sb (ls ++ ds) cd2 z2 vs2)) := by
  refine own_open n0 (plainFor_of_name pn_5) (fun m => ef_RI2 m b1 r1 ) ?_
  intro p e s m below meth c s₁ A0 Bd hx hby hml hown hnm hZ hh X0 e0 N0 g0
  obtain ⟨SC_, hcs, SF_, hfm, SU1_, SU2_, SU3_⟩ := id hW
  have hE := own_hd hby E51
  have g101 := jI X0 hx (jA X0 hx g0 (hE 0 rfl) rfl rfl) (hE 1 rfl) rfl
  obtain ⟨_, L102, T102, ⟨r103, r104, r105, rfl, M102, K102, y106, y107, y108, y109, y110, y111, y112⟩, X102, st102⟩ := own_callU X0 hx hZ hown (hw _ (mi 272 rfl)) (own_same (y := mN63) (hw _ (mi 85 rfl)) rfl (hw _ (mi 273 rfl)) (by decide)) (hw _ (mi 273 rfl)) (hw _ (mi 77 rfl)) (hw _ (mi 62 rfl)) (hw _ (mi 275 rfl)) (by decide) E0_ (rm_iaN hw b1 v1 kv ls cd z1 vs cs fm r1 ds dg kg dgs h0 n0 O0 E0_ F1_ F2_ F3_ F4_ A5_ hsb hrd G8_ G9_ NE10_ hcap S12_ ZA13_ hdg hW) g101 e0 [] rfl (lenOf pd_39 rfl) (hE 2 rfl) hml.symm 0 rfl (by decide)
  have N102 := Fr.app N0 M102
  have O113 := O0.keep K102 (allS G8_ (allS G9_ all0))
  have g114 := jA X102 hx (jo X102 hx st102 (hE 3 rfl) rfl rfl) (hE 4 rfl) rfl rfl
  have K115 : Keep h0 T102.heap [b1, v1] := ((Keep.refl h0 [b1, v1]).trans K102 (allS (P := fun x => x ∈ [b1, v1] ∨ h0.size ≤ x) (Or.inl (mi 0 rfl)) (allS (P := fun x => x ∈ [b1, v1] ∨ h0.size ≤ x) (Or.inl (mi 1 rfl)) all0)))
  refine own_leave X102 Bd (some (.ref b1)) nofun g114 (fun fs hr => retOut X102 hx Bd.returns rfl (Or.inr (Or.inr (Or.inr (Or.inr ⟨rfl, rfl, rfl⟩)))) (hE 5 rfl) hr) (by decide) (by decide) ?_
  exact ⟨r103, r104, r105, rfl, N102, K115, y106, y107, y108, y109, y110, y111, y112⟩
theorem pd_40 : parseMethodDescriptor "(C)Ljava/lang/StringBuilder;" = some ⟨[.char], some (.object "java/lang/StringBuilder")⟩ := by decide +kernel
theorem wd51 (hw : HW a0 Z) : own_wdV a0 Z "java/lang/StringBuilder" mN35 mN35 jdk_67_method_14_code 2 (some (.object "java/lang/StringBuilder")) := ⟨hw _ (mi 71 rfl), hw _ (mi 73 rfl), hw _ (mi 72 rfl), hw _ (mi 54 rfl), hw _ (mi 74 rfl), by decide⟩
theorem pd_41 : parseMethodDescriptor "(Ljava/lang/CharSequence;II)Ljava/lang/StringBuilder;" = some ⟨[(.object "java/lang/CharSequence"), .int, .int], some (.object "java/lang/StringBuilder")⟩ := by decide +kernel
theorem wd52 (hw : HW a0 Z) : own_wdV a0 Z "java/lang/StringBuilder" mN58 mN58 jdk_67_method_10_code 4 (some (.object "java/lang/StringBuilder")) := ⟨hw _ (mi 197 rfl), hw _ (mi 199 rfl), hw _ (mi 198 rfl), hw _ (mi 54 rfl), hw _ (mi 200 rfl), by decide⟩
theorem pd_42 : parseMethodDescriptor "(Ljava/lang/String;)Ljava/lang/StringBuilder;" = some ⟨[(.object "java/lang/String")], some (.object "java/lang/StringBuilder")⟩ := by decide +kernel
theorem wd53 (hw : HW a0 Z) : own_wdV a0 Z "java/lang/StringBuilder" mN50 mN50 jdk_67_method_7_code 2 (some (.object "java/lang/StringBuilder")) := ⟨hw _ (mi 234 rfl), hw _ (mi 236 rfl), hw _ (mi 235 rfl), hw _ (mi 54 rfl), hw _ (mi 237 rfl), by decide⟩
theorem pn_8 : plainName "com/example/clear_fault/clearfault/JsonObjectWriter" = true := by first | (simp [plainName, overriddenIn]; done) | decide +kernel
theorem ef_RR5 (m : MethodId) (x0 : Addr) (x1 : Addr)  : entryFrame m #[(.ref x0), (.ref x1)] 5 = mkF m 0 #[.val (.ref x0), .val (.ref x1), .unset, .unset, .unset] [] := by first | (simp [entryFrame, mkF, argsToLocals, Value.category]; done) | rfl
def Q_aps (Z : State) (w1 b1 v1 : Addr) (kv : ClassId) (ls : List Int32) (cd z1 : Int32) (vs : List Value) (a2 u2 : Addr) (ku : ClassId) (xs : List Int32) (cx zx : Int32) (ux : List Value) (hx1 : Addr) (kx : ClassId) (hxs : List Value) (fi : Value) (cs : Int32) (fm : Value) (h0 : Heap) (n0 : Nat) (v : Option Value) (h : Heap) (L : List Loc) : Prop := ∃ (r : Addr), ∃ (kid : ClassId), ∃ (cd2 : Int32), ∃ (z2 : Int32), ∃ (vs2 : List Value), v = none ∧ Fr n0 L ∧ Keep h0 h [b1, v1] ∧ (Exa Z h b1 "java/lang/StringBuilder") ∧ (Fld Z h b1 "java/lang/AbstractStringBuilder" "value" "[B" (.ref r)) ∧ (Fld Z h b1 "java/lang/AbstractStringBuilder" "coder" "B" (.int cd2)) ∧ (Fld Z h b1 "java/lang/AbstractStringBuilder" "count" "I" (.int (Int32.ofNat (ls ++ own_js xs).length))) ∧ (Fld Z h b1 "java/lang/AbstractStringBuilder" "maybeLatin1" "Z" (.int 0)) ∧ (Arv Z h r kid .byte z2 vs2 (.int 0)) ∧ (r = v1 ∨ h0.size ≤ r) ∧ (own_sb (ls ++ own_js xs) cd2 z2 vs2) ∧ (¬ (r = b1))
theorem rm_aps (hw : HW a0 Z) (w1 b1 v1 : Addr) (kv : ClassId) (ls : List Int32) (cd z1 : Int32) (vs : List Value) (a2 u2 : Addr) (ku : ClassId) (xs : List Int32) (cx zx : Int32) (ux : List Value) (hx1 : Addr) (kx : ClassId) (hxs : List Value) (fi : Value) (cs : Int32) (fm : Value) (h0 : Heap) (n0 : Nat) (O0 : Old Z n0 h0) (E0_ : Exa Z h0 w1 "com/example/clear_fault/clearfault/JsonObjectWriter") (F1_ : Fld Z h0 w1 "com/example/clear_fault/clearfault/JsonObjectWriter" "out" "Ljava/lang/StringBuilder;" (.ref b1)) (E2_ : Exa Z h0 b1 "java/lang/StringBuilder") (F3_ : Fld Z h0 b1 "java/lang/AbstractStringBuilder" "value" "[B" (.ref v1)) (F4_ : Fld Z h0 b1 "java/lang/AbstractStringBuilder" "coder" "B" (.int cd)) (F5_ : Fld Z h0 b1 "java/lang/AbstractStringBuilder" "count" "I" (.int (Int32.ofNat ls.length))) (F6_ : Fld Z h0 b1 "java/lang/AbstractStringBuilder" "maybeLatin1" "Z" (.int 0)) (A7_ : Arv Z h0 v1 kv .byte z1 vs (.int 0)) (hsb : own_sb ls cd z1 vs) (E9_ : Exa Z h0 a2 "java/lang/String") (F10_ : Fld Z h0 a2 "java/lang/String" "coder" "B" (.int cx)) (F11_ : Fld Z h0 a2 "java/lang/String" "value" "[B" (.ref u2)) (A12_ : Arv Z h0 u2 ku .byte zx ux (.int 0)) (hcod : own_cod xs cx zx ux) (hxn : xs.length = 1 ∨ xs.length = 2) (hcx : own_chars xs) (hls : ls.length ≤ 100) (G17_ : n0 ≤ b1) (G18_ : n0 ≤ v1) (NE19_ : ¬ (v1 = b1)) (NE20_ : ¬ (u2 = v1)) (NE21_ : ¬ (a2 = v1)) (NE22_ : ¬ (a2 = b1)) (NE23_ : ¬ (u2 = b1)) (NE24_ : ¬ (w1 = v1)) (S25_ : Sta Z Z.heap "com/example/clear_fault/clearfault/JsonObjectWriter" "HEX" "[C" (.ref hx1)) (ZA26_ : Arv Z Z.heap hx1 kx .char (16 : Int32) hxs (.int 0)) (hhx : ∀ i, i < 16 → hxs.getD i (.int 0) = .int (own_hexn i)) (S28_ : Sta Z Z.heap "jdk/internal/util/Preconditions" "IOOBE_FORMATTER" "Ljava/util/function/BiFunction;" fi) (hfi : fi.isRef = true) (hW : own_W Z cs fm) :
    MetFree l mN65 (head1 (Jvm.Cond.code mN65 prog_13_method_8_code 5 none :: []) (⟨9, 5, 552, 139⟩ : Room)) (fun a U => a = #[(.ref w1), (.ref a2)] ∧ Z.Warmed39 U.vm ∧ U.heap = h0 ∧ CHv Z consts_1 U.vm h0) (fun _ _ _ _ _ => True) (fun _ U o U' => ∃ v L, o = .returned v ∧ Q_aps Z w1 b1 v1 kv ls cd z1 vs a2 u2 ku xs cx zx ux hx1 kx hxs fi cs fm h0 n0 v U'.heap L ∧ CHr Z consts_1 U.vm U.heap U'.vm U'.heap ∧ ReturnedEndW U o U' L (⟨9, 5, 552, 139⟩ : Room).cells (⟨9, 5, 552, 139⟩ : Room).slots) := by
  refine MetFree.of_bodySF (plainFor_of_name pn_8) hisR ?_
  intro p e s m args below meth c s₁ Bd hml0 hP hK
  obtain ⟨rfl, hZ, hh, hC0⟩ := hP
  have hx := Bd.exec
  have hby := Bd.bytes
  have hml : c.maxLocals = 5 := hml0
  have hown : s.vm.findClass "com/example/clear_fault/clearfault/JsonObjectWriter" = some m.cls := findClass_of_methodNamed Bd.named
  have hnm := (name_of_methodNamed Bd.named Bd.method).1
  have X0 : Stand p l e (⟨9, 5, 552, 139⟩ : Room) (s.setVm s.vm) m #[(.ref w1), (.ref a2)] below meth c s₁ [] 0 0 := Stand.of_body Bd
  have e0 : s₁.heap = h0 := by rw [← hh, Bd.state]; rfl
  have N0 := Fr.nil n0
  have hS : s.Since s.vm 0 := (State.WarmedH.refl s).since 0
  have hk : 0 ≤ h0.size := Nat.zero_le _
  have hZ : Z.Warmed39 (s.setVm s.vm).vm := hZ
  have hown : (s.setVm s.vm).vm.findClass "com/example/clear_fault/clearfault/JsonObjectWriter" = some m.cls := hown
  have R0 : CHr Z consts_1 s.vm h0 s.vm h0 := CHr.refl hC0
  have g0 : Go p e below s₁ (mkF m 0 #[rv w1, rv a2, .unset, .unset, .unset] []) (s₁.setTop (entryFrame m #[(.ref w1), (.ref a2)] 5)) := fun t kont => castTop (ef_RR5 m w1 a2 ) kont
  generalize s₁.setTop (entryFrame m #[(.ref w1), (.ref a2)] 5) = A0 at g0 ⊢
  obtain ⟨SC_, hcs, SF_, hfm, SU1_, SU2_, SU3_⟩ := id hW
  have hE := own_hd hby E39
  have hx0 : 0 < xs.length := by omega
  have hx40 : xs.length ≤ 40 := by omega
  have hxb : xs.length < 2147483648 := by omega
  have g101 := jA X0 hx g0 (hE 0 rfl) rfl rfl
  obtain ⟨T102, X102, e102, g102⟩ := own_getF X0 hx hZ hown (hw _ (mi 93 rfl)) Via.refl e0 F1_ g101 (hE 1 rfl)
  have g103 := jb X102 hx g102 (hE 2 rfl) 34 rfl
  obtain ⟨_, L104, T104, ⟨r105, r106, r107, rfl, M104, K104, y108, y109, y110, y111, y112, y113, y114⟩, X104, st104⟩ := own_callV X102 hx hZ hown (hw _ (mi 70 rfl)) (wd51 hw) (notFace_of_selects (args := #[]) (mvT hZ (hw _ (mi 73 rfl)))) E2_ (rm_sapN hw b1 v1 kv ls cd z1 vs cs fm (34 : Int32) h0 n0 O0 E2_ F3_ F4_ F5_ F6_ A7_ hsb G17_ G18_ NE19_ (Nat.le_trans hls (by decide)) (by decide) (by decide) hW) g103 e102 [] rfl (lenOf pd_40 rfl) (hE 3 rfl) hml.symm 0 rfl (by decide)
  have N104 := Fr.app N0 M104
  have sf116 : Safe Z consts_1 s.vm h0 v1 := own_safe_sb hZ (hw _ (mi 230 rfl)) (by decide) (by decide) A7_ hsb
  have sf117 := Safe.exa (EL := consts_1) hZ.alike E2_ (by decide) (by decide)
  have R115 : CHr Z consts_1 s.vm h0 s.vm T104.heap := R0.trans (CHr.keep K104 (sfS sf117 (sfS sf116 sf0)) R0.1)
  have O118 := O0.keep K104 (allS G17_ (allS G18_ all0))
  have g119 := jA X104 hx (jI X104 hx (jS X104 hx (jc X104 hx (jS X104 hx (jc X104 hx (jo X104 hx st104 (hE 4 rfl) rfl rfl) (hE 5 rfl) 0 rfl) (hE 6 rfl) rfl (l' := #[rv w1, rv a2, iv 0, .unset, .unset]) rfl) (hE 7 rfl) 0 rfl) (hE 8 rfl) rfl (l' := #[rv w1, rv a2, iv 0, iv 0, .unset]) rfl) (hE 9 rfl) rfl) (hE 10 rfl) rfl rfl
  have y121 := (E9_.keep K104)
  have y122 := (F11_.keep K104 (ninS NE22_ (ninS NE21_ nin0)))
  have y123 := (F10_.keep K104 (ninS NE22_ (ninS NE21_ nin0)))
  have y124 := (A12_.keep K104 (ninS NE23_ (ninS NE20_ nin0)))
  obtain ⟨_, L120, T120, ⟨rfl, M120, e120⟩, X120, st120⟩ := own_callV X104 hx hZ hown (hw _ (mi 194 rfl)) (wd38 hw) (notFace_of_selects (args := #[]) (mvT hZ (hw _ (mi 149 rfl)))) y121 (rm_lenG hw a2 u2 ku cx zx ux xs cs T104.heap n0 O118 SC_ hcs y122 y123 y121 y124 (hcod) (hx40)) g119 rfl [(.int 0)] rfl (lenOf pd_23 rfl) (hE 11 rfl) hml.symm 1 rfl (by decide)
  have N120 := Fr.app N104 M120
  have g125 := jI X120 hx (jA X120 hx (jn X120 hx st120 (hE 12 rfl) rfl (tlt (own_lt (a := 0) hx0 hxb : (0 : Int32) < (Int32.ofNat xs.length))).2.1) (hE 13 rfl) rfl rfl) (hE 14 rfl) rfl
  obtain ⟨_, L126, T126, ⟨rfl, M126, e126⟩, X126, st126⟩ := own_callV X120 hx hZ hown (hw _ (mi 195 rfl)) (wd44 hw) (notFace_of_selects (args := #[]) (mvT hZ (hw _ (mi 163 rfl)))) y121 (rm_chaG hw a2 u2 ku cx zx ux xs cs 0 fm T104.heap n0 O118 y122 y123 y121 y124 (hcod) (hx40) (hx0) (hcx) hW) g125 e120 [] rfl (lenOf pd_33 rfl) (hE 15 rfl) hml.symm 0 rfl (by decide)
  have N126 := Fr.app N120 M126
  have g127 := js X126 hx st126 (hE 16 rfl) rfl (l' := #[rv w1, rv a2, iv 0, iv 0, iv (xs.getD 0 0)]) rfl
  obtain ⟨ca_, e_ca_⟩ : ∃ z, z = (xs.getD 0 0) := ⟨_, rfl⟩
  have g128 : Go p e below T126 (mkF m 29 #[rv w1, rv a2, iv 0, iv 0, iv ca_] []) A0 := by rw [e_ca_]; exact g127
  have z_ca_ : ¬ (ca_ < (0 : Int32)) := by rw [e_ca_]; exact (hcx 0 hx0).1
  obtain ⟨un0, bs0, rr0, ki0, cq0, zq0, vq0, T129, lc129, h129, vm129, k129, X129, e129, K129, hS, hk, hZ, hown, R129, C129, N129, g129, y281, y282, y283, y284, y285, y286, a287, j288, j289, j290⟩ : ∃ un0 : Nat, ∃ bs0 : List Int32, ∃ rr0 : Addr, ∃ ki0 : ClassId, ∃ cq0 : Int32, ∃ zq0 : Int32, ∃ vq0 : List Value, ∃ (T129 : State) (lc129 : List Loc) (h129 : Heap) (vm129 : Vm) (k129 : Nat), Stand p l e (⟨9, 5, 552, 139⟩ : Room) (s.setVm vm129) m #[(.ref w1), (.ref a2)] below meth c T129 lc129 2 20 ∧ T129.heap = h129 ∧ Keep T104.heap h129 [b1, v1] ∧ s.Since vm129 k129 ∧ k129 ≤ h129.size ∧ Z.Warmed39 (s.setVm vm129).vm ∧ (s.setVm vm129).vm.findClass "com/example/clear_fault/clearfault/JsonObjectWriter" = some m.cls ∧ CHr Z consts_1 s.vm h0 vm129 h129 ∧ CHr Z consts_1 s.vm T104.heap vm129 h129 ∧ Fr n0 lc129 ∧ Go p e below T129 (mkF m 123 #[rv w1, rv a2, iv (Int32.ofNat un0), iv 0, iv ca_] []) A0 ∧ (Exa Z h129 b1 "java/lang/StringBuilder") ∧ (Fld Z h129 b1 "java/lang/AbstractStringBuilder" "value" "[B" (.ref rr0)) ∧ (Fld Z h129 b1 "java/lang/AbstractStringBuilder" "coder" "B" (.int cq0)) ∧ (Fld Z h129 b1 "java/lang/AbstractStringBuilder" "count" "I" (.int (Int32.ofNat bs0.length))) ∧ (Fld Z h129 b1 "java/lang/AbstractStringBuilder" "maybeLatin1" "Z" (.int 0)) ∧ (Arv Z h129 rr0 ki0 .byte zq0 vq0 (.int 0)) ∧ (rr0 = v1 ∨ T104.heap.size ≤ rr0) ∧ (own_sb bs0 cq0 zq0 vq0) ∧ (own_P ls xs 1 bs0 un0) ∧ (¬ (rr0 = b1)) := by
    have g131 := ji X126 hx g128 (hE 17 rfl) rfl
    by_cases c130 : (ca_ = (34 : Int32) ∨ ca_ = (92 : Int32)) ∨ ca_ < (32 : Int32)
    ·
      obtain ⟨T132, lc132, X132, e132, N132, g132⟩ : ∃ (T132 : State) (lc132 : List Loc), Stand p l e (⟨9, 5, 552, 139⟩ : Room) (s.setVm s.vm) m #[(.ref w1), (.ref a2)] below meth c T132 lc132 0 0 ∧ T132.heap = T104.heap ∧ Fr n0 lc132 ∧ Go p e below T132 (mkF m 50 #[rv w1, rv a2, iv 0, iv 0, iv ca_] []) A0 := by
        have g134 := jb X126 hx g131 (hE 18 rfl) 34 rfl
        by_cases c133 : ca_ = (34 : Int32)
        ·
          have g135 := jy X126 hx g134 (hE 19 rfl) rfl (teq c133).1 (pc' := 50) (by decide)
          exact ⟨_, _, X126, e126, N126, g135⟩
        have g137 := jb X126 hx (ji X126 hx (jn X126 hx g134 (hE 19 rfl) rfl (feq c133).1) (hE 20 rfl) rfl) (hE 21 rfl) 92 rfl
        by_cases c136 : ca_ = (92 : Int32)
        ·
          have g138 := jy X126 hx g137 (hE 22 rfl) rfl (teq c136).1 (pc' := 50) (by decide)
          exact ⟨_, _, X126, e126, N126, g138⟩
        have g139 := jn X126 hx (jb X126 hx (ji X126 hx (jn X126 hx g137 (hE 22 rfl) rfl (feq c136).1) (hE 23 rfl) rfl) (hE 24 rfl) 32 rfl) (hE 25 rfl) rfl (tlt (c130.resolve_left (fun q => q.elim c133 c136) : ca_ < (32 : Int32))).2.1
        exact ⟨_, _, X126, e126, N126, g139⟩
      have g140 := jA X132 hx g132 (hE 26 rfl) rfl rfl
      have y141 := (E0_.keep K104)
      have y142 := (F1_.keep K104 (ninS (ne_exa y141 y108 (by decide)) (ninS NE24_ nin0)))
      obtain ⟨T143, X143, e143, g143⟩ := own_getF X132 hx hZ hown (hw _ (mi 93 rfl)) Via.refl e132 y142 g140 (hE 27 rfl)
      have g144 := jI X143 hx (jI X143 hx (jA X143 hx g143 (hE 28 rfl) rfl rfl) (hE 29 rfl) rfl) (hE 30 rfl) rfl
      obtain ⟨_, L145, T145, ⟨r146, r147, r148, rfl, M145, K145, y149, y150, y151, y152, y153, y154, y155⟩, X145, st145⟩ := own_callV X143 hx hZ hown (hw _ (mi 196 rfl)) (wd52 hw) (notFace_of_selects (args := #[]) (mvT hZ (hw _ (mi 199 rfl)))) y108 (rm_saK hw b1 v1 kv (ls ++ [(34 : Int32)]) r105 r106 r107 cs fm a2 u2 ku xs cx zx ux 0 0 fi (0 : Int32) T104.heap n0 O118 y108 y109 y110 y111 y112 y113 y114 y121 y123 y122 y124 (hx40) (hcx) (Nat.le_trans (own_ca hls (Nat.le_refl 1)) (by decide)) (Nat.zero_le _) hcod (Or.inr (by rw [own_sl0]; exact own_lat0)) G17_ G18_ NE19_ NE20_ NE21_ NE22_ NE23_ S28_ hfi (rfl) hW) g144 e143 [] rfl (lenOf pd_41 rfl) (hE 31 rfl) hml.symm 0 rfl (by decide)
      have N145 := Fr.app N132 M145
      have sf157 : Safe Z consts_1 s.vm T104.heap v1 := (Safe.keep K104 (sfS sf117 (sfS sf116 sf0)) R0.1 sf116)
      have sf158 := Safe.exa (EL := consts_1) hZ.alike y108 (by decide) (by decide)
      have R156 : CHr Z consts_1 s.vm h0 s.vm T145.heap := R115.trans (CHr.keep K145 (sfS sf158 (sfS sf157 sf0)) R115.1)
      have O159 := O118.keep K145 (allS G17_ (allS G18_ all0))
      have g161 := jb X145 hx (ji X145 hx (jS X145 hx (jP X145 hx (jc X145 hx (jI X145 hx (jo X145 hx st145 (hE 32 rfl) rfl rfl) (hE 33 rfl) rfl) (hE 34 rfl) 1 rfl) (hE 35 rfl) rfl) (hE 36 rfl) rfl (l' := #[rv w1, rv a2, iv 1, iv 0, iv ca_]) rfl) (hE 37 rfl) rfl) (hE 38 rfl) 32 rfl
      by_cases c160 : ca_ < (32 : Int32)
      ·
        have g162 := jA X145 hx (jn X145 hx g161 (hE 39 rfl) rfl (tlt c160).2.1) (hE 40 rfl) rfl rfl
        have y163 := (y141.keep K145)
        have y164 := (y142.keep K145 (ninS (ne_exa y163 y149 (by decide)) (ninS NE24_ nin0)))
        obtain ⟨T165, X165, e165, g165⟩ := own_getF X145 hx hZ hown (hw _ (mi 93 rfl)) Via.refl rfl y164 g162 (hE 41 rfl)
        have sf166 : Safe Z consts_1 s.vm T145.heap v1 := (Safe.keep K145 (sfS sf158 (sfS sf157 sf0)) R115.1 sf157)
        have sf167 := Safe.exa (EL := consts_1) hZ.alike y149 (by decide) (by decide)
        have sf168 : Safe Z consts_1 s.vm T145.heap b1 := sf167
        let lo170 : Array Slot := #[rv w1, rv a2, iv 1, iv 0, iv ca_]
        obtain ⟨b169, T169, h169, k169, c169, kc169, X169, e169, E169, hS, hk, hZ, hown, A169, F169, G169, V169, la169, lb169, C169, -, ne169, st169⟩ := ldcCH X165 hx hZ hown (hw _ (mi 230 rfl)) (own_wS hw) e165 hS (Nat.le_trans hk (Nat.le_trans K104.1 K145.1)) (own_EW hw) (mi 0 rfl) R156.1 (vs := [(.int 92), (.int 117), (.int 48), (.int 48)]) (z := (4 : Int32)) ⟨by decide, by decide⟩ (by decide) rfl (g := (mkF m 76 lo170 [(.ref b1)])) rfl (hE 42 rfl) (n := 16) (by decide) (by decide) (by decide) (by decide)
        have R171 : CHr Z consts_1 s.vm h0 T169.vm h169 := R156.trans C169
        have O172 := O159.ext E169
        have sf173 : Safe Z consts_1 T169.vm h169 v1 := (CHr.safe C169 (Nat.lt_of_lt_of_le A7_.lt (Nat.le_trans K104.1 K145.1)) sf166)
        have hn174 := ne169 v1 sf173
        have sf175 : Safe Z consts_1 T169.vm h169 b1 := (CHr.safe C169 (Nat.lt_of_lt_of_le E2_.lt (Nat.le_trans K104.1 K145.1)) sf168)
        have hn176 := ne169 b1 sf175
        have g177 : Go p e below T169 (mkF m 78 lo170 [(.ref b169), (.ref b1)]) A0 := fun t kont => g165 t (st169 t kont)
        have y178 : Arv Z h169 c169 kc169 .byte (Int32.ofNat own_U.length) (own_lb own_U) (.int 0) := by rw [own_U00]; exact V169
        have y180 := (y149.ext E169)
        have y181 := (y150.ext E169)
        have y182 := (y151.ext E169)
        have y183 := (y152.ext E169)
        have y184 := (y153.ext E169)
        have y185 := (y154.ext E169)
        obtain ⟨_, L179, T179, ⟨r186, r187, r188, rfl, M179, K179, y189, y190, y191, y192, y193, y194, y195⟩, X179, st179⟩ := own_callV X169 hx hZ hown (hw _ (mi 233 rfl)) (wd53 hw) (notFace_of_selects (args := #[]) (mvT hZ (hw _ (mi 236 rfl)))) y180 (rm_ssx hw b1 v1 kv ((ls ++ [(34 : Int32)]) ++ own_sl xs 0 0) r146 r147 r148 cs fm b169 c169 kc169 own_U h169 n0 O172 y180 y181 y182 y183 y184 y185 y155 A169 F169 G169 y178 (by decide) (own_Uc) (own_Ul) (Nat.le_trans (own_caS xs 0 (own_ca hls (Nat.le_refl 1))) (by decide)) G17_ G18_ NE19_ (Ne.symm hn174.2) (Ne.symm hn174.1) (Ne.symm hn176.1) (Ne.symm hn176.2) hW) g177 e169 [] rfl (lenOf pd_42 rfl) (hE 43 rfl) hml.symm 0 rfl (by decide)
        have N179 := Fr.app N145 M179
        have R196 : CHr Z consts_1 s.vm h0 T169.vm T179.heap := R171.trans (CHr.keep K179 (sfS sf175 (sfS sf173 sf0)) R171.1)
        have O197 := O172.keep K179 (allS G17_ (allS G18_ all0))
        have y198 := S25_.ext O197.2
        obtain ⟨T199, X199, e199, g199⟩ := own_getS X179 hx hZ hown (hw _ (mi 260 rfl)) Via.refl rfl y198 st179 (hE 44 rfl)
        have g200 := jR X199 hx (jc X199 hx (ji X199 hx g199 (hE 45 rfl) rfl) (hE 46 rfl) 4 rfl) (hE 47 rfl) rfl
        have g201 := own_rwS g200 (own_sh4 z_ca_ : (ca_ >>> ((4 : Int32) &&& 31)) = (Int32.ofNat (ca_.toNatClampNeg / 16)))
        have y202 := ZA26_.ext O197.2
        have zz203 := y202
        obtain ⟨cl203, Ar203, q203, S203, M203, H203, G203⟩ := zz203
        have in203 : ¬ ((Int32.ofNat (ca_.toNatClampNeg / 16)) < 0 ∨ cl203.slots.size ≤ ((Int32.ofNat (ca_.toNatClampNeg / 16))).toNatClampNeg) := inb_of S203 ⟨own_nonneg (Nat.lt_trans (show ca_.toNatClampNeg / 16 < 16 from (own_cl32 z_ca_ c160)) (by decide)), own_lt (b := 16) (own_cl32 z_ca_ c160) (by decide)⟩
        have at203 : cl203.slots[((Int32.ofNat (ca_.toNatClampNeg / 16))).toNatClampNeg]? = some (.int (own_hexn (ca_.toNatClampNeg / 16))) := Has.at H203 in203 (by rw [own_clamp (Nat.lt_trans (show ca_.toNatClampNeg / 16 < 16 from (own_cl32 z_ca_ c160)) (by decide))]; exact hhx _ (own_cl32 z_ca_ c160))
        have g204 : Go p e below T199 (mkF m 89 lo170 [(.int (own_hexn (ca_.toNatClampNeg / 16))), (.ref b1)]) A0 := fun t kont => g201 t (X199.caload hx (j := (Int32.ofNat (ca_.toNatClampNeg / 16))) (v := (.int (own_hexn (ca_.toNatClampNeg / 16)))) (by rw [e199]; exact Ar203.1) (State.isArrayOf_alike hZ.alike Ar203.2.1) Ar203.2.2 in203 at203 (g := (mkF m 88 lo170 [(.int (Int32.ofNat (ca_.toNatClampNeg / 16))), (.ref hx1), (.ref b1)])) rfl rfl (hE 48 rfl) t kont)
        obtain ⟨_, L205, T205, ⟨r206, r207, r208, rfl, M205, K205, y209, y210, y211, y212, y213, y214, y215⟩, X205, st205⟩ := own_callV X199 hx hZ hown (hw _ (mi 70 rfl)) (wd51 hw) (notFace_of_selects (args := #[]) (mvT hZ (hw _ (mi 73 rfl)))) y189 (rm_sapN hw b1 v1 kv (((ls ++ [(34 : Int32)]) ++ own_sl xs 0 0) ++ own_U) r186 r187 r188 cs fm (own_hexn (ca_.toNatClampNeg / 16)) T179.heap n0 O197 y189 y190 y191 y192 y193 y194 y195 G17_ G18_ NE19_ (Nat.le_trans (own_ca (own_caS xs 0 (own_ca hls (Nat.le_refl 1))) (Nat.le_refl 4)) (by decide)) ((own_hexb (i := ca_.toNatClampNeg / 16) (own_cl32 z_ca_ c160)).1) ((own_hexb (i := ca_.toNatClampNeg / 16) (own_cl32 z_ca_ c160)).2) hW) g204 e199 [] rfl (lenOf pd_40 rfl) (hE 49 rfl) hml.symm 0 rfl (by decide)
        have N205 := Fr.app N179 M205
        have sf217 : Safe Z consts_1 T169.vm T179.heap v1 := (Safe.keep K179 (sfS sf175 (sfS sf173 sf0)) R171.1 sf173)
        have sf218 : Safe Z consts_1 T169.vm T179.heap b1 := (Safe.keep K179 (sfS sf175 (sfS sf173 sf0)) R171.1 sf175)
        have R216 : CHr Z consts_1 s.vm h0 T169.vm T205.heap := R196.trans (CHr.keep K205 (sfS sf218 (sfS sf217 sf0)) R196.1)
        have O219 := O197.keep K205 (allS G17_ (allS G18_ all0))
        have y220 := S25_.ext O219.2
        obtain ⟨T221, X221, e221, g221⟩ := own_getS X205 hx hZ hown (hw _ (mi 260 rfl)) Via.refl rfl y220 st205 (hE 50 rfl)
        have g222 := jB X221 hx (jb X221 hx (ji X221 hx g221 (hE 51 rfl) rfl) (hE 52 rfl) 15 rfl) (hE 53 rfl) rfl
        have g223 := own_rwS g222 (own_an15 z_ca_ : (ca_ &&& (15 : Int32)) = (Int32.ofNat (ca_.toNatClampNeg % 16)))
        have y224 := ZA26_.ext O219.2
        have zz225 := y224
        obtain ⟨cl225, Ar225, q225, S225, M225, H225, G225⟩ := zz225
        have in225 : ¬ ((Int32.ofNat (ca_.toNatClampNeg % 16)) < 0 ∨ cl225.slots.size ≤ ((Int32.ofNat (ca_.toNatClampNeg % 16))).toNatClampNeg) := inb_of S225 ⟨own_nonneg (Nat.lt_trans (show ca_.toNatClampNeg % 16 < 16 from (Nat.mod_lt _ (by decide))) (by decide)), own_lt (b := 16) (Nat.mod_lt _ (by decide)) (by decide)⟩
        have at225 : cl225.slots[((Int32.ofNat (ca_.toNatClampNeg % 16))).toNatClampNeg]? = some (.int (own_hexn (ca_.toNatClampNeg % 16))) := Has.at H225 in225 (by rw [own_clamp (Nat.lt_trans (show ca_.toNatClampNeg % 16 < 16 from (Nat.mod_lt _ (by decide))) (by decide))]; exact hhx _ (Nat.mod_lt _ (by decide)))
        have g226 : Go p e below T221 (mkF m 101 lo170 [(.int (own_hexn (ca_.toNatClampNeg % 16))), (.ref b1)]) A0 := fun t kont => g223 t (X221.caload hx (j := (Int32.ofNat (ca_.toNatClampNeg % 16))) (v := (.int (own_hexn (ca_.toNatClampNeg % 16)))) (by rw [e221]; exact Ar225.1) (State.isArrayOf_alike hZ.alike Ar225.2.1) Ar225.2.2 in225 at225 (g := (mkF m 100 lo170 [(.int (Int32.ofNat (ca_.toNatClampNeg % 16))), (.ref hx1), (.ref b1)])) rfl rfl (hE 54 rfl) t kont)
        obtain ⟨_, L227, T227, ⟨r228, r229, r230, rfl, M227, K227, y231, y232, y233, y234, y235, y236, y237⟩, X227, st227⟩ := own_callV X221 hx hZ hown (hw _ (mi 70 rfl)) (wd51 hw) (notFace_of_selects (args := #[]) (mvT hZ (hw _ (mi 73 rfl)))) y209 (rm_sapN hw b1 v1 kv ((((ls ++ [(34 : Int32)]) ++ own_sl xs 0 0) ++ own_U) ++ [(own_hexn (ca_.toNatClampNeg / 16))]) r206 r207 r208 cs fm (own_hexn (ca_.toNatClampNeg % 16)) T205.heap n0 O219 y209 y210 y211 y212 y213 y214 y215 G17_ G18_ NE19_ (Nat.le_trans (own_ca (own_ca (own_caS xs 0 (own_ca hls (Nat.le_refl 1))) (Nat.le_refl 4)) (Nat.le_refl 1)) (by decide)) ((own_hexb (i := ca_.toNatClampNeg % 16) (Nat.mod_lt _ (by decide))).1) ((own_hexb (i := ca_.toNatClampNeg % 16) (Nat.mod_lt _ (by decide))).2) hW) g226 e221 [] rfl (lenOf pd_40 rfl) (hE 55 rfl) hml.symm 0 rfl (by decide)
        have N227 := Fr.app N205 M227
        have sf239 : Safe Z consts_1 T169.vm T205.heap v1 := (Safe.keep K205 (sfS sf218 (sfS sf217 sf0)) R196.1 sf217)
        have sf240 : Safe Z consts_1 T169.vm T205.heap b1 := (Safe.keep K205 (sfS sf218 (sfS sf217 sf0)) R196.1 sf218)
        have R238 : CHr Z consts_1 s.vm h0 T169.vm T227.heap := R216.trans (CHr.keep K227 (sfS sf240 (sfS sf239 sf0)) R216.1)
        have O241 := O219.keep K227 (allS G17_ (allS G18_ all0))
        have g242 := jg X227 hx (jo X227 hx st227 (hE 56 rfl) rfl rfl) (hE 57 rfl) (pc' := 123) (by decide)
        exact ⟨1, (((((ls ++ [(34 : Int32)]) ++ own_sl xs 0 0) ++ own_U) ++ [(own_hexn (ca_.toNatClampNeg / 16))]) ++ [(own_hexn (ca_.toNatClampNeg % 16))]), v1, kv, r228, r229, r230, _, _, _, _, _, (X227.more (by decide) (by decide)), rfl, ((((((Keep.refl T104.heap [b1, v1]).trans K145 (allS (P := fun x => x ∈ [b1, v1] ∨ T104.heap.size ≤ x) (Or.inl (mi 0 rfl)) (allS (P := fun x => x ∈ [b1, v1] ∨ T104.heap.size ≤ x) (Or.inl (mi 1 rfl)) all0))).ext E169).trans K179 (allS (P := fun x => x ∈ [b1, v1] ∨ T104.heap.size ≤ x) (Or.inl (mi 0 rfl)) (allS (P := fun x => x ∈ [b1, v1] ∨ T104.heap.size ≤ x) (Or.inl (mi 1 rfl)) all0))).trans K205 (allS (P := fun x => x ∈ [b1, v1] ∨ T104.heap.size ≤ x) (Or.inl (mi 0 rfl)) (allS (P := fun x => x ∈ [b1, v1] ∨ T104.heap.size ≤ x) (Or.inl (mi 1 rfl)) all0))).trans K227 (allS (P := fun x => x ∈ [b1, v1] ∨ T104.heap.size ≤ x) (Or.inl (mi 0 rfl)) (allS (P := fun x => x ∈ [b1, v1] ∨ T104.heap.size ≤ x) (Or.inl (mi 1 rfl)) all0))), hS, (Nat.le_trans hk (Nat.le_trans (Nat.le_trans K179.1 K205.1) K227.1)), hZ, hown, R238, ((((((CHr.refl R115.1).trans (CHr.keep K145 (sfS sf158 (sfS sf157 sf0)) R115.1)).trans (C169)).trans (CHr.keep K179 (sfS sf175 (sfS sf173 sf0)) R171.1)).trans (CHr.keep K205 (sfS sf218 (sfS sf217 sf0)) R196.1)).trans (CHr.keep K227 (sfS sf240 (sfS sf239 sf0)) R216.1)), N227, g242, y231, y232, y233, y234, y235, y236, (Or.inl rfl), (y237), (own_Pctl (own_P0 ls xs) hx0 e_ca_ c160), (NE19_)⟩
      have g243 := jA X145 hx (jy X145 hx g161 (hE 39 rfl) rfl (flt c160).2.1 (pc' := 108) (by decide)) (hE 58 rfl) rfl rfl
      have y244 := (y141.keep K145)
      have y245 := (y142.keep K145 (ninS (ne_exa y244 y149 (by decide)) (ninS NE24_ nin0)))
      obtain ⟨T246, X246, e246, g246⟩ := own_getF X145 hx hZ hown (hw _ (mi 93 rfl)) Via.refl rfl y245 g243 (hE 59 rfl)
      have g247 := jb X246 hx g246 (hE 60 rfl) 92 rfl
      obtain ⟨_, L248, T248, ⟨r249, r250, r251, rfl, M248, K248, y252, y253, y254, y255, y256, y257, y258⟩, X248, st248⟩ := own_callV X246 hx hZ hown (hw _ (mi 70 rfl)) (wd51 hw) (notFace_of_selects (args := #[]) (mvT hZ (hw _ (mi 73 rfl)))) y149 (rm_sapN hw b1 v1 kv ((ls ++ [(34 : Int32)]) ++ own_sl xs 0 0) r146 r147 r148 cs fm (92 : Int32) T145.heap n0 O159 y149 y150 y151 y152 y153 y154 y155 G17_ G18_ NE19_ (Nat.le_trans (own_caS xs 0 (own_ca hls (Nat.le_refl 1))) (by decide)) (by decide) (by decide) hW) g247 e246 [] rfl (lenOf pd_40 rfl) (hE 61 rfl) hml.symm 0 rfl (by decide)
      have N248 := Fr.app N145 M248
      have sf260 : Safe Z consts_1 s.vm T145.heap v1 := (Safe.keep K145 (sfS sf158 (sfS sf157 sf0)) R115.1 sf157)
      have sf261 := Safe.exa (EL := consts_1) hZ.alike y149 (by decide) (by decide)
      have R259 : CHr Z consts_1 s.vm h0 s.vm T248.heap := R156.trans (CHr.keep K248 (sfS sf261 (sfS sf260 sf0)) R156.1)
      have O262 := O159.keep K248 (allS G17_ (allS G18_ all0))
      have g263 := ji X248 hx st248 (hE 62 rfl) rfl
      obtain ⟨_, L264, T264, ⟨r265, r266, r267, rfl, M264, K264, y268, y269, y270, y271, y272, y273, y274⟩, X264, st264⟩ := own_callV X248 hx hZ hown (hw _ (mi 70 rfl)) (wd51 hw) (notFace_of_selects (args := #[]) (mvT hZ (hw _ (mi 73 rfl)))) y252 (rm_sapN hw b1 v1 kv (((ls ++ [(34 : Int32)]) ++ own_sl xs 0 0) ++ [(92 : Int32)]) r249 r250 r251 cs fm ca_ T248.heap n0 O262 y252 y253 y254 y255 y256 y257 y258 G17_ G18_ NE19_ (Nat.le_trans (own_ca (own_caS xs 0 (own_ca hls (Nat.le_refl 1))) (Nat.le_refl 1)) (by decide)) (z_ca_) (own_c92 (c130.resolve_right c160)) hW) g263 rfl [] rfl (lenOf pd_40 rfl) (hE 63 rfl) hml.symm 0 rfl (by decide)
      have N264 := Fr.app N248 M264
      have sf276 : Safe Z consts_1 s.vm T248.heap v1 := (Safe.keep K248 (sfS sf261 (sfS sf260 sf0)) R156.1 sf260)
      have sf277 := Safe.exa (EL := consts_1) hZ.alike y252 (by decide) (by decide)
      have R275 : CHr Z consts_1 s.vm h0 s.vm T264.heap := R259.trans (CHr.keep K264 (sfS sf277 (sfS sf276 sf0)) R259.1)
      have O278 := O262.keep K264 (allS G17_ (allS G18_ all0))
      have g279 := jo X264 hx st264 (hE 64 rfl) rfl rfl
      exact ⟨1, ((((ls ++ [(34 : Int32)]) ++ own_sl xs 0 0) ++ [(92 : Int32)]) ++ [ca_]), v1, kv, r265, r266, r267, _, _, _, _, _, (X264.more (by decide) (by decide)), rfl, ((((Keep.refl T104.heap [b1, v1]).trans K145 (allS (P := fun x => x ∈ [b1, v1] ∨ T104.heap.size ≤ x) (Or.inl (mi 0 rfl)) (allS (P := fun x => x ∈ [b1, v1] ∨ T104.heap.size ≤ x) (Or.inl (mi 1 rfl)) all0))).trans K248 (allS (P := fun x => x ∈ [b1, v1] ∨ T104.heap.size ≤ x) (Or.inl (mi 0 rfl)) (allS (P := fun x => x ∈ [b1, v1] ∨ T104.heap.size ≤ x) (Or.inl (mi 1 rfl)) all0))).trans K264 (allS (P := fun x => x ∈ [b1, v1] ∨ T104.heap.size ≤ x) (Or.inl (mi 0 rfl)) (allS (P := fun x => x ∈ [b1, v1] ∨ T104.heap.size ≤ x) (Or.inl (mi 1 rfl)) all0))), hS, (Nat.le_trans hk (Nat.le_trans (Nat.le_trans (Nat.le_trans K104.1 K145.1) K248.1) K264.1)), hZ, hown, R275, ((((CHr.refl R115.1).trans (CHr.keep K145 (sfS sf158 (sfS sf157 sf0)) R115.1)).trans (CHr.keep K248 (sfS sf261 (sfS sf260 sf0)) R156.1)).trans (CHr.keep K264 (sfS sf277 (sfS sf276 sf0)) R259.1)), N264, g279, y268, y269, y270, y271, y272, y273, (Or.inl rfl), (y274), (own_Pesc (own_P0 ls xs) hx0 e_ca_ c160 (c130.resolve_right c160)), (NE19_)⟩
    have g280 := jy X126 hx (jb X126 hx (ji X126 hx (jn X126 hx (jb X126 hx (ji X126 hx (jn X126 hx (jb X126 hx g131 (hE 18 rfl) 34 rfl) (hE 19 rfl) rfl (feq ((fun q => c130 (Or.inl (Or.inl q))) : ¬ (ca_ = (34 : Int32)))).1) (hE 20 rfl) rfl) (hE 21 rfl) 92 rfl) (hE 22 rfl) rfl (feq ((fun q => c130 (Or.inl (Or.inr q))) : ¬ (ca_ = (92 : Int32)))).1) (hE 23 rfl) rfl) (hE 24 rfl) 32 rfl) (hE 25 rfl) rfl (flt ((fun q => c130 (Or.inr q)) : ¬ (ca_ < (32 : Int32)))).2.1 (pc' := 123) (by decide)
    exact ⟨0, (ls ++ [(34 : Int32)]), v1, kv, r105, r106, r107, _, _, _, _, _, (X126.more (by decide) (by decide)), e126, (Keep.refl T104.heap [b1, v1]), hS, (Nat.le_trans hk K104.1), hZ, hown, R115, (CHr.refl R115.1), N126, g280, y108, y109, y110, y111, y112, y113, (Or.inl rfl), (y114), (own_Pplain (own_P0 ls xs) hx0 e_ca_ (fun q => c130 (Or.inr q)) (fun q => c130 (Or.inl (Or.inl q))) (fun q => c130 (Or.inl (Or.inr q)))), (NE19_)⟩
  have O291 := O118.keep K129 (allS G17_ (allS G18_ all0))
  have g293 := jg X129 hx (jk X129 hx g129 (hE 65 rfl) rfl (l' := #[rv w1, rv a2, iv (Int32.ofNat un0), iv 1, iv ca_]) rfl) (hE 66 rfl) (pc' := 14) (by decide)
  by_cases c292 : xs.length = 1
  ·
    have g294 := jA X129 hx (jI X129 hx g293 (hE 9 rfl) rfl) (hE 10 rfl) rfl rfl
    have y296 := (y121.keep K129)
    have y297 := (y122.keep K129 (ninS NE22_ (ninS NE21_ nin0)))
    have y298 := (y123.keep K129 (ninS NE22_ (ninS NE21_ nin0)))
    have y299 := (y124.keep K129 (ninS NE23_ (ninS NE20_ nin0)))
    obtain ⟨_, L295, T295, ⟨rfl, M295, e295⟩, X295, st295⟩ := own_callV X129 hx hZ hown (hw _ (mi 194 rfl)) (wd38 hw) (notFace_of_selects (args := #[]) (mvT hZ (hw _ (mi 149 rfl)))) y296 (rm_lenG hw a2 u2 ku cx zx ux xs cs h129 n0 O291 SC_ hcs y297 y298 y296 y299 (hcod) (hx40)) g294 e129 [(.int 1)] rfl (lenOf pd_23 rfl) (hE 11 rfl) hml.symm 1 rfl (by decide)
    have N295 := Fr.app N129 M295
    have g300 := jA X295 hx (jy X295 hx st295 (hE 12 rfl) rfl (flt (own_nlt (a := 1) (Nat.le_of_eq c292) (by decide) : ¬ ((1 : Int32) < (Int32.ofNat xs.length)))).2.1 (pc' := 129) (by decide)) (hE 67 rfl) rfl rfl
    have y301 := ((E0_.keep K104).keep K129)
    have y302 := ((F1_.keep K104 (ninS (ne_exa y301 y281 (by decide)) (ninS NE24_ nin0))).keep K129 (ninS (ne_exa y301 y281 (by decide)) (ninS NE24_ nin0)))
    obtain ⟨T303, X303, e303, g303⟩ := own_getF X295 hx hZ hown (hw _ (mi 93 rfl)) Via.refl e295 y302 g300 (hE 68 rfl)
    have g304 := jA X303 hx (jI X303 hx (jA X303 hx g303 (hE 69 rfl) rfl rfl) (hE 70 rfl) rfl) (hE 71 rfl) rfl rfl
    obtain ⟨_, L305, T305, ⟨rfl, M305, e305⟩, X305, st305⟩ := own_callV X303 hx hZ hown (hw _ (mi 194 rfl)) (wd38 hw) (notFace_of_selects (args := #[]) (mvT hZ (hw _ (mi 149 rfl)))) y296 (rm_lenG hw a2 u2 ku cx zx ux xs cs h129 n0 O291 SC_ hcs y297 y298 y296 y299 (hcod) (hx40)) g304 e303 [(.int (Int32.ofNat un0)), (.ref a2), (.ref b1)] rfl (lenOf pd_23 rfl) (hE 72 rfl) hml.symm 3 rfl (by decide)
    have N305 := Fr.app N295 M305
    have ge307 : n0 ≤ rr0 := own_ge_or a287 G18_ (own_old_le O118)
    have hn308 : ¬ (u2 = rr0) := own_ne_or a287 (Nat.lt_of_lt_of_le A12_.lt K104.1) NE20_
    have hn309 : ¬ (a2 = rr0) := own_ne_or a287 (Nat.lt_of_lt_of_le E9_.lt K104.1) NE21_
    obtain ⟨_, L306, T306, ⟨r310, r311, r312, r313, r314, rfl, M306, K306, y315, y316, y317, y318, y319, y320, y321, y322, y323⟩, X306, st306⟩ := own_callV X305 hx hZ hown (hw _ (mi 196 rfl)) (wd52 hw) (notFace_of_selects (args := #[]) (mvT hZ (hw _ (mi 199 rfl)))) y281 (rm_saG hw b1 rr0 ki0 bs0 cq0 zq0 vq0 cs fm a2 u2 ku xs cx zx ux un0 (xs.length - un0) fi (Int32.ofNat xs.length) h129 n0 O291 y281 y282 y283 y284 y285 y286 j288 y296 y298 y297 y299 (hx40) (hcx) (Nat.le_trans (own_capB j289 hls (by decide)) (by decide)) (own_hon (i := xs.length) (by rw [c292]; exact j289.1) (Nat.le_refl _)) hcod G17_ ge307 j290 hn308 hn309 NE22_ NE23_ S28_ hfi (own_he (i := xs.length) (by rw [c292]; exact j289.1) rfl) hW) st305 e305 [] rfl (lenOf pd_41 rfl) (hE 73 rfl) hml.symm 0 rfl (by decide)
    have N306 := Fr.app N305 M306
    have sf325 : Safe Z consts_1 vm129 h129 rr0 := own_safe_sb hZ (hw _ (mi 230 rfl)) (by decide) (by decide) y286 j288
    have sf326 := Safe.exa (EL := consts_1) hZ.alike y281 (by decide) (by decide)
    have R324 : CHr Z consts_1 s.vm h0 vm129 T306.heap := R129.trans (CHr.keep K306 (sfS sf326 (sfS sf325 sf0)) R129.1)
    have O327 := O291.keep K306 (allS G17_ (allS ge307 all0))
    have g328 := jb X306 hx st306 (hE 74 rfl) 34 rfl
    have ge330 : n0 ≤ r310 := own_ge_or y321 ge307 (own_old_le O291)
    obtain ⟨_, L329, T329, ⟨r331, r332, r333, rfl, M329, K329, y334, y335, y336, y337, y338, y339, y340⟩, X329, st329⟩ := own_callV X306 hx hZ hown (hw _ (mi 70 rfl)) (wd51 hw) (notFace_of_selects (args := #[]) (mvT hZ (hw _ (mi 73 rfl)))) y315 (rm_sapN hw b1 r310 r311 (bs0 ++ own_sl xs un0 (xs.length - un0)) r312 r313 r314 cs fm (34 : Int32) T306.heap n0 O327 y315 y316 y317 y318 y319 y320 y322 G17_ ge330 y323 (Nat.le_trans (own_capE j289 hls (by decide) c292 rfl) (by decide)) (by decide) (by decide) hW) g328 rfl [] rfl (lenOf pd_40 rfl) (hE 75 rfl) hml.symm 0 rfl (by decide)
    have N329 := Fr.app N306 M329
    have sf342 : Safe Z consts_1 vm129 T306.heap r310 := own_safe_sb hZ (hw _ (mi 230 rfl)) (by decide) (by decide) y320 y322
    have sf343 := Safe.exa (EL := consts_1) hZ.alike y315 (by decide) (by decide)
    have R341 : CHr Z consts_1 s.vm h0 vm129 T329.heap := R324.trans (CHr.keep K329 (sfS sf343 (sfS sf342 sf0)) R324.1)
    have O344 := O327.keep K329 (allS G17_ (allS ge330 all0))
    have hfin := own_Pend j289 c292.symm
    have g345 := jo X329 hx st329 (hE 76 rfl) rfl rfl
    have K346 : Keep h0 T329.heap [b1, v1] := (((((Keep.refl h0 [b1, v1]).trans K104 (allS (P := fun x => x ∈ [b1, v1] ∨ h0.size ≤ x) (Or.inl (mi 0 rfl)) (allS (P := fun x => x ∈ [b1, v1] ∨ h0.size ≤ x) (Or.inl (mi 1 rfl)) all0))).trans K129 (allS (P := fun x => x ∈ [b1, v1] ∨ h0.size ≤ x) (Or.inl (mi 0 rfl)) (allS (P := fun x => x ∈ [b1, v1] ∨ h0.size ≤ x) (Or.inl (mi 1 rfl)) all0))).trans K306 (allS (P := fun x => x ∈ [b1, v1] ∨ h0.size ≤ x) (Or.inl (mi 0 rfl)) (allS (P := fun x => x ∈ [b1, v1] ∨ h0.size ≤ x) (own_in_or a287 (Or.inl (mi 1 rfl)) K104.1) all0))).trans K329 (allS (P := fun x => x ∈ [b1, v1] ∨ h0.size ≤ x) (Or.inl (mi 0 rfl)) (allS (P := fun x => x ∈ [b1, v1] ∨ h0.size ≤ x) (own_in_or y321 (own_in_or a287 (Or.inl (mi 1 rfl)) K104.1) (Nat.le_trans K104.1 K129.1)) all0)))
    obtain ⟨fs, hr, hrun, hended, hRW⟩ := X329.leaveW hS (Nat.le_trans hk (Nat.le_trans K306.1 K329.1)) (v := none) (fun _ => rfl)
    refine ⟨_, _, g345 _ (X329.returnOut hx Bd.returns (hE 77 rfl) hr), hrun, hended, _, _, rfl, ?_, ?_, hRW.1, hRW.2.1, hRW.2.2.1, hRW.2.2.2.mono (by decide) (by decide)⟩
    ·
      show Q_aps Z w1 b1 v1 kv ls cd z1 vs a2 u2 ku xs cx zx ux hx1 kx hxs fi cs fm h0 n0 _ T329.heap _
      exact ⟨r310, r311, r331, r332, r333, rfl, N329, K346, y334, y335, y336, (by have q := y337; rw [hfin] at q; exact q), y338, y339, (own_alt_trans y321 (own_alt_trans a287 (Or.inl rfl) K104.1) (Nat.le_trans K104.1 K129.1)), (by rw [← hfin]; exact y340), y323⟩
    ·
      rw [hh]
      show CHr Z consts_1 s.vm h0 T329.vm T329.heap
      exact R341.trans (CHv.at X329 hZ (own_EW hw) R341.1)
  have hx2 : xs.length = 2 := hxn.resolve_left c292
  have g347 := jA X129 hx (jI X129 hx g293 (hE 9 rfl) rfl) (hE 10 rfl) rfl rfl
  have y349 := (y121.keep K129)
  have y350 := (y122.keep K129 (ninS NE22_ (ninS NE21_ nin0)))
  have y351 := (y123.keep K129 (ninS NE22_ (ninS NE21_ nin0)))
  have y352 := (y124.keep K129 (ninS NE23_ (ninS NE20_ nin0)))
  obtain ⟨_, L348, T348, ⟨rfl, M348, e348⟩, X348, st348⟩ := own_callV X129 hx hZ hown (hw _ (mi 194 rfl)) (wd38 hw) (notFace_of_selects (args := #[]) (mvT hZ (hw _ (mi 149 rfl)))) y349 (rm_lenG hw a2 u2 ku cx zx ux xs cs h129 n0 O291 SC_ hcs y350 y351 y349 y352 (hcod) (hx40)) g347 e129 [(.int 1)] rfl (lenOf pd_23 rfl) (hE 11 rfl) hml.symm 1 rfl (by decide)
  have N348 := Fr.app N129 M348
  have g353 := jI X348 hx (jA X348 hx (jn X348 hx st348 (hE 12 rfl) rfl (tlt (own_lt (a := 1) (by rw [hx2]; decide) hxb : (1 : Int32) < (Int32.ofNat xs.length))).2.1) (hE 13 rfl) rfl rfl) (hE 14 rfl) rfl
  obtain ⟨_, L354, T354, ⟨rfl, M354, e354⟩, X354, st354⟩ := own_callV X348 hx hZ hown (hw _ (mi 195 rfl)) (wd44 hw) (notFace_of_selects (args := #[]) (mvT hZ (hw _ (mi 163 rfl)))) y349 (rm_chaG hw a2 u2 ku cx zx ux xs cs 1 fm h129 n0 O291 y350 y351 y349 y352 (hcod) (hx40) ((by rw [hx2]; decide)) (hcx) hW) g353 e348 [] rfl (lenOf pd_33 rfl) (hE 15 rfl) hml.symm 0 rfl (by decide)
  have N354 := Fr.app N348 M354
  have g355 := js X354 hx st354 (hE 16 rfl) rfl (l' := #[rv w1, rv a2, iv (Int32.ofNat un0), iv 1, iv (xs.getD 1 0)]) rfl
  obtain ⟨cb_, e_cb_⟩ : ∃ z, z = (xs.getD 1 0) := ⟨_, rfl⟩
  have g356 : Go p e below T354 (mkF m 29 #[rv w1, rv a2, iv (Int32.ofNat un0), iv 1, iv cb_] []) A0 := by rw [e_cb_]; exact g355
  have z_cb_ : ¬ (cb_ < (0 : Int32)) := by rw [e_cb_]; exact (hcx 1 (by rw [hx2]; decide)).1
  have g358 := ji X354 hx g356 (hE 17 rfl) rfl
  by_cases c357 : (cb_ = (34 : Int32) ∨ cb_ = (92 : Int32)) ∨ cb_ < (32 : Int32)
  ·
    obtain ⟨T359, lc359, X359, e359, N359, g359⟩ : ∃ (T359 : State) (lc359 : List Loc), Stand p l e (⟨9, 5, 552, 139⟩ : Room) (s.setVm vm129) m #[(.ref w1), (.ref a2)] below meth c T359 lc359 2 20 ∧ T359.heap = h129 ∧ Fr n0 lc359 ∧ Go p e below T359 (mkF m 50 #[rv w1, rv a2, iv (Int32.ofNat un0), iv 1, iv cb_] []) A0 := by
      have g361 := jb X354 hx g358 (hE 18 rfl) 34 rfl
      by_cases c360 : cb_ = (34 : Int32)
      ·
        have g362 := jy X354 hx g361 (hE 19 rfl) rfl (teq c360).1 (pc' := 50) (by decide)
        exact ⟨_, _, X354, e354, N354, g362⟩
      have g364 := jb X354 hx (ji X354 hx (jn X354 hx g361 (hE 19 rfl) rfl (feq c360).1) (hE 20 rfl) rfl) (hE 21 rfl) 92 rfl
      by_cases c363 : cb_ = (92 : Int32)
      ·
        have g365 := jy X354 hx g364 (hE 22 rfl) rfl (teq c363).1 (pc' := 50) (by decide)
        exact ⟨_, _, X354, e354, N354, g365⟩
      have g366 := jn X354 hx (jb X354 hx (ji X354 hx (jn X354 hx g364 (hE 22 rfl) rfl (feq c363).1) (hE 23 rfl) rfl) (hE 24 rfl) 32 rfl) (hE 25 rfl) rfl (tlt (c357.resolve_left (fun q => q.elim c360 c363) : cb_ < (32 : Int32))).2.1
      exact ⟨_, _, X354, e354, N354, g366⟩
    have g367 := jA X359 hx g359 (hE 26 rfl) rfl rfl
    have y368 := ((E0_.keep K104).keep K129)
    have y369 := ((F1_.keep K104 (ninS (ne_exa y368 y281 (by decide)) (ninS NE24_ nin0))).keep K129 (ninS (ne_exa y368 y281 (by decide)) (ninS NE24_ nin0)))
    obtain ⟨T370, X370, e370, g370⟩ := own_getF X359 hx hZ hown (hw _ (mi 93 rfl)) Via.refl e359 y369 g367 (hE 27 rfl)
    have g371 := jI X370 hx (jI X370 hx (jA X370 hx g370 (hE 28 rfl) rfl rfl) (hE 29 rfl) rfl) (hE 30 rfl) rfl
    have ge373 : n0 ≤ rr0 := own_ge_or a287 G18_ (own_old_le O118)
    have hn374 : ¬ (u2 = rr0) := own_ne_or a287 (Nat.lt_of_lt_of_le A12_.lt K104.1) NE20_
    have hn375 : ¬ (a2 = rr0) := own_ne_or a287 (Nat.lt_of_lt_of_le E9_.lt K104.1) NE21_
    obtain ⟨_, L372, T372, ⟨r376, r377, r378, r379, r380, rfl, M372, K372, y381, y382, y383, y384, y385, y386, y387, y388, y389⟩, X372, st372⟩ := own_callV X370 hx hZ hown (hw _ (mi 196 rfl)) (wd52 hw) (notFace_of_selects (args := #[]) (mvT hZ (hw _ (mi 199 rfl)))) y281 (rm_saG hw b1 rr0 ki0 bs0 cq0 zq0 vq0 cs fm a2 u2 ku xs cx zx ux un0 (1 - un0) fi (1 : Int32) h129 n0 O291 y281 y282 y283 y284 y285 y286 j288 y349 y351 y350 y352 (hx40) (hcx) (Nat.le_trans (own_capB j289 hls (by decide)) (by decide)) (own_hon (i := 1) j289.1 (Nat.le_of_lt (by rw [hx2]; decide))) hcod G17_ ge373 j290 hn374 hn375 NE22_ NE23_ S28_ hfi (own_he (i := 1) j289.1 rfl) hW) g371 e370 [] rfl (lenOf pd_41 rfl) (hE 31 rfl) hml.symm 0 rfl (by decide)
    have N372 := Fr.app N359 M372
    have sf391 : Safe Z consts_1 vm129 h129 rr0 := own_safe_sb hZ (hw _ (mi 230 rfl)) (by decide) (by decide) y286 j288
    have sf392 := Safe.exa (EL := consts_1) hZ.alike y281 (by decide) (by decide)
    have R390 : CHr Z consts_1 s.vm h0 vm129 T372.heap := R129.trans (CHr.keep K372 (sfS sf392 (sfS sf391 sf0)) R129.1)
    have O393 := O291.keep K372 (allS G17_ (allS ge373 all0))
    have g395 := jb X372 hx (ji X372 hx (jS X372 hx (jP X372 hx (jc X372 hx (jI X372 hx (jo X372 hx st372 (hE 32 rfl) rfl rfl) (hE 33 rfl) rfl) (hE 34 rfl) 1 rfl) (hE 35 rfl) rfl) (hE 36 rfl) rfl (l' := #[rv w1, rv a2, iv 2, iv 1, iv cb_]) rfl) (hE 37 rfl) rfl) (hE 38 rfl) 32 rfl
    by_cases c394 : cb_ < (32 : Int32)
    ·
      have g396 := jA X372 hx (jn X372 hx g395 (hE 39 rfl) rfl (tlt c394).2.1) (hE 40 rfl) rfl rfl
      have hn397 : ¬ (w1 = rr0) := own_ne_or a287 (Nat.lt_of_lt_of_le E0_.lt K104.1) NE24_
      have y398 := (y368.keep K372)
      have y399 := (y369.keep K372 (ninS (ne_exa y398 y381 (by decide)) (ninS hn397 nin0)))
      obtain ⟨T400, X400, e400, g400⟩ := own_getF X372 hx hZ hown (hw _ (mi 93 rfl)) Via.refl rfl y399 g396 (hE 41 rfl)
      have sf401 : Safe Z consts_1 vm129 T372.heap r376 := own_safe_sb hZ (hw _ (mi 230 rfl)) (by decide) (by decide) y386 y388
      have sf402 := Safe.exa (EL := consts_1) hZ.alike y381 (by decide) (by decide)
      have sf403 : Safe Z consts_1 vm129 T372.heap b1 := sf402
      let lo405 : Array Slot := #[rv w1, rv a2, iv 2, iv 1, iv cb_]
      obtain ⟨b404, T404, h404, k404, c404, kc404, X404, e404, E404, hS, hk, hZ, hown, A404, F404, G404, V404, la404, lb404, C404, -, ne404, st404⟩ := ldcCH X400 hx hZ hown (hw _ (mi 230 rfl)) (own_wS hw) e400 hS (Nat.le_trans hk K372.1) (own_EW hw) (mi 0 rfl) R390.1 (vs := [(.int 92), (.int 117), (.int 48), (.int 48)]) (z := (4 : Int32)) ⟨by decide, by decide⟩ (by decide) rfl (g := (mkF m 76 lo405 [(.ref b1)])) rfl (hE 42 rfl) (n := 16) (by decide) (by decide) (by decide) (by decide)
      have R406 : CHr Z consts_1 s.vm h0 T404.vm h404 := R390.trans C404
      have O407 := O393.ext E404
      have sf408 : Safe Z consts_1 T404.vm h404 v1 := (CHr.safe C404 (Nat.lt_of_lt_of_le A7_.lt (Nat.le_trans (Nat.le_trans K104.1 K129.1) K372.1)) (Safe.keep K372 (sfS sf392 (sfS sf391 sf0)) R129.1 (CHr.safe C129 (Nat.lt_of_lt_of_le A7_.lt K104.1) (Safe.keep K104 (sfS sf117 (sfS sf116 sf0)) R0.1 sf116))))
      have hn409 := ne404 v1 sf408
      have sf410 : Safe Z consts_1 T404.vm h404 rr0 := (CHr.safe C404 (Nat.lt_of_lt_of_le y286.lt K372.1) (Safe.keep K372 (sfS sf392 (sfS sf391 sf0)) R129.1 sf391))
      have hn411 := ne404 rr0 sf410
      have sf412 : Safe Z consts_1 T404.vm h404 r376 := (CHr.safe C404 y386.lt sf401)
      have hn413 := ne404 r376 sf412
      have sf414 : Safe Z consts_1 T404.vm h404 b1 := (CHr.safe C404 (Nat.lt_of_lt_of_le E2_.lt (Nat.le_trans (Nat.le_trans K104.1 K129.1) K372.1)) sf403)
      have hn415 := ne404 b1 sf414
      have g416 : Go p e below T404 (mkF m 78 lo405 [(.ref b404), (.ref b1)]) A0 := fun t kont => g400 t (st404 t kont)
      have y417 : Arv Z h404 c404 kc404 .byte (Int32.ofNat own_U.length) (own_lb own_U) (.int 0) := by rw [own_U00]; exact V404
      have y419 := (y381.ext E404)
      have y420 := (y382.ext E404)
      have y421 := (y383.ext E404)
      have y422 := (y384.ext E404)
      have y423 := (y385.ext E404)
      have y424 := (y386.ext E404)
      have ge425 : n0 ≤ r376 := own_ge_or y387 ge373 (own_old_le O291)
      obtain ⟨_, L418, T418, ⟨r426, r427, r428, rfl, M418, K418, y429, y430, y431, y432, y433, y434, y435⟩, X418, st418⟩ := own_callV X404 hx hZ hown (hw _ (mi 233 rfl)) (wd53 hw) (notFace_of_selects (args := #[]) (mvT hZ (hw _ (mi 236 rfl)))) y419 (rm_ssx hw b1 r376 r377 (bs0 ++ own_sl xs un0 (1 - un0)) r378 r379 r380 cs fm b404 c404 kc404 own_U h404 n0 O407 y419 y420 y421 y422 y423 y424 y388 A404 F404 G404 y417 (by decide) (own_Uc) (own_Ul) (Nat.le_trans (own_capS j289 hls (by decide)) (by decide)) G17_ ge425 y389 (Ne.symm hn413.2) (Ne.symm hn413.1) (Ne.symm hn415.1) (Ne.symm hn415.2) hW) g416 e404 [] rfl (lenOf pd_42 rfl) (hE 43 rfl) hml.symm 0 rfl (by decide)
      have N418 := Fr.app N372 M418
      have R436 : CHr Z consts_1 s.vm h0 T404.vm T418.heap := R406.trans (CHr.keep K418 (sfS sf414 (sfS sf412 sf0)) R406.1)
      have O437 := O407.keep K418 (allS G17_ (allS ge425 all0))
      have y438 := S25_.ext O437.2
      obtain ⟨T439, X439, e439, g439⟩ := own_getS X418 hx hZ hown (hw _ (mi 260 rfl)) Via.refl rfl y438 st418 (hE 44 rfl)
      have g440 := jR X439 hx (jc X439 hx (ji X439 hx g439 (hE 45 rfl) rfl) (hE 46 rfl) 4 rfl) (hE 47 rfl) rfl
      have g441 := own_rwS g440 (own_sh4 z_cb_ : (cb_ >>> ((4 : Int32) &&& 31)) = (Int32.ofNat (cb_.toNatClampNeg / 16)))
      have y442 := ZA26_.ext O437.2
      have zz443 := y442
      obtain ⟨cl443, Ar443, q443, S443, M443, H443, G443⟩ := zz443
      have in443 : ¬ ((Int32.ofNat (cb_.toNatClampNeg / 16)) < 0 ∨ cl443.slots.size ≤ ((Int32.ofNat (cb_.toNatClampNeg / 16))).toNatClampNeg) := inb_of S443 ⟨own_nonneg (Nat.lt_trans (show cb_.toNatClampNeg / 16 < 16 from (own_cl32 z_cb_ c394)) (by decide)), own_lt (b := 16) (own_cl32 z_cb_ c394) (by decide)⟩
      have at443 : cl443.slots[((Int32.ofNat (cb_.toNatClampNeg / 16))).toNatClampNeg]? = some (.int (own_hexn (cb_.toNatClampNeg / 16))) := Has.at H443 in443 (by rw [own_clamp (Nat.lt_trans (show cb_.toNatClampNeg / 16 < 16 from (own_cl32 z_cb_ c394)) (by decide))]; exact hhx _ (own_cl32 z_cb_ c394))
      have g444 : Go p e below T439 (mkF m 89 lo405 [(.int (own_hexn (cb_.toNatClampNeg / 16))), (.ref b1)]) A0 := fun t kont => g441 t (X439.caload hx (j := (Int32.ofNat (cb_.toNatClampNeg / 16))) (v := (.int (own_hexn (cb_.toNatClampNeg / 16)))) (by rw [e439]; exact Ar443.1) (State.isArrayOf_alike hZ.alike Ar443.2.1) Ar443.2.2 in443 at443 (g := (mkF m 88 lo405 [(.int (Int32.ofNat (cb_.toNatClampNeg / 16))), (.ref hx1), (.ref b1)])) rfl rfl (hE 48 rfl) t kont)
      obtain ⟨_, L445, T445, ⟨r446, r447, r448, rfl, M445, K445, y449, y450, y451, y452, y453, y454, y455⟩, X445, st445⟩ := own_callV X439 hx hZ hown (hw _ (mi 70 rfl)) (wd51 hw) (notFace_of_selects (args := #[]) (mvT hZ (hw _ (mi 73 rfl)))) y429 (rm_sapN hw b1 r376 r377 ((bs0 ++ own_sl xs un0 (1 - un0)) ++ own_U) r426 r427 r428 cs fm (own_hexn (cb_.toNatClampNeg / 16)) T418.heap n0 O437 y429 y430 y431 y432 y433 y434 y435 G17_ ge425 y389 (Nat.le_trans (own_ca (own_capS j289 hls (by decide)) (Nat.le_refl 4)) (by decide)) ((own_hexb (i := cb_.toNatClampNeg / 16) (own_cl32 z_cb_ c394)).1) ((own_hexb (i := cb_.toNatClampNeg / 16) (own_cl32 z_cb_ c394)).2) hW) g444 e439 [] rfl (lenOf pd_40 rfl) (hE 49 rfl) hml.symm 0 rfl (by decide)
      have N445 := Fr.app N418 M445
      have sf457 : Safe Z consts_1 T404.vm T418.heap r376 := (Safe.keep K418 (sfS sf414 (sfS sf412 sf0)) R406.1 sf412)
      have sf458 : Safe Z consts_1 T404.vm T418.heap b1 := (Safe.keep K418 (sfS sf414 (sfS sf412 sf0)) R406.1 sf414)
      have R456 : CHr Z consts_1 s.vm h0 T404.vm T445.heap := R436.trans (CHr.keep K445 (sfS sf458 (sfS sf457 sf0)) R436.1)
      have O459 := O437.keep K445 (allS G17_ (allS ge425 all0))
      have y460 := S25_.ext O459.2
      obtain ⟨T461, X461, e461, g461⟩ := own_getS X445 hx hZ hown (hw _ (mi 260 rfl)) Via.refl rfl y460 st445 (hE 50 rfl)
      have g462 := jB X461 hx (jb X461 hx (ji X461 hx g461 (hE 51 rfl) rfl) (hE 52 rfl) 15 rfl) (hE 53 rfl) rfl
      have g463 := own_rwS g462 (own_an15 z_cb_ : (cb_ &&& (15 : Int32)) = (Int32.ofNat (cb_.toNatClampNeg % 16)))
      have y464 := ZA26_.ext O459.2
      have zz465 := y464
      obtain ⟨cl465, Ar465, q465, S465, M465, H465, G465⟩ := zz465
      have in465 : ¬ ((Int32.ofNat (cb_.toNatClampNeg % 16)) < 0 ∨ cl465.slots.size ≤ ((Int32.ofNat (cb_.toNatClampNeg % 16))).toNatClampNeg) := inb_of S465 ⟨own_nonneg (Nat.lt_trans (show cb_.toNatClampNeg % 16 < 16 from (Nat.mod_lt _ (by decide))) (by decide)), own_lt (b := 16) (Nat.mod_lt _ (by decide)) (by decide)⟩
      have at465 : cl465.slots[((Int32.ofNat (cb_.toNatClampNeg % 16))).toNatClampNeg]? = some (.int (own_hexn (cb_.toNatClampNeg % 16))) := Has.at H465 in465 (by rw [own_clamp (Nat.lt_trans (show cb_.toNatClampNeg % 16 < 16 from (Nat.mod_lt _ (by decide))) (by decide))]; exact hhx _ (Nat.mod_lt _ (by decide)))
      have g466 : Go p e below T461 (mkF m 101 lo405 [(.int (own_hexn (cb_.toNatClampNeg % 16))), (.ref b1)]) A0 := fun t kont => g463 t (X461.caload hx (j := (Int32.ofNat (cb_.toNatClampNeg % 16))) (v := (.int (own_hexn (cb_.toNatClampNeg % 16)))) (by rw [e461]; exact Ar465.1) (State.isArrayOf_alike hZ.alike Ar465.2.1) Ar465.2.2 in465 at465 (g := (mkF m 100 lo405 [(.int (Int32.ofNat (cb_.toNatClampNeg % 16))), (.ref hx1), (.ref b1)])) rfl rfl (hE 54 rfl) t kont)
      obtain ⟨_, L467, T467, ⟨r468, r469, r470, rfl, M467, K467, y471, y472, y473, y474, y475, y476, y477⟩, X467, st467⟩ := own_callV X461 hx hZ hown (hw _ (mi 70 rfl)) (wd51 hw) (notFace_of_selects (args := #[]) (mvT hZ (hw _ (mi 73 rfl)))) y449 (rm_sapN hw b1 r376 r377 (((bs0 ++ own_sl xs un0 (1 - un0)) ++ own_U) ++ [(own_hexn (cb_.toNatClampNeg / 16))]) r446 r447 r448 cs fm (own_hexn (cb_.toNatClampNeg % 16)) T445.heap n0 O459 y449 y450 y451 y452 y453 y454 y455 G17_ ge425 y389 (Nat.le_trans (own_ca (own_ca (own_capS j289 hls (by decide)) (Nat.le_refl 4)) (Nat.le_refl 1)) (by decide)) ((own_hexb (i := cb_.toNatClampNeg % 16) (Nat.mod_lt _ (by decide))).1) ((own_hexb (i := cb_.toNatClampNeg % 16) (Nat.mod_lt _ (by decide))).2) hW) g466 e461 [] rfl (lenOf pd_40 rfl) (hE 55 rfl) hml.symm 0 rfl (by decide)
      have N467 := Fr.app N445 M467
      have sf479 : Safe Z consts_1 T404.vm T445.heap r376 := (Safe.keep K445 (sfS sf458 (sfS sf457 sf0)) R436.1 sf457)
      have sf480 : Safe Z consts_1 T404.vm T445.heap b1 := (Safe.keep K445 (sfS sf458 (sfS sf457 sf0)) R436.1 sf458)
      have R478 : CHr Z consts_1 s.vm h0 T404.vm T467.heap := R456.trans (CHr.keep K467 (sfS sf480 (sfS sf479 sf0)) R456.1)
      have O481 := O459.keep K467 (allS G17_ (allS ge425 all0))
      have g482 := jg X467 hx (jo X467 hx st467 (hE 56 rfl) rfl rfl) (hE 57 rfl) (pc' := 123) (by decide)
      have hp483 := own_Pctl j289 (by rw [hx2]; decide) e_cb_ c394
      have g484 := jA X467 hx (jI X467 hx (jg X467 hx (jk X467 hx g482 (hE 65 rfl) rfl (l' := #[rv w1, rv a2, iv 2, iv 2, iv cb_]) rfl) (hE 66 rfl) (pc' := 14) (by decide)) (hE 9 rfl) rfl) (hE 10 rfl) rfl rfl
      have y486 := (((((y349.keep K372).ext E404).keep K418).keep K445).keep K467)
      have hn487 : ¬ (a2 = r376) := own_ne_or y387 (Nat.lt_of_lt_of_le E9_.lt (Nat.le_trans K104.1 K129.1)) hn375
      have y488 := (((((y350.keep K372 (ninS NE22_ (ninS hn375 nin0))).ext E404).keep K418 (ninS NE22_ (ninS hn487 nin0))).keep K445 (ninS NE22_ (ninS hn487 nin0))).keep K467 (ninS NE22_ (ninS hn487 nin0)))
      have y489 := (((((y351.keep K372 (ninS NE22_ (ninS hn375 nin0))).ext E404).keep K418 (ninS NE22_ (ninS hn487 nin0))).keep K445 (ninS NE22_ (ninS hn487 nin0))).keep K467 (ninS NE22_ (ninS hn487 nin0)))
      have hn490 : ¬ (u2 = r376) := own_ne_or y387 (Nat.lt_of_lt_of_le A12_.lt (Nat.le_trans K104.1 K129.1)) hn374
      have y491 := (((((y352.keep K372 (ninS NE23_ (ninS hn374 nin0))).ext E404).keep K418 (ninS NE23_ (ninS hn490 nin0))).keep K445 (ninS NE23_ (ninS hn490 nin0))).keep K467 (ninS NE23_ (ninS hn490 nin0)))
      obtain ⟨_, L485, T485, ⟨rfl, M485, e485⟩, X485, st485⟩ := own_callV X467 hx hZ hown (hw _ (mi 194 rfl)) (wd38 hw) (notFace_of_selects (args := #[]) (mvT hZ (hw _ (mi 149 rfl)))) y486 (rm_lenG hw a2 u2 ku cx zx ux xs cs T467.heap n0 O481 SC_ hcs y488 y489 y486 y491 (hcod) (hx40)) g484 rfl [(.int 2)] rfl (lenOf pd_23 rfl) (hE 11 rfl) hml.symm 1 rfl (by decide)
      have N485 := Fr.app N467 M485
      have g492 := jA X485 hx (jy X485 hx st485 (hE 12 rfl) rfl (flt (own_nlt (a := 2) (Nat.le_of_eq hx2) (by decide) : ¬ ((2 : Int32) < (Int32.ofNat xs.length)))).2.1 (pc' := 129) (by decide)) (hE 67 rfl) rfl rfl
      have hn493 : ¬ (w1 = r376) := own_ne_or y387 (Nat.lt_of_lt_of_le E0_.lt (Nat.le_trans K104.1 K129.1)) hn397
      have y494 := ((((y398.ext E404).keep K418).keep K445).keep K467)
      have y495 := ((((y399.ext E404).keep K418 (ninS (ne_exa y494 y471 (by decide)) (ninS hn493 nin0))).keep K445 (ninS (ne_exa y494 y471 (by decide)) (ninS hn493 nin0))).keep K467 (ninS (ne_exa y494 y471 (by decide)) (ninS hn493 nin0)))
      obtain ⟨T496, X496, e496, g496⟩ := own_getF X485 hx hZ hown (hw _ (mi 93 rfl)) Via.refl e485 y495 g492 (hE 68 rfl)
      have g497 := jA X496 hx (jI X496 hx (jA X496 hx g496 (hE 69 rfl) rfl rfl) (hE 70 rfl) rfl) (hE 71 rfl) rfl rfl
      obtain ⟨_, L498, T498, ⟨rfl, M498, e498⟩, X498, st498⟩ := own_callV X496 hx hZ hown (hw _ (mi 194 rfl)) (wd38 hw) (notFace_of_selects (args := #[]) (mvT hZ (hw _ (mi 149 rfl)))) y486 (rm_lenG hw a2 u2 ku cx zx ux xs cs T467.heap n0 O481 SC_ hcs y488 y489 y486 y491 (hcod) (hx40)) g497 e496 [(.int 2), (.ref a2), (.ref b1)] rfl (lenOf pd_23 rfl) (hE 72 rfl) hml.symm 3 rfl (by decide)
      have N498 := Fr.app N485 M498
      obtain ⟨_, L499, T499, ⟨r500, r501, r502, rfl, M499, K499, y503, y504, y505, y506, y507, y508, y509⟩, X499, st499⟩ := own_callV X498 hx hZ hown (hw _ (mi 196 rfl)) (wd52 hw) (notFace_of_selects (args := #[]) (mvT hZ (hw _ (mi 199 rfl)))) y471 (rm_saK hw b1 r376 r377 ((((bs0 ++ own_sl xs un0 (1 - un0)) ++ own_U) ++ [(own_hexn (cb_.toNatClampNeg / 16))]) ++ [(own_hexn (cb_.toNatClampNeg % 16))]) r468 r469 r470 cs fm a2 u2 ku xs cx zx ux 2 0 fi (Int32.ofNat xs.length) T467.heap n0 O481 y471 y472 y473 y474 y475 y476 y477 y486 y489 y488 y491 (hx40) (hcx) (Nat.le_trans (own_ca (own_ca (own_ca (own_capS j289 hls (by decide)) (Nat.le_refl 4)) (Nat.le_refl 1)) (Nat.le_refl 1)) (by decide)) (Nat.le_of_eq hx2.symm) hcod (Or.inr (by rw [own_sl0]; exact own_lat0)) G17_ ge425 y389 hn490 hn487 NE22_ NE23_ S28_ hfi (congrArg Int32.ofNat hx2) hW) st498 e498 [] rfl (lenOf pd_41 rfl) (hE 73 rfl) hml.symm 0 rfl (by decide)
      have N499 := Fr.app N498 M499
      have sf511 : Safe Z consts_1 T404.vm T467.heap r376 := (Safe.keep K467 (sfS sf480 (sfS sf479 sf0)) R456.1 sf479)
      have sf512 : Safe Z consts_1 T404.vm T467.heap b1 := (Safe.keep K467 (sfS sf480 (sfS sf479 sf0)) R456.1 sf480)
      have R510 : CHr Z consts_1 s.vm h0 T404.vm T499.heap := R478.trans (CHr.keep K499 (sfS sf512 (sfS sf511 sf0)) R478.1)
      have O513 := O481.keep K499 (allS G17_ (allS ge425 all0))
      have g514 := jb X499 hx st499 (hE 74 rfl) 34 rfl
      obtain ⟨_, L515, T515, ⟨r516, r517, r518, rfl, M515, K515, y519, y520, y521, y522, y523, y524, y525⟩, X515, st515⟩ := own_callV X499 hx hZ hown (hw _ (mi 70 rfl)) (wd51 hw) (notFace_of_selects (args := #[]) (mvT hZ (hw _ (mi 73 rfl)))) y503 (rm_sapN hw b1 r376 r377 (((((bs0 ++ own_sl xs un0 (1 - un0)) ++ own_U) ++ [(own_hexn (cb_.toNatClampNeg / 16))]) ++ [(own_hexn (cb_.toNatClampNeg % 16))]) ++ own_sl xs 2 0) r500 r501 r502 cs fm (34 : Int32) T499.heap n0 O513 y503 y504 y505 y506 y507 y508 y509 G17_ ge425 y389 (Nat.le_trans (own_caS xs 2 (own_ca (own_ca (own_ca (own_capS j289 hls (by decide)) (Nat.le_refl 4)) (Nat.le_refl 1)) (Nat.le_refl 1))) (by decide)) (by decide) (by decide) hW) g514 rfl [] rfl (lenOf pd_40 rfl) (hE 75 rfl) hml.symm 0 rfl (by decide)
      have N515 := Fr.app N499 M515
      have sf527 : Safe Z consts_1 T404.vm T499.heap r376 := (Safe.keep K499 (sfS sf512 (sfS sf511 sf0)) R478.1 sf511)
      have sf528 : Safe Z consts_1 T404.vm T499.heap b1 := (Safe.keep K499 (sfS sf512 (sfS sf511 sf0)) R478.1 sf512)
      have R526 : CHr Z consts_1 s.vm h0 T404.vm T515.heap := R510.trans (CHr.keep K515 (sfS sf528 (sfS sf527 sf0)) R510.1)
      have O529 := O513.keep K515 (allS G17_ (allS ge425 all0))
      have hfin := own_PendK hp483 hx2.symm
      have g530 := jo X515 hx st515 (hE 76 rfl) rfl rfl
      have K531 : Keep h0 T515.heap [b1, v1] := ((((((((((Keep.refl h0 [b1, v1]).trans K104 (allS (P := fun x => x ∈ [b1, v1] ∨ h0.size ≤ x) (Or.inl (mi 0 rfl)) (allS (P := fun x => x ∈ [b1, v1] ∨ h0.size ≤ x) (Or.inl (mi 1 rfl)) all0))).trans K129 (allS (P := fun x => x ∈ [b1, v1] ∨ h0.size ≤ x) (Or.inl (mi 0 rfl)) (allS (P := fun x => x ∈ [b1, v1] ∨ h0.size ≤ x) (Or.inl (mi 1 rfl)) all0))).trans K372 (allS (P := fun x => x ∈ [b1, v1] ∨ h0.size ≤ x) (Or.inl (mi 0 rfl)) (allS (P := fun x => x ∈ [b1, v1] ∨ h0.size ≤ x) (own_in_or a287 (Or.inl (mi 1 rfl)) K104.1) all0))).ext E404).trans K418 (allS (P := fun x => x ∈ [b1, v1] ∨ h0.size ≤ x) (Or.inl (mi 0 rfl)) (allS (P := fun x => x ∈ [b1, v1] ∨ h0.size ≤ x) (own_in_or y387 (own_in_or a287 (Or.inl (mi 1 rfl)) K104.1) (Nat.le_trans K104.1 K129.1)) all0))).trans K445 (allS (P := fun x => x ∈ [b1, v1] ∨ h0.size ≤ x) (Or.inl (mi 0 rfl)) (allS (P := fun x => x ∈ [b1, v1] ∨ h0.size ≤ x) (own_in_or y387 (own_in_or a287 (Or.inl (mi 1 rfl)) K104.1) (Nat.le_trans K104.1 K129.1)) all0))).trans K467 (allS (P := fun x => x ∈ [b1, v1] ∨ h0.size ≤ x) (Or.inl (mi 0 rfl)) (allS (P := fun x => x ∈ [b1, v1] ∨ h0.size ≤ x) (own_in_or y387 (own_in_or a287 (Or.inl (mi 1 rfl)) K104.1) (Nat.le_trans K104.1 K129.1)) all0))).trans K499 (allS (P := fun x => x ∈ [b1, v1] ∨ h0.size ≤ x) (Or.inl (mi 0 rfl)) (allS (P := fun x => x ∈ [b1, v1] ∨ h0.size ≤ x) (own_in_or y387 (own_in_or a287 (Or.inl (mi 1 rfl)) K104.1) (Nat.le_trans K104.1 K129.1)) all0))).trans K515 (allS (P := fun x => x ∈ [b1, v1] ∨ h0.size ≤ x) (Or.inl (mi 0 rfl)) (allS (P := fun x => x ∈ [b1, v1] ∨ h0.size ≤ x) (own_in_or y387 (own_in_or a287 (Or.inl (mi 1 rfl)) K104.1) (Nat.le_trans K104.1 K129.1)) all0)))
      obtain ⟨fs, hr, hrun, hended, hRW⟩ := X515.leaveW hS (Nat.le_trans hk (Nat.le_trans (Nat.le_trans (Nat.le_trans (Nat.le_trans K418.1 K445.1) K467.1) K499.1) K515.1)) (v := none) (fun _ => rfl)
      refine ⟨_, _, g530 _ (X515.returnOut hx Bd.returns (hE 77 rfl) hr), hrun, hended, _, _, rfl, ?_, ?_, hRW.1, hRW.2.1, hRW.2.2.1, hRW.2.2.2.mono (by decide) (by decide)⟩
      ·
        show Q_aps Z w1 b1 v1 kv ls cd z1 vs a2 u2 ku xs cx zx ux hx1 kx hxs fi cs fm h0 n0 _ T515.heap _
        exact ⟨r376, r377, r516, r517, r518, rfl, N515, K531, y519, y520, y521, (by have q := y522; rw [hfin] at q; exact q), y523, y524, (own_alt_trans y387 (own_alt_trans a287 (Or.inl rfl) K104.1) (Nat.le_trans K104.1 K129.1)), (by rw [← hfin]; exact y525), y389⟩
      ·
        rw [hh]
        show CHr Z consts_1 s.vm h0 T515.vm T515.heap
        exact R526.trans (CHv.at X515 hZ (own_EW hw) R526.1)
    have g532 := jA X372 hx (jy X372 hx g395 (hE 39 rfl) rfl (flt c394).2.1 (pc' := 108) (by decide)) (hE 58 rfl) rfl rfl
    have hn533 : ¬ (w1 = rr0) := own_ne_or a287 (Nat.lt_of_lt_of_le E0_.lt K104.1) NE24_
    have y534 := (y368.keep K372)
    have y535 := (y369.keep K372 (ninS (ne_exa y534 y381 (by decide)) (ninS hn533 nin0)))
    obtain ⟨T536, X536, e536, g536⟩ := own_getF X372 hx hZ hown (hw _ (mi 93 rfl)) Via.refl rfl y535 g532 (hE 59 rfl)
    have g537 := jb X536 hx g536 (hE 60 rfl) 92 rfl
    have ge539 : n0 ≤ r376 := own_ge_or y387 ge373 (own_old_le O291)
    obtain ⟨_, L538, T538, ⟨r540, r541, r542, rfl, M538, K538, y543, y544, y545, y546, y547, y548, y549⟩, X538, st538⟩ := own_callV X536 hx hZ hown (hw _ (mi 70 rfl)) (wd51 hw) (notFace_of_selects (args := #[]) (mvT hZ (hw _ (mi 73 rfl)))) y381 (rm_sapN hw b1 r376 r377 (bs0 ++ own_sl xs un0 (1 - un0)) r378 r379 r380 cs fm (92 : Int32) T372.heap n0 O393 y381 y382 y383 y384 y385 y386 y388 G17_ ge539 y389 (Nat.le_trans (own_capS j289 hls (by decide)) (by decide)) (by decide) (by decide) hW) g537 e536 [] rfl (lenOf pd_40 rfl) (hE 61 rfl) hml.symm 0 rfl (by decide)
    have N538 := Fr.app N372 M538
    have sf551 : Safe Z consts_1 vm129 T372.heap r376 := own_safe_sb hZ (hw _ (mi 230 rfl)) (by decide) (by decide) y386 y388
    have sf552 := Safe.exa (EL := consts_1) hZ.alike y381 (by decide) (by decide)
    have R550 : CHr Z consts_1 s.vm h0 vm129 T538.heap := R390.trans (CHr.keep K538 (sfS sf552 (sfS sf551 sf0)) R390.1)
    have O553 := O393.keep K538 (allS G17_ (allS ge539 all0))
    have g554 := ji X538 hx st538 (hE 62 rfl) rfl
    obtain ⟨_, L555, T555, ⟨r556, r557, r558, rfl, M555, K555, y559, y560, y561, y562, y563, y564, y565⟩, X555, st555⟩ := own_callV X538 hx hZ hown (hw _ (mi 70 rfl)) (wd51 hw) (notFace_of_selects (args := #[]) (mvT hZ (hw _ (mi 73 rfl)))) y543 (rm_sapN hw b1 r376 r377 ((bs0 ++ own_sl xs un0 (1 - un0)) ++ [(92 : Int32)]) r540 r541 r542 cs fm cb_ T538.heap n0 O553 y543 y544 y545 y546 y547 y548 y549 G17_ ge539 y389 (Nat.le_trans (own_ca (own_capS j289 hls (by decide)) (Nat.le_refl 1)) (by decide)) (z_cb_) (own_c92 (c357.resolve_right c394)) hW) g554 rfl [] rfl (lenOf pd_40 rfl) (hE 63 rfl) hml.symm 0 rfl (by decide)
    have N555 := Fr.app N538 M555
    have sf567 : Safe Z consts_1 vm129 T538.heap r376 := (Safe.keep K538 (sfS sf552 (sfS sf551 sf0)) R390.1 sf551)
    have sf568 := Safe.exa (EL := consts_1) hZ.alike y543 (by decide) (by decide)
    have R566 : CHr Z consts_1 s.vm h0 vm129 T555.heap := R550.trans (CHr.keep K555 (sfS sf568 (sfS sf567 sf0)) R550.1)
    have O569 := O553.keep K555 (allS G17_ (allS ge539 all0))
    have g570 := jo X555 hx st555 (hE 64 rfl) rfl rfl
    have hp571 := own_Pesc j289 (by rw [hx2]; decide) e_cb_ c394 (c357.resolve_right c394)
    have g572 := jA X555 hx (jI X555 hx (jg X555 hx (jk X555 hx g570 (hE 65 rfl) rfl (l' := #[rv w1, rv a2, iv 2, iv 2, iv cb_]) rfl) (hE 66 rfl) (pc' := 14) (by decide)) (hE 9 rfl) rfl) (hE 10 rfl) rfl rfl
    have y574 := (((y349.keep K372).keep K538).keep K555)
    have hn575 : ¬ (a2 = r376) := own_ne_or y387 (Nat.lt_of_lt_of_le E9_.lt (Nat.le_trans K104.1 K129.1)) hn375
    have y576 := (((y350.keep K372 (ninS NE22_ (ninS hn375 nin0))).keep K538 (ninS NE22_ (ninS hn575 nin0))).keep K555 (ninS NE22_ (ninS hn575 nin0)))
    have y577 := (((y351.keep K372 (ninS NE22_ (ninS hn375 nin0))).keep K538 (ninS NE22_ (ninS hn575 nin0))).keep K555 (ninS NE22_ (ninS hn575 nin0)))
    have hn578 : ¬ (u2 = r376) := own_ne_or y387 (Nat.lt_of_lt_of_le A12_.lt (Nat.le_trans K104.1 K129.1)) hn374
    have y579 := (((y352.keep K372 (ninS NE23_ (ninS hn374 nin0))).keep K538 (ninS NE23_ (ninS hn578 nin0))).keep K555 (ninS NE23_ (ninS hn578 nin0)))
    obtain ⟨_, L573, T573, ⟨rfl, M573, e573⟩, X573, st573⟩ := own_callV X555 hx hZ hown (hw _ (mi 194 rfl)) (wd38 hw) (notFace_of_selects (args := #[]) (mvT hZ (hw _ (mi 149 rfl)))) y574 (rm_lenG hw a2 u2 ku cx zx ux xs cs T555.heap n0 O569 SC_ hcs y576 y577 y574 y579 (hcod) (hx40)) g572 rfl [(.int 2)] rfl (lenOf pd_23 rfl) (hE 11 rfl) hml.symm 1 rfl (by decide)
    have N573 := Fr.app N555 M573
    have g580 := jA X573 hx (jy X573 hx st573 (hE 12 rfl) rfl (flt (own_nlt (a := 2) (Nat.le_of_eq hx2) (by decide) : ¬ ((2 : Int32) < (Int32.ofNat xs.length)))).2.1 (pc' := 129) (by decide)) (hE 67 rfl) rfl rfl
    have hn581 : ¬ (w1 = r376) := own_ne_or y387 (Nat.lt_of_lt_of_le E0_.lt (Nat.le_trans K104.1 K129.1)) hn533
    have y582 := ((y534.keep K538).keep K555)
    have y583 := ((y535.keep K538 (ninS (ne_exa y582 y559 (by decide)) (ninS hn581 nin0))).keep K555 (ninS (ne_exa y582 y559 (by decide)) (ninS hn581 nin0)))
    obtain ⟨T584, X584, e584, g584⟩ := own_getF X573 hx hZ hown (hw _ (mi 93 rfl)) Via.refl e573 y583 g580 (hE 68 rfl)
    have g585 := jA X584 hx (jI X584 hx (jA X584 hx g584 (hE 69 rfl) rfl rfl) (hE 70 rfl) rfl) (hE 71 rfl) rfl rfl
    obtain ⟨_, L586, T586, ⟨rfl, M586, e586⟩, X586, st586⟩ := own_callV X584 hx hZ hown (hw _ (mi 194 rfl)) (wd38 hw) (notFace_of_selects (args := #[]) (mvT hZ (hw _ (mi 149 rfl)))) y574 (rm_lenG hw a2 u2 ku cx zx ux xs cs T555.heap n0 O569 SC_ hcs y576 y577 y574 y579 (hcod) (hx40)) g585 e584 [(.int 2), (.ref a2), (.ref b1)] rfl (lenOf pd_23 rfl) (hE 72 rfl) hml.symm 3 rfl (by decide)
    have N586 := Fr.app N573 M586
    obtain ⟨_, L587, T587, ⟨r588, r589, r590, rfl, M587, K587, y591, y592, y593, y594, y595, y596, y597⟩, X587, st587⟩ := own_callV X586 hx hZ hown (hw _ (mi 196 rfl)) (wd52 hw) (notFace_of_selects (args := #[]) (mvT hZ (hw _ (mi 199 rfl)))) y559 (rm_saK hw b1 r376 r377 (((bs0 ++ own_sl xs un0 (1 - un0)) ++ [(92 : Int32)]) ++ [cb_]) r556 r557 r558 cs fm a2 u2 ku xs cx zx ux 2 0 fi (Int32.ofNat xs.length) T555.heap n0 O569 y559 y560 y561 y562 y563 y564 y565 y574 y577 y576 y579 (hx40) (hcx) (Nat.le_trans (own_ca (own_ca (own_capS j289 hls (by decide)) (Nat.le_refl 1)) (Nat.le_refl 1)) (by decide)) (Nat.le_of_eq hx2.symm) hcod (Or.inr (by rw [own_sl0]; exact own_lat0)) G17_ ge539 y389 hn578 hn575 NE22_ NE23_ S28_ hfi (congrArg Int32.ofNat hx2) hW) st586 e586 [] rfl (lenOf pd_41 rfl) (hE 73 rfl) hml.symm 0 rfl (by decide)
    have N587 := Fr.app N586 M587
    have sf599 : Safe Z consts_1 vm129 T555.heap r376 := (Safe.keep K555 (sfS sf568 (sfS sf567 sf0)) R550.1 sf567)
    have sf600 := Safe.exa (EL := consts_1) hZ.alike y559 (by decide) (by decide)
    have R598 : CHr Z consts_1 s.vm h0 vm129 T587.heap := R566.trans (CHr.keep K587 (sfS sf600 (sfS sf599 sf0)) R566.1)
    have O601 := O569.keep K587 (allS G17_ (allS ge539 all0))
    have g602 := jb X587 hx st587 (hE 74 rfl) 34 rfl
    obtain ⟨_, L603, T603, ⟨r604, r605, r606, rfl, M603, K603, y607, y608, y609, y610, y611, y612, y613⟩, X603, st603⟩ := own_callV X587 hx hZ hown (hw _ (mi 70 rfl)) (wd51 hw) (notFace_of_selects (args := #[]) (mvT hZ (hw _ (mi 73 rfl)))) y591 (rm_sapN hw b1 r376 r377 ((((bs0 ++ own_sl xs un0 (1 - un0)) ++ [(92 : Int32)]) ++ [cb_]) ++ own_sl xs 2 0) r588 r589 r590 cs fm (34 : Int32) T587.heap n0 O601 y591 y592 y593 y594 y595 y596 y597 G17_ ge539 y389 (Nat.le_trans (own_caS xs 2 (own_ca (own_ca (own_capS j289 hls (by decide)) (Nat.le_refl 1)) (Nat.le_refl 1))) (by decide)) (by decide) (by decide) hW) g602 rfl [] rfl (lenOf pd_40 rfl) (hE 75 rfl) hml.symm 0 rfl (by decide)
    have N603 := Fr.app N587 M603
    have sf615 : Safe Z consts_1 vm129 T587.heap r376 := (Safe.keep K587 (sfS sf600 (sfS sf599 sf0)) R566.1 sf599)
    have sf616 := Safe.exa (EL := consts_1) hZ.alike y591 (by decide) (by decide)
    have R614 : CHr Z consts_1 s.vm h0 vm129 T603.heap := R598.trans (CHr.keep K603 (sfS sf616 (sfS sf615 sf0)) R598.1)
    have O617 := O601.keep K603 (allS G17_ (allS ge539 all0))
    have hfin := own_PendK hp571 hx2.symm
    have g618 := jo X603 hx st603 (hE 76 rfl) rfl rfl
    have K619 : Keep h0 T603.heap [b1, v1] := ((((((((Keep.refl h0 [b1, v1]).trans K104 (allS (P := fun x => x ∈ [b1, v1] ∨ h0.size ≤ x) (Or.inl (mi 0 rfl)) (allS (P := fun x => x ∈ [b1, v1] ∨ h0.size ≤ x) (Or.inl (mi 1 rfl)) all0))).trans K129 (allS (P := fun x => x ∈ [b1, v1] ∨ h0.size ≤ x) (Or.inl (mi 0 rfl)) (allS (P := fun x => x ∈ [b1, v1] ∨ h0.size ≤ x) (Or.inl (mi 1 rfl)) all0))).trans K372 (allS (P := fun x => x ∈ [b1, v1] ∨ h0.size ≤ x) (Or.inl (mi 0 rfl)) (allS (P := fun x => x ∈ [b1, v1] ∨ h0.size ≤ x) (own_in_or a287 (Or.inl (mi 1 rfl)) K104.1) all0))).trans K538 (allS (P := fun x => x ∈ [b1, v1] ∨ h0.size ≤ x) (Or.inl (mi 0 rfl)) (allS (P := fun x => x ∈ [b1, v1] ∨ h0.size ≤ x) (own_in_or y387 (own_in_or a287 (Or.inl (mi 1 rfl)) K104.1) (Nat.le_trans K104.1 K129.1)) all0))).trans K555 (allS (P := fun x => x ∈ [b1, v1] ∨ h0.size ≤ x) (Or.inl (mi 0 rfl)) (allS (P := fun x => x ∈ [b1, v1] ∨ h0.size ≤ x) (own_in_or y387 (own_in_or a287 (Or.inl (mi 1 rfl)) K104.1) (Nat.le_trans K104.1 K129.1)) all0))).trans K587 (allS (P := fun x => x ∈ [b1, v1] ∨ h0.size ≤ x) (Or.inl (mi 0 rfl)) (allS (P := fun x => x ∈ [b1, v1] ∨ h0.size ≤ x) (own_in_or y387 (own_in_or a287 (Or.inl (mi 1 rfl)) K104.1) (Nat.le_trans K104.1 K129.1)) all0))).trans K603 (allS (P := fun x => x ∈ [b1, v1] ∨ h0.size ≤ x) (Or.inl (mi 0 rfl)) (allS (P := fun x => x ∈ [b1, v1] ∨ h0.size ≤ x) (own_in_or y387 (own_in_or a287 (Or.inl (mi 1 rfl)) K104.1) (Nat.le_trans K104.1 K129.1)) all0)))
    obtain ⟨fs, hr, hrun, hended, hRW⟩ := X603.leaveW hS (Nat.le_trans hk (Nat.le_trans (Nat.le_trans (Nat.le_trans (Nat.le_trans K372.1 K538.1) K555.1) K587.1) K603.1)) (v := none) (fun _ => rfl)
    refine ⟨_, _, g618 _ (X603.returnOut hx Bd.returns (hE 77 rfl) hr), hrun, hended, _, _, rfl, ?_, ?_, hRW.1, hRW.2.1, hRW.2.2.1, hRW.2.2.2.mono (by decide) (by decide)⟩
    ·
      show Q_aps Z w1 b1 v1 kv ls cd z1 vs a2 u2 ku xs cx zx ux hx1 kx hxs fi cs fm h0 n0 _ T603.heap _
      exact ⟨r376, r377, r604, r605, r606, rfl, N603, K619, y607, y608, y609, (by have q := y610; rw [hfin] at q; exact q), y611, y612, (own_alt_trans y387 (own_alt_trans a287 (Or.inl rfl) K104.1) (Nat.le_trans K104.1 K129.1)), (by rw [← hfin]; exact y613), y389⟩
    ·
      rw [hh]
      show CHr Z consts_1 s.vm h0 T603.vm T603.heap
      exact R614.trans (CHv.at X603 hZ (own_EW hw) R614.1)
  have g620 := jy X354 hx (jb X354 hx (ji X354 hx (jn X354 hx (jb X354 hx (ji X354 hx (jn X354 hx (jb X354 hx g358 (hE 18 rfl) 34 rfl) (hE 19 rfl) rfl (feq ((fun q => c357 (Or.inl (Or.inl q))) : ¬ (cb_ = (34 : Int32)))).1) (hE 20 rfl) rfl) (hE 21 rfl) 92 rfl) (hE 22 rfl) rfl (feq ((fun q => c357 (Or.inl (Or.inr q))) : ¬ (cb_ = (92 : Int32)))).1) (hE 23 rfl) rfl) (hE 24 rfl) 32 rfl) (hE 25 rfl) rfl (flt ((fun q => c357 (Or.inr q)) : ¬ (cb_ < (32 : Int32)))).2.1 (pc' := 123) (by decide)
  have hp621 := own_Pplain j289 (by rw [hx2]; decide) e_cb_ (fun q => c357 (Or.inr q)) (fun q => c357 (Or.inl (Or.inl q))) (fun q => c357 (Or.inl (Or.inr q)))
  have g622 := jA X354 hx (jI X354 hx (jg X354 hx (jk X354 hx g620 (hE 65 rfl) rfl (l' := #[rv w1, rv a2, iv (Int32.ofNat un0), iv 2, iv cb_]) rfl) (hE 66 rfl) (pc' := 14) (by decide)) (hE 9 rfl) rfl) (hE 10 rfl) rfl rfl
  obtain ⟨_, L623, T623, ⟨rfl, M623, e623⟩, X623, st623⟩ := own_callV X354 hx hZ hown (hw _ (mi 194 rfl)) (wd38 hw) (notFace_of_selects (args := #[]) (mvT hZ (hw _ (mi 149 rfl)))) y349 (rm_lenG hw a2 u2 ku cx zx ux xs cs h129 n0 O291 SC_ hcs y350 y351 y349 y352 (hcod) (hx40)) g622 e354 [(.int 2)] rfl (lenOf pd_23 rfl) (hE 11 rfl) hml.symm 1 rfl (by decide)
  have N623 := Fr.app N354 M623
  have g624 := jA X623 hx (jy X623 hx st623 (hE 12 rfl) rfl (flt (own_nlt (a := 2) (Nat.le_of_eq hx2) (by decide) : ¬ ((2 : Int32) < (Int32.ofNat xs.length)))).2.1 (pc' := 129) (by decide)) (hE 67 rfl) rfl rfl
  have y625 := ((E0_.keep K104).keep K129)
  have y626 := ((F1_.keep K104 (ninS (ne_exa y625 y281 (by decide)) (ninS NE24_ nin0))).keep K129 (ninS (ne_exa y625 y281 (by decide)) (ninS NE24_ nin0)))
  obtain ⟨T627, X627, e627, g627⟩ := own_getF X623 hx hZ hown (hw _ (mi 93 rfl)) Via.refl e623 y626 g624 (hE 68 rfl)
  have g628 := jA X627 hx (jI X627 hx (jA X627 hx g627 (hE 69 rfl) rfl rfl) (hE 70 rfl) rfl) (hE 71 rfl) rfl rfl
  obtain ⟨_, L629, T629, ⟨rfl, M629, e629⟩, X629, st629⟩ := own_callV X627 hx hZ hown (hw _ (mi 194 rfl)) (wd38 hw) (notFace_of_selects (args := #[]) (mvT hZ (hw _ (mi 149 rfl)))) y349 (rm_lenG hw a2 u2 ku cx zx ux xs cs h129 n0 O291 SC_ hcs y350 y351 y349 y352 (hcod) (hx40)) g628 e627 [(.int (Int32.ofNat un0)), (.ref a2), (.ref b1)] rfl (lenOf pd_23 rfl) (hE 72 rfl) hml.symm 3 rfl (by decide)
  have N629 := Fr.app N623 M629
  have ge631 : n0 ≤ rr0 := own_ge_or a287 G18_ (own_old_le O118)
  have hn632 : ¬ (u2 = rr0) := own_ne_or a287 (Nat.lt_of_lt_of_le A12_.lt K104.1) NE20_
  have hn633 : ¬ (a2 = rr0) := own_ne_or a287 (Nat.lt_of_lt_of_le E9_.lt K104.1) NE21_
  obtain ⟨_, L630, T630, ⟨r634, r635, r636, r637, r638, rfl, M630, K630, y639, y640, y641, y642, y643, y644, y645, y646, y647⟩, X630, st630⟩ := own_callV X629 hx hZ hown (hw _ (mi 196 rfl)) (wd52 hw) (notFace_of_selects (args := #[]) (mvT hZ (hw _ (mi 199 rfl)))) y281 (rm_saG hw b1 rr0 ki0 bs0 cq0 zq0 vq0 cs fm a2 u2 ku xs cx zx ux un0 (xs.length - un0) fi (Int32.ofNat xs.length) h129 n0 O291 y281 y282 y283 y284 y285 y286 j288 y349 y351 y350 y352 (hx40) (hcx) (Nat.le_trans (own_capB j289 hls (by decide)) (by decide)) (own_hon (i := xs.length) (by rw [hx2]; exact hp621.1) (Nat.le_refl _)) hcod G17_ ge631 j290 hn632 hn633 NE22_ NE23_ S28_ hfi (own_he (i := xs.length) (by rw [hx2]; exact hp621.1) rfl) hW) st629 e629 [] rfl (lenOf pd_41 rfl) (hE 73 rfl) hml.symm 0 rfl (by decide)
  have N630 := Fr.app N629 M630
  have sf649 : Safe Z consts_1 vm129 h129 rr0 := own_safe_sb hZ (hw _ (mi 230 rfl)) (by decide) (by decide) y286 j288
  have sf650 := Safe.exa (EL := consts_1) hZ.alike y281 (by decide) (by decide)
  have R648 : CHr Z consts_1 s.vm h0 vm129 T630.heap := R129.trans (CHr.keep K630 (sfS sf650 (sfS sf649 sf0)) R129.1)
  have O651 := O291.keep K630 (allS G17_ (allS ge631 all0))
  have g652 := jb X630 hx st630 (hE 74 rfl) 34 rfl
  have ge654 : n0 ≤ r634 := own_ge_or y645 ge631 (own_old_le O291)
  obtain ⟨_, L653, T653, ⟨r655, r656, r657, rfl, M653, K653, y658, y659, y660, y661, y662, y663, y664⟩, X653, st653⟩ := own_callV X630 hx hZ hown (hw _ (mi 70 rfl)) (wd51 hw) (notFace_of_selects (args := #[]) (mvT hZ (hw _ (mi 73 rfl)))) y639 (rm_sapN hw b1 r634 r635 (bs0 ++ own_sl xs un0 (xs.length - un0)) r636 r637 r638 cs fm (34 : Int32) T630.heap n0 O651 y639 y640 y641 y642 y643 y644 y646 G17_ ge654 y647 (Nat.le_trans (own_capE hp621 hls (by decide) hx2 rfl) (by decide)) (by decide) (by decide) hW) g652 rfl [] rfl (lenOf pd_40 rfl) (hE 75 rfl) hml.symm 0 rfl (by decide)
  have N653 := Fr.app N630 M653
  have sf666 : Safe Z consts_1 vm129 T630.heap r634 := own_safe_sb hZ (hw _ (mi 230 rfl)) (by decide) (by decide) y644 y646
  have sf667 := Safe.exa (EL := consts_1) hZ.alike y639 (by decide) (by decide)
  have R665 : CHr Z consts_1 s.vm h0 vm129 T653.heap := R648.trans (CHr.keep K653 (sfS sf667 (sfS sf666 sf0)) R648.1)
  have O668 := O651.keep K653 (allS G17_ (allS ge654 all0))
  have hfin := own_Pend hp621 hx2.symm
  have g669 := jo X653 hx st653 (hE 76 rfl) rfl rfl
  have K670 : Keep h0 T653.heap [b1, v1] := (((((Keep.refl h0 [b1, v1]).trans K104 (allS (P := fun x => x ∈ [b1, v1] ∨ h0.size ≤ x) (Or.inl (mi 0 rfl)) (allS (P := fun x => x ∈ [b1, v1] ∨ h0.size ≤ x) (Or.inl (mi 1 rfl)) all0))).trans K129 (allS (P := fun x => x ∈ [b1, v1] ∨ h0.size ≤ x) (Or.inl (mi 0 rfl)) (allS (P := fun x => x ∈ [b1, v1] ∨ h0.size ≤ x) (Or.inl (mi 1 rfl)) all0))).trans K630 (allS (P := fun x => x ∈ [b1, v1] ∨ h0.size ≤ x) (Or.inl (mi 0 rfl)) (allS (P := fun x => x ∈ [b1, v1] ∨ h0.size ≤ x) (own_in_or a287 (Or.inl (mi 1 rfl)) K104.1) all0))).trans K653 (allS (P := fun x => x ∈ [b1, v1] ∨ h0.size ≤ x) (Or.inl (mi 0 rfl)) (allS (P := fun x => x ∈ [b1, v1] ∨ h0.size ≤ x) (own_in_or y645 (own_in_or a287 (Or.inl (mi 1 rfl)) K104.1) (Nat.le_trans K104.1 K129.1)) all0)))
  obtain ⟨fs, hr, hrun, hended, hRW⟩ := X653.leaveW hS (Nat.le_trans hk (Nat.le_trans K630.1 K653.1)) (v := none) (fun _ => rfl)
  refine ⟨_, _, g669 _ (X653.returnOut hx Bd.returns (hE 77 rfl) hr), hrun, hended, _, _, rfl, ?_, ?_, hRW.1, hRW.2.1, hRW.2.2.1, hRW.2.2.2.mono (by decide) (by decide)⟩
  ·
    show Q_aps Z w1 b1 v1 kv ls cd z1 vs a2 u2 ku xs cx zx ux hx1 kx hxs fi cs fm h0 n0 _ T653.heap _
    exact ⟨r634, r635, r655, r656, r657, rfl, N653, K670, y658, y659, y660, (by have q := y661; rw [hfin] at q; exact q), y662, y663, (own_alt_trans y645 (own_alt_trans a287 (Or.inl rfl) K104.1) (Nat.le_trans K104.1 K129.1)), (by rw [← hfin]; exact y664), y647⟩
  ·
    rw [hh]
    show CHr Z consts_1 s.vm h0 T653.vm T653.heap
    exact R665.trans (CHv.at X653 hZ (own_EW hw) R665.1)
theorem wd54 (hw : HW a0 Z) : own_wdI a0 Z mN24 jdk_67_method_2_code 2 := ⟨hw _ (mi 56 rfl), hw _ (mi 54 rfl), hw _ (mi 57 rfl), by decide, rfl⟩
theorem rm_wIni (hw : HW a0 Z) (w1 : Addr) (cs : Int32) (fm : Value) (h0 : Heap) (n0 : Nat) (O0 : Old Z n0 h0) (E0_ : Exa Z h0 w1 "com/example/clear_fault/clearfault/JsonObjectWriter") (F1_ : Fld Z h0 w1 "com/example/clear_fault/clearfault/JsonObjectWriter" "out" "Ljava/lang/StringBuilder;" .null) (F2_ : Fld Z h0 w1 "com/example/clear_fault/clearfault/JsonObjectWriter" "first" "Z" (.int 0)) (G3_ : n0 ≤ w1) (hW : own_W Z cs fm) :
    own_M l mN66 (Jvm.Cond.code mN66 prog_13_method_1_code 1 none) [] (⟨6, 2, 260, 81⟩ : Room) #[(.ref w1)] Z h0 (fun v h L => ∃ (b : Addr), ∃ (r : Addr), ∃ (kid : ClassId), ∃ (cd2 : Int32), ∃ (z2 : Int32), ∃ (vs2 : List Value), v = none ∧ Fr n0 L ∧ Keep h0 h [w1] ∧ (Fld Z h w1 "com/example/clear_fault/clearfault/JsonObjectWriter" "out" "Ljava/lang/StringBuilder;" (.ref b)) ∧ (Fld Z h w1 "com/example/clear_fault/clearfault/JsonObjectWriter" "first" "Z" (.int 1)) ∧ h0.size ≤ b ∧ h0.size ≤ r ∧ (Exa Z h b "java/lang/StringBuilder") ∧ (Fld Z h b "java/lang/AbstractStringBuilder" "value" "[B" (.ref r)) ∧ (Fld Z h b "java/lang/AbstractStringBuilder" "coder" "B" (.int cd2)) ∧ (Fld Z h b "java/lang/AbstractStringBuilder" "count" "I" (.int (Int32.ofNat own_L0.length))) ∧ (Fld Z h b "java/lang/AbstractStringBuilder" "maybeLatin1" "Z" (.int 0)) ∧ (Arv Z h r kid .byte z2 vs2 (.int 0)) ∧ (own_sb own_L0 cd2 z2 vs2) ∧ (¬ (r = b))) := by
  refine own_open n0 (plainFor_of_name pn_8) (fun m => ef_R1 m w1 ) ?_
  intro p e s m below meth c s₁ A0 Bd hx hby hml hown hnm hZ hh X0 e0 N0 g0
  obtain ⟨SC_, hcs, SF_, hfm, SU1_, SU2_, SU3_⟩ := id hW
  have hE := own_hd hby E11
  have g101 := jA X0 hx g0 (hE 0 rfl) rfl rfl
  obtain ⟨T102, X102, e102, st102⟩ := initO X0 hx hZ hown (hw _ (mi 51 rfl)) (hw _ (mi 21 rfl)) (hw _ (mi 22 rfl)) e0 (g := (mkF m 1 #[rv w1] [(.ref w1)])) rfl (by rw [hml]; rfl) rfl (hE 1 rfl) (by decide) (W := 0) (by show 2 * 0 + _ ≤ _; exact Nat.le_of_eq rfl) (by decide)
  have g103 : Go p e below T102 (mkF m 4 #[rv w1] []) A0 := fun t kont => g101 t (st102 t kont)
  have g104 := jA X102 hx g103 (hE 2 rfl) rfl rfl
  obtain ⟨T105, h105, X105, e105, E105, A105, D105, -, st105⟩ := newO X102 hx hZ hown (hw _ (mi 52 rfl)) (hw _ (mi 53 rfl)) (hw _ (mi 54 rfl)) e102 (g := (mkF m 5 #[rv w1] [(.ref w1)])) rfl (hE 3 rfl) (by decide) (by decide)
  obtain ⟨b105, gb105⟩ : ∃ z, z = h0.size := ⟨_, rfl⟩
  rw [← gb105] at A105 D105 st105
  have O106 := O0.ext E105
  have y107 : Fld Z h105 b105 "java/lang/AbstractStringBuilder" "value" "[B" .null := D105 (Or.inl (hw _ (mi 67 rfl))) (ty := (.array .byte)) (by decide)
  have y108 : Fld Z h105 b105 "java/lang/AbstractStringBuilder" "coder" "B" (.int 0) := D105 (Or.inl (hw _ (mi 69 rfl))) (ty := .byte) (by decide)
  have y109 : Fld Z h105 b105 "java/lang/AbstractStringBuilder" "count" "I" (.int 0) := D105 (Or.inl (hw _ (mi 81 rfl))) (ty := .int) (by decide)
  have y110 : Fld Z h105 b105 "java/lang/AbstractStringBuilder" "maybeLatin1" "Z" (.int 0) := D105 (Or.inl (hw _ (mi 365 rfl))) (ty := .boolean) (by decide)
  have g111 : Go p e below T105 (mkF m 8 #[rv w1] [(.ref b105), (.ref w1)]) A0 := fun t kont => g104 t (st105 t kont)
  have g112 := jp X105 hx (jd X105 hx g111 (hE 4 rfl) rfl rfl) (hE 5 rfl) 256 rfl
  have ge114 : n0 ≤ b105 := Nat.le_trans (own_old_le O0) (Nat.le_of_eq gb105.symm)
  obtain ⟨_, L113, T113, ⟨r115, r116, rfl, M113, K113, y117, y118, y119, y120, y121, y122, y123⟩, X113, st113⟩ := own_callI X105 hx hZ hown (hw _ (mi 55 rfl)) (wd54 hw) (rm_sbI hw b105 cs h105 n0 O106 SC_ hcs A105 y107 y108 y109 y110 ge114) g112 e105 [(.ref b105), (.ref w1)] rfl (lenOf pd_14 rfl) (hE 6 rfl) hml.symm 2 rfl (by decide)
  have N113 := Fr.app N0 M113
  have O124 := O106.keep K113 (allS ge114 all0)
  have g125 := jb X113 hx st113 (hE 7 rfl) 123 rfl
  have ge127 : n0 ≤ r115 := Nat.le_trans (own_old_le O106) y122
  obtain ⟨_, L126, T126, ⟨r128, r129, r130, rfl, M126, K126, y131, y132, y133, y134, y135, y136, y137⟩, X126, st126⟩ := own_callV X113 hx hZ hown (hw _ (mi 70 rfl)) (wd51 hw) (notFace_of_selects (args := #[]) (mvT hZ (hw _ (mi 73 rfl)))) y117 (rm_sapN hw b105 r115 r116 [] (0 : Int32) (256 : Int32) (own_PL []) cs fm (123 : Int32) T113.heap n0 O124 y117 y118 y119 y120 y121 y123 (Or.inl ⟨rfl, rfl, rfl, own_lat0, own_cnil⟩) ge114 ge127 (Ne.symm (Nat.ne_of_lt (Nat.lt_of_lt_of_le A105.lt y122))) (Nat.zero_le _) (by decide) (by decide) hW) g125 rfl [(.ref w1)] rfl (lenOf pd_40 rfl) (hE 8 rfl) hml.symm 1 rfl (by decide)
  have N126 := Fr.app N113 M126
  have O138 := O124.keep K126 (allS ge114 (allS ge127 all0))
  have y139 := (((E0_.ext E105).keep K113).keep K126)
  have y140 := (((F1_.ext E105).keep K113 (ninS (Nat.ne_of_lt (Nat.lt_of_lt_of_le E0_.lt (Nat.le_of_eq gb105.symm))) nin0)).keep K126 (ninS (Nat.ne_of_lt (Nat.lt_of_lt_of_le E0_.lt (Nat.le_of_eq gb105.symm))) (ninS (Nat.ne_of_lt (Nat.lt_of_lt_of_le (Nat.lt_of_lt_of_le E0_.lt E105.1) y122)) nin0)))
  obtain ⟨T141, h141, X141, e141, W141, st141⟩ := putF X126 hx hZ hown (host := "") (Or.inl (hw _ (mi 93 rfl))) Via.refl rfl y140 y139 (Or.inr ⟨(hw _ (mi 94 rfl)), rfl, hnm⟩) (hw _ (mi 46 rfl)) (ty := (.object "java/lang/StringBuilder")) (by decide) rfl rfl (g := (mkF m 20 #[rv w1] [(.ref b105), (.ref w1)])) rfl rfl (hE 9 rfl)
  have O142 := O138.wr W141 G3_
  have y143 : Fld Z h141 w1 "com/example/clear_fault/clearfault/JsonObjectWriter" "out" "Ljava/lang/StringBuilder;" (.ref b105) := y140.same W141
  have N141 := Fr.snoc X141 N126 G3_
  have g144 : Go p e below T141 (mkF m 23 #[rv w1] []) A0 := fun t kont => st126 t (st141 t kont)
  have g145 := jc X141 hx (jA X141 hx g144 (hE 10 rfl) rfl rfl) (hE 11 rfl) 1 rfl
  have y146 := (y139.wr W141)
  have y147 := ((((F2_.ext E105).keep K113 (ninS (Nat.ne_of_lt (Nat.lt_of_lt_of_le E0_.lt (Nat.le_of_eq gb105.symm))) nin0)).keep K126 (ninS (Nat.ne_of_lt (Nat.lt_of_lt_of_le E0_.lt (Nat.le_of_eq gb105.symm))) (ninS (Nat.ne_of_lt (Nat.lt_of_lt_of_le (Nat.lt_of_lt_of_le E0_.lt E105.1) y122)) nin0))).other W141 (Or.inr (slot_ne (Or.inl (hw _ (mi 96 rfl))) (Or.inr (hw _ (mi 94 rfl))) (by decide) (t := .boolean) (t' := (.object "java/lang/StringBuilder")) (by decide) (by decide))))
  obtain ⟨T148, h148, X148, e148, W148, st148⟩ := putFN X141 hx hZ hown (hw _ (mi 95 rfl)) Via.refl e141 y147 y146 (Or.inl (hw _ (mi 96 rfl))) (hw _ (mi 46 rfl)) (ty := .boolean) (v := (.int 1)) (v' := (.int 1)) (by decide) (own_nw_boolean (by decide : nar .boolean (1 : Int32) = (1 : Int32))) (own_ft_boolean (by decide : nar .boolean (1 : Int32) = (1 : Int32))) (g := (mkF m 25 #[rv w1] [(.int 1), (.ref w1)])) rfl rfl (hE 12 rfl)
  have O149 := O142.wr W148 G3_
  have y150 : Fld Z h148 w1 "com/example/clear_fault/clearfault/JsonObjectWriter" "first" "Z" (.int 1) := y147.same W148
  have N148 := Fr.snoc X148 N141 G3_
  have g151 : Go p e below T148 (mkF m 28 #[rv w1] []) A0 := fun t kont => g145 t (st148 t kont)
  have K152 : Keep h0 h148 [w1] := ((((((Keep.refl h0 [w1]).ext E105).trans K113 (allS (P := fun x => x ∈ [w1] ∨ h0.size ≤ x) (Or.inr (Nat.le_of_eq gb105.symm)) all0)).trans K126 (allS (P := fun x => x ∈ [w1] ∨ h0.size ≤ x) (Or.inr (Nat.le_of_eq gb105.symm)) (allS (P := fun x => x ∈ [w1] ∨ h0.size ≤ x) (Or.inr (Nat.le_trans E105.1 y122)) all0))).wr W141 (Or.inl (mi 0 rfl))).wr W148 (Or.inl (mi 0 rfl)))
  have y153 := (y143.other W148 (Or.inr (slot_ne (Or.inr (hw _ (mi 94 rfl))) (Or.inl (hw _ (mi 96 rfl))) (by decide) (t := (.object "java/lang/StringBuilder")) (t' := .boolean) (by decide) (by decide))))
  have y154 := ((y131.wr W141).wr W148)
  have y155 := ((y132.other W141 (Or.inl (Ne.symm (Nat.ne_of_lt (Nat.lt_of_lt_of_le E0_.lt (Nat.le_of_eq gb105.symm)))))).other W148 (Or.inl (Ne.symm (Nat.ne_of_lt (Nat.lt_of_lt_of_le E0_.lt (Nat.le_of_eq gb105.symm))))))
  have y156 := ((y133.other W141 (Or.inl (Ne.symm (Nat.ne_of_lt (Nat.lt_of_lt_of_le E0_.lt (Nat.le_of_eq gb105.symm)))))).other W148 (Or.inl (Ne.symm (Nat.ne_of_lt (Nat.lt_of_lt_of_le E0_.lt (Nat.le_of_eq gb105.symm))))))
  have y157 := ((y134.other W141 (Or.inl (Ne.symm (Nat.ne_of_lt (Nat.lt_of_lt_of_le E0_.lt (Nat.le_of_eq gb105.symm)))))).other W148 (Or.inl (Ne.symm (Nat.ne_of_lt (Nat.lt_of_lt_of_le E0_.lt (Nat.le_of_eq gb105.symm))))))
  have y158 := ((y135.other W141 (Or.inl (Ne.symm (Nat.ne_of_lt (Nat.lt_of_lt_of_le E0_.lt (Nat.le_of_eq gb105.symm)))))).other W148 (Or.inl (Ne.symm (Nat.ne_of_lt (Nat.lt_of_lt_of_le E0_.lt (Nat.le_of_eq gb105.symm))))))
  have y159 := ((y136.other W141 (Ne.symm (Nat.ne_of_lt (Nat.lt_of_lt_of_le (Nat.lt_of_lt_of_le E0_.lt E105.1) y122)))).other W148 (Ne.symm (Nat.ne_of_lt (Nat.lt_of_lt_of_le (Nat.lt_of_lt_of_le E0_.lt E105.1) y122))))
  refine own_leave X148 Bd (none) (fun _ => rfl) g151 (fun fs hr => X148.returnOut hx Bd.returns (hE 13 rfl) hr) (by decide) (by decide) ?_
  rw [e148]
  exact ⟨b105, r115, r116, r128, r129, r130, rfl, N148, K152, y153, y150, (Nat.le_of_eq gb105.symm), (Nat.le_trans E105.1 y122), y154, y155, y156, y157, y158, y159, y137, (Ne.symm (Nat.ne_of_lt (Nat.lt_of_lt_of_le A105.lt y122)))⟩
def Q_nam (Z : State) (w1 b1 v1 : Addr) (kv : ClassId) (ls : List Int32) (cd z1 : Int32) (vs : List Value) (a2 u2 : Addr) (ku : ClassId) (xs : List Int32) (cx zx : Int32) (ux : List Value) (hx1 : Addr) (kx : ClassId) (hxs : List Value) (fi : Value) (cs : Int32) (fm : Value) (fl : Int32) (h0 : Heap) (n0 : Nat) (v : Option Value) (h : Heap) (L : List Loc) : Prop := ∃ (r : Addr), ∃ (kid : ClassId), ∃ (cd2 : Int32), ∃ (z2 : Int32), ∃ (vs2 : List Value), v = none ∧ Fr n0 L ∧ Keep h0 h [w1, b1, v1] ∧ (Fld Z h w1 "com/example/clear_fault/clearfault/JsonObjectWriter" "first" "Z" (.int 0)) ∧ (Fld Z h w1 "com/example/clear_fault/clearfault/JsonObjectWriter" "out" "Ljava/lang/StringBuilder;" (.ref b1)) ∧ (Exa Z h b1 "java/lang/StringBuilder") ∧ (Fld Z h b1 "java/lang/AbstractStringBuilder" "value" "[B" (.ref r)) ∧ (Fld Z h b1 "java/lang/AbstractStringBuilder" "coder" "B" (.int cd2)) ∧ (Fld Z h b1 "java/lang/AbstractStringBuilder" "count" "I" (.int (Int32.ofNat (((ls ++ own_cm fl) ++ own_js xs) ++ [(58 : Int32)]).length))) ∧ (Fld Z h b1 "java/lang/AbstractStringBuilder" "maybeLatin1" "Z" (.int 0)) ∧ (Arv Z h r kid .byte z2 vs2 (.int 0)) ∧ (r = v1 ∨ h0.size ≤ r) ∧ (own_sb (((ls ++ own_cm fl) ++ own_js xs) ++ [(58 : Int32)]) cd2 z2 vs2) ∧ (¬ (r = b1))
theorem rm_nam (hw : HW a0 Z) (w1 b1 v1 : Addr) (kv : ClassId) (ls : List Int32) (cd z1 : Int32) (vs : List Value) (a2 u2 : Addr) (ku : ClassId) (xs : List Int32) (cx zx : Int32) (ux : List Value) (hx1 : Addr) (kx : ClassId) (hxs : List Value) (fi : Value) (cs : Int32) (fm : Value) (fl : Int32) (h0 : Heap) (n0 : Nat) (O0 : Old Z n0 h0) (E0_ : Exa Z h0 w1 "com/example/clear_fault/clearfault/JsonObjectWriter") (F1_ : Fld Z h0 w1 "com/example/clear_fault/clearfault/JsonObjectWriter" "out" "Ljava/lang/StringBuilder;" (.ref b1)) (F2_ : Fld Z h0 w1 "com/example/clear_fault/clearfault/JsonObjectWriter" "first" "Z" (.int fl)) (E3_ : Exa Z h0 b1 "java/lang/StringBuilder") (F4_ : Fld Z h0 b1 "java/lang/AbstractStringBuilder" "value" "[B" (.ref v1)) (F5_ : Fld Z h0 b1 "java/lang/AbstractStringBuilder" "coder" "B" (.int cd)) (F6_ : Fld Z h0 b1 "java/lang/AbstractStringBuilder" "count" "I" (.int (Int32.ofNat ls.length))) (F7_ : Fld Z h0 b1 "java/lang/AbstractStringBuilder" "maybeLatin1" "Z" (.int 0)) (A8_ : Arv Z h0 v1 kv .byte z1 vs (.int 0)) (hsb : own_sb ls cd z1 vs) (E10_ : Exa Z h0 a2 "java/lang/String") (F11_ : Fld Z h0 a2 "java/lang/String" "coder" "B" (.int cx)) (F12_ : Fld Z h0 a2 "java/lang/String" "value" "[B" (.ref u2)) (A13_ : Arv Z h0 u2 ku .byte zx ux (.int 0)) (hcod : own_cod xs cx zx ux) (hxn : xs.length = 1 ∨ xs.length = 2) (hcx : own_chars xs) (hls : ls.length ≤ 60) (G18_ : n0 ≤ w1) (G19_ : n0 ≤ b1) (G20_ : n0 ≤ v1) (NE21_ : ¬ (v1 = b1)) (NE22_ : ¬ (u2 = v1)) (NE23_ : ¬ (a2 = v1)) (NE24_ : ¬ (a2 = b1)) (NE25_ : ¬ (u2 = b1)) (NE26_ : ¬ (w1 = v1)) (NE27_ : ¬ (u2 = w1)) (S28_ : Sta Z Z.heap "com/example/clear_fault/clearfault/JsonObjectWriter" "HEX" "[C" (.ref hx1)) (ZA29_ : Arv Z Z.heap hx1 kx .char (16 : Int32) hxs (.int 0)) (hhx : ∀ i, i < 16 → hxs.getD i (.int 0) = .int (own_hexn i)) (S31_ : Sta Z Z.heap "jdk/internal/util/Preconditions" "IOOBE_FORMATTER" "Ljava/util/function/BiFunction;" fi) (hfi : fi.isRef = true) (hW : own_W Z cs fm) :
    MetFree l mN67 (head1 (Jvm.Cond.code mN67 prog_13_method_7_code 2 none :: []) (⟨10, 5, 552, 155⟩ : Room)) (fun a U => a = #[(.ref w1), (.ref a2)] ∧ Z.Warmed39 U.vm ∧ U.heap = h0 ∧ CHv Z consts_1 U.vm h0) (fun _ _ _ _ _ => True) (fun _ U o U' => ∃ v L, o = .returned v ∧ Q_nam Z w1 b1 v1 kv ls cd z1 vs a2 u2 ku xs cx zx ux hx1 kx hxs fi cs fm fl h0 n0 v U'.heap L ∧ CHr Z consts_1 U.vm U.heap U'.vm U'.heap ∧ ReturnedEndW U o U' L (⟨10, 5, 552, 155⟩ : Room).cells (⟨10, 5, 552, 155⟩ : Room).slots) := by
  refine MetFree.of_bodySF (plainFor_of_name pn_8) hisR ?_
  intro p e s m args below meth c s₁ Bd hml0 hP hK
  obtain ⟨rfl, hZ, hh, hC0⟩ := hP
  have hx := Bd.exec
  have hby := Bd.bytes
  have hml : c.maxLocals = 2 := hml0
  have hown : s.vm.findClass "com/example/clear_fault/clearfault/JsonObjectWriter" = some m.cls := findClass_of_methodNamed Bd.named
  have hnm := (name_of_methodNamed Bd.named Bd.method).1
  have X0 : Stand p l e (⟨10, 5, 552, 155⟩ : Room) (s.setVm s.vm) m #[(.ref w1), (.ref a2)] below meth c s₁ [] 0 0 := Stand.of_body Bd
  have e0 : s₁.heap = h0 := by rw [← hh, Bd.state]; rfl
  have N0 := Fr.nil n0
  have hS : s.Since s.vm 0 := (State.WarmedH.refl s).since 0
  have hk : 0 ≤ h0.size := Nat.zero_le _
  have hZ : Z.Warmed39 (s.setVm s.vm).vm := hZ
  have hown : (s.setVm s.vm).vm.findClass "com/example/clear_fault/clearfault/JsonObjectWriter" = some m.cls := hown
  have R0 : CHr Z consts_1 s.vm h0 s.vm h0 := CHr.refl hC0
  have g0 : Go p e below s₁ (mkF m 0 #[rv w1, rv a2] []) (s₁.setTop (entryFrame m #[(.ref w1), (.ref a2)] 2)) := fun t kont => castTop (ef_RR2 m w1 a2 ) kont
  generalize s₁.setTop (entryFrame m #[(.ref w1), (.ref a2)] 2) = A0 at g0 ⊢
  obtain ⟨SC_, hcs, SF_, hfm, SU1_, SU2_, SU3_⟩ := id hW
  have hE := own_hd hby E38
  have g101 := jA X0 hx g0 (hE 0 rfl) rfl rfl
  obtain ⟨T102, X102, e102, g102⟩ := own_getF X0 hx hZ hown (hw _ (mi 95 rfl)) Via.refl e0 F2_ g101 (hE 1 rfl)
  obtain ⟨cq, zq, vq, T103, lc103, h103, vm103, k103, X103, e103, K103, hS, hk, hZ, hown, R103, C103, N103, g103, y129, y130, y131, y132, y133, y134, j135⟩ : ∃ cq : Int32, ∃ zq : Int32, ∃ vq : List Value, ∃ (T103 : State) (lc103 : List Loc) (h103 : Heap) (vm103 : Vm) (k103 : Nat), Stand p l e (⟨10, 5, 552, 155⟩ : Room) (s.setVm vm103) m #[(.ref w1), (.ref a2)] below meth c T103 lc103 0 0 ∧ T103.heap = h103 ∧ Keep h0 h103 [b1, v1] ∧ s.Since vm103 k103 ∧ k103 ≤ h103.size ∧ Z.Warmed39 (s.setVm vm103).vm ∧ (s.setVm vm103).vm.findClass "com/example/clear_fault/clearfault/JsonObjectWriter" = some m.cls ∧ CHr Z consts_1 s.vm h0 vm103 h103 ∧ CHr Z consts_1 s.vm h0 vm103 h103 ∧ Fr n0 lc103 ∧ Go p e below T103 (mkF m 17 #[rv w1, rv a2] []) A0 ∧ (Exa Z h103 b1 "java/lang/StringBuilder") ∧ (Fld Z h103 b1 "java/lang/AbstractStringBuilder" "value" "[B" (.ref v1)) ∧ (Fld Z h103 b1 "java/lang/AbstractStringBuilder" "coder" "B" (.int cq)) ∧ (Fld Z h103 b1 "java/lang/AbstractStringBuilder" "count" "I" (.int (Int32.ofNat (ls ++ own_cm fl).length))) ∧ (Fld Z h103 b1 "java/lang/AbstractStringBuilder" "maybeLatin1" "Z" (.int 0)) ∧ (Arv Z h103 v1 kv .byte zq vq (.int 0)) ∧ (own_sb (ls ++ own_cm fl) cq zq vq) := by
    by_cases c104 : fl = (0 : Int32)
    ·
      have g105 := jA X102 hx (jN X102 hx g102 (hE 2 rfl) rfl ((if0 _ _).trans (teq c104).2)) (hE 3 rfl) rfl rfl
      obtain ⟨T106, X106, e106, g106⟩ := own_getF X102 hx hZ hown (hw _ (mi 93 rfl)) Via.refl e102 F1_ g105 (hE 4 rfl)
      have g107 := jb X106 hx g106 (hE 5 rfl) 44 rfl
      obtain ⟨_, L108, T108, ⟨r109, r110, r111, rfl, M108, K108, y112, y113, y114, y115, y116, y117, y118⟩, X108, st108⟩ := own_callV X106 hx hZ hown (hw _ (mi 70 rfl)) (wd51 hw) (notFace_of_selects (args := #[]) (mvT hZ (hw _ (mi 73 rfl)))) E3_ (rm_sapN hw b1 v1 kv ls cd z1 vs cs fm (44 : Int32) h0 n0 O0 E3_ F4_ F5_ F6_ F7_ A8_ hsb G19_ G20_ NE21_ (Nat.le_trans hls (by decide)) (by decide) (by decide) hW) g107 e106 [] rfl (lenOf pd_40 rfl) (hE 6 rfl) hml.symm 0 rfl (by decide)
      have N108 := Fr.app N0 M108
      have sf120 : Safe Z consts_1 s.vm h0 v1 := own_safe_sb hZ (hw _ (mi 230 rfl)) (by decide) (by decide) A8_ hsb
      have sf121 := Safe.exa (EL := consts_1) hZ.alike E3_ (by decide) (by decide)
      have R119 : CHr Z consts_1 s.vm h0 s.vm T108.heap := R0.trans (CHr.keep K108 (sfS sf121 (sfS sf120 sf0)) R0.1)
      have O122 := O0.keep K108 (allS G19_ (allS G20_ all0))
      have y123 : Fld Z T108.heap b1 "java/lang/AbstractStringBuilder" "count" "I" (.int (Int32.ofNat (ls ++ own_cm fl).length)) := by have q := y115; rw [own_cm0 c104 ls] at q; exact q
      have j124 : own_sb (ls ++ own_cm fl) r109 r110 r111 := by have q := y118; rw [own_cm0 c104 ls] at q; exact q
      have g125 := jo X108 hx st108 (hE 7 rfl) rfl rfl
      exact ⟨r109, r110, r111, _, _, _, _, _, (X108.more (by decide) (by decide)), rfl, ((Keep.refl h0 [b1, v1]).trans K108 (allS (P := fun x => x ∈ [b1, v1] ∨ h0.size ≤ x) (Or.inl (mi 0 rfl)) (allS (P := fun x => x ∈ [b1, v1] ∨ h0.size ≤ x) (Or.inl (mi 1 rfl)) all0))), hS, (Nat.le_trans hk K108.1), hZ, hown, R119, ((CHr.refl R0.1).trans (CHr.keep K108 (sfS sf121 (sfS sf120 sf0)) R0.1)), N108, g125, y112, y113, y114, y123, y116, y117, (j124)⟩
    have g126 := jY X102 hx g102 (hE 2 rfl) rfl ((if0 _ _).trans (feq c104).2) (pc' := 17) (by decide)
    have y127 : Fld Z h0 b1 "java/lang/AbstractStringBuilder" "count" "I" (.int (Int32.ofNat (ls ++ own_cm fl).length)) := by have q := F6_; rw [own_cm1 c104 ls] at q; exact q
    have j128 : own_sb (ls ++ own_cm fl) cd z1 vs := by have q := hsb; rw [own_cm1 c104 ls] at q; exact q
    exact ⟨cd, z1, vs, _, _, _, _, _, (X102.more (by decide) (by decide)), e102, (Keep.refl h0 [b1, v1]), hS, hk, hZ, hown, R0, (CHr.refl R0.1), N0, g126, E3_, F4_, F5_, y127, F7_, A8_, (j128)⟩
  have O136 := O0.keep K103 (allS G19_ (allS G20_ all0))
  have g137 := jc X103 hx (jA X103 hx g103 (hE 8 rfl) rfl rfl) (hE 9 rfl) 0 rfl
  have y138 := (E0_.keep K103)
  have y139 := (F2_.keep K103 (ninS (ne_exa y138 y129 (by decide)) (ninS NE26_ nin0)))
  obtain ⟨T140, h140, X140, e140, W140, st140⟩ := putFN X103 hx hZ hown (hw _ (mi 95 rfl)) Via.refl e103 y139 y138 (Or.inl (hw _ (mi 96 rfl))) (hw _ (mi 46 rfl)) (ty := .boolean) (v := (.int 0)) (v' := (.int 0)) (by decide) (own_nw_boolean (by decide : nar .boolean (0 : Int32) = (0 : Int32))) (own_ft_boolean (by decide : nar .boolean (0 : Int32) = (0 : Int32))) (g := (mkF m 19 #[rv w1, rv a2] [(.int 0), (.ref w1)])) rfl rfl (hE 10 rfl)
  have sf142 := Safe.exa (EL := consts_1) hZ.alike y138 (by decide) (by decide)
  have R141 : CHr Z consts_1 s.vm h0 vm103 h140 := R103.trans (CHr.wr W140 sf142 R103.1)
  have O143 := O136.wr W140 G18_
  have y144 : Fld Z h140 w1 "com/example/clear_fault/clearfault/JsonObjectWriter" "first" "Z" (.int 0) := y139.same W140
  have N140 := Fr.snoc X140 N103 G18_
  have g145 : Go p e below T140 (mkF m 22 #[rv w1, rv a2] []) A0 := fun t kont => g137 t (st140 t kont)
  have g146 := jA X140 hx (jA X140 hx g145 (hE 11 rfl) rfl rfl) (hE 12 rfl) rfl rfl
  have y148 := (y138.wr W140)
  have y149 := (y129.wr W140)
  have y150 := ((F1_.keep K103 (ninS (ne_exa y148 y149 (by decide)) (ninS NE26_ nin0))).other W140 (Or.inr (slot_ne (Or.inr (hw _ (mi 94 rfl))) (Or.inl (hw _ (mi 96 rfl))) (by decide) (t := (.object "java/lang/StringBuilder")) (t' := .boolean) (by decide) (by decide))))
  have y151 := (y130.other W140 (Or.inl (ne_exa y149 y148 (by decide))))
  have y152 := (y131.other W140 (Or.inl (ne_exa y149 y148 (by decide))))
  have y153 := (y132.other W140 (Or.inl (ne_exa y149 y148 (by decide))))
  have y154 := (y133.other W140 (Or.inl (ne_exa y149 y148 (by decide))))
  have y155 := (y134.other W140 (Ne.symm NE26_))
  have y156 := ((E10_.keep K103).wr W140)
  have y157 := ((F11_.keep K103 (ninS NE24_ (ninS NE23_ nin0))).other W140 (Or.inl (ne_exa y156 y148 (by decide))))
  have y158 := ((F12_.keep K103 (ninS NE24_ (ninS NE23_ nin0))).other W140 (Or.inl (ne_exa y156 y148 (by decide))))
  have y159 := ((A13_.keep K103 (ninS NE25_ (ninS NE22_ nin0))).other W140 NE27_)
  obtain ⟨cq147, q147, q147'⟩ := y148.cell
  obtain ⟨_, _, ⟨T147, L147, k147, n147⟩, -, X147, hS147, hg147, ⟨Lc147, hQ147, l147, y147, z147, C147⟩, st147⟩ := X140.privateBackS hx (y := mN65) hown (mvT hZ (hw _ (mi 190 rfl))) (mvT hZ (hw _ (mi 191 rfl))) (mvT hZ (own_selQ (y := mN65) (hw _ (mi 100 rfl)) rfl (hw _ (mi 192 rfl)) (hw _ (mi 191 rfl)) (by decide))) (Cond.privateMethod_at (mvP hZ (hw _ (mi 192 rfl)) (args := #[]))) (mvT hZ (hw _ (mi 193 rfl))) (by decide) (backOfSH (W := 0) (rm_aps hw w1 b1 v1 kv (ls ++ own_cm fl) cq zq vq a2 u2 ku xs cx zx ux hx1 kx hxs fi cs fm h140 n0 O143 y148 y150 y149 y151 y152 y153 y154 y155 j135 y156 y157 y158 y159 (hcod) (hxn) (hcx) (Nat.le_trans (own_ca hls (own_cml _)) (by decide)) G19_ G20_ NE21_ NE22_ NE23_ NE24_ NE25_ NE26_ S28_ ZA29_ hhx S31_ hfi hW) hZ (hw _ (mi 193 rfl)) (hw _ (mi 47 rfl)) (by decide) (by decide) (own_EW hw) R141.1) (g := (mkF m 24 #[rv w1, rv a2] [(.ref a2), (.ref w1)])) rfl (by rw [hml]; rfl) (Steps.refl _) (a := w1) (by rw [e140]; exact q147) q147' (argsL := [(.ref a2)]) (rest := []) (lenOf pd_28 rfl) rfl (by show 2 * 0 + _ ≤ _; exact Nat.le_of_eq rfl) (hE 13 rfl) (fun _ _ => ⟨rfl, e140, (by decide : 0 + 5 ≤ _), (by decide : 0 + 552 ≤ _)⟩)
  dsimp only [Pt.U, Pt.locs, Pt.cells, Pt.slots] at X147 l147 y147 z147 st147 hQ147 hS147 hg147 C147
  subst y147 z147
  obtain ⟨X147, hS, hZ, hown⟩ := rebS hS (n1 := T140.heap.size) (by rw [e140]; exact (Nat.le_trans hk (Keep.of_wr W140).1)) X147 hS147 hg147 hZ hown
  obtain ⟨r160, r161, r162, r163, r164, rfl, M147, K147, y165, y166, y167, y168, y169, y170, y171, y172, y173⟩ := hQ147
  have N147 : Fr n0 L147 := by rw [l147]; exact Fr.app N140 M147
  have R174 : CHr Z consts_1 s.vm h0 T147.vm T147.heap := R141.trans C147
  have O175 := O143.keep K147 (allS G19_ (allS G20_ all0))
  have g176 : Go p e below T147 (mkF m 27 #[rv w1, rv a2] []) A0 := fun t kont => g146 t (st147.trans kont)
  have g177 := jA X147 hx g176 (hE 14 rfl) rfl rfl
  have y178 := (y148.keep K147)
  have y179 := (y150.keep K147 (ninS (ne_exa y178 y165 (by decide)) (ninS NE26_ nin0)))
  obtain ⟨T180, X180, e180, g180⟩ := own_getF X147 hx hZ hown (hw _ (mi 93 rfl)) Via.refl rfl y179 g177 (hE 15 rfl)
  have g181 := jb X180 hx g180 (hE 16 rfl) 58 rfl
  have ge183 : n0 ≤ r160 := own_ge_or y171 G20_ (own_old_le O143)
  obtain ⟨_, L182, T182, ⟨r184, r185, r186, rfl, M182, K182, y187, y188, y189, y190, y191, y192, y193⟩, X182, st182⟩ := own_callV X180 hx hZ hown (hw _ (mi 70 rfl)) (wd51 hw) (notFace_of_selects (args := #[]) (mvT hZ (hw _ (mi 73 rfl)))) y165 (rm_sapN hw b1 r160 r161 ((ls ++ own_cm fl) ++ own_js xs) r162 r163 r164 cs fm (58 : Int32) T147.heap n0 O175 y165 y166 y167 y168 y169 y170 y172 G19_ ge183 y173 (Nat.le_trans (own_ca (own_ca hls (own_cml _)) (own_jsx hxn)) (by decide)) (by decide) (by decide) hW) g181 e180 [] rfl (lenOf pd_40 rfl) (hE 17 rfl) hml.symm 0 rfl (by decide)
  have N182 := Fr.app N147 M182
  have sf195 : Safe Z consts_1 T147.vm T147.heap r160 := own_safe_sb hZ (hw _ (mi 230 rfl)) (by decide) (by decide) y170 y172
  have sf196 := Safe.exa (EL := consts_1) hZ.alike y165 (by decide) (by decide)
  have R194 : CHr Z consts_1 s.vm h0 T147.vm T182.heap := R174.trans (CHr.keep K182 (sfS sf196 (sfS sf195 sf0)) R174.1)
  have O197 := O175.keep K182 (allS G19_ (allS ge183 all0))
  have g198 := jo X182 hx st182 (hE 18 rfl) rfl rfl
  have K199 : Keep h0 T182.heap [w1, b1, v1] := (((((Keep.refl h0 [w1, b1, v1]).trans K103 (allS (P := fun x => x ∈ [w1, b1, v1] ∨ h0.size ≤ x) (Or.inl (mi 1 rfl)) (allS (P := fun x => x ∈ [w1, b1, v1] ∨ h0.size ≤ x) (Or.inl (mi 2 rfl)) all0))).wr W140 (Or.inl (mi 0 rfl))).trans K147 (allS (P := fun x => x ∈ [w1, b1, v1] ∨ h0.size ≤ x) (Or.inl (mi 1 rfl)) (allS (P := fun x => x ∈ [w1, b1, v1] ∨ h0.size ≤ x) (Or.inl (mi 2 rfl)) all0))).trans K182 (allS (P := fun x => x ∈ [w1, b1, v1] ∨ h0.size ≤ x) (Or.inl (mi 1 rfl)) (allS (P := fun x => x ∈ [w1, b1, v1] ∨ h0.size ≤ x) (own_in_or y171 (Or.inl (mi 2 rfl)) (Nat.le_trans K103.1 (Keep.of_wr W140).1)) all0)))
  have y200 := (y178.keep K182)
  have hn201 : ¬ (w1 = r160) := own_ne_or y171 (Nat.lt_of_lt_of_le E0_.lt (Nat.le_trans K103.1 (Keep.of_wr W140).1)) NE26_
  have y202 := ((y144.keep K147 (ninS (ne_exa y200 y187 (by decide)) (ninS NE26_ nin0))).keep K182 (ninS (ne_exa y200 y187 (by decide)) (ninS hn201 nin0)))
  have y203 := (y179.keep K182 (ninS (ne_exa y200 y187 (by decide)) (ninS hn201 nin0)))
  obtain ⟨fs, hr, hrun, hended, hRW⟩ := X182.leaveW hS (Nat.le_trans (Nat.le_refl _) K182.1) (v := none) (fun _ => rfl)
  refine ⟨_, _, g198 _ (X182.returnOut hx Bd.returns (hE 19 rfl) hr), hrun, hended, _, _, rfl, ?_, ?_, hRW.1, hRW.2.1, hRW.2.2.1, hRW.2.2.2.mono (by decide) (by decide)⟩
  ·
    show Q_nam Z w1 b1 v1 kv ls cd z1 vs a2 u2 ku xs cx zx ux hx1 kx hxs fi cs fm fl h0 n0 _ T182.heap _
    exact ⟨r160, r161, r184, r185, r186, rfl, N182, K199, y202, y203, y187, y188, y189, y190, y191, y192, (own_alt_trans y171 (Or.inl rfl) (Nat.le_trans K103.1 (Keep.of_wr W140).1)), y193, y173⟩
  ·
    rw [hh]
    show CHr Z consts_1 s.vm h0 T182.vm T182.heap
    exact R194.trans (CHv.at X182 hZ (own_EW hw) R194.1)
theorem ef_RRR3 (m : MethodId) (x0 : Addr) (x1 : Addr) (x2 : Addr)  : entryFrame m #[(.ref x0), (.ref x1), (.ref x2)] 3 = mkF m 0 #[.val (.ref x0), .val (.ref x1), .val (.ref x2)] [] := by first | (simp [entryFrame, mkF, argsToLocals, Value.category]; done) | rfl
def Q_addS (Z : State) (w1 b1 v1 : Addr) (kv : ClassId) (ls : List Int32) (cd z1 : Int32) (vs : List Value) (a2 u2 : Addr) (ku : ClassId) (xs : List Int32) (cx zx : Int32) (ux : List Value) (hx1 : Addr) (kx : ClassId) (hxs : List Value) (fi : Value) (cs : Int32) (fm : Value) (fl : Int32) (a3 u3 : Addr) (k3 : ClassId) (ys : List Int32) (cy zy : Int32) (uy : List Value) (h0 : Heap) (n0 : Nat) (v : Option Value) (h : Heap) (L : List Loc) : Prop := ∃ (r : Addr), ∃ (kid : ClassId), ∃ (cd2 : Int32), ∃ (z2 : Int32), ∃ (vs2 : List Value), v = some (.ref w1) ∧ Fr n0 L ∧ Keep h0 h [w1, b1, v1] ∧ (Fld Z h w1 "com/example/clear_fault/clearfault/JsonObjectWriter" "first" "Z" (.int 0)) ∧ (Fld Z h w1 "com/example/clear_fault/clearfault/JsonObjectWriter" "out" "Ljava/lang/StringBuilder;" (.ref b1)) ∧ (Exa Z h b1 "java/lang/StringBuilder") ∧ (Fld Z h b1 "java/lang/AbstractStringBuilder" "value" "[B" (.ref r)) ∧ (Fld Z h b1 "java/lang/AbstractStringBuilder" "coder" "B" (.int cd2)) ∧ (Fld Z h b1 "java/lang/AbstractStringBuilder" "count" "I" (.int (Int32.ofNat ((((ls ++ own_cm fl) ++ own_js xs) ++ [(58 : Int32)]) ++ own_js ys).length))) ∧ (Fld Z h b1 "java/lang/AbstractStringBuilder" "maybeLatin1" "Z" (.int 0)) ∧ (Arv Z h r kid .byte z2 vs2 (.int 0)) ∧ (r = v1 ∨ h0.size ≤ r) ∧ (own_sb ((((ls ++ own_cm fl) ++ own_js xs) ++ [(58 : Int32)]) ++ own_js ys) cd2 z2 vs2) ∧ (¬ (r = b1))
theorem rm_addS (hw : HW a0 Z) (w1 b1 v1 : Addr) (kv : ClassId) (ls : List Int32) (cd z1 : Int32) (vs : List Value) (a2 u2 : Addr) (ku : ClassId) (xs : List Int32) (cx zx : Int32) (ux : List Value) (hx1 : Addr) (kx : ClassId) (hxs : List Value) (fi : Value) (cs : Int32) (fm : Value) (fl : Int32) (a3 u3 : Addr) (k3 : ClassId) (ys : List Int32) (cy zy : Int32) (uy : List Value) (h0 : Heap) (n0 : Nat) (O0 : Old Z n0 h0) (E0_ : Exa Z h0 w1 "com/example/clear_fault/clearfault/JsonObjectWriter") (F1_ : Fld Z h0 w1 "com/example/clear_fault/clearfault/JsonObjectWriter" "out" "Ljava/lang/StringBuilder;" (.ref b1)) (F2_ : Fld Z h0 w1 "com/example/clear_fault/clearfault/JsonObjectWriter" "first" "Z" (.int fl)) (E3_ : Exa Z h0 b1 "java/lang/StringBuilder") (F4_ : Fld Z h0 b1 "java/lang/AbstractStringBuilder" "value" "[B" (.ref v1)) (F5_ : Fld Z h0 b1 "java/lang/AbstractStringBuilder" "coder" "B" (.int cd)) (F6_ : Fld Z h0 b1 "java/lang/AbstractStringBuilder" "count" "I" (.int (Int32.ofNat ls.length))) (F7_ : Fld Z h0 b1 "java/lang/AbstractStringBuilder" "maybeLatin1" "Z" (.int 0)) (A8_ : Arv Z h0 v1 kv .byte z1 vs (.int 0)) (hsb : own_sb ls cd z1 vs) (E10_ : Exa Z h0 a2 "java/lang/String") (F11_ : Fld Z h0 a2 "java/lang/String" "coder" "B" (.int cx)) (F12_ : Fld Z h0 a2 "java/lang/String" "value" "[B" (.ref u2)) (A13_ : Arv Z h0 u2 ku .byte zx ux (.int 0)) (hcod : own_cod xs cx zx ux) (hxn : xs.length = 1 ∨ xs.length = 2) (hcx : own_chars xs) (hls : ls.length ≤ 60) (G18_ : n0 ≤ w1) (G19_ : n0 ≤ b1) (G20_ : n0 ≤ v1) (NE21_ : ¬ (v1 = b1)) (NE22_ : ¬ (u2 = v1)) (NE23_ : ¬ (a2 = v1)) (NE24_ : ¬ (a2 = b1)) (NE25_ : ¬ (u2 = b1)) (NE26_ : ¬ (w1 = v1)) (NE27_ : ¬ (u2 = w1)) (S28_ : Sta Z Z.heap "com/example/clear_fault/clearfault/JsonObjectWriter" "HEX" "[C" (.ref hx1)) (ZA29_ : Arv Z Z.heap hx1 kx .char (16 : Int32) hxs (.int 0)) (hhx : ∀ i, i < 16 → hxs.getD i (.int 0) = .int (own_hexn i)) (S31_ : Sta Z Z.heap "jdk/internal/util/Preconditions" "IOOBE_FORMATTER" "Ljava/util/function/BiFunction;" fi) (hfi : fi.isRef = true) (E33_ : Exa Z h0 a3 "java/lang/String") (F34_ : Fld Z h0 a3 "java/lang/String" "coder" "B" (.int cy)) (F35_ : Fld Z h0 a3 "java/lang/String" "value" "[B" (.ref u3)) (A36_ : Arv Z h0 u3 k3 .byte zy uy (.int 0)) (hcoy : own_cod ys cy zy uy) (hyn : ys.length = 1 ∨ ys.length = 2) (hcy : own_chars ys) (NE40_ : ¬ (u3 = v1)) (NE41_ : ¬ (a3 = v1)) (NE42_ : ¬ (a3 = b1)) (NE43_ : ¬ (u3 = b1)) (NE44_ : ¬ (u3 = w1)) (hW : own_W Z cs fm) :
    MetFree l mN68 (head1 (Jvm.Cond.code mN68 prog_13_method_2_code 3 (some (.object "com/example/clear_fault/clearfault/JsonObjectWriter")) :: []) (⟨11, 10, 1104, 168⟩ : Room)) (fun a U => a = #[(.ref w1), (.ref a2), (.ref a3)] ∧ Z.Warmed39 U.vm ∧ U.heap = h0 ∧ CHv Z consts_1 U.vm h0) (fun _ _ _ _ _ => True) (fun _ U o U' => ∃ v L, o = .returned v ∧ Q_addS Z w1 b1 v1 kv ls cd z1 vs a2 u2 ku xs cx zx ux hx1 kx hxs fi cs fm fl a3 u3 k3 ys cy zy uy h0 n0 v U'.heap L ∧ CHr Z consts_1 U.vm U.heap U'.vm U'.heap ∧ ReturnedEndW U o U' L (⟨11, 10, 1104, 168⟩ : Room).cells (⟨11, 10, 1104, 168⟩ : Room).slots) := by
  refine MetFree.of_bodySF (plainFor_of_name pn_8) hisR ?_
  intro p e s m args below meth c s₁ Bd hml0 hP hK
  obtain ⟨rfl, hZ, hh, hC0⟩ := hP
  have hx := Bd.exec
  have hby := Bd.bytes
  have hml : c.maxLocals = 3 := hml0
  have hown : s.vm.findClass "com/example/clear_fault/clearfault/JsonObjectWriter" = some m.cls := findClass_of_methodNamed Bd.named
  have hnm := (name_of_methodNamed Bd.named Bd.method).1
  have X0 : Stand p l e (⟨11, 10, 1104, 168⟩ : Room) (s.setVm s.vm) m #[(.ref w1), (.ref a2), (.ref a3)] below meth c s₁ [] 0 0 := Stand.of_body Bd
  have e0 : s₁.heap = h0 := by rw [← hh, Bd.state]; rfl
  have N0 := Fr.nil n0
  have hS : s.Since s.vm 0 := (State.WarmedH.refl s).since 0
  have hk : 0 ≤ h0.size := Nat.zero_le _
  have hZ : Z.Warmed39 (s.setVm s.vm).vm := hZ
  have hown : (s.setVm s.vm).vm.findClass "com/example/clear_fault/clearfault/JsonObjectWriter" = some m.cls := hown
  have R0 : CHr Z consts_1 s.vm h0 s.vm h0 := CHr.refl hC0
  have g0 : Go p e below s₁ (mkF m 0 #[rv w1, rv a2, rv a3] []) (s₁.setTop (entryFrame m #[(.ref w1), (.ref a2), (.ref a3)] 3)) := fun t kont => castTop (ef_RRR3 m w1 a2 a3 ) kont
  generalize s₁.setTop (entryFrame m #[(.ref w1), (.ref a2), (.ref a3)] 3) = A0 at g0 ⊢
  obtain ⟨SC_, hcs, SF_, hfm, SU1_, SU2_, SU3_⟩ := id hW
  have hE := own_hd hby E37
  have g101 := jA X0 hx (jA X0 hx g0 (hE 0 rfl) rfl rfl) (hE 1 rfl) rfl rfl
  obtain ⟨cq102, q102, q102'⟩ := E0_.cell
  obtain ⟨_, _, ⟨T102, L102, k102, n102⟩, -, X102, hS102, hg102, ⟨Lc102, hQ102, l102, y102, z102, C102⟩, st102⟩ := X0.privateBackS hx (y := mN67) hown (mvT hZ (hw _ (mi 186 rfl))) (mvT hZ (hw _ (mi 187 rfl))) (mvT hZ (own_selQ (y := mN67) (hw _ (mi 100 rfl)) rfl (hw _ (mi 188 rfl)) (hw _ (mi 187 rfl)) (by decide))) (Cond.privateMethod_at (mvP hZ (hw _ (mi 188 rfl)) (args := #[]))) (mvT hZ (hw _ (mi 189 rfl))) (by decide) (backOfSH (W := 0) (rm_nam hw w1 b1 v1 kv ls cd z1 vs a2 u2 ku xs cx zx ux hx1 kx hxs fi cs fm fl h0 n0 O0 E0_ F1_ F2_ E3_ F4_ F5_ F6_ F7_ A8_ hsb E10_ F11_ F12_ A13_ (hcod) (hxn) (hcx) (hls) G18_ G19_ G20_ NE21_ NE22_ NE23_ NE24_ NE25_ NE26_ NE27_ S28_ ZA29_ hhx S31_ hfi hW) hZ (hw _ (mi 189 rfl)) (hw _ (mi 47 rfl)) (by decide) (by decide) (own_EW hw) R0.1) (g := (mkF m 2 #[rv w1, rv a2, rv a3] [(.ref a2), (.ref w1)])) rfl (by rw [hml]; rfl) (Steps.refl _) (a := w1) (by rw [e0]; exact q102) q102' (argsL := [(.ref a2)]) (rest := []) (lenOf pd_28 rfl) rfl (by show 2 * 0 + _ ≤ _; exact Nat.le_of_eq rfl) (hE 2 rfl) (fun _ _ => ⟨rfl, e0, (by decide : 0 + 5 ≤ _), (by decide : 0 + 552 ≤ _)⟩)
  dsimp only [Pt.U, Pt.locs, Pt.cells, Pt.slots] at X102 l102 y102 z102 st102 hQ102 hS102 hg102 C102
  subst y102 z102
  obtain ⟨X102, hS, hZ, hown⟩ := rebS hS (n1 := s₁.heap.size) (by rw [e0]; exact hk) X102 hS102 hg102 hZ hown
  obtain ⟨r103, r104, r105, r106, r107, rfl, M102, K102, y108, y109, y110, y111, y112, y113, y114, y115, y116, y117, y118⟩ := hQ102
  have N102 : Fr n0 L102 := by rw [l102]; exact Fr.app N0 M102
  have R119 : CHr Z consts_1 s.vm h0 T102.vm T102.heap := R0.trans C102
  have O120 := O0.keep K102 (allS G18_ (allS G19_ (allS G20_ all0)))
  have g121 : Go p e below T102 (mkF m 5 #[rv w1, rv a2, rv a3] []) A0 := fun t kont => g101 t (st102.trans kont)
  have g122 := jA X102 hx (jA X102 hx g121 (hE 3 rfl) rfl rfl) (hE 4 rfl) rfl rfl
  have y124 := (E0_.keep K102)
  have y125 := (E33_.keep K102)
  have y126 := (F34_.keep K102 (ninS (ne_exa y125 y124 (by decide)) (ninS NE42_ (ninS NE41_ nin0))))
  have y127 := (F35_.keep K102 (ninS (ne_exa y125 y124 (by decide)) (ninS NE42_ (ninS NE41_ nin0))))
  have y128 := (A36_.keep K102 (ninS NE44_ (ninS NE43_ (ninS NE40_ nin0))))
  have ge129 : n0 ≤ r103 := own_ge_or y116 G20_ (own_old_le O0)
  have hn130 : ¬ (u3 = r103) := own_ne_or y116 A36_.lt NE40_
  have hn131 : ¬ (a3 = r103) := own_ne_or y116 E33_.lt NE41_
  have hn132 : ¬ (w1 = r103) := own_ne_or y116 E0_.lt NE26_
  obtain ⟨cq123, q123, q123'⟩ := y124.cell
  obtain ⟨_, _, ⟨T123, L123, k123, n123⟩, -, X123, hS123, hg123, ⟨Lc123, hQ123, l123, y123, z123, C123⟩, st123⟩ := X102.privateBackS hx (y := mN65) hown (mvT hZ (hw _ (mi 190 rfl))) (mvT hZ (hw _ (mi 191 rfl))) (mvT hZ (own_selQ (y := mN65) (hw _ (mi 100 rfl)) rfl (hw _ (mi 192 rfl)) (hw _ (mi 191 rfl)) (by decide))) (Cond.privateMethod_at (mvP hZ (hw _ (mi 192 rfl)) (args := #[]))) (mvT hZ (hw _ (mi 193 rfl))) (by decide) (backOfSH (W := 0) (rm_aps hw w1 b1 r103 r104 (((ls ++ own_cm fl) ++ own_js xs) ++ [(58 : Int32)]) r105 r106 r107 a3 u3 k3 ys cy zy uy hx1 kx hxs fi cs fm T102.heap n0 O120 y124 y109 y110 y111 y112 y113 y114 y115 y117 y125 y126 y127 y128 (hcoy) (hyn) (hcy) (Nat.le_trans (own_ca (own_ca (own_ca hls (own_cml _)) (own_jsx hxn)) (Nat.le_refl 1)) (by decide)) G19_ ge129 y118 hn130 hn131 NE42_ NE43_ hn132 S28_ ZA29_ hhx S31_ hfi hW) hZ (hw _ (mi 193 rfl)) (hw _ (mi 47 rfl)) (by decide) (by decide) (own_EW hw) R119.1) (g := (mkF m 7 #[rv w1, rv a2, rv a3] [(.ref a3), (.ref w1)])) rfl (by rw [hml]; rfl) (Steps.refl _) (a := w1) q123 q123' (argsL := [(.ref a3)]) (rest := []) (lenOf pd_28 rfl) rfl (by show 2 * 0 + _ ≤ _; exact Nat.le_of_eq rfl) (hE 5 rfl) (fun _ _ => ⟨rfl, rfl, (by decide : 5 + 5 ≤ _), (by decide : 552 + 552 ≤ _)⟩)
  dsimp only [Pt.U, Pt.locs, Pt.cells, Pt.slots] at X123 l123 y123 z123 st123 hQ123 hS123 hg123 C123
  subst y123 z123
  obtain ⟨X123, hS, hZ, hown⟩ := rebS hS (n1 := T102.heap.size) (Nat.le_refl _) X123 hS123 hg123 hZ hown
  obtain ⟨r133, r134, r135, r136, r137, rfl, M123, K123, y138, y139, y140, y141, y142, y143, y144, y145, y146⟩ := hQ123
  have N123 : Fr n0 L123 := by rw [l123]; exact Fr.app N102 M123
  have R147 : CHr Z consts_1 s.vm h0 T123.vm T123.heap := R119.trans C123
  have O148 := O120.keep K123 (allS G19_ (allS ge129 all0))
  have g149 : Go p e below T123 (mkF m 10 #[rv w1, rv a2, rv a3] []) A0 := fun t kont => g122 t (st123.trans kont)
  have g150 := jA X123 hx g149 (hE 6 rfl) rfl rfl
  have K151 : Keep h0 T123.heap [w1, b1, v1] := (((Keep.refl h0 [w1, b1, v1]).trans K102 (allS (P := fun x => x ∈ [w1, b1, v1] ∨ h0.size ≤ x) (Or.inl (mi 0 rfl)) (allS (P := fun x => x ∈ [w1, b1, v1] ∨ h0.size ≤ x) (Or.inl (mi 1 rfl)) (allS (P := fun x => x ∈ [w1, b1, v1] ∨ h0.size ≤ x) (Or.inl (mi 2 rfl)) all0)))).trans K123 (allS (P := fun x => x ∈ [w1, b1, v1] ∨ h0.size ≤ x) (Or.inl (mi 1 rfl)) (allS (P := fun x => x ∈ [w1, b1, v1] ∨ h0.size ≤ x) (own_in_or y116 (Or.inl (mi 2 rfl)) (Nat.le_refl _)) all0)))
  have y152 := (y124.keep K123)
  have y153 := (y108.keep K123 (ninS (ne_exa y152 y138 (by decide)) (ninS hn132 nin0)))
  have y154 := (y109.keep K123 (ninS (ne_exa y152 y138 (by decide)) (ninS hn132 nin0)))
  obtain ⟨fs, hr, hrun, hended, hRW⟩ := X123.leaveW hS (Nat.le_refl _) (v := some (.ref w1)) (fun h => by rw [Bd.returns] at h; cases h)
  refine ⟨_, _, g150 _ (retOut X123 hx Bd.returns rfl (Or.inr (Or.inr (Or.inr (Or.inr ⟨rfl, rfl, rfl⟩)))) (hE 7 rfl) hr), hrun, hended, _, _, rfl, ?_, ?_, hRW.1, hRW.2.1, hRW.2.2.1, hRW.2.2.2.mono (by decide) (by decide)⟩
  ·
    show Q_addS Z w1 b1 v1 kv ls cd z1 vs a2 u2 ku xs cx zx ux hx1 kx hxs fi cs fm fl a3 u3 k3 ys cy zy uy h0 n0 _ T123.heap _
    exact ⟨r133, r134, r135, r136, r137, rfl, N123, K151, y153, y154, y138, y139, y140, y141, y142, y143, (own_alt_trans y144 (own_alt_trans y116 (Or.inl rfl) (Nat.le_refl _)) K102.1), y145, y146⟩
  ·
    rw [hh]
    show CHr Z consts_1 s.vm h0 T123.vm T123.heap
    exact R147.trans (CHv.at X123 hZ (own_EW hw) R147.1)
theorem pd_43 : parseMethodDescriptor "(I)Ljava/lang/StringBuilder;" = some ⟨[.int], some (.object "java/lang/StringBuilder")⟩ := by decide +kernel
theorem wd55 (hw : HW a0 Z) : own_wdV a0 Z "java/lang/StringBuilder" mN64 mN64 jdk_67_method_15_code 2 (some (.object "java/lang/StringBuilder")) := ⟨hw _ (mi 268 rfl), hw _ (mi 270 rfl), hw _ (mi 269 rfl), hw _ (mi 54 rfl), hw _ (mi 271 rfl), by decide⟩
def Q_addI (Z : State) (w1 b1 v1 : Addr) (kv : ClassId) (ls : List Int32) (cd z1 : Int32) (vs : List Value) (a2 u2 : Addr) (ku : ClassId) (xs : List Int32) (cx zx : Int32) (ux : List Value) (hx1 : Addr) (kx : ClassId) (hxs : List Value) (fi : Value) (cs : Int32) (fm : Value) (fl r1 : Int32) (ds : List Int32) (dg : Addr) (kg : ClassId) (dgs : List Value) (h0 : Heap) (n0 : Nat) (v : Option Value) (h : Heap) (L : List Loc) : Prop := ∃ (r : Addr), ∃ (kid : ClassId), ∃ (cd2 : Int32), ∃ (z2 : Int32), ∃ (vs2 : List Value), v = some (.ref w1) ∧ Fr n0 L ∧ Keep h0 h [w1, b1, v1] ∧ (Fld Z h w1 "com/example/clear_fault/clearfault/JsonObjectWriter" "first" "Z" (.int 0)) ∧ (Fld Z h w1 "com/example/clear_fault/clearfault/JsonObjectWriter" "out" "Ljava/lang/StringBuilder;" (.ref b1)) ∧ (Exa Z h b1 "java/lang/StringBuilder") ∧ (Fld Z h b1 "java/lang/AbstractStringBuilder" "value" "[B" (.ref r)) ∧ (Fld Z h b1 "java/lang/AbstractStringBuilder" "coder" "B" (.int cd2)) ∧ (Fld Z h b1 "java/lang/AbstractStringBuilder" "count" "I" (.int (Int32.ofNat ((((ls ++ own_cm fl) ++ own_js xs) ++ [(58 : Int32)]) ++ ds).length))) ∧ (Fld Z h b1 "java/lang/AbstractStringBuilder" "maybeLatin1" "Z" (.int 0)) ∧ (Arv Z h r kid .byte z2 vs2 (.int 0)) ∧ (r = v1 ∨ h0.size ≤ r) ∧ (own_sb ((((ls ++ own_cm fl) ++ own_js xs) ++ [(58 : Int32)]) ++ ds) cd2 z2 vs2) ∧ (¬ (r = b1))
theorem rm_addI (hw : HW a0 Z) (w1 b1 v1 : Addr) (kv : ClassId) (ls : List Int32) (cd z1 : Int32) (vs : List Value) (a2 u2 : Addr) (ku : ClassId) (xs : List Int32) (cx zx : Int32) (ux : List Value) (hx1 : Addr) (kx : ClassId) (hxs : List Value) (fi : Value) (cs : Int32) (fm : Value) (fl r1 : Int32) (ds : List Int32) (dg : Addr) (kg : ClassId) (dgs : List Value) (h0 : Heap) (n0 : Nat) (O0 : Old Z n0 h0) (E0_ : Exa Z h0 w1 "com/example/clear_fault/clearfault/JsonObjectWriter") (F1_ : Fld Z h0 w1 "com/example/clear_fault/clearfault/JsonObjectWriter" "out" "Ljava/lang/StringBuilder;" (.ref b1)) (F2_ : Fld Z h0 w1 "com/example/clear_fault/clearfault/JsonObjectWriter" "first" "Z" (.int fl)) (E3_ : Exa Z h0 b1 "java/lang/StringBuilder") (F4_ : Fld Z h0 b1 "java/lang/AbstractStringBuilder" "value" "[B" (.ref v1)) (F5_ : Fld Z h0 b1 "java/lang/AbstractStringBuilder" "coder" "B" (.int cd)) (F6_ : Fld Z h0 b1 "java/lang/AbstractStringBuilder" "count" "I" (.int (Int32.ofNat ls.length))) (F7_ : Fld Z h0 b1 "java/lang/AbstractStringBuilder" "maybeLatin1" "Z" (.int 0)) (A8_ : Arv Z h0 v1 kv .byte z1 vs (.int 0)) (hsb : own_sb ls cd z1 vs) (E10_ : Exa Z h0 a2 "java/lang/String") (F11_ : Fld Z h0 a2 "java/lang/String" "coder" "B" (.int cx)) (F12_ : Fld Z h0 a2 "java/lang/String" "value" "[B" (.ref u2)) (A13_ : Arv Z h0 u2 ku .byte zx ux (.int 0)) (hcod : own_cod xs cx zx ux) (hxn : xs.length = 1 ∨ xs.length = 2) (hcx : own_chars xs) (hls : ls.length ≤ 60) (G18_ : n0 ≤ w1) (G19_ : n0 ≤ b1) (G20_ : n0 ≤ v1) (NE21_ : ¬ (v1 = b1)) (NE22_ : ¬ (u2 = v1)) (NE23_ : ¬ (a2 = v1)) (NE24_ : ¬ (a2 = b1)) (NE25_ : ¬ (u2 = b1)) (NE26_ : ¬ (w1 = v1)) (NE27_ : ¬ (u2 = w1)) (S28_ : Sta Z Z.heap "com/example/clear_fault/clearfault/JsonObjectWriter" "HEX" "[C" (.ref hx1)) (ZA29_ : Arv Z Z.heap hx1 kx .char (16 : Int32) hxs (.int 0)) (hhx : ∀ i, i < 16 → hxs.getD i (.int 0) = .int (own_hexn i)) (S31_ : Sta Z Z.heap "jdk/internal/util/Preconditions" "IOOBE_FORMATTER" "Ljava/util/function/BiFunction;" fi) (hfi : fi.isRef = true) (hrd : own_rd r1 ds) (S34_ : Sta Z Z.heap "java/lang/Integer" "DigitOnes" "[B" (.ref dg)) (ZA35_ : Arv Z Z.heap dg kg .byte (100 : Int32) dgs (.int 0)) (hdg : ∀ i, i < 10 → dgs.getD i (.int 0) = .int (Int32.ofNat (48 + i))) (hW : own_W Z cs fm) :
    MetFree l mN69 (head1 (Jvm.Cond.code mN69 prog_13_method_4_code 3 (some (.object "com/example/clear_fault/clearfault/JsonObjectWriter")) :: []) (⟨11, 5, 552, 168⟩ : Room)) (fun a U => a = #[(.ref w1), (.ref a2), (.int r1)] ∧ Z.Warmed39 U.vm ∧ U.heap = h0 ∧ CHv Z consts_1 U.vm h0) (fun _ _ _ _ _ => True) (fun _ U o U' => ∃ v L, o = .returned v ∧ Q_addI Z w1 b1 v1 kv ls cd z1 vs a2 u2 ku xs cx zx ux hx1 kx hxs fi cs fm fl r1 ds dg kg dgs h0 n0 v U'.heap L ∧ CHr Z consts_1 U.vm U.heap U'.vm U'.heap ∧ ReturnedEndW U o U' L (⟨11, 5, 552, 168⟩ : Room).cells (⟨11, 5, 552, 168⟩ : Room).slots) := by
  refine MetFree.of_bodySF (plainFor_of_name pn_8) hisR ?_
  intro p e s m args below meth c s₁ Bd hml0 hP hK
  obtain ⟨rfl, hZ, hh, hC0⟩ := hP
  have hx := Bd.exec
  have hby := Bd.bytes
  have hml : c.maxLocals = 3 := hml0
  have hown : s.vm.findClass "com/example/clear_fault/clearfault/JsonObjectWriter" = some m.cls := findClass_of_methodNamed Bd.named
  have hnm := (name_of_methodNamed Bd.named Bd.method).1
  have X0 : Stand p l e (⟨11, 5, 552, 168⟩ : Room) (s.setVm s.vm) m #[(.ref w1), (.ref a2), (.int r1)] below meth c s₁ [] 0 0 := Stand.of_body Bd
  have e0 : s₁.heap = h0 := by rw [← hh, Bd.state]; rfl
  have N0 := Fr.nil n0
  have hS : s.Since s.vm 0 := (State.WarmedH.refl s).since 0
  have hk : 0 ≤ h0.size := Nat.zero_le _
  have hZ : Z.Warmed39 (s.setVm s.vm).vm := hZ
  have hown : (s.setVm s.vm).vm.findClass "com/example/clear_fault/clearfault/JsonObjectWriter" = some m.cls := hown
  have R0 : CHr Z consts_1 s.vm h0 s.vm h0 := CHr.refl hC0
  have g0 : Go p e below s₁ (mkF m 0 #[rv w1, rv a2, iv r1] []) (s₁.setTop (entryFrame m #[(.ref w1), (.ref a2), (.int r1)] 3)) := fun t kont => castTop (ef_RRI3 m w1 a2 r1 ) kont
  generalize s₁.setTop (entryFrame m #[(.ref w1), (.ref a2), (.int r1)] 3) = A0 at g0 ⊢
  obtain ⟨SC_, hcs, SF_, hfm, SU1_, SU2_, SU3_⟩ := id hW
  have hE := own_hd hby E50
  have g101 := jA X0 hx (jA X0 hx g0 (hE 0 rfl) rfl rfl) (hE 1 rfl) rfl rfl
  obtain ⟨cq102, q102, q102'⟩ := E0_.cell
  obtain ⟨_, _, ⟨T102, L102, k102, n102⟩, -, X102, hS102, hg102, ⟨Lc102, hQ102, l102, y102, z102, C102⟩, st102⟩ := X0.privateBackS hx (y := mN67) hown (mvT hZ (hw _ (mi 186 rfl))) (mvT hZ (hw _ (mi 187 rfl))) (mvT hZ (own_selQ (y := mN67) (hw _ (mi 100 rfl)) rfl (hw _ (mi 188 rfl)) (hw _ (mi 187 rfl)) (by decide))) (Cond.privateMethod_at (mvP hZ (hw _ (mi 188 rfl)) (args := #[]))) (mvT hZ (hw _ (mi 189 rfl))) (by decide) (backOfSH (W := 0) (rm_nam hw w1 b1 v1 kv ls cd z1 vs a2 u2 ku xs cx zx ux hx1 kx hxs fi cs fm fl h0 n0 O0 E0_ F1_ F2_ E3_ F4_ F5_ F6_ F7_ A8_ hsb E10_ F11_ F12_ A13_ (hcod) (hxn) (hcx) (hls) G18_ G19_ G20_ NE21_ NE22_ NE23_ NE24_ NE25_ NE26_ NE27_ S28_ ZA29_ hhx S31_ hfi hW) hZ (hw _ (mi 189 rfl)) (hw _ (mi 47 rfl)) (by decide) (by decide) (own_EW hw) R0.1) (g := (mkF m 2 #[rv w1, rv a2, iv r1] [(.ref a2), (.ref w1)])) rfl (by rw [hml]; rfl) (Steps.refl _) (a := w1) (by rw [e0]; exact q102) q102' (argsL := [(.ref a2)]) (rest := []) (lenOf pd_28 rfl) rfl (by show 2 * 0 + _ ≤ _; exact Nat.le_of_eq rfl) (hE 2 rfl) (fun _ _ => ⟨rfl, e0, (by decide : 0 + 5 ≤ _), (by decide : 0 + 552 ≤ _)⟩)
  dsimp only [Pt.U, Pt.locs, Pt.cells, Pt.slots] at X102 l102 y102 z102 st102 hQ102 hS102 hg102 C102
  subst y102 z102
  obtain ⟨X102, hS, hZ, hown⟩ := rebS hS (n1 := s₁.heap.size) (by rw [e0]; exact hk) X102 hS102 hg102 hZ hown
  obtain ⟨r103, r104, r105, r106, r107, rfl, M102, K102, y108, y109, y110, y111, y112, y113, y114, y115, y116, y117, y118⟩ := hQ102
  have N102 : Fr n0 L102 := by rw [l102]; exact Fr.app N0 M102
  have R119 : CHr Z consts_1 s.vm h0 T102.vm T102.heap := R0.trans C102
  have O120 := O0.keep K102 (allS G18_ (allS G19_ (allS G20_ all0)))
  have g121 : Go p e below T102 (mkF m 5 #[rv w1, rv a2, iv r1] []) A0 := fun t kont => g101 t (st102.trans kont)
  have g122 := jA X102 hx g121 (hE 3 rfl) rfl rfl
  obtain ⟨T123, X123, e123, g123⟩ := own_getF X102 hx hZ hown (hw _ (mi 93 rfl)) Via.refl rfl y109 g122 (hE 4 rfl)
  have g124 := jI X123 hx g123 (hE 5 rfl) rfl
  have ge126 : n0 ≤ r103 := own_ge_or y116 G20_ (own_old_le O0)
  obtain ⟨_, L125, T125, ⟨r127, r128, r129, rfl, M125, K125, y130, y131, y132, y133, y134, y135, y136⟩, X125, st125⟩ := own_callV X123 hx hZ hown (hw _ (mi 267 rfl)) (wd55 hw) (notFace_of_selects (args := #[]) (mvT hZ (hw _ (mi 270 rfl)))) y110 (rm_siaN hw b1 r103 r104 (((ls ++ own_cm fl) ++ own_js xs) ++ [(58 : Int32)]) r105 r106 r107 cs fm r1 ds dg kg dgs T102.heap n0 O120 y110 y111 y112 y113 y114 y115 y117 (hrd) G19_ ge126 y118 (Nat.le_trans (own_ca (own_ca (own_ca hls (own_cml _)) (own_jsx hxn)) (Nat.le_refl 1)) (by decide)) S34_ ZA35_ (hdg) hW) g124 e123 [] rfl (lenOf pd_43 rfl) (hE 6 rfl) hml.symm 0 rfl (by decide)
  have N125 := Fr.app N102 M125
  have sf138 : Safe Z consts_1 T102.vm T102.heap r103 := own_safe_sb hZ (hw _ (mi 230 rfl)) (by decide) (by decide) y115 y117
  have sf139 := Safe.exa (EL := consts_1) hZ.alike y110 (by decide) (by decide)
  have R137 : CHr Z consts_1 s.vm h0 T102.vm T125.heap := R119.trans (CHr.keep K125 (sfS sf139 (sfS sf138 sf0)) R119.1)
  have O140 := O120.keep K125 (allS G19_ (allS ge126 all0))
  have g141 := jA X125 hx (jo X125 hx st125 (hE 7 rfl) rfl rfl) (hE 8 rfl) rfl rfl
  have K142 : Keep h0 T125.heap [w1, b1, v1] := (((Keep.refl h0 [w1, b1, v1]).trans K102 (allS (P := fun x => x ∈ [w1, b1, v1] ∨ h0.size ≤ x) (Or.inl (mi 0 rfl)) (allS (P := fun x => x ∈ [w1, b1, v1] ∨ h0.size ≤ x) (Or.inl (mi 1 rfl)) (allS (P := fun x => x ∈ [w1, b1, v1] ∨ h0.size ≤ x) (Or.inl (mi 2 rfl)) all0)))).trans K125 (allS (P := fun x => x ∈ [w1, b1, v1] ∨ h0.size ≤ x) (Or.inl (mi 1 rfl)) (allS (P := fun x => x ∈ [w1, b1, v1] ∨ h0.size ≤ x) (own_in_or y116 (Or.inl (mi 2 rfl)) (Nat.le_refl _)) all0)))
  have hn143 : ¬ (w1 = r103) := own_ne_or y116 E0_.lt NE26_
  have y144 := ((E0_.keep K102).keep K125)
  have y145 := (y108.keep K125 (ninS (ne_exa y144 y130 (by decide)) (ninS hn143 nin0)))
  have y146 := (y109.keep K125 (ninS (ne_exa y144 y130 (by decide)) (ninS hn143 nin0)))
  obtain ⟨fs, hr, hrun, hended, hRW⟩ := X125.leaveW hS (Nat.le_trans (Nat.le_refl _) K125.1) (v := some (.ref w1)) (fun h => by rw [Bd.returns] at h; cases h)
  refine ⟨_, _, g141 _ (retOut X125 hx Bd.returns rfl (Or.inr (Or.inr (Or.inr (Or.inr ⟨rfl, rfl, rfl⟩)))) (hE 9 rfl) hr), hrun, hended, _, _, rfl, ?_, ?_, hRW.1, hRW.2.1, hRW.2.2.1, hRW.2.2.2.mono (by decide) (by decide)⟩
  ·
    show Q_addI Z w1 b1 v1 kv ls cd z1 vs a2 u2 ku xs cx zx ux hx1 kx hxs fi cs fm fl r1 ds dg kg dgs h0 n0 _ T125.heap _
    exact ⟨r103, r104, r127, r128, r129, rfl, N125, K142, y145, y146, y130, y131, y132, y133, y134, y135, (own_alt_trans y116 (Or.inl rfl) (Nat.le_refl _)), y136, y118⟩
  ·
    rw [hh]
    show CHr Z consts_1 s.vm h0 T125.vm T125.heap
    exact R137.trans (CHv.at X125 hZ (own_EW hw) R137.1)
theorem pd_44 : parseMethodDescriptor "()Ljava/lang/String;" = some ⟨[], some (.object "java/lang/String")⟩ := by decide +kernel
theorem wd56 (hw : HW a0 Z) : own_wdV a0 Z "java/lang/StringBuilder" mN45 mN45 jdk_67_method_42_code 1 (some (.object "java/lang/String")) := ⟨hw _ (mi 103 rfl), hw _ (mi 105 rfl), hw _ (mi 104 rfl), hw _ (mi 54 rfl), hw _ (mi 106 rfl), by decide⟩
theorem rm_fin (hw : HW a0 Z) (w1 b1 v1 : Addr) (kv : ClassId) (ls : List Int32) (cd z1 : Int32) (vs : List Value) (cs : Int32) (fm : Value) (h0 : Heap) (n0 : Nat) (O0 : Old Z n0 h0) (E0_ : Exa Z h0 w1 "com/example/clear_fault/clearfault/JsonObjectWriter") (F1_ : Fld Z h0 w1 "com/example/clear_fault/clearfault/JsonObjectWriter" "out" "Ljava/lang/StringBuilder;" (.ref b1)) (E2_ : Exa Z h0 b1 "java/lang/StringBuilder") (F3_ : Fld Z h0 b1 "java/lang/AbstractStringBuilder" "value" "[B" (.ref v1)) (F4_ : Fld Z h0 b1 "java/lang/AbstractStringBuilder" "coder" "B" (.int cd)) (F5_ : Fld Z h0 b1 "java/lang/AbstractStringBuilder" "count" "I" (.int (Int32.ofNat ls.length))) (F6_ : Fld Z h0 b1 "java/lang/AbstractStringBuilder" "maybeLatin1" "Z" (.int 0)) (A7_ : Arv Z h0 v1 kv .byte z1 vs (.int 0)) (hsb : own_sb ls cd z1 vs) (hl39 : ls.length ≤ 39) (G10_ : n0 ≤ b1) (G11_ : n0 ≤ v1) (NE12_ : ¬ (v1 = b1)) (hW : own_W Z cs fm) :
    own_M l mN70 (Jvm.Cond.code mN70 prog_13_method_6_code 1 (some (.object "java/lang/String"))) [] (⟨6, 2, 84, 91⟩ : Room) #[(.ref w1)] Z h0 (fun v h L => ∃ (a2 : Addr), ∃ (r : Addr), ∃ (kid : ClassId), ∃ (cq : Int32), ∃ (zq : Int32), ∃ (vq : List Value), v = some (.ref a2) ∧ Fr n0 L ∧ Keep h0 h [b1, v1] ∧ h0.size ≤ a2 ∧ (Exa Z h a2 "java/lang/String") ∧ (Fld Z h a2 "java/lang/String" "coder" "B" (.int cq)) ∧ (Fld Z h a2 "java/lang/String" "value" "[B" (.ref r)) ∧ h0.size ≤ r ∧ (Arv Z h r kid .byte zq vq (.int 0)) ∧ (own_cod (ls ++ [(125 : Int32)]) cq zq vq)) := by
  refine own_open n0 (plainFor_of_name pn_8) (fun m => ef_R1 m w1 ) ?_
  intro p e s m below meth c s₁ A0 Bd hx hby hml hown hnm hZ hh X0 e0 N0 g0
  obtain ⟨SC_, hcs, SF_, hfm, SU1_, SU2_, SU3_⟩ := id hW
  have hE := own_hd hby E18
  have g101 := jA X0 hx g0 (hE 0 rfl) rfl rfl
  obtain ⟨T102, X102, e102, g102⟩ := own_getF X0 hx hZ hown (hw _ (mi 93 rfl)) Via.refl e0 F1_ g101 (hE 1 rfl)
  have g103 := jb X102 hx g102 (hE 2 rfl) 125 rfl
  obtain ⟨_, L104, T104, ⟨r105, r106, r107, rfl, M104, K104, y108, y109, y110, y111, y112, y113, y114⟩, X104, st104⟩ := own_callV X102 hx hZ hown (hw _ (mi 70 rfl)) (wd51 hw) (notFace_of_selects (args := #[]) (mvT hZ (hw _ (mi 73 rfl)))) E2_ (rm_sapN hw b1 v1 kv ls cd z1 vs cs fm (125 : Int32) h0 n0 O0 E2_ F3_ F4_ F5_ F6_ A7_ hsb G10_ G11_ NE12_ (Nat.le_trans hl39 (by decide)) (by decide) (by decide) hW) g103 e102 [] rfl (lenOf pd_40 rfl) (hE 3 rfl) hml.symm 0 rfl (by decide)
  have N104 := Fr.app N0 M104
  have O115 := O0.keep K104 (allS G10_ (allS G11_ all0))
  obtain ⟨_, L116, T116, ⟨r117, r118, r119, r120, r121, r122, rfl, M116, K116, y123, y124, y125, y126, y127, y128, y129⟩, X116, st116⟩ := own_callV X104 hx hZ hown (hw _ (mi 102 rfl)) (wd56 hw) (notFace_of_selects (args := #[]) (mvT hZ (hw _ (mi 105 rfl)))) y108 (rm_tos hw b1 v1 kv (ls ++ [(125 : Int32)]) r105 r106 r107 cs T104.heap n0 O115 y108 y109 y110 y111 y112 y113 y114 (Nat.le_trans (own_ca hl39 (Nat.le_refl 1)) (by decide)) SC_ hcs) st104 rfl [] rfl (lenOf pd_44 rfl) (hE 4 rfl) hml.symm 0 rfl (by decide)
  have N116 := Fr.app N104 M116
  have O130 := O115.keep K116 all0
  have K131 : Keep h0 T116.heap [b1, v1] := (((Keep.refl h0 [b1, v1]).trans K104 (allS (P := fun x => x ∈ [b1, v1] ∨ h0.size ≤ x) (Or.inl (mi 0 rfl)) (allS (P := fun x => x ∈ [b1, v1] ∨ h0.size ≤ x) (Or.inl (mi 1 rfl)) all0))).trans K116 (fun x hx => nomatch hx))
  refine own_leave X116 Bd (some (.ref r117)) nofun st116 (fun fs hr => retOut X116 hx Bd.returns rfl (Or.inr (Or.inr (Or.inr (Or.inr ⟨rfl, rfl, rfl⟩)))) (hE 5 rfl) hr) (by decide) (by decide) ?_
  exact ⟨r117, r118, r119, r120, r121, r122, rfl, N116, K131, (Nat.le_trans K104.1 y123), y124, y125, y126, (Nat.le_trans K104.1 y127), y128, y129⟩
theorem rm_strI1 (hw : HW a0 Z) (a1 b1 : Addr) (h0 : Heap) (n0 : Nat) (O0 : Old Z n0 h0) (F0_ : Fld Z h0 a1 "java/lang/String" "value" "[B" .null) (F1_ : Fld Z h0 a1 "java/lang/String" "coder" "B" (.int 0)) (E2_ : Exa Z h0 a1 "java/lang/String") (G3_ : n0 ≤ a1) :
    own_M l mN2 (Jvm.Cond.code mN2 jdk_42_method_151_code 3 none) [] (⟨1, 0, 0, 12⟩ : Room) #[(.ref a1), (.ref b1), (.int 1)] Z h0 (fun v h L => v = none ∧ Fr n0 L ∧ Keep h0 h [a1] ∧ (Exa Z h a1 "java/lang/String") ∧ (Fld Z h a1 "java/lang/String" "value" "[B" (.ref b1)) ∧ (Fld Z h a1 "java/lang/String" "coder" "B" (.int 1))) := by
  refine own_open n0 (plainFor_of_name pn_1) (fun m => ef_RRI3 m a1 b1 (1 : Int32) ) ?_
  intro p e s m below meth c s₁ A0 Bd hx hby hml hown hnm hZ hh X0 e0 N0 g0
  have hE := own_hd hby E4
  have g101 := jA X0 hx g0 (hE 0 rfl) rfl rfl
  obtain ⟨T102, X102, e102, st102⟩ := initO X0 hx hZ hown (hw _ (mi 20 rfl)) (hw _ (mi 21 rfl)) (hw _ (mi 22 rfl)) e0 (g := (mkF m 1 #[rv a1, rv b1, iv 1] [(.ref a1)])) rfl (by rw [hml]; rfl) rfl (hE 1 rfl) (by decide) (W := 0) (by show 2 * 0 + _ ≤ _; exact Nat.le_of_eq rfl) (by decide)
  have g103 : Go p e below T102 (mkF m 4 #[rv a1, rv b1, iv 1] []) A0 := fun t kont => g101 t (st102 t kont)
  have g104 := jA X102 hx (jA X102 hx g103 (hE 2 rfl) rfl rfl) (hE 3 rfl) rfl rfl
  obtain ⟨T105, h105, X105, e105, W105, st105⟩ := putF X102 hx hZ hown (host := "") (Or.inl (hw _ (mi 23 rfl))) Via.refl e102 F0_ E2_ (Or.inr ⟨(hw _ (mi 24 rfl)), rfl, hnm⟩) (hw _ (mi 11 rfl)) (ty := (.array .byte)) (by decide) rfl rfl (g := (mkF m 6 #[rv a1, rv b1, iv 1] [(.ref b1), (.ref a1)])) rfl rfl (hE 4 rfl)
  have O106 := O0.wr W105 G3_
  have y107 : Fld Z h105 a1 "java/lang/String" "value" "[B" (.ref b1) := F0_.same W105
  have N105 := Fr.snoc X105 N0 G3_
  have g108 : Go p e below T105 (mkF m 9 #[rv a1, rv b1, iv 1] []) A0 := fun t kont => g104 t (st105 t kont)
  have g109 := jI X105 hx (jA X105 hx g108 (hE 5 rfl) rfl rfl) (hE 6 rfl) rfl
  have y110 := (E2_.wr W105)
  have y111 := (F1_.other W105 (Or.inr (slot_ne (Or.inr (hw _ (mi 26 rfl))) (Or.inr (hw _ (mi 24 rfl))) (by decide) (t := .byte) (t' := (.array .byte)) (by decide) (by decide))))
  obtain ⟨T112, h112, X112, e112, W112, st112⟩ := putFN X105 hx hZ hown (hw _ (mi 25 rfl)) Via.refl e105 y111 y110 (Or.inr ⟨(hw _ (mi 26 rfl)), rfl, hnm⟩) (hw _ (mi 11 rfl)) (ty := .byte) (v := (.int 1)) (v' := (.int 1)) (by decide) (own_nw_byte (by decide : nar .byte (1 : Int32) = (1 : Int32))) (own_ft_byte (by decide : nar .byte (1 : Int32) = (1 : Int32))) (g := (mkF m 11 #[rv a1, rv b1, iv 1] [(.int 1), (.ref a1)])) rfl rfl (hE 7 rfl)
  have O113 := O106.wr W112 G3_
  have y114 : Fld Z h112 a1 "java/lang/String" "coder" "B" (.int 1) := y111.same W112
  have N112 := Fr.snoc X112 N105 G3_
  have g115 : Go p e below T112 (mkF m 14 #[rv a1, rv b1, iv 1] []) A0 := fun t kont => g109 t (st112 t kont)
  have K116 : Keep h0 h112 [a1] := (((Keep.refl h0 [a1]).wr W105 (Or.inl (mi 0 rfl))).wr W112 (Or.inl (mi 0 rfl)))
  have y117 := (y110.wr W112)
  have y118 := (y107.other W112 (Or.inr (slot_ne (Or.inr (hw _ (mi 24 rfl))) (Or.inr (hw _ (mi 26 rfl))) (by decide) (t := (.array .byte)) (t' := .byte) (by decide) (by decide))))
  refine own_leave X112 Bd (none) (fun _ => rfl) g115 (fun fs hr => X112.returnOut hx Bd.returns (hE 8 rfl) hr) (by decide) (by decide) ?_
  rw [e112]
  exact ⟨rfl, N112, K116, y117, y118, y114⟩
theorem ef_I2 (m : MethodId) (x0 : Int32)  : entryFrame m #[(.int x0)] 2 = mkF m 0 #[.val (.int x0), .unset] [] := by first | (simp [entryFrame, mkF, argsToLocals, Value.category]; done) | rfl
theorem rm_utoB (hw : HW a0 Z) (ch cs : Int32) (fm : Value) (h0 : Heap) (n0 : Nat) (O0 : Old Z n0 h0) (hW : own_W Z cs fm) :
    own_M l mN71 (Jvm.Cond.code mN71 jdk_52_method_24_code 2 (some (.array .byte))) [] (⟨1, 1, 2, 14⟩ : Room) #[(.int ch)] Z h0 (fun v h L => ∃ (r : Addr), ∃ (kid : ClassId), v = some (.ref r) ∧ Fr n0 L ∧ Keep h0 h [] ∧ h0.size ≤ r ∧ (Exa Z h r "[B") ∧ (Arv Z h r kid .byte (2 : Int32) (own_wb [ch]) (.int 0))) := by
  refine own_open n0 (plainFor_of_name pn_2) (fun m => ef_I2 m ch ) ?_
  intro p e s m below meth c s₁ A0 Bd hx hby hml hown hnm hZ hh X0 e0 N0 g0
  obtain ⟨SC_, hcs, SF_, hfm, SU1_, SU2_, SU3_⟩ := id hW
  have hE := own_hd hby E58
  have g101 := jc X0 hx g0 (hE 0 rfl) 2 rfl
  obtain ⟨T102, h102, k102, X102, e102, E102, A102, F102, st102⟩ := newPE X0 hx hZ (hw _ (mi 15 rfl)) e0 (g := (mkF m 1 #[iv ch, .unset] [(.int 2)])) rfl (hE 1 rfl) rfl (by decide) (cap := 2) (by decide) (by decide) (by decide) (by decide) (ad := "[B") (by decide)
  obtain ⟨b102, gb102⟩ : ∃ z, z = h0.size := ⟨_, rfl⟩
  rw [← gb102] at A102 F102 st102
  have O103 := O0.ext E102
  have y104 : Arv Z h102 b102 k102 .byte (2 : Int32) [(.int 0), (.int 0)] (.int 0) := (Arv.new A102 (by decide)).pad (pad_rep [] (.int 0) 2)
  have g105 : Go p e below T102 (mkF m 3 #[iv ch, .unset] [(.ref b102)]) A0 := fun t kont => g101 t (st102 t kont)
  have g106 := jI X102 hx (jc X102 hx (jA X102 hx (jT X102 hx g105 (hE 2 rfl) rfl rfl (l' := #[iv ch, rv b102]) rfl) (hE 3 rfl) rfl rfl) (hE 4 rfl) 0 rfl) (hE 5 rfl) rfl
  have ge108 : n0 ≤ b102 := Nat.le_trans (own_old_le O0) (Nat.le_of_eq gb102.symm)
  obtain ⟨_, L107, T107, ⟨rfl, M107, K107, y109⟩, X107, st107⟩ := own_callS X102 hx hZ hown (hw _ (mi 296 rfl)) (wd2 hw) (rm_putG hw b102 0 ch k102 (2 : Int32) [(.int 0), (.int 0)] cs fm h102 n0 O103 y104 ge108 (by decide) (rfl) (by decide) hW) g106 e102 [] rfl (lenOf pd_2 rfl) (hE 6 rfl) hml.symm 0 rfl (by decide)
  have N107 := Fr.app N0 M107
  have O110 := O103.keep K107 (allS ge108 all0)
  have g111 := jA X107 hx st107 (hE 7 rfl) rfl rfl
  have K112 : Keep h0 T107.heap [] := (((Keep.refl h0 []).ext E102).trans K107 (allS (P := fun x => x ∈ [] ∨ h0.size ≤ x) (Or.inr (Nat.le_of_eq gb102.symm)) all0))
  have y113 := (F102.keep K107)
  refine own_leave X107 Bd (some (.ref b102)) nofun g111 (fun fs hr => retOut X107 hx Bd.returns rfl (Or.inr (Or.inr (Or.inr (Or.inr ⟨rfl, rfl, rfl⟩)))) (hE 8 rfl) hr) (by decide) (by decide) ?_
  exact ⟨b102, k102, rfl, N107, K112, (Nat.le_of_eq gb102.symm), y113, y109⟩
theorem pd_45 : parseMethodDescriptor "(C)[B" = some ⟨[.char], some (.array .byte)⟩ := by decide +kernel
theorem wd57 (hw : HW a0 Z) : own_wdS a0 Z mN71 jdk_52_method_24_code 2 (some (.array .byte)) := ⟨hw _ (mi 294 rfl), hw _ (mi 37 rfl), hw _ (mi 295 rfl), by decide⟩
theorem pd_46 : parseMethodDescriptor "([BB)V" = some ⟨[(.array .byte), .byte], none⟩ := by decide +kernel
theorem wd58 (hw : HW a0 Z) : own_wdI a0 Z mN2 jdk_42_method_151_code 3 := ⟨hw _ (mi 17 rfl), hw _ (mi 3 rfl), hw _ (mi 19 rfl), by decide, rfl⟩
theorem wd59 (hw : HW a0 Z) : own_wdS a0 Z mN1 jdk_43_method_46_code 1 (some (.array .byte)) := ⟨hw _ (mi 13 rfl), hw _ (mi 8 rfl), hw _ (mi 14 rfl), by decide⟩
theorem rm_valN (hw : HW a0 Z) (ch cs : Int32) (fm : Value) (h0 : Heap) (n0 : Nat) (O0 : Old Z n0 h0) (h0_ch : ¬ (ch < (0 : Int32))) (hW : own_W Z cs fm) :
    own_M l mN72 (Jvm.Cond.code mN72 jdk_42_method_139_code 1 (some (.object "java/lang/String"))) [] (⟨2, 2, 6, 29⟩ : Room) #[(.int ch)] Z h0 (fun v h L => ∃ (r : Addr), ∃ (b : Addr), ∃ (kid : ClassId), ∃ (cd : Int32), ∃ (z : Int32), ∃ (vs : List Value), v = some (.ref r) ∧ Fr n0 L ∧ Keep h0 h [] ∧ h0.size ≤ r ∧ (Exa Z h r "java/lang/String") ∧ (Fld Z h r "java/lang/String" "coder" "B" (.int cd)) ∧ (Fld Z h r "java/lang/String" "value" "[B" (.ref b)) ∧ h0.size ≤ b ∧ (Arv Z h b kid .byte z vs (.int 0)) ∧ (own_cod [ch] cd z vs)) := by
  refine own_open n0 (plainFor_of_name pn_1) (fun m => ef_I1 m ch ) ?_
  intro p e s m below meth c s₁ A0 Bd hx hby hml hown hnm hZ hh X0 e0 N0 g0
  obtain ⟨SC_, hcs, SF_, hfm, SU1_, SU2_, SU3_⟩ := id hW
  have hE := own_hd hby E1
  have y101 := SC_.ext O0.2
  obtain ⟨T102, X102, e102, g102⟩ := own_getS X0 hx hZ hown (hw _ (mi 5 rfl)) Via.refl e0 y101 g0 (hE 0 rfl)
  have g104 := jN X102 hx g102 (hE 1 rfl) rfl ((if0 _ _).trans (feq hcs).1)
  by_cases c103 : (255 : Int32) < ch
  ·
    have g105 := jI X102 hx g104 (hE 2 rfl) rfl
    obtain ⟨_, L106, T106, ⟨rfl, M106, e106⟩, X106, st106⟩ := own_callS X102 hx hZ hown (hw _ (mi 6 rfl)) (wd25 hw) (rm_canW hw ch h0 n0 O0 h0_ch (c103)) g105 e102 [] rfl (lenOf pd_19 rfl) (hE 3 rfl) hml.symm 0 rfl (by decide)
    have N106 := Fr.app N0 M106
    have g107 := jY X106 hx st106 (hE 4 rfl) rfl (by decide) (pc' := 26) (by decide)
    obtain ⟨T108, h108, X108, e108, E108, A108, D108, -, st108⟩ := newO X106 hx hZ hown (hw _ (mi 10 rfl)) (hw _ (mi 11 rfl)) (hw _ (mi 3 rfl)) e106 (g := (mkF m 26 #[iv ch] [])) rfl (hE 12 rfl) (by decide) (by decide)
    obtain ⟨b108, gb108⟩ : ∃ z, z = h0.size := ⟨_, rfl⟩
    rw [← gb108] at A108 D108 st108
    have O109 := O0.ext E108
    have y110 : Fld Z h108 b108 "java/lang/String" "value" "[B" .null := D108 (Or.inr (hw _ (mi 24 rfl))) (ty := (.array .byte)) (by decide)
    have y111 : Fld Z h108 b108 "java/lang/String" "coder" "B" (.int 0) := D108 (Or.inr (hw _ (mi 26 rfl))) (ty := .byte) (by decide)
    have g112 : Go p e below T108 (mkF m 29 #[iv ch] [(.ref b108)]) A0 := fun t kont => g107 t (st108 t kont)
    have g113 := jI X108 hx (jd X108 hx g112 (hE 13 rfl) rfl rfl) (hE 14 rfl) rfl
    obtain ⟨_, L114, T114, ⟨r115, r116, rfl, M114, K114, y117, y118, y119⟩, X114, st114⟩ := own_callS X108 hx hZ hown (hw _ (mi 293 rfl)) (wd57 hw) (rm_utoB hw ch cs fm h108 n0 O109 hW) g113 e108 [(.ref b108), (.ref b108)] rfl (lenOf pd_45 rfl) (hE 15 rfl) hml.symm 2 rfl (by decide)
    have N114 := Fr.app N106 M114
    have O120 := O109.keep K114 all0
    have g121 := jc X114 hx st114 (hE 16 rfl) 1 rfl
    have y123 := (y110.keep K114 nin0)
    have y124 := (y111.keep K114 nin0)
    have y125 := (A108.keep K114)
    have ge126 : n0 ≤ b108 := Nat.le_trans (own_old_le O0) (Nat.le_of_eq gb108.symm)
    obtain ⟨_, L122, T122, ⟨rfl, M122, K122, y127, y128, y129⟩, X122, st122⟩ := own_callI X114 hx hZ hown (hw _ (mi 16 rfl)) (wd58 hw) (rm_strI1 hw b108 r115 T114.heap n0 O120 y123 y124 y125 ge126) g121 rfl [(.ref b108)] rfl (lenOf pd_46 rfl) (hE 17 rfl) hml.symm 1 rfl (by decide)
    have N122 := Fr.app N114 M122
    have O130 := O120.keep K122 (allS ge126 all0)
    have K131 : Keep h0 T122.heap [] := ((((Keep.refl h0 []).ext E108).trans K114 (fun x hx => nomatch hx)).trans K122 (allS (P := fun x => x ∈ [] ∨ h0.size ≤ x) (Or.inr (Nat.le_of_eq gb108.symm)) all0))
    have y132 := (y119.keep K122 (ninS (Ne.symm (Nat.ne_of_lt (Nat.lt_of_lt_of_le A108.lt y117))) nin0))
    refine own_leave X122 Bd (some (.ref b108)) nofun st122 (fun fs hr => retOut X122 hx Bd.returns rfl (Or.inr (Or.inr (Or.inr (Or.inr ⟨rfl, rfl, rfl⟩)))) (hE 18 rfl) hr) (by decide) (by decide) ?_
    exact ⟨b108, r115, r116, (1 : Int32), (2 : Int32), (own_wb [ch]), rfl, N122, K131, (Nat.le_of_eq gb108.symm), y127, y129, y128, (Nat.le_trans E108.1 y117), y132, Or.inr ⟨rfl, rfl, rfl⟩⟩
  have g133 := jI X102 hx g104 (hE 2 rfl) rfl
  obtain ⟨_, L134, T134, ⟨rfl, M134, e134⟩, X134, st134⟩ := own_callS X102 hx hZ hown (hw _ (mi 6 rfl)) (wd25 hw) (rm_canE hw ch h0 n0 O0 (c103)) g133 e102 [] rfl (lenOf pd_19 rfl) (hE 3 rfl) hml.symm 0 rfl (by decide)
  have N134 := Fr.app N0 M134
  have g135 := jN X134 hx st134 (hE 4 rfl) rfl (by decide)
  obtain ⟨T136, h136, X136, e136, E136, A136, D136, -, st136⟩ := newO X134 hx hZ hown (hw _ (mi 10 rfl)) (hw _ (mi 11 rfl)) (hw _ (mi 3 rfl)) e134 (g := (mkF m 13 #[iv ch] [])) rfl (hE 5 rfl) (by decide) (by decide)
  obtain ⟨b136, gb136⟩ : ∃ z, z = h0.size := ⟨_, rfl⟩
  rw [← gb136] at A136 D136 st136
  have O137 := O0.ext E136
  have y138 : Fld Z h136 b136 "java/lang/String" "value" "[B" .null := D136 (Or.inr (hw _ (mi 24 rfl))) (ty := (.array .byte)) (by decide)
  have y139 : Fld Z h136 b136 "java/lang/String" "coder" "B" (.int 0) := D136 (Or.inr (hw _ (mi 26 rfl))) (ty := .byte) (by decide)
  have g140 : Go p e below T136 (mkF m 16 #[iv ch] [(.ref b136)]) A0 := fun t kont => g135 t (st136 t kont)
  have g141 := jI X136 hx (jd X136 hx g140 (hE 6 rfl) rfl rfl) (hE 7 rfl) rfl
  obtain ⟨_, L142, T142, ⟨r143, r144, rfl, M142, K142, y145, y146, y147⟩, X142, st142⟩ := own_callS X136 hx hZ hown (hw _ (mi 12 rfl)) (wd59 hw) (rm_toB hw ch h136 n0 O137 ) g141 e136 [(.ref b136), (.ref b136)] rfl (lenOf pd_45 rfl) (hE 8 rfl) hml.symm 2 rfl (by decide)
  have N142 := Fr.app N134 M142
  have O148 := O137.keep K142 all0
  have g149 := jc X142 hx st142 (hE 9 rfl) 0 rfl
  have y151 := (y138.keep K142 nin0)
  have y152 := (y139.keep K142 nin0)
  have y153 := (A136.keep K142)
  have ge154 : n0 ≤ b136 := Nat.le_trans (own_old_le O0) (Nat.le_of_eq gb136.symm)
  obtain ⟨_, L150, T150, ⟨rfl, M150, K150, y155, y156, y157⟩, X150, st150⟩ := own_callI X142 hx hZ hown (hw _ (mi 16 rfl)) (wd58 hw) (rm_strI hw b136 r143 T142.heap n0 O148 y151 y152 y153 ge154) g149 rfl [(.ref b136)] rfl (lenOf pd_46 rfl) (hE 10 rfl) hml.symm 1 rfl (by decide)
  have N150 := Fr.app N142 M150
  have O158 := O148.keep K150 (allS ge154 all0)
  have K159 : Keep h0 T150.heap [] := ((((Keep.refl h0 []).ext E136).trans K142 (fun x hx => nomatch hx)).trans K150 (allS (P := fun x => x ∈ [] ∨ h0.size ≤ x) (Or.inr (Nat.le_of_eq gb136.symm)) all0))
  have y160 := (y147.keep K150 (ninS (Ne.symm (Nat.ne_of_lt (Nat.lt_of_lt_of_le A136.lt y145))) nin0))
  refine own_leave X150 Bd (some (.ref b136)) nofun st150 (fun fs hr => retOut X150 hx Bd.returns rfl (Or.inr (Or.inr (Or.inr (Or.inr ⟨rfl, rfl, rfl⟩)))) (hE 11 rfl) hr) (by decide) (by decide) ?_
  exact ⟨b136, r143, r144, (0 : Int32), (1 : Int32), [(.int (ch.toInt8.toInt32))], rfl, N150, K159, (Nat.le_of_eq gb136.symm), y155, y157, y156, (Nat.le_trans E136.1 y145), y160, Or.inl ⟨rfl, rfl, rfl, own_lat1 c103⟩⟩
theorem pn_9 : plainName "com/example/clear_fault/clearfault/JsonObjectWriterFinishPinLaw" = true := by first | (simp [plainName, overriddenIn]; done) | decide +kernel
theorem rm_hexC (hw : HW a0 Z) (d1 : Nat) (h0 : Heap) (n0 : Nat) (O0 : Old Z n0 h0) (hd : d1 < 16) :
    own_M l mN73 (Jvm.Cond.code mN73 method_2_code 1 (some .char)) [] (⟨0, 0, 0, 0⟩ : Room) #[(.int (Int32.ofNat d1))] Z h0 (fun v h L => v = some (.int (own_hexn d1)) ∧ Fr n0 L ∧ h = h0) := by
  refine own_open n0 (plainFor_of_name pn_9) (fun m => ef_I1 m (Int32.ofNat d1) ) ?_
  intro p e s m below meth c s₁ A0 Bd hx hby hml hown hnm hZ hh X0 e0 N0 g0
  have hE := own_hd hby E57
  by_cases c101 : d1 < 10
  ·
    have g102 := jz X0 hx (jP X0 hx (jI X0 hx (jb X0 hx (jn X0 hx (jb X0 hx (jI X0 hx g0 (hE 0 rfl) rfl) (hE 1 rfl) 10 rfl) (hE 2 rfl) rfl (tlt (own_lt (b := 10) c101 (by decide) : (Int32.ofNat d1) < (10 : Int32))).2.1) (hE 3 rfl) 48 rfl) (hE 4 rfl) rfl) (hE 5 rfl) rfl) (hE 6 rfl) rfl
    refine own_leave X0 Bd (some (.int (((48 : Int32) + (Int32.ofNat d1)).toUInt32.toUInt16.toUInt32.toInt32))) nofun g102 (fun fs hr => retN X0 hx (t := .char) Bd.returns (by simp) (hE 7 rfl) (by rw [(own_narc _)]; exact hr)) (by decide) (by decide) ?_
    rw [e0]
    exact ⟨congrArg (fun z => some (Value.int z)) (own_hex10 c101), N0, rfl⟩
  have g103 := jz X0 hx (jP X0 hx (jM X0 hx (jb X0 hx (jI X0 hx (jb X0 hx (jy X0 hx (jb X0 hx (jI X0 hx g0 (hE 0 rfl) rfl) (hE 1 rfl) 10 rfl) (hE 2 rfl) rfl (flt (own_nlt (b := 10) (Nat.le_of_not_lt c101) (Nat.lt_trans hd (by decide)) : ¬ ((Int32.ofNat d1) < (10 : Int32)))).2.1 (pc' := 12) (by decide)) (hE 8 rfl) 97 rfl) (hE 9 rfl) rfl) (hE 10 rfl) 10 rfl) (hE 11 rfl) rfl) (hE 12 rfl) rfl) (hE 13 rfl) rfl
  refine own_leave X0 Bd (some (.int (((97 : Int32) + ((Int32.ofNat d1) - (10 : Int32))).toUInt32.toUInt16.toUInt32.toInt32))) nofun g103 (fun fs hr => retN X0 hx (t := .char) Bd.returns (by simp) (hE 14 rfl) (by rw [(own_narc _)]; exact hr)) (by decide) (by decide) ?_
  rw [e0]
  exact ⟨congrArg (fun z => some (Value.int z)) (own_hex16 c101 hd), N0, rfl⟩
theorem wd60 (hw : HW a0 Z) : own_wdS a0 Z mN73 method_2_code 1 (some .char) := ⟨hw _ (mi 291 rfl), hw _ (mi 158 rfl), hw _ (mi 292 rfl), by decide⟩
theorem rm_encC (hw : HW a0 Z) (e1 : Addr) (ke : ClassId) (ts : List Int32) (ch : Int32) (h0 : Heap) (n0 : Nat) (O0 : Old Z n0 h0) (A0_ : Arv Z h0 e1 ke .char (40 : Int32) (own_E ts) (.int 0)) (G1_ : n0 ≤ e1) (hts : ts.length ≤ 30) (h0_ch : ¬ (ch < (0 : Int32))) (h1_ch : ¬ ((65535 : Int32) < ch)) :
    own_M l mN74 (Jvm.Cond.code mN74 method_3_code 3 (some .int)) [] (⟨1, 0, 0, 14⟩ : Room) #[(.ref e1), (.int (Int32.ofNat ts.length)), (.int ch)] Z h0 (fun v h L => v = some (.int (Int32.ofNat (ts ++ own_enc ch).length)) ∧ Fr n0 L ∧ Keep h0 h [e1] ∧ (Arv Z h e1 ke .char (40 : Int32) (own_E (ts ++ own_enc ch)) (.int 0))) := by
  refine own_open n0 (plainFor_of_name pn_9) (fun m => ef_RII3 m e1 (Int32.ofNat ts.length) ch ) ?_
  intro p e s m below meth c s₁ A0 Bd hx hby hml hown hnm hZ hh X0 e0 N0 g0
  have hE := own_hd hby E56
  have r_ch : nar .char ch = ch := own_narid h0_ch h1_ch
  have g102 := jb X0 hx (jI X0 hx g0 (hE 0 rfl) rfl) (hE 1 rfl) 32 rfl
  by_cases c101 : ch < (32 : Int32)
  ·
    have g103 := jb X0 hx (jI X0 hx (jA X0 hx (jn X0 hx g102 (hE 2 rfl) rfl (tlt c101).2.1) (hE 3 rfl) rfl rfl) (hE 4 rfl) rfl) (hE 5 rfl) 92 rfl
    have zz104 := A0_
    obtain ⟨cl104, Ar104, q104, S104, M104, H104, G104⟩ := zz104
    have in104 : ¬ ((Int32.ofNat ts.length) < 0 ∨ cl104.slots.size ≤ ((Int32.ofNat ts.length)).toNatClampNeg) := inb_of S104 ⟨own_nonneg (by omega), own_lt (b := 40) (by omega) (by decide)⟩
    let lo105 : Array Slot := #[rv e1, iv (Int32.ofNat ts.length), iv ch]
    obtain ⟨T104, h104, X104, e104, W104, st104⟩ := stC X0 hx hZ e0 Ar104 (j := (Int32.ofNat ts.length)) in104 (g := (mkF m 10 lo105 [(.int 92), (.int (Int32.ofNat ts.length)), (.ref e1)])) rfl rfl (hE 6 rfl)
    rw [show nar .char (92 : Int32) = (92 : Int32) from (by decide : nar .char (92 : Int32) = (92 : Int32))] at W104
    have O106 := O0.wr W104 G1_
    have y107 : Arv Z h104 e1 ke .char (40 : Int32) ((own_E ts).set ts.length (.int 92)) (.int 0) := Arv.set Ar104 q104 S104 M104 H104 G104 (own_ft_char (z := (92 : Int32)) (by decide : nar .char (92 : Int32) = (92 : Int32))) W104 ts.length (own_clamp (by omega)) (by rw [own_Elen (by omega)]; omega)
    have N104 := Fr.snoc X104 N0 G1_
    have g108 : Go p e below T104 (mkF m 11 lo105 []) A0 := fun t kont => g103 t (st104 t kont)
    have y109 : Arv Z h104 e1 ke .char (40 : Int32) (own_E (ts ++ [(92 : Int32)])) (.int 0) := by have q := y107; rw [own_Eset (by omega)] at q; exact q
    have g110 := jb X104 hx (jP X104 hx (jc X104 hx (jI X104 hx (jA X104 hx g108 (hE 7 rfl) rfl rfl) (hE 8 rfl) rfl) (hE 9 rfl) 1 rfl) (hE 10 rfl) rfl) (hE 11 rfl) 117 rfl
    have zz111 := y109
    obtain ⟨cl111, Ar111, q111, S111, M111, H111, G111⟩ := zz111
    have in111 : ¬ (((Int32.ofNat ts.length) + (1 : Int32)) < 0 ∨ cl111.slots.size ≤ (((Int32.ofNat ts.length) + (1 : Int32))).toNatClampNeg) := inb_of S111 (by rw [show Int32.ofNat ts.length + (1 : Int32) = Int32.ofNat (ts.length + 1) from (Int32.ofNat_add _ 1).symm]; exact ⟨own_nonneg (by omega), own_lt (b := 40) (by omega) (by decide)⟩)
    obtain ⟨T111, h111, X111, e111, W111, st111⟩ := stC X104 hx hZ e104 Ar111 (j := ((Int32.ofNat ts.length) + (1 : Int32))) in111 (g := (mkF m 17 lo105 [(.int 117), (.int ((Int32.ofNat ts.length) + (1 : Int32))), (.ref e1)])) rfl rfl (hE 12 rfl)
    rw [show nar .char (117 : Int32) = (117 : Int32) from (by decide : nar .char (117 : Int32) = (117 : Int32))] at W111
    have O112 := O106.wr W111 G1_
    have y113 : Arv Z h111 e1 ke .char (40 : Int32) ((own_E (ts ++ [(92 : Int32)])).set (ts.length + 1) (.int 117)) (.int 0) := Arv.set Ar111 q111 S111 M111 H111 G111 (own_ft_char (z := (117 : Int32)) (by decide : nar .char (117 : Int32) = (117 : Int32))) W111 (ts.length + 1) (by rw [show Int32.ofNat ts.length + (1 : Int32) = Int32.ofNat (ts.length + 1) from (Int32.ofNat_add _ 1).symm]; exact own_clamp (by omega)) (by rw [own_Elen (by rw [List.length_append]; simp only [List.length_cons, List.length_nil]; omega)]; omega)
    have N111 := Fr.snoc X111 N104 G1_
    have g114 : Go p e below T111 (mkF m 18 lo105 []) A0 := fun t kont => g110 t (st111 t kont)
    have y115 : Arv Z h111 e1 ke .char (40 : Int32) (own_E (ts ++ [(92 : Int32), (117 : Int32)])) (.int 0) := by have q := y113; rw [own_EsN (us := [(92 : Int32)]) (k := 1) rfl (by omega)] at q; exact q
    have g116 := jb X111 hx (jP X111 hx (jc X111 hx (jI X111 hx (jA X111 hx g114 (hE 13 rfl) rfl rfl) (hE 14 rfl) rfl) (hE 15 rfl) 2 rfl) (hE 16 rfl) rfl) (hE 17 rfl) 48 rfl
    have zz117 := y115
    obtain ⟨cl117, Ar117, q117, S117, M117, H117, G117⟩ := zz117
    have in117 : ¬ (((Int32.ofNat ts.length) + (2 : Int32)) < 0 ∨ cl117.slots.size ≤ (((Int32.ofNat ts.length) + (2 : Int32))).toNatClampNeg) := inb_of S117 (by rw [show Int32.ofNat ts.length + (2 : Int32) = Int32.ofNat (ts.length + 2) from (Int32.ofNat_add _ 2).symm]; exact ⟨own_nonneg (by omega), own_lt (b := 40) (by omega) (by decide)⟩)
    obtain ⟨T117, h117, X117, e117, W117, st117⟩ := stC X111 hx hZ e111 Ar117 (j := ((Int32.ofNat ts.length) + (2 : Int32))) in117 (g := (mkF m 24 lo105 [(.int 48), (.int ((Int32.ofNat ts.length) + (2 : Int32))), (.ref e1)])) rfl rfl (hE 18 rfl)
    rw [show nar .char (48 : Int32) = (48 : Int32) from (by decide : nar .char (48 : Int32) = (48 : Int32))] at W117
    have O118 := O112.wr W117 G1_
    have y119 : Arv Z h117 e1 ke .char (40 : Int32) ((own_E (ts ++ [(92 : Int32), (117 : Int32)])).set (ts.length + 2) (.int 48)) (.int 0) := Arv.set Ar117 q117 S117 M117 H117 G117 (own_ft_char (z := (48 : Int32)) (by decide : nar .char (48 : Int32) = (48 : Int32))) W117 (ts.length + 2) (by rw [show Int32.ofNat ts.length + (2 : Int32) = Int32.ofNat (ts.length + 2) from (Int32.ofNat_add _ 2).symm]; exact own_clamp (by omega)) (by rw [own_Elen (by rw [List.length_append]; simp only [List.length_cons, List.length_nil]; omega)]; omega)
    have N117 := Fr.snoc X117 N111 G1_
    have g120 : Go p e below T117 (mkF m 25 lo105 []) A0 := fun t kont => g116 t (st117 t kont)
    have y121 : Arv Z h117 e1 ke .char (40 : Int32) (own_E (ts ++ [(92 : Int32), (117 : Int32), (48 : Int32)])) (.int 0) := by have q := y119; rw [own_EsN (us := [(92 : Int32), (117 : Int32)]) (k := 2) rfl (by omega)] at q; exact q
    have g122 := jb X117 hx (jP X117 hx (jc X117 hx (jI X117 hx (jA X117 hx g120 (hE 19 rfl) rfl rfl) (hE 20 rfl) rfl) (hE 21 rfl) 3 rfl) (hE 22 rfl) rfl) (hE 23 rfl) 48 rfl
    have zz123 := y121
    obtain ⟨cl123, Ar123, q123, S123, M123, H123, G123⟩ := zz123
    have in123 : ¬ (((Int32.ofNat ts.length) + (3 : Int32)) < 0 ∨ cl123.slots.size ≤ (((Int32.ofNat ts.length) + (3 : Int32))).toNatClampNeg) := inb_of S123 (by rw [show Int32.ofNat ts.length + (3 : Int32) = Int32.ofNat (ts.length + 3) from (Int32.ofNat_add _ 3).symm]; exact ⟨own_nonneg (by omega), own_lt (b := 40) (by omega) (by decide)⟩)
    obtain ⟨T123, h123, X123, e123, W123, st123⟩ := stC X117 hx hZ e117 Ar123 (j := ((Int32.ofNat ts.length) + (3 : Int32))) in123 (g := (mkF m 31 lo105 [(.int 48), (.int ((Int32.ofNat ts.length) + (3 : Int32))), (.ref e1)])) rfl rfl (hE 24 rfl)
    rw [show nar .char (48 : Int32) = (48 : Int32) from (by decide : nar .char (48 : Int32) = (48 : Int32))] at W123
    have O124 := O118.wr W123 G1_
    have y125 : Arv Z h123 e1 ke .char (40 : Int32) ((own_E (ts ++ [(92 : Int32), (117 : Int32), (48 : Int32)])).set (ts.length + 3) (.int 48)) (.int 0) := Arv.set Ar123 q123 S123 M123 H123 G123 (own_ft_char (z := (48 : Int32)) (by decide : nar .char (48 : Int32) = (48 : Int32))) W123 (ts.length + 3) (by rw [show Int32.ofNat ts.length + (3 : Int32) = Int32.ofNat (ts.length + 3) from (Int32.ofNat_add _ 3).symm]; exact own_clamp (by omega)) (by rw [own_Elen (by rw [List.length_append]; simp only [List.length_cons, List.length_nil]; omega)]; omega)
    have N123 := Fr.snoc X123 N117 G1_
    have g126 : Go p e below T123 (mkF m 32 lo105 []) A0 := fun t kont => g122 t (st123 t kont)
    have y127 : Arv Z h123 e1 ke .char (40 : Int32) (own_E (ts ++ [(92 : Int32), (117 : Int32), (48 : Int32), (48 : Int32)])) (.int 0) := by have q := y125; rw [own_EsN (us := [(92 : Int32), (117 : Int32), (48 : Int32)]) (k := 3) rfl (by omega)] at q; exact q
    have g128 := jR X123 hx (jc X123 hx (jI X123 hx (jP X123 hx (jc X123 hx (jI X123 hx (jA X123 hx g126 (hE 25 rfl) rfl rfl) (hE 26 rfl) rfl) (hE 27 rfl) 4 rfl) (hE 28 rfl) rfl) (hE 29 rfl) rfl) (hE 30 rfl) 4 rfl) (hE 31 rfl) rfl
    have g129 := own_rwS g128 (own_sh4 h0_ch : (ch >>> ((4 : Int32) &&& 31)) = (Int32.ofNat (ch.toNatClampNeg / 16)))
    obtain ⟨_, L130, T130, ⟨rfl, M130, e130⟩, X130, st130⟩ := own_callS X123 hx hZ hown (hw _ (mi 290 rfl)) (wd60 hw) (rm_hexC hw (ch.toNatClampNeg / 16) h123 n0 O124 (own_cl32 h0_ch c101)) g129 e123 [(.int ((Int32.ofNat ts.length) + (4 : Int32))), (.ref e1)] rfl (lenOf pd_33 rfl) (hE 32 rfl) hml.symm 2 rfl (by decide)
    have N130 := Fr.app N123 M130
    have zz131 := y127
    obtain ⟨cl131, Ar131, q131, S131, M131, H131, G131⟩ := zz131
    have in131 : ¬ (((Int32.ofNat ts.length) + (4 : Int32)) < 0 ∨ cl131.slots.size ≤ (((Int32.ofNat ts.length) + (4 : Int32))).toNatClampNeg) := inb_of S131 (by rw [show Int32.ofNat ts.length + (4 : Int32) = Int32.ofNat (ts.length + 4) from (Int32.ofNat_add _ 4).symm]; exact ⟨own_nonneg (by omega), own_lt (b := 40) (by omega) (by decide)⟩)
    obtain ⟨T131, h131, X131, e131, W131, st131⟩ := stC X130 hx hZ e130 Ar131 (j := ((Int32.ofNat ts.length) + (4 : Int32))) in131 (g := (mkF m 42 lo105 [(.int (own_hexn (ch.toNatClampNeg / 16))), (.int ((Int32.ofNat ts.length) + (4 : Int32))), (.ref e1)])) rfl rfl (hE 33 rfl)
    rw [show nar .char (own_hexn (ch.toNatClampNeg / 16)) = (own_hexn (ch.toNatClampNeg / 16)) from (own_narhex (own_cl32 h0_ch c101))] at W131
    have O132 := O124.wr W131 G1_
    have y133 : Arv Z h131 e1 ke .char (40 : Int32) ((own_E (ts ++ [(92 : Int32), (117 : Int32), (48 : Int32), (48 : Int32)])).set (ts.length + 4) (.int (own_hexn (ch.toNatClampNeg / 16)))) (.int 0) := Arv.set Ar131 q131 S131 M131 H131 G131 (own_ft_char (z := (own_hexn (ch.toNatClampNeg / 16))) (own_narhex (own_cl32 h0_ch c101))) W131 (ts.length + 4) (by rw [show Int32.ofNat ts.length + (4 : Int32) = Int32.ofNat (ts.length + 4) from (Int32.ofNat_add _ 4).symm]; exact own_clamp (by omega)) (by rw [own_Elen (by rw [List.length_append]; simp only [List.length_cons, List.length_nil]; omega)]; omega)
    have N131 := Fr.snoc X131 N130 G1_
    have g134 : Go p e below T131 (mkF m 43 lo105 []) A0 := fun t kont => st130 t (st131 t kont)
    have y135 : Arv Z h131 e1 ke .char (40 : Int32) (own_E (ts ++ [(92 : Int32), (117 : Int32), (48 : Int32), (48 : Int32), (own_hexn (ch.toNatClampNeg / 16))])) (.int 0) := by have q := y133; rw [own_EsN (us := [(92 : Int32), (117 : Int32), (48 : Int32), (48 : Int32)]) (k := 4) rfl (by omega)] at q; exact q
    have g136 := jB X131 hx (jb X131 hx (jI X131 hx (jP X131 hx (jc X131 hx (jI X131 hx (jA X131 hx g134 (hE 34 rfl) rfl rfl) (hE 35 rfl) rfl) (hE 36 rfl) 5 rfl) (hE 37 rfl) rfl) (hE 38 rfl) rfl) (hE 39 rfl) 15 rfl) (hE 40 rfl) rfl
    have g137 := own_rwS g136 (own_an15 h0_ch : (ch &&& (15 : Int32)) = (Int32.ofNat (ch.toNatClampNeg % 16)))
    obtain ⟨_, L138, T138, ⟨rfl, M138, e138⟩, X138, st138⟩ := own_callS X131 hx hZ hown (hw _ (mi 290 rfl)) (wd60 hw) (rm_hexC hw (ch.toNatClampNeg % 16) h131 n0 O132 (Nat.mod_lt _ (by decide))) g137 e131 [(.int ((Int32.ofNat ts.length) + (5 : Int32))), (.ref e1)] rfl (lenOf pd_33 rfl) (hE 41 rfl) hml.symm 2 rfl (by decide)
    have N138 := Fr.app N131 M138
    have zz139 := y135
    obtain ⟨cl139, Ar139, q139, S139, M139, H139, G139⟩ := zz139
    have in139 : ¬ (((Int32.ofNat ts.length) + (5 : Int32)) < 0 ∨ cl139.slots.size ≤ (((Int32.ofNat ts.length) + (5 : Int32))).toNatClampNeg) := inb_of S139 (by rw [show Int32.ofNat ts.length + (5 : Int32) = Int32.ofNat (ts.length + 5) from (Int32.ofNat_add _ 5).symm]; exact ⟨own_nonneg (by omega), own_lt (b := 40) (by omega) (by decide)⟩)
    obtain ⟨T139, h139, X139, e139, W139, st139⟩ := stC X138 hx hZ e138 Ar139 (j := ((Int32.ofNat ts.length) + (5 : Int32))) in139 (g := (mkF m 54 lo105 [(.int (own_hexn (ch.toNatClampNeg % 16))), (.int ((Int32.ofNat ts.length) + (5 : Int32))), (.ref e1)])) rfl rfl (hE 42 rfl)
    rw [show nar .char (own_hexn (ch.toNatClampNeg % 16)) = (own_hexn (ch.toNatClampNeg % 16)) from (own_narhex (Nat.mod_lt _ (by decide)))] at W139
    have O140 := O132.wr W139 G1_
    have y141 : Arv Z h139 e1 ke .char (40 : Int32) ((own_E (ts ++ [(92 : Int32), (117 : Int32), (48 : Int32), (48 : Int32), (own_hexn (ch.toNatClampNeg / 16))])).set (ts.length + 5) (.int (own_hexn (ch.toNatClampNeg % 16)))) (.int 0) := Arv.set Ar139 q139 S139 M139 H139 G139 (own_ft_char (z := (own_hexn (ch.toNatClampNeg % 16))) (own_narhex (Nat.mod_lt _ (by decide)))) W139 (ts.length + 5) (by rw [show Int32.ofNat ts.length + (5 : Int32) = Int32.ofNat (ts.length + 5) from (Int32.ofNat_add _ 5).symm]; exact own_clamp (by omega)) (by rw [own_Elen (by rw [List.length_append]; simp only [List.length_cons, List.length_nil]; omega)]; omega)
    have N139 := Fr.snoc X139 N138 G1_
    have g142 : Go p e below T139 (mkF m 55 lo105 []) A0 := fun t kont => st138 t (st139 t kont)
    have y143 : Arv Z h139 e1 ke .char (40 : Int32) (own_E (ts ++ [(92 : Int32), (117 : Int32), (48 : Int32), (48 : Int32), (own_hexn (ch.toNatClampNeg / 16)), (own_hexn (ch.toNatClampNeg % 16))])) (.int 0) := by have q := y141; rw [own_EsN (us := [(92 : Int32), (117 : Int32), (48 : Int32), (48 : Int32), (own_hexn (ch.toNatClampNeg / 16))]) (k := 5) rfl (by omega)] at q; exact q
    have g144 := jP X139 hx (jb X139 hx (jI X139 hx g142 (hE 43 rfl) rfl) (hE 44 rfl) 6 rfl) (hE 45 rfl) rfl
    have K145 : Keep h0 h139 [e1] := (((((((Keep.refl h0 [e1]).wr W104 (Or.inl (mi 0 rfl))).wr W111 (Or.inl (mi 0 rfl))).wr W117 (Or.inl (mi 0 rfl))).wr W123 (Or.inl (mi 0 rfl))).wr W131 (Or.inl (mi 0 rfl))).wr W139 (Or.inl (mi 0 rfl)))
    refine own_leave X139 Bd (some (.int ((Int32.ofNat ts.length) + (6 : Int32)))) nofun g144 (fun fs hr => retI X139 hx Bd.returns (hE 46 rfl) hr) (by decide) (by decide) ?_
    rw [e139]
    exact ⟨congrArg (fun z => some (Value.int z)) (by rw [own_encA c101, show Int32.ofNat ts.length + (6 : Int32) = Int32.ofNat (ts.length + 6) from (Int32.ofNat_add _ 6).symm, List.length_append]; rfl), N139, K145, (by rw [own_encA c101]; exact y143)⟩
  have g147 := jb X0 hx (jI X0 hx (jy X0 hx g102 (hE 2 rfl) rfl (flt c101).2.1 (pc' := 60) (by decide)) (hE 47 rfl) rfl) (hE 48 rfl) 34 rfl
  by_cases c146 : ch = (34 : Int32)
  ·
    have g148 := jb X0 hx (jI X0 hx (jA X0 hx (jy X0 hx g147 (hE 49 rfl) rfl (teq c146).1 (pc' := 72) (by decide)) (hE 53 rfl) rfl rfl) (hE 54 rfl) rfl) (hE 55 rfl) 92 rfl
    have zz149 := A0_
    obtain ⟨cl149, Ar149, q149, S149, M149, H149, G149⟩ := zz149
    have in149 : ¬ ((Int32.ofNat ts.length) < 0 ∨ cl149.slots.size ≤ ((Int32.ofNat ts.length)).toNatClampNeg) := inb_of S149 ⟨own_nonneg (by omega), own_lt (b := 40) (by omega) (by decide)⟩
    let lo150 : Array Slot := #[rv e1, iv (Int32.ofNat ts.length), iv ch]
    obtain ⟨T149, h149, X149, e149, W149, st149⟩ := stC X0 hx hZ e0 Ar149 (j := (Int32.ofNat ts.length)) in149 (g := (mkF m 76 lo150 [(.int 92), (.int (Int32.ofNat ts.length)), (.ref e1)])) rfl rfl (hE 56 rfl)
    rw [show nar .char (92 : Int32) = (92 : Int32) from (by decide : nar .char (92 : Int32) = (92 : Int32))] at W149
    have O151 := O0.wr W149 G1_
    have y152 : Arv Z h149 e1 ke .char (40 : Int32) ((own_E ts).set ts.length (.int 92)) (.int 0) := Arv.set Ar149 q149 S149 M149 H149 G149 (own_ft_char (z := (92 : Int32)) (by decide : nar .char (92 : Int32) = (92 : Int32))) W149 ts.length (own_clamp (by omega)) (by rw [own_Elen (by omega)]; omega)
    have N149 := Fr.snoc X149 N0 G1_
    have g153 : Go p e below T149 (mkF m 77 lo150 []) A0 := fun t kont => g148 t (st149 t kont)
    have y154 : Arv Z h149 e1 ke .char (40 : Int32) (own_E (ts ++ [(92 : Int32)])) (.int 0) := by have q := y152; rw [own_Eset (by omega)] at q; exact q
    have g155 := jI X149 hx (jP X149 hx (jc X149 hx (jI X149 hx (jA X149 hx g153 (hE 57 rfl) rfl rfl) (hE 58 rfl) rfl) (hE 59 rfl) 1 rfl) (hE 60 rfl) rfl) (hE 61 rfl) rfl
    have zz156 := y154
    obtain ⟨cl156, Ar156, q156, S156, M156, H156, G156⟩ := zz156
    have in156 : ¬ (((Int32.ofNat ts.length) + (1 : Int32)) < 0 ∨ cl156.slots.size ≤ (((Int32.ofNat ts.length) + (1 : Int32))).toNatClampNeg) := inb_of S156 (by rw [show Int32.ofNat ts.length + (1 : Int32) = Int32.ofNat (ts.length + 1) from (Int32.ofNat_add _ 1).symm]; exact ⟨own_nonneg (by omega), own_lt (b := 40) (by omega) (by decide)⟩)
    obtain ⟨T156, h156, X156, e156, W156, st156⟩ := stC X149 hx hZ e149 Ar156 (j := ((Int32.ofNat ts.length) + (1 : Int32))) in156 (g := (mkF m 82 lo150 [(.int ch), (.int ((Int32.ofNat ts.length) + (1 : Int32))), (.ref e1)])) rfl rfl (hE 62 rfl)
    rw [show nar .char ch = ch from r_ch] at W156
    have O157 := O151.wr W156 G1_
    have y158 : Arv Z h156 e1 ke .char (40 : Int32) ((own_E (ts ++ [(92 : Int32)])).set (ts.length + 1) (.int ch)) (.int 0) := Arv.set Ar156 q156 S156 M156 H156 G156 (own_ft_char (z := ch) r_ch) W156 (ts.length + 1) (by rw [show Int32.ofNat ts.length + (1 : Int32) = Int32.ofNat (ts.length + 1) from (Int32.ofNat_add _ 1).symm]; exact own_clamp (by omega)) (by rw [own_Elen (by rw [List.length_append]; simp only [List.length_cons, List.length_nil]; omega)]; omega)
    have N156 := Fr.snoc X156 N149 G1_
    have g159 : Go p e below T156 (mkF m 83 lo150 []) A0 := fun t kont => g155 t (st156 t kont)
    have y160 : Arv Z h156 e1 ke .char (40 : Int32) (own_E (ts ++ [(92 : Int32), ch])) (.int 0) := by have q := y158; rw [own_EsN (us := [(92 : Int32)]) (k := 1) rfl (by omega)] at q; exact q
    have g161 := jP X156 hx (jc X156 hx (jI X156 hx g159 (hE 63 rfl) rfl) (hE 64 rfl) 2 rfl) (hE 65 rfl) rfl
    have K162 : Keep h0 h156 [e1] := (((Keep.refl h0 [e1]).wr W149 (Or.inl (mi 0 rfl))).wr W156 (Or.inl (mi 0 rfl)))
    refine own_leave X156 Bd (some (.int ((Int32.ofNat ts.length) + (2 : Int32)))) nofun g161 (fun fs hr => retI X156 hx Bd.returns (hE 66 rfl) hr) (by decide) (by decide) ?_
    rw [e156]
    exact ⟨congrArg (fun z => some (Value.int z)) (by rw [own_encB c101 (Or.inl c146), show Int32.ofNat ts.length + (2 : Int32) = Int32.ofNat (ts.length + 2) from (Int32.ofNat_add _ 2).symm, List.length_append]; rfl), N156, K162, (by rw [own_encB c101 (Or.inl c146)]; exact y160)⟩
  have g164 := jb X0 hx (jI X0 hx (jn X0 hx g147 (hE 49 rfl) rfl (feq c146).1) (hE 50 rfl) rfl) (hE 51 rfl) 92 rfl
  by_cases c163 : ch = (92 : Int32)
  ·
    have g165 := jb X0 hx (jI X0 hx (jA X0 hx (jn X0 hx g164 (hE 52 rfl) rfl (teq c163).2) (hE 53 rfl) rfl rfl) (hE 54 rfl) rfl) (hE 55 rfl) 92 rfl
    have zz166 := A0_
    obtain ⟨cl166, Ar166, q166, S166, M166, H166, G166⟩ := zz166
    have in166 : ¬ ((Int32.ofNat ts.length) < 0 ∨ cl166.slots.size ≤ ((Int32.ofNat ts.length)).toNatClampNeg) := inb_of S166 ⟨own_nonneg (by omega), own_lt (b := 40) (by omega) (by decide)⟩
    let lo167 : Array Slot := #[rv e1, iv (Int32.ofNat ts.length), iv ch]
    obtain ⟨T166, h166, X166, e166, W166, st166⟩ := stC X0 hx hZ e0 Ar166 (j := (Int32.ofNat ts.length)) in166 (g := (mkF m 76 lo167 [(.int 92), (.int (Int32.ofNat ts.length)), (.ref e1)])) rfl rfl (hE 56 rfl)
    rw [show nar .char (92 : Int32) = (92 : Int32) from (by decide : nar .char (92 : Int32) = (92 : Int32))] at W166
    have O168 := O0.wr W166 G1_
    have y169 : Arv Z h166 e1 ke .char (40 : Int32) ((own_E ts).set ts.length (.int 92)) (.int 0) := Arv.set Ar166 q166 S166 M166 H166 G166 (own_ft_char (z := (92 : Int32)) (by decide : nar .char (92 : Int32) = (92 : Int32))) W166 ts.length (own_clamp (by omega)) (by rw [own_Elen (by omega)]; omega)
    have N166 := Fr.snoc X166 N0 G1_
    have g170 : Go p e below T166 (mkF m 77 lo167 []) A0 := fun t kont => g165 t (st166 t kont)
    have y171 : Arv Z h166 e1 ke .char (40 : Int32) (own_E (ts ++ [(92 : Int32)])) (.int 0) := by have q := y169; rw [own_Eset (by omega)] at q; exact q
    have g172 := jI X166 hx (jP X166 hx (jc X166 hx (jI X166 hx (jA X166 hx g170 (hE 57 rfl) rfl rfl) (hE 58 rfl) rfl) (hE 59 rfl) 1 rfl) (hE 60 rfl) rfl) (hE 61 rfl) rfl
    have zz173 := y171
    obtain ⟨cl173, Ar173, q173, S173, M173, H173, G173⟩ := zz173
    have in173 : ¬ (((Int32.ofNat ts.length) + (1 : Int32)) < 0 ∨ cl173.slots.size ≤ (((Int32.ofNat ts.length) + (1 : Int32))).toNatClampNeg) := inb_of S173 (by rw [show Int32.ofNat ts.length + (1 : Int32) = Int32.ofNat (ts.length + 1) from (Int32.ofNat_add _ 1).symm]; exact ⟨own_nonneg (by omega), own_lt (b := 40) (by omega) (by decide)⟩)
    obtain ⟨T173, h173, X173, e173, W173, st173⟩ := stC X166 hx hZ e166 Ar173 (j := ((Int32.ofNat ts.length) + (1 : Int32))) in173 (g := (mkF m 82 lo167 [(.int ch), (.int ((Int32.ofNat ts.length) + (1 : Int32))), (.ref e1)])) rfl rfl (hE 62 rfl)
    rw [show nar .char ch = ch from r_ch] at W173
    have O174 := O168.wr W173 G1_
    have y175 : Arv Z h173 e1 ke .char (40 : Int32) ((own_E (ts ++ [(92 : Int32)])).set (ts.length + 1) (.int ch)) (.int 0) := Arv.set Ar173 q173 S173 M173 H173 G173 (own_ft_char (z := ch) r_ch) W173 (ts.length + 1) (by rw [show Int32.ofNat ts.length + (1 : Int32) = Int32.ofNat (ts.length + 1) from (Int32.ofNat_add _ 1).symm]; exact own_clamp (by omega)) (by rw [own_Elen (by rw [List.length_append]; simp only [List.length_cons, List.length_nil]; omega)]; omega)
    have N173 := Fr.snoc X173 N166 G1_
    have g176 : Go p e below T173 (mkF m 83 lo167 []) A0 := fun t kont => g172 t (st173 t kont)
    have y177 : Arv Z h173 e1 ke .char (40 : Int32) (own_E (ts ++ [(92 : Int32), ch])) (.int 0) := by have q := y175; rw [own_EsN (us := [(92 : Int32)]) (k := 1) rfl (by omega)] at q; exact q
    have g178 := jP X173 hx (jc X173 hx (jI X173 hx g176 (hE 63 rfl) rfl) (hE 64 rfl) 2 rfl) (hE 65 rfl) rfl
    have K179 : Keep h0 h173 [e1] := (((Keep.refl h0 [e1]).wr W166 (Or.inl (mi 0 rfl))).wr W173 (Or.inl (mi 0 rfl)))
    refine own_leave X173 Bd (some (.int ((Int32.ofNat ts.length) + (2 : Int32)))) nofun g178 (fun fs hr => retI X173 hx Bd.returns (hE 66 rfl) hr) (by decide) (by decide) ?_
    rw [e173]
    exact ⟨congrArg (fun z => some (Value.int z)) (by rw [own_encB c101 (Or.inr c163), show Int32.ofNat ts.length + (2 : Int32) = Int32.ofNat (ts.length + 2) from (Int32.ofNat_add _ 2).symm, List.length_append]; rfl), N173, K179, (by rw [own_encB c101 (Or.inr c163)]; exact y177)⟩
  have g180 := jI X0 hx (jI X0 hx (jA X0 hx (jy X0 hx g164 (hE 52 rfl) rfl (feq c163).2 (pc' := 87) (by decide)) (hE 67 rfl) rfl rfl) (hE 68 rfl) rfl) (hE 69 rfl) rfl
  have zz181 := A0_
  obtain ⟨cl181, Ar181, q181, S181, M181, H181, G181⟩ := zz181
  have in181 : ¬ ((Int32.ofNat ts.length) < 0 ∨ cl181.slots.size ≤ ((Int32.ofNat ts.length)).toNatClampNeg) := inb_of S181 ⟨own_nonneg (by omega), own_lt (b := 40) (by omega) (by decide)⟩
  let lo182 : Array Slot := #[rv e1, iv (Int32.ofNat ts.length), iv ch]
  obtain ⟨T181, h181, X181, e181, W181, st181⟩ := stC X0 hx hZ e0 Ar181 (j := (Int32.ofNat ts.length)) in181 (g := (mkF m 90 lo182 [(.int ch), (.int (Int32.ofNat ts.length)), (.ref e1)])) rfl rfl (hE 70 rfl)
  rw [show nar .char ch = ch from r_ch] at W181
  have O183 := O0.wr W181 G1_
  have y184 : Arv Z h181 e1 ke .char (40 : Int32) ((own_E ts).set ts.length (.int ch)) (.int 0) := Arv.set Ar181 q181 S181 M181 H181 G181 (own_ft_char (z := ch) r_ch) W181 ts.length (own_clamp (by omega)) (by rw [own_Elen (by omega)]; omega)
  have N181 := Fr.snoc X181 N0 G1_
  have g185 : Go p e below T181 (mkF m 91 lo182 []) A0 := fun t kont => g180 t (st181 t kont)
  have y186 : Arv Z h181 e1 ke .char (40 : Int32) (own_E (ts ++ [ch])) (.int 0) := by have q := y184; rw [own_Eset (by omega)] at q; exact q
  have g187 := jP X181 hx (jc X181 hx (jI X181 hx g185 (hE 71 rfl) rfl) (hE 72 rfl) 1 rfl) (hE 73 rfl) rfl
  have K188 : Keep h0 h181 [e1] := ((Keep.refl h0 [e1]).wr W181 (Or.inl (mi 0 rfl)))
  refine own_leave X181 Bd (some (.int ((Int32.ofNat ts.length) + (1 : Int32)))) nofun g187 (fun fs hr => retI X181 hx Bd.returns (hE 74 rfl) hr) (by decide) (by decide) ?_
  rw [e181]
  exact ⟨congrArg (fun z => some (Value.int z)) (by rw [own_encC c101 c146 c163, show Int32.ofNat ts.length + (1 : Int32) = Int32.ofNat (ts.length + 1) from (Int32.ofNat_add _ 1).symm, List.length_append]; rfl), N181, K188, (by rw [own_encC c101 c146 c163]; exact y186)⟩
theorem pd_47 : parseMethodDescriptor "([CIC)I" = some ⟨[(.array .char), .int, .char], some .int⟩ := by decide +kernel
theorem wd61 (hw : HW a0 Z) : own_wdS a0 Z mN74 method_3_code 3 (some .int) := ⟨hw _ (mi 288 rfl), hw _ (mi 158 rfl), hw _ (mi 289 rfl), by decide⟩
theorem ef_RII4 (m : MethodId) (x0 : Addr) (x1 : Int32) (x2 : Int32)  : entryFrame m #[(.ref x0), (.int x1), (.int x2)] 4 = mkF m 0 #[.val (.ref x0), .val (.int x1), .val (.int x2), .unset] [] := by first | (simp [entryFrame, mkF, argsToLocals, Value.category]; done) | rfl
theorem rm_strC (hw : HW a0 Z) (e1 : Addr) (ke : ClassId) (ts : List Int32) (ch : Int32) (h0 : Heap) (n0 : Nat) (O0 : Old Z n0 h0) (A0_ : Arv Z h0 e1 ke .char (40 : Int32) (own_E ts) (.int 0)) (G1_ : n0 ≤ e1) (hts : ts.length ≤ 28) (h0_ch : ¬ (ch < (0 : Int32))) (h1_ch : ¬ ((65535 : Int32) < ch)) :
    own_M l mN75 (Jvm.Cond.code mN75 method_4_code 4 (some .int)) [] (⟨2, 0, 0, 28⟩ : Room) #[(.ref e1), (.int (Int32.ofNat ts.length)), (.int ch)] Z h0 (fun v h L => v = some (.int (Int32.ofNat (ts ++ own_js [ch]).length)) ∧ Fr n0 L ∧ Keep h0 h [e1] ∧ (Arv Z h e1 ke .char (40 : Int32) (own_E (ts ++ own_js [ch])) (.int 0))) := by
  refine own_open n0 (plainFor_of_name pn_9) (fun m => ef_RII4 m e1 (Int32.ofNat ts.length) ch ) ?_
  intro p e s m below meth c s₁ A0 Bd hx hby hml hown hnm hZ hh X0 e0 N0 g0
  have hE := own_hd hby E55
  have l2 : ((ts ++ [(34 : Int32)]) ++ own_enc ch).length ≤ ts.length + 7 := by have q := own_encl ch; rw [List.length_append, List.length_append]; simp only [List.length_singleton]; omega
  have hjs : ts ++ own_js [ch] = ((ts ++ [(34 : Int32)]) ++ own_enc ch) ++ [34] := by simp [own_js, own_encs]
  have g101 := jb X0 hx (jI X0 hx (jA X0 hx g0 (hE 0 rfl) rfl rfl) (hE 1 rfl) rfl) (hE 2 rfl) 34 rfl
  have zz102 := A0_
  obtain ⟨cl102, Ar102, q102, S102, M102, H102, G102⟩ := zz102
  have in102 : ¬ ((Int32.ofNat ts.length) < 0 ∨ cl102.slots.size ≤ ((Int32.ofNat ts.length)).toNatClampNeg) := inb_of S102 ⟨own_nonneg (by omega), own_lt (b := 40) (by omega) (by decide)⟩
  let lo103 : Array Slot := #[rv e1, iv (Int32.ofNat ts.length), iv ch, .unset]
  obtain ⟨T102, h102, X102, e102, W102, st102⟩ := stC X0 hx hZ e0 Ar102 (j := (Int32.ofNat ts.length)) in102 (g := (mkF m 4 lo103 [(.int 34), (.int (Int32.ofNat ts.length)), (.ref e1)])) rfl rfl (hE 3 rfl)
  rw [show nar .char (34 : Int32) = (34 : Int32) from (by decide : nar .char (34 : Int32) = (34 : Int32))] at W102
  have O104 := O0.wr W102 G1_
  have y105 : Arv Z h102 e1 ke .char (40 : Int32) ((own_E ts).set ts.length (.int 34)) (.int 0) := Arv.set Ar102 q102 S102 M102 H102 G102 (own_ft_char (z := (34 : Int32)) (by decide : nar .char (34 : Int32) = (34 : Int32))) W102 ts.length (own_clamp (by omega)) (by rw [own_Elen (by omega)]; omega)
  have N102 := Fr.snoc X102 N0 G1_
  have g106 : Go p e below T102 (mkF m 5 lo103 []) A0 := fun t kont => g101 t (st102 t kont)
  have y107 : Arv Z h102 e1 ke .char (40 : Int32) (own_E (ts ++ [(34 : Int32)])) (.int 0) := by have q := y105; rw [own_Eset (by omega)] at q; exact q
  have g108 := jP X102 hx (jc X102 hx (jI X102 hx (jA X102 hx g106 (hE 4 rfl) rfl rfl) (hE 5 rfl) rfl) (hE 6 rfl) 1 rfl) (hE 7 rfl) rfl
  have g109 := own_rwS g108 (own_cnt1 ts 34 : ((Int32.ofNat ts.length) + (1 : Int32)) = (Int32.ofNat (ts ++ [(34 : Int32)]).length))
  have g110 := jI X102 hx g109 (hE 8 rfl) rfl
  obtain ⟨_, L111, T111, ⟨rfl, M111, K111, y112⟩, X111, st111⟩ := own_callS X102 hx hZ hown (hw _ (mi 287 rfl)) (wd61 hw) (rm_encC hw e1 ke (ts ++ [(34 : Int32)]) ch h102 n0 O104 y107 G1_ (by rw [List.length_append]; simp only [List.length_singleton]; omega) h0_ch h1_ch) g110 e102 [] rfl (lenOf pd_47 rfl) (hE 9 rfl) hml.symm 0 rfl (by decide)
  have N111 := Fr.app N102 M111
  have O113 := O104.keep K111 (allS G1_ all0)
  have g114 := jb X111 hx (jI X111 hx (jA X111 hx (jS X111 hx st111 (hE 10 rfl) rfl (l' := #[rv e1, iv (Int32.ofNat ts.length), iv ch, iv (Int32.ofNat ((ts ++ [(34 : Int32)]) ++ own_enc ch).length)]) rfl) (hE 11 rfl) rfl rfl) (hE 12 rfl) rfl) (hE 13 rfl) 34 rfl
  have zz115 := y112
  obtain ⟨cl115, Ar115, q115, S115, M115, H115, G115⟩ := zz115
  have in115 : ¬ ((Int32.ofNat ((ts ++ [(34 : Int32)]) ++ own_enc ch).length) < 0 ∨ cl115.slots.size ≤ ((Int32.ofNat ((ts ++ [(34 : Int32)]) ++ own_enc ch).length)).toNatClampNeg) := inb_of S115 ⟨own_nonneg (by omega), own_lt (b := 40) (by omega) (by decide)⟩
  let lo116 : Array Slot := #[rv e1, iv (Int32.ofNat ts.length), iv ch, iv (Int32.ofNat ((ts ++ [(34 : Int32)]) ++ own_enc ch).length)]
  obtain ⟨T115, h115, X115, e115, W115, st115⟩ := stC X111 hx hZ rfl Ar115 (j := (Int32.ofNat ((ts ++ [(34 : Int32)]) ++ own_enc ch).length)) in115 (g := (mkF m 18 lo116 [(.int 34), (.int (Int32.ofNat ((ts ++ [(34 : Int32)]) ++ own_enc ch).length)), (.ref e1)])) rfl rfl (hE 14 rfl)
  rw [show nar .char (34 : Int32) = (34 : Int32) from (by decide : nar .char (34 : Int32) = (34 : Int32))] at W115
  have O117 := O113.wr W115 G1_
  have y118 : Arv Z h115 e1 ke .char (40 : Int32) ((own_E ((ts ++ [(34 : Int32)]) ++ own_enc ch)).set ((ts ++ [(34 : Int32)]) ++ own_enc ch).length (.int 34)) (.int 0) := Arv.set Ar115 q115 S115 M115 H115 G115 (own_ft_char (z := (34 : Int32)) (by decide : nar .char (34 : Int32) = (34 : Int32))) W115 ((ts ++ [(34 : Int32)]) ++ own_enc ch).length (own_clamp (by omega)) (by rw [own_Elen (by omega)]; omega)
  have N115 := Fr.snoc X115 N111 G1_
  have g119 : Go p e below T115 (mkF m 19 lo116 []) A0 := fun t kont => g114 t (st115 t kont)
  have y120 : Arv Z h115 e1 ke .char (40 : Int32) (own_E (((ts ++ [(34 : Int32)]) ++ own_enc ch) ++ [34])) (.int 0) := by have q := y118; rw [own_Eset (by omega)] at q; exact q
  have g121 := jP X115 hx (jc X115 hx (jI X115 hx g119 (hE 15 rfl) rfl) (hE 16 rfl) 1 rfl) (hE 17 rfl) rfl
  have K122 : Keep h0 h115 [e1] := ((((Keep.refl h0 [e1]).wr W102 (Or.inl (mi 0 rfl))).trans K111 (allS (P := fun x => x ∈ [e1] ∨ h0.size ≤ x) (Or.inl (mi 0 rfl)) all0)).wr W115 (Or.inl (mi 0 rfl)))
  refine own_leave X115 Bd (some (.int ((Int32.ofNat ((ts ++ [(34 : Int32)]) ++ own_enc ch).length) + (1 : Int32)))) nofun g121 (fun fs hr => retI X115 hx Bd.returns (hE 18 rfl) hr) (by decide) (by decide) ?_
  rw [e115]
  exact ⟨congrArg (fun z => some (Value.int z)) (by rw [hjs]; exact own_n1), N115, K122, (by rw [hjs]; exact y120)⟩
theorem rm_atC (hw : HW a0 Z) (a1 v1 : Addr) (kv : ClassId) (cd z1 : Int32) (vs : List Value) (e1 : Addr) (ke : ClassId) (ts : List Int32) (i1 : Nat) (cs : Int32) (fm : Value) (h0 : Heap) (n0 : Nat) (O0 : Old Z n0 h0) (F0_ : Fld Z h0 a1 "java/lang/String" "value" "[B" (.ref v1)) (F1_ : Fld Z h0 a1 "java/lang/String" "coder" "B" (.int cd)) (E2_ : Exa Z h0 a1 "java/lang/String") (A3_ : Arv Z h0 v1 kv .byte z1 vs (.int 0)) (hcod : own_cod ts cd z1 vs) (hB : ts.length ≤ 40) (hch : own_chars ts) (A7_ : Arv Z h0 e1 ke .char (40 : Int32) (own_E ts) (.int 0)) (hi40 : i1 < 40) (hW : own_W Z cs fm) :
    own_M l mN76 (Jvm.Cond.code mN76 method_5_code 4 (some .boolean)) [] (⟨5, 0, 0, 66⟩ : Room) #[(.ref a1), (.ref e1), (.int (Int32.ofNat ts.length)), (.int (Int32.ofNat i1))] Z h0 (fun v h L => v = some (.int 1) ∧ Fr n0 L ∧ h = h0) := by
  refine own_open n0 (plainFor_of_name pn_9) (fun m => ef_RRII4 m a1 e1 (Int32.ofNat ts.length) (Int32.ofNat i1) ) ?_
  intro p e s m below meth c s₁ A0 Bd hx hby hml hown hnm hZ hh X0 e0 N0 g0
  obtain ⟨SC_, hcs, SF_, hfm, SU1_, SU2_, SU3_⟩ := id hW
  have hE := own_hd hby E31
  by_cases c101 : i1 < ts.length
  ·
    have g102 := jI X0 hx (jA X0 hx (jn X0 hx (jI X0 hx (jI X0 hx g0 (hE 0 rfl) rfl) (hE 1 rfl) rfl) (hE 2 rfl) rfl (tlt (own_lt c101 (by omega) : (Int32.ofNat i1) < (Int32.ofNat ts.length))).2.1) (hE 3 rfl) rfl rfl) (hE 4 rfl) rfl
    obtain ⟨_, L103, T103, ⟨rfl, M103, e103⟩, X103, st103⟩ := own_callV X0 hx hZ hown (hw _ (mi 160 rfl)) (wd44 hw) (notFace_of_selects (args := #[]) (mvT hZ (hw _ (mi 163 rfl)))) E2_ (rm_chaG hw a1 v1 kv cd z1 vs ts cs i1 fm h0 n0 O0 F0_ F1_ E2_ A3_ (hcod) (hB) (c101) (hch) hW) g102 e0 [] rfl (lenOf pd_33 rfl) (hE 5 rfl) hml.symm 0 rfl (by decide)
    have N103 := Fr.app N0 M103
    have g104 := jI X103 hx (jA X103 hx st103 (hE 6 rfl) rfl rfl) (hE 7 rfl) rfl
    have zz105 := A7_
    obtain ⟨cl105, Ar105, q105, S105, M105, H105, G105⟩ := zz105
    have in105 : ¬ ((Int32.ofNat i1) < 0 ∨ cl105.slots.size ≤ ((Int32.ofNat i1)).toNatClampNeg) := inb_of S105 ⟨own_nonneg (by omega), own_lt (b := 40) (by omega) (by decide)⟩
    have at105 : cl105.slots[((Int32.ofNat i1)).toNatClampNeg]? = some (.int (ts.getD i1 0)) := Has.at H105 in105 (by rw [own_clamp (by omega)]; exact own_Eget c101)
    let lo106 : Array Slot := #[rv a1, rv e1, iv (Int32.ofNat ts.length), iv (Int32.ofNat i1)]
    have g107 : Go p e below T103 (mkF m 13 lo106 [(.int (ts.getD i1 0)), (.int (ts.getD i1 0))]) A0 := fun t kont => g104 t (X103.caload hx (j := (Int32.ofNat i1)) (v := (.int (ts.getD i1 0))) (by rw [e103]; exact Ar105.1) (State.isArrayOf_alike hZ.alike Ar105.2.1) Ar105.2.2 in105 at105 (g := (mkF m 12 lo106 [(.int (Int32.ofNat i1)), (.ref e1), (.int (ts.getD i1 0))])) rfl rfl (hE 8 rfl) t kont)
    have g108 := jg X103 hx (jc X103 hx (jn X103 hx g107 (hE 9 rfl) rfl (teq (rfl : (ts.getD i1 0) = (ts.getD i1 0))).2) (hE 10 rfl) 1 rfl) (hE 11 rfl) (pc' := 21) (by decide)
    refine own_leave X103 Bd (some (.int 1)) nofun g108 (fun fs hr => retN X103 hx (t := .boolean) Bd.returns (by simp) (hE 12 rfl) hr) (by decide) (by decide) ?_
    rw [e103]
    exact ⟨rfl, N103, rfl⟩
  have g109 := jg X0 hx (jc X0 hx (jy X0 hx (jI X0 hx (jI X0 hx g0 (hE 0 rfl) rfl) (hE 1 rfl) rfl) (hE 2 rfl) rfl (flt (own_nlt (Nat.le_of_not_lt c101) (by omega) : ¬ ((Int32.ofNat i1) < (Int32.ofNat ts.length)))).2.1 (pc' := 16) (by decide)) (hE 10 rfl) 1 rfl) (hE 11 rfl) (pc' := 21) (by decide)
  refine own_leave X0 Bd (some (.int 1)) nofun g109 (fun fs hr => retN X0 hx (t := .boolean) Bd.returns (by simp) (hE 12 rfl) hr) (by decide) (by decide) ?_
  rw [e0]
  exact ⟨rfl, N0, rfl⟩
theorem pd_48 : parseMethodDescriptor "(Ljava/lang/String;[CII)Z" = some ⟨[(.object "java/lang/String"), (.array .char), .int, .int], some .boolean⟩ := by decide +kernel
theorem own_at {p : Program} {e : Env} {R : Room} {s : State} {m : MethodId} {args : Array Value} {below : List Frame} {meth : Method} {c : Code} {T : State} {locs : List Loc} {cells slots : Nat} {A0 : State} {h : Heap} {n0 : Nat} {Ls : Array Slot} {a1 v1 e1 : Addr} {kv ke : ClassId} {cd z1 cs : Int32} {vs : List Value} {ts : List Int32} {fm : Value} (hw : HW a0 Z) (X : Stand p l e R s m args below meth c T locs cells slots) (hx : p.tables.exec = Jvm.exec) (hZ : Z.Warmed39 s.vm) (hown : s.vm.findClass "com/example/clear_fault/clearfault/JsonObjectWriterFinishPinLaw" = some m.cls) (O : Old Z n0 h) (E : T.heap = h) (N : Fr n0 locs) (F1 : Fld Z h a1 "java/lang/String" "value" "[B" (.ref v1)) (F2 : Fld Z h a1 "java/lang/String" "coder" "B" (.int cd)) (E1 : Exa Z h a1 "java/lang/String") (A1 : Arv Z h v1 kv .byte z1 vs (.int 0)) (hcod : own_cod ts cd z1 vs) (hB : ts.length ≤ 40) (hch : own_chars ts) (A2 : Arv Z h e1 ke .char (40 : Int32) (own_E ts) (.int 0)) (hW : own_W Z cs fm) {pc k : Nat} (g : Go p e below T (mkF m pc Ls []) A0) (h16 : Ls[16]? = some (.val (.ref a1))) (h17 : Ls[17]? = some (.val (.ref e1))) (h18 : Ls[18]? = some (.val (.int (Int32.ofNat ts.length)))) (hsz : Ls.size = c.maxLocals)
    (hR : 5 + 1 ≤ R.frames ∧ 0 + (4 + 11) + 66 ≤ R.locals ∧ cells + 0 ≤ R.cells ∧ slots + 0 ≤ R.slots) {i1 : Nat} (hi : i1 < 40) (push : ∀ {S : List Value}, Go p e below T (mkF m (pc + 2 + 2 + 2) Ls S) A0 → Go p e below T (mkF m (pc + 2 + 2 + 2 + k) Ls (.int (Int32.ofNat i1) :: S)) A0) (d1 : decode c.code pc = .ok (.aload 16, 2)) (d2 : decode c.code (pc + 2) = .ok (.aload 17, 2)) (d3 : decode c.code (pc + 2 + 2) = .ok (.iload 18, 2)) (d5 : decode c.code (pc + 2 + 2 + 2 + k) = .ok (.invokestatic 51, 3)) {o : Int} (d6 : decode c.code (pc + 2 + 2 + 2 + k + 3) = .ok (.ifCond .eq o, 3)) :
    ∃ T' L', Stand p l e R s m args below meth c T' L' cells slots ∧ T'.heap = h ∧ Fr n0 L' ∧ Go p e below T' (mkF m (pc + 2 + 2 + 2 + k + 3 + 3) Ls []) A0 := by
  have g4 := push (ji X hx (ja X hx (ja X hx g d1 h16 rfl) d2 h17 rfl) d3 h18)
  obtain ⟨_, L, T', ⟨rfl, M, e'⟩, X', st⟩ := own_callS X hx hZ hown (hw _ (mi 156 rfl)) ⟨hw _ (mi 157 rfl), hw _ (mi 158 rfl), hw _ (mi 159 rfl), by decide⟩ (rm_atC hw _ _ _ _ _ _ _ _ _ i1 _ _ h n0 O F1 F2 E1 A1 hcod hB hch A2 hi hW) g4 E [] rfl (lenOf pd_48 rfl) d5 hsz 0 rfl hR
  exact ⟨T', _, X', e', Fr.app N M, jN X' hx st d6 rfl (by decide)⟩
theorem pd_49 : parseMethodDescriptor "(C)Ljava/lang/String;" = some ⟨[.char], some (.object "java/lang/String")⟩ := by decide +kernel
theorem wd62 (hw : HW a0 Z) : own_wdS a0 Z mN72 jdk_42_method_139_code 1 (some (.object "java/lang/String")) := ⟨hw _ (mi 2 rfl), hw _ (mi 3 rfl), hw _ (mi 4 rfl), by decide⟩
theorem pd_50 : parseMethodDescriptor "([C)V" = some ⟨[(.array .char)], none⟩ := by decide +kernel
theorem wd63 (hw : HW a0 Z) : own_wdI a0 Z mN12 jdk_42_method_3_code 2 := ⟨hw _ (mi 30 rfl), hw _ (mi 3 rfl), hw _ (mi 31 rfl), by decide, rfl⟩
theorem wd64 (hw : HW a0 Z) : own_wdI a0 Z mN66 prog_13_method_1_code 1 := ⟨hw _ (mi 49 rfl), hw _ (mi 47 rfl), hw _ (mi 50 rfl), by decide, rfl⟩
theorem pd_51 : parseMethodDescriptor "(Ljava/lang/String;Ljava/lang/String;)Lcom/example/clear_fault/clearfault/JsonObjectWriter;" = some ⟨[(.object "java/lang/String"), (.object "java/lang/String")], some (.object "com/example/clear_fault/clearfault/JsonObjectWriter")⟩ := by decide +kernel
theorem pd_52 : parseMethodDescriptor "(Ljava/lang/String;I)Lcom/example/clear_fault/clearfault/JsonObjectWriter;" = some ⟨[(.object "java/lang/String"), .int], some (.object "com/example/clear_fault/clearfault/JsonObjectWriter")⟩ := by decide +kernel
theorem wd65 (hw : HW a0 Z) : own_wdV a0 Z "com/example/clear_fault/clearfault/JsonObjectWriter" mN70 mN70 prog_13_method_6_code 1 (some (.object "java/lang/String")) := ⟨hw _ (mi 98 rfl), hw _ (mi 100 rfl), hw _ (mi 99 rfl), hw _ (mi 47 rfl), hw _ (mi 101 rfl), by decide⟩
theorem wd66 (hw : HW a0 Z) : own_wdS a0 Z mN75 method_4_code 4 (some .int) := ⟨hw _ (mi 285 rfl), hw _ (mi 158 rfl), hw _ (mi 286 rfl), by decide⟩
theorem ef_IIIIIL (m : MethodId) (x0 : Int32) (x1 : Int32) (x2 : Int32) (x3 : Int32) (x4 : Int32)  : entryFrame m #[(.int x0), (.int x1), (.int x2), (.int x3), (.int x4)] maxLocals = mkF m 0 #[.val (.int x0), .val (.int x1), .val (.int x2), .val (.int x3), .val (.int x4), .unset, .unset, .unset, .unset, .unset, .unset, .unset, .unset, .unset, .unset, .unset, .unset, .unset, .unset] [] := by first | (simp [entryFrame, mkF, argsToLocals, Value.category, maxLocals]; done) | rfl
def Q_law (Z : State) (q1 q2 q3 q4 q5 : Int32) (hx1 : Addr) (kx : ClassId) (hxs : List Value) (dg : Addr) (kg : ClassId) (dgs : List Value) (fi : Value) (cs : Int32) (fm : Value) (h0 : Heap) (n0 : Nat) (v : Option Value) (h : Heap) (L : List Loc) : Prop := v = some (.int 1) ∧ Fr n0 L
theorem rm_law (hw : HW a0 Z) (ws : List Jvm.Cond) (q1 q2 q3 q4 q5 : Int32) (hx1 : Addr) (kx : ClassId) (hxs : List Value) (dg : Addr) (kg : ClassId) (dgs : List Value) (fi : Value) (cs : Int32) (fm : Value) (h0 : Heap) (n0 : Nat) (O0 : Old Z n0 h0) (S0_ : Sta Z Z.heap "com/example/clear_fault/clearfault/JsonObjectWriter" "HEX" "[C" (.ref hx1)) (ZA1_ : Arv Z Z.heap hx1 kx .char (16 : Int32) hxs (.int 0)) (hhx : ∀ i, i < 16 → hxs.getD i (.int 0) = .int (own_hexn i)) (S3_ : Sta Z Z.heap "java/lang/Integer" "DigitOnes" "[B" (.ref dg)) (ZA4_ : Arv Z Z.heap dg kg .byte (100 : Int32) dgs (.int 0)) (hdg : ∀ i, i < 10 → dgs.getD i (.int 0) = .int (Int32.ofNat (48 + i))) (S6_ : Sta Z Z.heap "jdk/internal/util/Preconditions" "IOOBE_FORMATTER" "Ljava/util/function/BiFunction;" fi) (hfi : fi.isRef = true) (hW : own_W Z cs fm) :
    MetFree l x (head1 (Jvm.Cond.code x code maxLocals ret :: ws) room_1) (fun a U => a = #[(.int q1), (.int q2), (.int q3), (.int q4), (.int q5)] ∧ Z.Warmed39 U.vm ∧ U.heap = h0 ∧ CHv Z consts_1 U.vm h0) (fun _ _ _ _ _ => True) (fun _ U o U' => ∃ v L, o = .returned v ∧ Q_law Z q1 q2 q3 q4 q5 hx1 kx hxs dg kg dgs fi cs fm h0 n0 v U'.heap L ∧ CHr Z consts_1 U.vm U.heap U'.vm U'.heap ∧ ReturnedEndW U o U' L room_1.cells room_1.slots) := by
  refine MetFree.of_bodySF (plainFor_of_name pn_9) hisR ?_
  intro p e s m args below meth c s₁ Bd hml0 hP hK
  obtain ⟨rfl, hZ, hh, hC0⟩ := hP
  have hx := Bd.exec
  have hby := Bd.bytes
  have hml : c.maxLocals = 19 := hml0
  have hown : s.vm.findClass "com/example/clear_fault/clearfault/JsonObjectWriterFinishPinLaw" = some m.cls := findClass_of_methodNamed Bd.named
  have hnm := (name_of_methodNamed Bd.named Bd.method).1
  have X0 : Stand p l e room_1 (s.setVm s.vm) m #[(.int q1), (.int q2), (.int q3), (.int q4), (.int q5)] below meth c s₁ [] 0 0 := Stand.of_body Bd
  have e0 : s₁.heap = h0 := by rw [← hh, Bd.state]; rfl
  have N0 := Fr.nil n0
  have hS : s.Since s.vm 0 := (State.WarmedH.refl s).since 0
  have hk : 0 ≤ h0.size := Nat.zero_le _
  have hZ : Z.Warmed39 (s.setVm s.vm).vm := hZ
  have hown : (s.setVm s.vm).vm.findClass "com/example/clear_fault/clearfault/JsonObjectWriterFinishPinLaw" = some m.cls := hown
  have R0 : CHr Z consts_1 s.vm h0 s.vm h0 := CHr.refl hC0
  have g0 : Go p e below s₁ (mkF m 0 #[iv q1, iv q2, iv q3, iv q4, iv q5, .unset, .unset, .unset, .unset, .unset, .unset, .unset, .unset, .unset, .unset, .unset, .unset, .unset, .unset] []) (s₁.setTop (entryFrame m #[(.int q1), (.int q2), (.int q3), (.int q4), (.int q5)] maxLocals)) := fun t kont => castTop (ef_IIIIIL m q1 q2 q3 q4 q5 ) kont
  generalize s₁.setTop (entryFrame m #[(.int q1), (.int q2), (.int q3), (.int q4), (.int q5)] maxLocals) = A0 at g0 ⊢
  obtain ⟨SC_, hcs, SF_, hfm, SU1_, SU2_, SU3_⟩ := id hW
  let lo101 : Array Slot := #[iv q1, iv q2, iv q3, iv q4, iv q5, .unset, .unset, .unset, .unset, .unset, .unset, .unset, .unset, .unset, .unset, .unset, .unset, .unset, .unset]
  have g102 := js X0 hx (jz X0 hx (jB X0 hx (show Go p e below s₁ (mkF m 3 #[iv q1, iv q2, iv q3, iv q4, iv q5, .unset, .unset, .unset, .unset, .unset, .unset, .unset, .unset, .unset, .unset, .unset, .unset, .unset, .unset] [(.int 65535), (.int q1)]) A0 from fun t kt => (jI X0 hx g0 (hb hby at_0) rfl) t (by refine X0.ldcInt hx hown (mvT hZ (hw _ (mi 0 rfl))) (g := (mkF m 1 lo101 [(.int q1)])) rfl (hb hby at_1) _ ?_; exact kt)) (hb hby at_3) rfl) (hb hby at_4) rfl) (hb hby at_5) rfl (l' := #[iv q1, iv q2, iv q3, iv q4, iv q5, iv ((q1 &&& (65535 : Int32)).toUInt32.toUInt16.toUInt32.toInt32), .unset, .unset, .unset, .unset, .unset, .unset, .unset, .unset, .unset, .unset, .unset, .unset, .unset]) rfl
  obtain ⟨cn1, e_cn1⟩ : ∃ z, z = ((q1 &&& (65535 : Int32)).toUInt32.toUInt16.toUInt32.toInt32) := ⟨_, rfl⟩
  have g103 : Go p e below s₁ (mkF m 7 #[iv q1, iv q2, iv q3, iv q4, iv q5, iv cn1, .unset, .unset, .unset, .unset, .unset, .unset, .unset, .unset, .unset, .unset, .unset, .unset, .unset] []) A0 := by rw [e_cn1]; exact g102
  have z_cn1 : ¬ (cn1 < (0 : Int32)) := by rw [e_cn1]; exact own_i2c0 _
  have y_cn1 : ¬ ((65535 : Int32) < cn1) := by rw [e_cn1]; exact own_i2c1 _
  have r_cn1 : nar .char cn1 = cn1 := by rw [e_cn1]; exact own_narc _
  let lo104 : Array Slot := #[iv q1, iv q2, iv q3, iv q4, iv q5, iv cn1, .unset, .unset, .unset, .unset, .unset, .unset, .unset, .unset, .unset, .unset, .unset, .unset, .unset]
  have g105 := js X0 hx (jz X0 hx (jB X0 hx (show Go p e below s₁ (mkF m 10 #[iv q1, iv q2, iv q3, iv q4, iv q5, iv cn1, .unset, .unset, .unset, .unset, .unset, .unset, .unset, .unset, .unset, .unset, .unset, .unset, .unset] [(.int 65535), (.int q2)]) A0 from fun t kt => (jI X0 hx g103 (hb hby at_7) rfl) t (by refine X0.ldcInt hx hown (mvT hZ (hw _ (mi 0 rfl))) (g := (mkF m 8 lo104 [(.int q2)])) rfl (hb hby at_8) _ ?_; exact kt)) (hb hby at_10) rfl) (hb hby at_11) rfl) (hb hby at_12) rfl (l' := #[iv q1, iv q2, iv q3, iv q4, iv q5, iv cn1, iv ((q2 &&& (65535 : Int32)).toUInt32.toUInt16.toUInt32.toInt32), .unset, .unset, .unset, .unset, .unset, .unset, .unset, .unset, .unset, .unset, .unset, .unset]) rfl
  obtain ⟨ca, e_ca⟩ : ∃ z, z = ((q2 &&& (65535 : Int32)).toUInt32.toUInt16.toUInt32.toInt32) := ⟨_, rfl⟩
  have g106 : Go p e below s₁ (mkF m 14 #[iv q1, iv q2, iv q3, iv q4, iv q5, iv cn1, iv ca, .unset, .unset, .unset, .unset, .unset, .unset, .unset, .unset, .unset, .unset, .unset, .unset] []) A0 := by rw [e_ca]; exact g105
  have z_ca : ¬ (ca < (0 : Int32)) := by rw [e_ca]; exact own_i2c0 _
  have y_ca : ¬ ((65535 : Int32) < ca) := by rw [e_ca]; exact own_i2c1 _
  have r_ca : nar .char ca = ca := by rw [e_ca]; exact own_narc _
  let lo107 : Array Slot := #[iv q1, iv q2, iv q3, iv q4, iv q5, iv cn1, iv ca, .unset, .unset, .unset, .unset, .unset, .unset, .unset, .unset, .unset, .unset, .unset, .unset]
  have g108 := js X0 hx (jz X0 hx (jB X0 hx (show Go p e below s₁ (mkF m 20 #[iv q1, iv q2, iv q3, iv q4, iv q5, iv cn1, iv ca, .unset, .unset, .unset, .unset, .unset, .unset, .unset, .unset, .unset, .unset, .unset, .unset] [(.int 65535), (.int ((q2.toUInt32 >>> ((16 : Int32) &&& 31).toUInt32).toInt32))]) A0 from fun t kt => (show Go p e below s₁ (mkF m 18 #[iv q1, iv q2, iv q3, iv q4, iv q5, iv cn1, iv ca, .unset, .unset, .unset, .unset, .unset, .unset, .unset, .unset, .unset, .unset, .unset, .unset] [(.int ((q2.toUInt32 >>> ((16 : Int32) &&& 31).toUInt32).toInt32))]) A0 from fun t kt => (jb X0 hx (jI X0 hx g106 (hb hby at_14) rfl) (hb hby at_15) 16 rfl) t (by refine XS.iushr X0.here hx rfl (hb hby at_17) rfl ?_; exact kt)) t (by refine X0.ldcInt hx hown (mvT hZ (hw _ (mi 0 rfl))) (g := (mkF m 18 lo107 [(.int ((q2.toUInt32 >>> ((16 : Int32) &&& 31).toUInt32).toInt32))])) rfl (hb hby at_18) _ ?_; exact kt)) (hb hby at_20) rfl) (hb hby at_21) rfl) (hb hby at_22) rfl (l' := #[iv q1, iv q2, iv q3, iv q4, iv q5, iv cn1, iv ca, iv ((((q2.toUInt32 >>> ((16 : Int32) &&& 31).toUInt32).toInt32) &&& (65535 : Int32)).toUInt32.toUInt16.toUInt32.toInt32), .unset, .unset, .unset, .unset, .unset, .unset, .unset, .unset, .unset, .unset, .unset]) rfl
  obtain ⟨cb, e_cb⟩ : ∃ z, z = ((((q2.toUInt32 >>> ((16 : Int32) &&& 31).toUInt32).toInt32) &&& (65535 : Int32)).toUInt32.toUInt16.toUInt32.toInt32) := ⟨_, rfl⟩
  have g109 : Go p e below s₁ (mkF m 24 #[iv q1, iv q2, iv q3, iv q4, iv q5, iv cn1, iv ca, iv cb, .unset, .unset, .unset, .unset, .unset, .unset, .unset, .unset, .unset, .unset, .unset] []) A0 := by rw [e_cb]; exact g108
  have z_cb : ¬ (cb < (0 : Int32)) := by rw [e_cb]; exact own_i2c0 _
  have y_cb : ¬ ((65535 : Int32) < cb) := by rw [e_cb]; exact own_i2c1 _
  have r_cb : nar .char cb = cb := by rw [e_cb]; exact own_narc _
  let lo110 : Array Slot := #[iv q1, iv q2, iv q3, iv q4, iv q5, iv cn1, iv ca, iv cb, .unset, .unset, .unset, .unset, .unset, .unset, .unset, .unset, .unset, .unset, .unset]
  have g111 := js X0 hx (jz X0 hx (jB X0 hx (show Go p e below s₁ (mkF m 27 #[iv q1, iv q2, iv q3, iv q4, iv q5, iv cn1, iv ca, iv cb, .unset, .unset, .unset, .unset, .unset, .unset, .unset, .unset, .unset, .unset, .unset] [(.int 65535), (.int q3)]) A0 from fun t kt => (jI X0 hx g109 (hb hby at_24) rfl) t (by refine X0.ldcInt hx hown (mvT hZ (hw _ (mi 0 rfl))) (g := (mkF m 25 lo110 [(.int q3)])) rfl (hb hby at_25) _ ?_; exact kt)) (hb hby at_27) rfl) (hb hby at_28) rfl) (hb hby at_29) rfl (l' := #[iv q1, iv q2, iv q3, iv q4, iv q5, iv cn1, iv ca, iv cb, iv ((q3 &&& (65535 : Int32)).toUInt32.toUInt16.toUInt32.toInt32), .unset, .unset, .unset, .unset, .unset, .unset, .unset, .unset, .unset, .unset]) rfl
  obtain ⟨cn2, e_cn2⟩ : ∃ z, z = ((q3 &&& (65535 : Int32)).toUInt32.toUInt16.toUInt32.toInt32) := ⟨_, rfl⟩
  have g112 : Go p e below s₁ (mkF m 31 #[iv q1, iv q2, iv q3, iv q4, iv q5, iv cn1, iv ca, iv cb, iv cn2, .unset, .unset, .unset, .unset, .unset, .unset, .unset, .unset, .unset, .unset] []) A0 := by rw [e_cn2]; exact g111
  have z_cn2 : ¬ (cn2 < (0 : Int32)) := by rw [e_cn2]; exact own_i2c0 _
  have y_cn2 : ¬ ((65535 : Int32) < cn2) := by rw [e_cn2]; exact own_i2c1 _
  have r_cn2 : nar .char cn2 = cn2 := by rw [e_cn2]; exact own_narc _
  have g113 := js X0 hx (show Go p e below s₁ (mkF m 35 #[iv q1, iv q2, iv q3, iv q4, iv q5, iv cn1, iv ca, iv cb, iv cn2, .unset, .unset, .unset, .unset, .unset, .unset, .unset, .unset, .unset, .unset] [(.int (q4 % (10 : Int32)))]) A0 from fun t kt => (jb X0 hx (jI X0 hx g112 (hb hby at_31) rfl) (hb hby at_32) 10 rfl) t (by refine iremM X0 hx rfl (hb hby at_34) rfl (by decide) ?_; exact kt)) (hb hby at_35) rfl (l' := #[iv q1, iv q2, iv q3, iv q4, iv q5, iv cn1, iv ca, iv cb, iv cn2, iv (q4 % (10 : Int32)), .unset, .unset, .unset, .unset, .unset, .unset, .unset, .unset, .unset]) rfl
  obtain ⟨rq, e_rq⟩ : ∃ z, z = (q4 % (10 : Int32)) := ⟨_, rfl⟩
  have g114 : Go p e below s₁ (mkF m 37 #[iv q1, iv q2, iv q3, iv q4, iv q5, iv cn1, iv ca, iv cb, iv cn2, iv rq, .unset, .unset, .unset, .unset, .unset, .unset, .unset, .unset, .unset] []) A0 := by rw [e_rq]; exact g113
  obtain ⟨ds, hrd⟩ : ∃ ds, own_rd rq ds := by rw [e_rq]; exact own_rem10 _
  have g115 := jB X0 hx (jc X0 hx (ji X0 hx g114 (hb hby at_37) rfl) (hb hby at_39) 1 rfl) (hb hby at_40) rfl
  obtain ⟨hs, T116, lc116, X116, e116, N116, g116⟩ : ∃ hs : Int32, ∃ (T116 : State) (lc116 : List Loc), Stand p l e room_1 (s.setVm s.vm) m #[(.int q1), (.int q2), (.int q3), (.int q4), (.int q5)] below meth c T116 lc116 0 0 ∧ T116.heap = h0 ∧ Fr n0 lc116 ∧ Go p e below T116 (mkF m 49 #[iv q1, iv q2, iv q3, iv q4, iv q5, iv cn1, iv ca, iv cb, iv cn2, iv rq, .unset, .unset, .unset, .unset, .unset, .unset, .unset, .unset, .unset] [(.int hs)]) A0 := by
    by_cases c117 : (q5 &&& (1 : Int32)) = (0 : Int32)
    ·
      have g118 := jc X0 hx (jY X0 hx g115 (hb hby at_41) rfl ((if0 _ _).trans (teq c117).1) (pc' := 48) (by decide)) (hb hby at_48) 0 rfl
      exact ⟨(0 : Int32), _, _, X0, e0, N0, g118⟩
    have g119 := jg X0 hx (jc X0 hx (jN X0 hx g115 (hb hby at_41) rfl ((if0 _ _).trans (feq c117).1)) (hb hby at_44) 1 rfl) (hb hby at_45) (pc' := 49) (by decide)
    exact ⟨(1 : Int32), _, _, X0, e0, N0, g119⟩
  have g120 := jB X116 hx (jc X116 hx (ji X116 hx (js X116 hx g116 (hb hby at_49) rfl (l' := #[iv q1, iv q2, iv q3, iv q4, iv q5, iv cn1, iv ca, iv cb, iv cn2, iv rq, iv hs, .unset, .unset, .unset, .unset, .unset, .unset, .unset, .unset]) rfl) (hb hby at_51) rfl) (hb hby at_53) 2 rfl) (hb hby at_54) rfl
  obtain ⟨hi, T121, lc121, X121, e121, N121, g121⟩ : ∃ hi : Int32, ∃ (T121 : State) (lc121 : List Loc), Stand p l e room_1 (s.setVm s.vm) m #[(.int q1), (.int q2), (.int q3), (.int q4), (.int q5)] below meth c T121 lc121 0 0 ∧ T121.heap = h0 ∧ Fr n0 lc121 ∧ Go p e below T121 (mkF m 63 #[iv q1, iv q2, iv q3, iv q4, iv q5, iv cn1, iv ca, iv cb, iv cn2, iv rq, iv hs, .unset, .unset, .unset, .unset, .unset, .unset, .unset, .unset] [(.int hi)]) A0 := by
    by_cases c122 : (q5 &&& (2 : Int32)) = (0 : Int32)
    ·
      have g123 := jc X116 hx (jY X116 hx g120 (hb hby at_55) rfl ((if0 _ _).trans (teq c122).1) (pc' := 62) (by decide)) (hb hby at_62) 0 rfl
      exact ⟨(0 : Int32), _, _, X116, e116, N116, g123⟩
    have g124 := jg X116 hx (jc X116 hx (jN X116 hx g120 (hb hby at_55) rfl ((if0 _ _).trans (feq c122).1)) (hb hby at_58) 1 rfl) (hb hby at_59) (pc' := 63) (by decide)
    exact ⟨(1 : Int32), _, _, X116, e116, N116, g124⟩
  have g125 := ji X121 hx (js X121 hx g121 (hb hby at_63) rfl (l' := #[iv q1, iv q2, iv q3, iv q4, iv q5, iv cn1, iv ca, iv cb, iv cn2, iv rq, iv hs, iv hi, .unset, .unset, .unset, .unset, .unset, .unset, .unset]) rfl) (hb hby at_65) rfl
  obtain ⟨_, L126, T126, ⟨r127, r128, r129, r130, r131, r132, rfl, M126, K126, y133, y134, y135, y136, y137, y138, y139⟩, X126, st126⟩ := own_callS X121 hx hZ hown (hw _ (mi 1 rfl)) (wd62 hw) (rm_valN hw cn1 cs fm h0 n0 O0 z_cn1 hW) g125 e121 [] rfl (lenOf pd_49 rfl) (hb hby at_67) hml.symm 0 rfl (by decide)
  have N126 := Fr.app N121 M126
  have R140 : CHr Z consts_1 s.vm h0 s.vm T126.heap := R0.trans (CHr.keep K126 sf0 R0.1)
  have O141 := O0.keep K126 all0
  have g142 := jt X126 hx st126 (hb hby at_70) rfl rfl (l' := #[iv q1, iv q2, iv q3, iv q4, iv q5, iv cn1, iv ca, iv cb, iv cn2, iv rq, iv hs, iv hi, rv r127, .unset, .unset, .unset, .unset, .unset, .unset]) rfl
  let lo144 : Array Slot := #[iv q1, iv q2, iv q3, iv q4, iv q5, iv cn1, iv ca, iv cb, iv cn2, iv rq, iv hs, iv hi, rv r127, .unset, .unset, .unset, .unset, .unset, .unset]
  obtain ⟨T143, h143, X143, e143, E143, A143, D143, -, st143⟩ := newO X126 hx hZ hown (hw _ (mi 27 rfl)) (hw _ (mi 11 rfl)) (hw _ (mi 3 rfl)) rfl (g := (mkF m 72 lo144 [])) rfl (hb hby at_72) (by decide) (by decide)
  obtain ⟨b143, gb143⟩ : ∃ z, z = T126.heap.size := ⟨_, rfl⟩
  rw [← gb143] at A143 D143 st143
  have R145 : CHr Z consts_1 s.vm h0 s.vm h143 := R140.trans (CHr.ext E143 R140.1)
  have O146 := O141.ext E143
  have y147 : Fld Z h143 b143 "java/lang/String" "value" "[B" .null := D143 (Or.inr (hw _ (mi 24 rfl))) (ty := (.array .byte)) (by decide)
  have y148 : Fld Z h143 b143 "java/lang/String" "coder" "B" (.int 0) := D143 (Or.inr (hw _ (mi 26 rfl))) (ty := .byte) (by decide)
  have g149 : Go p e below T143 (mkF m 75 lo144 [(.ref b143)]) A0 := fun t kont => g142 t (st143 t kont)
  have g150 := jc X143 hx (jd X143 hx g149 (hb hby at_75) rfl rfl) (hb hby at_76) 2 rfl
  obtain ⟨T151, h151, k151, X151, e151, E151, A151, F151, st151⟩ := newPE X143 hx hZ (hw _ (mi 28 rfl)) e143 (g := (mkF m 77 lo144 [(.int 2), (.ref b143), (.ref b143)])) rfl (hb hby at_77) rfl (by decide) (cap := 2) (by decide) (by decide) (by decide) (by decide) (ad := "[C") (by decide)
  obtain ⟨b151, gb151⟩ : ∃ z, z = h143.size := ⟨_, rfl⟩
  rw [← gb151] at A151 F151 st151
  have R152 : CHr Z consts_1 s.vm h0 s.vm h151 := R145.trans (CHr.ext E151 R145.1)
  have O153 := O146.ext E151
  have y154 : Arv Z h151 b151 k151 .char (2 : Int32) [(.int 0), (.int 0)] (.int 0) := (Arv.new A151 (by decide)).pad (pad_rep [] (.int 0) 2)
  have g155 : Go p e below T151 (mkF m 79 lo144 [(.ref b151), (.ref b143), (.ref b143)]) A0 := fun t kont => g150 t (st151 t kont)
  have g156 := ji X151 hx (jc X151 hx (jd X151 hx g155 (hb hby at_79) rfl rfl) (hb hby at_80) 0 rfl) (hb hby at_81) rfl
  have ge158 : n0 ≤ b151 := Nat.le_trans (own_old_le O146) (Nat.le_of_eq gb151.symm)
  have zz157 := y154
  obtain ⟨cl157, Ar157, q157, S157, M157, H157, G157⟩ := zz157
  have in157 : ¬ ((0 : Int32) < 0 ∨ cl157.slots.size ≤ ((0 : Int32)).toNatClampNeg) := inb_of S157 ⟨by decide, by decide⟩
  obtain ⟨T157, h157, X157, e157, W157, st157⟩ := stC X151 hx hZ e151 Ar157 (j := (0 : Int32)) in157 (g := (mkF m 83 lo144 [(.int ca), (.int 0), (.ref b151), (.ref b151), (.ref b143), (.ref b143)])) rfl rfl (hb hby at_83)
  rw [show nar .char ca = ca from r_ca] at W157
  have R159 : CHr Z consts_1 s.vm h0 s.vm h157 := R152.trans (CHr.wr W157 (Safe.ext E151 R145.1 (Safe.new (Nat.le_of_eq gb151.symm))) R152.1)
  have O160 := O153.wr W157 ge158
  have y161 : Arv Z h157 b151 k151 .char (2 : Int32) [(.int ca), (.int 0)] (.int 0) := Arv.set Ar157 q157 S157 M157 H157 G157 (own_ft_char (z := ca) r_ca) W157 0 rfl (Nat.le_of_ble_eq_true rfl)
  have N157 := Fr.snoc X157 N126 ge158
  have g162 : Go p e below T157 (mkF m 84 lo144 [(.ref b151), (.ref b143), (.ref b143)]) A0 := fun t kont => g156 t (st157 t kont)
  have g163 := ji X157 hx (jc X157 hx (jd X157 hx g162 (hb hby at_84) rfl rfl) (hb hby at_85) 1 rfl) (hb hby at_86) rfl
  have zz164 := y161
  obtain ⟨cl164, Ar164, q164, S164, M164, H164, G164⟩ := zz164
  have in164 : ¬ ((1 : Int32) < 0 ∨ cl164.slots.size ≤ ((1 : Int32)).toNatClampNeg) := inb_of S164 ⟨by decide, by decide⟩
  obtain ⟨T164, h164, X164, e164, W164, st164⟩ := stC X157 hx hZ e157 Ar164 (j := (1 : Int32)) in164 (g := (mkF m 88 lo144 [(.int cb), (.int 1), (.ref b151), (.ref b151), (.ref b143), (.ref b143)])) rfl rfl (hb hby at_88)
  rw [show nar .char cb = cb from r_cb] at W164
  have sf166 : Safe Z consts_1 s.vm h157 b151 := (Safe.wr W157 (Safe.ext E151 R145.1 (Safe.new (Nat.le_of_eq gb151.symm))) R152.1 (Safe.ext E151 R145.1 (Safe.new (Nat.le_of_eq gb151.symm))))
  have R165 : CHr Z consts_1 s.vm h0 s.vm h164 := R159.trans (CHr.wr W164 sf166 R159.1)
  have O167 := O160.wr W164 ge158
  have y168 : Arv Z h164 b151 k151 .char (2 : Int32) [(.int ca), (.int cb)] (.int 0) := Arv.set Ar164 q164 S164 M164 H164 G164 (own_ft_char (z := cb) r_cb) W164 1 rfl (Nat.le_of_ble_eq_true rfl)
  have N164 := Fr.snoc X164 N157 ge158
  have g169 : Go p e below T164 (mkF m 89 lo144 [(.ref b151), (.ref b143), (.ref b143)]) A0 := fun t kont => g163 t (st164 t kont)
  have y171 := (((y147.ext E151).other W157 (Or.inl (Nat.ne_of_lt (Nat.lt_of_lt_of_le A143.lt (Nat.le_of_eq gb151.symm))))).other W164 (Or.inl (Nat.ne_of_lt (Nat.lt_of_lt_of_le A143.lt (Nat.le_of_eq gb151.symm)))))
  have y172 := (((y148.ext E151).other W157 (Or.inl (Nat.ne_of_lt (Nat.lt_of_lt_of_le A143.lt (Nat.le_of_eq gb151.symm))))).other W164 (Or.inl (Nat.ne_of_lt (Nat.lt_of_lt_of_le A143.lt (Nat.le_of_eq gb151.symm)))))
  have y173 := (((A143.ext E151).wr W157).wr W164)
  have ge174 : n0 ≤ b143 := Nat.le_trans (own_old_le O141) (Nat.le_of_eq gb143.symm)
  obtain ⟨_, L170, T170, ⟨r175, r176, r177, r178, r179, rfl, M170, K170, y180, y181, y182, y183, y184, y185⟩, X170, st170⟩ := own_callI X164 hx hZ hown (hw _ (mi 29 rfl)) (wd63 hw) (rm_sIniG hw b143 b151 k151 [ca, cb] cs fm h164 n0 O167 y171 y172 y173 ge174 y168 (by simp) (by simp) ((own_ccons ⟨z_ca, y_ca⟩ (own_ccons ⟨z_cb, y_cb⟩ own_cnil))) hW) g169 e164 [(.ref b143)] rfl (lenOf pd_50 rfl) (hb hby at_89) hml.symm 1 rfl (by decide)
  have N170 := Fr.app N164 M170
  have sf187 : Safe Z consts_1 s.vm h164 b143 := (Safe.wr W164 sf166 R159.1 (Safe.wr W157 (Safe.ext E151 R145.1 (Safe.new (Nat.le_of_eq gb151.symm))) R152.1 (Safe.ext E151 R145.1 (Safe.ext E143 R140.1 (Safe.new (Nat.le_of_eq gb143.symm))))))
  have R186 : CHr Z consts_1 s.vm h0 s.vm T170.heap := R165.trans (CHr.keep K170 (sfS sf187 sf0) R165.1)
  have O188 := O167.keep K170 (allS ge174 all0)
  have g189 := ji X170 hx (jt X170 hx st170 (hb hby at_92) rfl rfl (l' := #[iv q1, iv q2, iv q3, iv q4, iv q5, iv cn1, iv ca, iv cb, iv cn2, iv rq, iv hs, iv hi, rv r127, rv b143, .unset, .unset, .unset, .unset, .unset]) rfl) (hb hby at_94) rfl
  obtain ⟨_, L190, T190, ⟨r191, r192, r193, r194, r195, r196, rfl, M190, K190, y197, y198, y199, y200, y201, y202, y203⟩, X190, st190⟩ := own_callS X170 hx hZ hown (hw _ (mi 1 rfl)) (wd62 hw) (rm_valN hw cn2 cs fm T170.heap n0 O188 z_cn2 hW) g189 rfl [] rfl (lenOf pd_49 rfl) (hb hby at_96) hml.symm 0 rfl (by decide)
  have N190 := Fr.app N170 M190
  have R204 : CHr Z consts_1 s.vm h0 s.vm T190.heap := R186.trans (CHr.keep K190 sf0 R186.1)
  have O205 := O188.keep K190 all0
  have g206 := jt X190 hx st190 (hb hby at_99) rfl rfl (l' := #[iv q1, iv q2, iv q3, iv q4, iv q5, iv cn1, iv ca, iv cb, iv cn2, iv rq, iv hs, iv hi, rv r127, rv b143, rv r191, .unset, .unset, .unset, .unset]) rfl
  let lo208 : Array Slot := #[iv q1, iv q2, iv q3, iv q4, iv q5, iv cn1, iv ca, iv cb, iv cn2, iv rq, iv hs, iv hi, rv r127, rv b143, rv r191, .unset, .unset, .unset, .unset]
  obtain ⟨T207, h207, X207, e207, E207, A207, D207, -, st207⟩ := newO X190 hx hZ hown (hw _ (mi 45 rfl)) (hw _ (mi 46 rfl)) (hw _ (mi 47 rfl)) rfl (g := (mkF m 101 lo208 [])) rfl (hb hby at_101) (by decide) (by decide)
  obtain ⟨b207, gb207⟩ : ∃ z, z = T190.heap.size := ⟨_, rfl⟩
  rw [← gb207] at A207 D207 st207
  have R209 : CHr Z consts_1 s.vm h0 s.vm h207 := R204.trans (CHr.ext E207 R204.1)
  have O210 := O205.ext E207
  have y211 : Fld Z h207 b207 "com/example/clear_fault/clearfault/JsonObjectWriter" "out" "Ljava/lang/StringBuilder;" .null := D207 (Or.inr (hw _ (mi 94 rfl))) (ty := (.object "java/lang/StringBuilder")) (by decide)
  have y212 : Fld Z h207 b207 "com/example/clear_fault/clearfault/JsonObjectWriter" "first" "Z" (.int 0) := D207 (Or.inl (hw _ (mi 96 rfl))) (ty := .boolean) (by decide)
  have g213 : Go p e below T207 (mkF m 104 lo208 [(.ref b207)]) A0 := fun t kont => g206 t (st207 t kont)
  have g214 := jd X207 hx g213 (hb hby at_104) rfl rfl
  have ge216 : n0 ≤ b207 := Nat.le_trans (own_old_le O205) (Nat.le_of_eq gb207.symm)
  obtain ⟨_, L215, T215, ⟨r217, r218, r219, r220, r221, r222, rfl, M215, K215, y223, y224, y225, y226, y227, y228, y229, y230, y231, y232, y233, y234⟩, X215, st215⟩ := own_callI X207 hx hZ hown (hw _ (mi 48 rfl)) (wd64 hw) (rm_wIni hw b207 cs fm h207 n0 O210 A207 y211 y212 ge216 hW) g214 e207 [(.ref b207)] rfl (lenOf pd_27 rfl) (hb hby at_105) hml.symm 1 rfl (by decide)
  have N215 := Fr.app N190 M215
  have R235 : CHr Z consts_1 s.vm h0 s.vm T215.heap := R209.trans (CHr.keep K215 (sfS (Safe.ext E207 R204.1 (Safe.new (Nat.le_of_eq gb207.symm))) sf0) R209.1)
  have O236 := O210.keep K215 (allS ge216 all0)
  have g237 := ji X215 hx (jt X215 hx st215 (hb hby at_108) rfl rfl (l' := #[iv q1, iv q2, iv q3, iv q4, iv q5, iv cn1, iv ca, iv cb, iv cn2, iv rq, iv hs, iv hi, rv r127, rv b143, rv r191, rv b207, .unset, .unset, .unset]) rfl) (hb hby at_110) rfl
  obtain ⟨l1, r1_, k1_, d1_, z1_, w1_, f1, T238, lc238, h238, vm238, k238, X238, e238, K238, hS, hk, hZ, hown, R238, C238, N238, g238, y275, y276, y277, y278, y279, y280, y281, y282, a283, j284, j285, j286, j287, j288⟩ : ∃ l1 : List Int32, ∃ r1_ : Addr, ∃ k1_ : ClassId, ∃ d1_ : Int32, ∃ z1_ : Int32, ∃ w1_ : List Value, ∃ f1 : Int32, ∃ (T238 : State) (lc238 : List Loc) (h238 : Heap) (vm238 : Vm) (k238 : Nat), Stand p l e room_1 (s.setVm vm238) m #[(.int q1), (.int q2), (.int q3), (.int q4), (.int q5)] below meth c T238 lc238 21 1390 ∧ T238.heap = h238 ∧ Keep T215.heap h238 [b207, r217, r218] ∧ s.Since vm238 k238 ∧ k238 ≤ h238.size ∧ Z.Warmed39 (s.setVm vm238).vm ∧ (s.setVm vm238).vm.findClass "com/example/clear_fault/clearfault/JsonObjectWriterFinishPinLaw" = some m.cls ∧ CHr Z consts_1 s.vm h0 vm238 h238 ∧ CHr Z consts_1 s.vm T215.heap vm238 h238 ∧ Fr n0 lc238 ∧ Go p e below T238 (mkF m 125 #[iv q1, iv q2, iv q3, iv q4, iv q5, iv cn1, iv ca, iv cb, iv cn2, iv rq, iv hs, iv hi, rv r127, rv b143, rv r191, rv b207, .unset, .unset, .unset] []) A0 ∧ (Fld Z h238 b207 "com/example/clear_fault/clearfault/JsonObjectWriter" "out" "Ljava/lang/StringBuilder;" (.ref r217)) ∧ (Fld Z h238 b207 "com/example/clear_fault/clearfault/JsonObjectWriter" "first" "Z" (.int f1)) ∧ (Exa Z h238 r217 "java/lang/StringBuilder") ∧ (Fld Z h238 r217 "java/lang/AbstractStringBuilder" "value" "[B" (.ref r1_)) ∧ (Fld Z h238 r217 "java/lang/AbstractStringBuilder" "coder" "B" (.int d1_)) ∧ (Fld Z h238 r217 "java/lang/AbstractStringBuilder" "count" "I" (.int (Int32.ofNat l1.length))) ∧ (Fld Z h238 r217 "java/lang/AbstractStringBuilder" "maybeLatin1" "Z" (.int 0)) ∧ (Arv Z h238 r1_ k1_ .byte z1_ w1_ (.int 0)) ∧ (r1_ = r218 ∨ T215.heap.size ≤ r1_) ∧ (own_sb l1 d1_ z1_ w1_) ∧ (¬ (r1_ = r217)) ∧ ((hs = (0 : Int32) → l1 = own_L0 ∧ f1 = (1 : Int32)) ∧ (¬ (hs = (0 : Int32)) → l1 = ((((own_L0 ++ own_cm (1 : Int32)) ++ own_js [cn1]) ++ [(58 : Int32)]) ++ own_js [ca, cb]) ∧ f1 = (0 : Int32))) ∧ (l1.length ≤ 25) ∧ (own_chars l1) := by
    by_cases c239 : hs = (0 : Int32)
    ·
      have g240 := jY X215 hx g237 (hb hby at_112) rfl ((if0 _ _).trans (teq c239).1) (pc' := 125) (by decide)
      exact ⟨own_L0, r218, r219, r220, r221, r222, (1 : Int32), _, _, _, _, _, (X215.more (by decide) (by decide)), rfl, (Keep.refl T215.heap [b207, r217, r218]), hS, (Nat.le_trans hk (Nat.le_trans (Nat.le_trans (Nat.le_trans (Nat.le_trans (Nat.le_trans (Nat.le_trans (Nat.le_trans (Nat.le_trans K126.1 E143.1) E151.1) (Keep.of_wr W157).1) (Keep.of_wr W164).1) K170.1) K190.1) E207.1) K215.1)), hZ, hown, R235, (CHr.refl R235.1), N215, g240, y223, y224, y227, y228, y229, y230, y231, y232, (Or.inl rfl), (y233), (y234), (⟨fun _ => ⟨rfl, rfl⟩, fun q => absurd c239 q⟩), (Nat.le_trans (Nat.le_refl 1) (by decide)), (own_L0c)⟩
    have g241 := ja X215 hx (ja X215 hx (ja X215 hx (jN X215 hx g237 (hb hby at_112) rfl ((if0 _ _).trans (feq c239).1)) (hb hby at_115) rfl rfl) (hb hby at_117) rfl rfl) (hb hby at_119) rfl rfl
    have y243 := (A207.keep K215)
    have y244 := ((((((((y134.ext E143).ext E151).wr W157).wr W164).keep K170).keep K190).ext E207).keep K215)
    have y245 := ((((((((y135.ext E143).ext E151).other W157 (Or.inl (Nat.ne_of_lt (Nat.lt_of_lt_of_le (Nat.lt_of_lt_of_le y134.lt E143.1) (Nat.le_of_eq gb151.symm))))).other W164 (Or.inl (Nat.ne_of_lt (Nat.lt_of_lt_of_le (Nat.lt_of_lt_of_le y134.lt E143.1) (Nat.le_of_eq gb151.symm))))).keep K170 (ninS (Nat.ne_of_lt (Nat.lt_of_lt_of_le y134.lt (Nat.le_of_eq gb143.symm))) nin0)).keep K190 nin0).ext E207).keep K215 (ninS (Nat.ne_of_lt (Nat.lt_of_lt_of_le (Nat.lt_of_lt_of_le y134.lt (Nat.le_trans (Nat.le_trans (Nat.le_trans (Nat.le_trans (Nat.le_trans E143.1 E151.1) (Keep.of_wr W157).1) (Keep.of_wr W164).1) K170.1) K190.1)) (Nat.le_of_eq gb207.symm))) nin0))
    have y246 := ((((((((y136.ext E143).ext E151).other W157 (Or.inl (Nat.ne_of_lt (Nat.lt_of_lt_of_le (Nat.lt_of_lt_of_le y134.lt E143.1) (Nat.le_of_eq gb151.symm))))).other W164 (Or.inl (Nat.ne_of_lt (Nat.lt_of_lt_of_le (Nat.lt_of_lt_of_le y134.lt E143.1) (Nat.le_of_eq gb151.symm))))).keep K170 (ninS (Nat.ne_of_lt (Nat.lt_of_lt_of_le y134.lt (Nat.le_of_eq gb143.symm))) nin0)).keep K190 nin0).ext E207).keep K215 (ninS (Nat.ne_of_lt (Nat.lt_of_lt_of_le (Nat.lt_of_lt_of_le y134.lt (Nat.le_trans (Nat.le_trans (Nat.le_trans (Nat.le_trans (Nat.le_trans E143.1 E151.1) (Keep.of_wr W157).1) (Keep.of_wr W164).1) K170.1) K190.1)) (Nat.le_of_eq gb207.symm))) nin0))
    have y247 := ((((((((y138.ext E143).ext E151).other W157 (Nat.ne_of_lt (Nat.lt_of_lt_of_le (Nat.lt_of_lt_of_le y138.lt E143.1) (Nat.le_of_eq gb151.symm)))).other W164 (Nat.ne_of_lt (Nat.lt_of_lt_of_le (Nat.lt_of_lt_of_le y138.lt E143.1) (Nat.le_of_eq gb151.symm)))).keep K170 (ninS (Nat.ne_of_lt (Nat.lt_of_lt_of_le y138.lt (Nat.le_of_eq gb143.symm))) nin0)).keep K190 nin0).ext E207).keep K215 (ninS (Nat.ne_of_lt (Nat.lt_of_lt_of_le (Nat.lt_of_lt_of_le y138.lt (Nat.le_trans (Nat.le_trans (Nat.le_trans (Nat.le_trans (Nat.le_trans E143.1 E151.1) (Keep.of_wr W157).1) (Keep.of_wr W164).1) K170.1) K190.1)) (Nat.le_of_eq gb207.symm))) nin0))
    have ge248 : n0 ≤ r217 := Nat.le_trans (own_old_le O210) y225
    have ge249 : n0 ≤ r218 := Nat.le_trans (own_old_le O210) y226
    have y250 := (((y180.keep K190).ext E207).keep K215)
    have y251 := (((y181.keep K190 nin0).ext E207).keep K215 (ninS (Nat.ne_of_lt (Nat.lt_of_lt_of_le (Nat.lt_of_lt_of_le A143.lt (Nat.le_trans (Nat.le_trans (Nat.le_trans (Nat.le_trans E151.1 (Keep.of_wr W157).1) (Keep.of_wr W164).1) K170.1) K190.1)) (Nat.le_of_eq gb207.symm))) nin0))
    have y252 := (((y182.keep K190 nin0).ext E207).keep K215 (ninS (Nat.ne_of_lt (Nat.lt_of_lt_of_le (Nat.lt_of_lt_of_le A143.lt (Nat.le_trans (Nat.le_trans (Nat.le_trans (Nat.le_trans E151.1 (Keep.of_wr W157).1) (Keep.of_wr W164).1) K170.1) K190.1)) (Nat.le_of_eq gb207.symm))) nin0))
    have y253 := (((y184.keep K190 nin0).ext E207).keep K215 (ninS (Nat.ne_of_lt (Nat.lt_of_lt_of_le (Nat.lt_of_lt_of_le y184.lt K190.1) (Nat.le_of_eq gb207.symm))) nin0))
    let lo254 : Array Slot := #[iv q1, iv q2, iv q3, iv q4, iv q5, iv cn1, iv ca, iv cb, iv cn2, iv rq, iv hs, iv hi, rv r127, rv b143, rv r191, rv b207, .unset, .unset, .unset]
    obtain ⟨cq242, kq242, q242a, q242b, q242c⟩ := isOf hZ rfl y243
    obtain ⟨_, _, ⟨T242, L242, k242, n242⟩, -, X242, hS242, hg242, ⟨Lc242, hQ242, l242, y242, z242, C242⟩, st242⟩ := X215.virtualBackS hx (y := mN68) (z := mN68) hown (mvT hZ (hw _ (mi 181 rfl))) (mvT hZ (hw _ (mi 182 rfl))) (notFace_of_selects (args := #[]) (mvT hZ (hw _ (mi 184 rfl)))) (mvT hZ (hw _ (mi 184 rfl))) (mvT hZ (hw _ (mi 183 rfl))) (by decide) (backOfSH (W := 0) (rm_addS hw b207 r217 r218 r219 own_L0 r220 r221 r222 r127 r128 r129 [cn1] r130 r131 r132 hx1 kx hxs fi cs fm (1 : Int32) b143 r175 r176 [ca, cb] r177 r178 r179 T215.heap n0 O236 y243 y223 y224 y227 y228 y229 y230 y231 y232 y233 y244 y245 y246 y247 y139 (Or.inl rfl) (own_chars1 z_cn1 y_cn1) (Nat.le_trans (Nat.le_refl 1) (by decide)) ge216 ge248 ge249 y234 (Nat.ne_of_lt (Nat.lt_of_lt_of_le (Nat.lt_of_lt_of_le y138.lt (Nat.le_trans (Nat.le_trans (Nat.le_trans (Nat.le_trans (Nat.le_trans (Nat.le_trans E143.1 E151.1) (Keep.of_wr W157).1) (Keep.of_wr W164).1) K170.1) K190.1) E207.1)) y226)) (Nat.ne_of_lt (Nat.lt_of_lt_of_le (Nat.lt_of_lt_of_le y134.lt (Nat.le_trans (Nat.le_trans (Nat.le_trans (Nat.le_trans (Nat.le_trans (Nat.le_trans E143.1 E151.1) (Keep.of_wr W157).1) (Keep.of_wr W164).1) K170.1) K190.1) E207.1)) y226)) (Nat.ne_of_lt (Nat.lt_of_lt_of_le (Nat.lt_of_lt_of_le y134.lt (Nat.le_trans (Nat.le_trans (Nat.le_trans (Nat.le_trans (Nat.le_trans (Nat.le_trans E143.1 E151.1) (Keep.of_wr W157).1) (Keep.of_wr W164).1) K170.1) K190.1) E207.1)) y225)) (Nat.ne_of_lt (Nat.lt_of_lt_of_le (Nat.lt_of_lt_of_le y138.lt (Nat.le_trans (Nat.le_trans (Nat.le_trans (Nat.le_trans (Nat.le_trans (Nat.le_trans E143.1 E151.1) (Keep.of_wr W157).1) (Keep.of_wr W164).1) K170.1) K190.1) E207.1)) y225)) (Nat.ne_of_lt (Nat.lt_of_lt_of_le A207.lt y226)) (Nat.ne_of_lt (Nat.lt_of_lt_of_le (Nat.lt_of_lt_of_le y138.lt (Nat.le_trans (Nat.le_trans (Nat.le_trans (Nat.le_trans (Nat.le_trans E143.1 E151.1) (Keep.of_wr W157).1) (Keep.of_wr W164).1) K170.1) K190.1)) (Nat.le_of_eq gb207.symm))) S0_ ZA1_ hhx S6_ hfi y250 y251 y252 y253 y185 (Or.inr rfl) (own_ccons ⟨z_ca, y_ca⟩ (own_chars1 z_cb y_cb)) (Nat.ne_of_lt (Nat.lt_of_lt_of_le (Nat.lt_of_lt_of_le y184.lt (Nat.le_trans K190.1 E207.1)) y226)) (Nat.ne_of_lt (Nat.lt_of_lt_of_le (Nat.lt_of_lt_of_le A143.lt (Nat.le_trans (Nat.le_trans (Nat.le_trans (Nat.le_trans (Nat.le_trans E151.1 (Keep.of_wr W157).1) (Keep.of_wr W164).1) K170.1) K190.1) E207.1)) y226)) (Nat.ne_of_lt (Nat.lt_of_lt_of_le (Nat.lt_of_lt_of_le A143.lt (Nat.le_trans (Nat.le_trans (Nat.le_trans (Nat.le_trans (Nat.le_trans E151.1 (Keep.of_wr W157).1) (Keep.of_wr W164).1) K170.1) K190.1) E207.1)) y225)) (Nat.ne_of_lt (Nat.lt_of_lt_of_le (Nat.lt_of_lt_of_le y184.lt (Nat.le_trans K190.1 E207.1)) y225)) (Nat.ne_of_lt (Nat.lt_of_lt_of_le (Nat.lt_of_lt_of_le y184.lt K190.1) (Nat.le_of_eq gb207.symm))) hW) hZ (hw _ (mi 185 rfl)) (hw _ (mi 47 rfl)) (by decide) (by decide) (own_EW hw) R235.1) q242a q242c (g := (mkF m 121 lo254 [(.ref b143), (.ref r127), (.ref b207)])) rfl (by rw [hml]; rfl) (Steps.refl _) (argsL := [(.ref r127), (.ref b143)]) (rest := []) (lenOf pd_51 rfl) rfl (by show 2 * 0 + _ ≤ _; exact Nat.le_of_eq rfl) (hb hby at_121) (fun _ _ => ⟨rfl, rfl, (by decide : 11 + 10 ≤ _), (by decide : 286 + 1104 ≤ _)⟩)
    dsimp only [Pt.U, Pt.locs, Pt.cells, Pt.slots] at X242 l242 y242 z242 st242 hQ242 hS242 hg242 C242
    subst y242 z242
    obtain ⟨X242, hS, hZ, hown⟩ := rebS hS (n1 := T215.heap.size) (Nat.le_trans hk (Nat.le_trans (Nat.le_trans (Nat.le_trans (Nat.le_trans (Nat.le_trans (Nat.le_trans (Nat.le_trans (Nat.le_trans K126.1 E143.1) E151.1) (Keep.of_wr W157).1) (Keep.of_wr W164).1) K170.1) K190.1) E207.1) K215.1)) X242 hS242 hg242 hZ hown
    obtain ⟨r255, r256, r257, r258, r259, rfl, M242, K242, y260, y261, y262, y263, y264, y265, y266, y267, y268, y269, y270⟩ := hQ242
    have N242 : Fr n0 L242 := by rw [l242]; exact Fr.app N215 M242
    have R271 : CHr Z consts_1 s.vm h0 T242.vm T242.heap := R235.trans C242
    have O272 := O236.keep K242 (allS ge216 (allS ge248 (allS ge249 all0)))
    have g273 : Go p e below T242 (mkF m 124 lo254 [(.ref b207)]) A0 := fun t kont => g241 t (st242.trans kont)
    have g274 := jo X242 hx g273 (hb hby at_124) rfl rfl
    exact ⟨((((own_L0 ++ own_cm (1 : Int32)) ++ own_js [cn1]) ++ [(58 : Int32)]) ++ own_js [ca, cb]), r255, r256, r257, r258, r259, (0 : Int32), _, _, _, _, _, (X242.more (by decide) (by decide)), rfl, ((Keep.refl T215.heap [b207, r217, r218]).trans K242 (allS (P := fun x => x ∈ [b207, r217, r218] ∨ T215.heap.size ≤ x) (Or.inl (mi 0 rfl)) (allS (P := fun x => x ∈ [b207, r217, r218] ∨ T215.heap.size ≤ x) (Or.inl (mi 1 rfl)) (allS (P := fun x => x ∈ [b207, r217, r218] ∨ T215.heap.size ≤ x) (Or.inl (mi 2 rfl)) all0)))), hS, (Nat.le_refl _), hZ, hown, R271, ((CHr.refl R235.1).trans (C242)), N242, g274, y261, y260, y262, y263, y264, y265, y266, y267, (own_alt_trans y268 (Or.inl rfl) (Nat.le_refl _)), (y269), (y270), (⟨fun q => absurd q c239, fun _ => ⟨rfl, rfl⟩⟩), (Nat.le_trans (own_ca (own_ca (own_ca (own_ca (Nat.le_refl 1) (own_cml _)) (own_jsl1 _)) (Nat.le_refl 1)) (own_jsl2 _ _)) (by decide)), (own_chars_app (own_chars_app (own_chars_app (own_chars_app own_L0c (own_cmc _)) (own_jsc1 z_cn1 y_cn1)) (own_chars1 (by decide) (by decide))) (own_jsc2 z_ca y_ca z_cb y_cb))⟩
  have ge289 : n0 ≤ r218 := Nat.le_trans (own_old_le O210) y226
  have ge290 : n0 ≤ r217 := Nat.le_trans (own_old_le O210) y225
  have O291 := O236.keep K238 (allS ge216 (allS ge290 (allS ge289 all0)))
  have g292 := ji X238 hx g238 (hb hby at_125) rfl
  obtain ⟨l2, r2_, k2_, d2_, z2_, w2_, f2, T293, lc293, h293, vm293, k293, X293, e293, K293, hS, hk, hZ, hown, R293, C293, N293, g293, y328, y329, y330, y331, y332, y333, y334, y335, a336, j337, j338, j339, j340, j341⟩ : ∃ l2 : List Int32, ∃ r2_ : Addr, ∃ k2_ : ClassId, ∃ d2_ : Int32, ∃ z2_ : Int32, ∃ w2_ : List Value, ∃ f2 : Int32, ∃ (T293 : State) (lc293 : List Loc) (h293 : Heap) (vm293 : Vm) (k293 : Nat), Stand p l e room_1 (s.setVm vm293) m #[(.int q1), (.int q2), (.int q3), (.int q4), (.int q5)] below meth c T293 lc293 26 1942 ∧ T293.heap = h293 ∧ Keep h238 h293 [b207, r217, r1_] ∧ s.Since vm293 k293 ∧ k293 ≤ h293.size ∧ Z.Warmed39 (s.setVm vm293).vm ∧ (s.setVm vm293).vm.findClass "com/example/clear_fault/clearfault/JsonObjectWriterFinishPinLaw" = some m.cls ∧ CHr Z consts_1 s.vm h0 vm293 h293 ∧ CHr Z consts_1 vm238 h238 vm293 h293 ∧ Fr n0 lc293 ∧ Go p e below T293 (mkF m 140 #[iv q1, iv q2, iv q3, iv q4, iv q5, iv cn1, iv ca, iv cb, iv cn2, iv rq, iv hs, iv hi, rv r127, rv b143, rv r191, rv b207, .unset, .unset, .unset] []) A0 ∧ (Fld Z h293 b207 "com/example/clear_fault/clearfault/JsonObjectWriter" "out" "Ljava/lang/StringBuilder;" (.ref r217)) ∧ (Fld Z h293 b207 "com/example/clear_fault/clearfault/JsonObjectWriter" "first" "Z" (.int f2)) ∧ (Exa Z h293 r217 "java/lang/StringBuilder") ∧ (Fld Z h293 r217 "java/lang/AbstractStringBuilder" "value" "[B" (.ref r2_)) ∧ (Fld Z h293 r217 "java/lang/AbstractStringBuilder" "coder" "B" (.int d2_)) ∧ (Fld Z h293 r217 "java/lang/AbstractStringBuilder" "count" "I" (.int (Int32.ofNat l2.length))) ∧ (Fld Z h293 r217 "java/lang/AbstractStringBuilder" "maybeLatin1" "Z" (.int 0)) ∧ (Arv Z h293 r2_ k2_ .byte z2_ w2_ (.int 0)) ∧ (r2_ = r1_ ∨ h238.size ≤ r2_) ∧ (own_sb l2 d2_ z2_ w2_) ∧ (¬ (r2_ = r217)) ∧ ((hi = (0 : Int32) → l2 = l1 ∧ f2 = f1) ∧ (¬ (hi = (0 : Int32)) → l2 = ((((l1 ++ own_cm f1) ++ own_js [cn2]) ++ [(58 : Int32)]) ++ ds) ∧ f2 = (0 : Int32))) ∧ (l2.length ≤ 38) ∧ (own_chars l2) := by
    by_cases c294 : hi = (0 : Int32)
    ·
      have g295 := jY X238 hx g292 (hb hby at_127) rfl ((if0 _ _).trans (teq c294).1) (pc' := 140) (by decide)
      exact ⟨l1, r1_, k1_, d1_, z1_, w1_, f1, _, _, _, _, _, (X238.more (by decide) (by decide)), e238, (Keep.refl h238 [b207, r217, r1_]), hS, hk, hZ, hown, R238, (CHr.refl R238.1), N238, g295, y275, y276, y277, y278, y279, y280, y281, y282, (Or.inl rfl), (j284), (j285), (⟨fun _ => ⟨rfl, rfl⟩, fun q => absurd c294 q⟩), (Nat.le_trans j287 (by decide)), (j288)⟩
    have g296 := ji X238 hx (ja X238 hx (ja X238 hx (jN X238 hx g292 (hb hby at_127) rfl ((if0 _ _).trans (feq c294).1)) (hb hby at_130) rfl rfl) (hb hby at_132) rfl rfl) (hb hby at_134) rfl
    have y298 := ((A207.keep K215).keep K238)
    have y299 := (((y198.ext E207).keep K215).keep K238)
    have y300 := (((y199.ext E207).keep K215 (ninS (Nat.ne_of_lt (Nat.lt_of_lt_of_le y198.lt (Nat.le_of_eq gb207.symm))) nin0)).keep K238 (ninS (Nat.ne_of_lt (Nat.lt_of_lt_of_le y198.lt (Nat.le_of_eq gb207.symm))) (ninS (Nat.ne_of_lt (Nat.lt_of_lt_of_le (Nat.lt_of_lt_of_le y198.lt E207.1) y225)) (ninS (Nat.ne_of_lt (Nat.lt_of_lt_of_le (Nat.lt_of_lt_of_le y198.lt E207.1) y226)) nin0))))
    have y301 := (((y200.ext E207).keep K215 (ninS (Nat.ne_of_lt (Nat.lt_of_lt_of_le y198.lt (Nat.le_of_eq gb207.symm))) nin0)).keep K238 (ninS (Nat.ne_of_lt (Nat.lt_of_lt_of_le y198.lt (Nat.le_of_eq gb207.symm))) (ninS (Nat.ne_of_lt (Nat.lt_of_lt_of_le (Nat.lt_of_lt_of_le y198.lt E207.1) y225)) (ninS (Nat.ne_of_lt (Nat.lt_of_lt_of_le (Nat.lt_of_lt_of_le y198.lt E207.1) y226)) nin0))))
    have y302 := (((y202.ext E207).keep K215 (ninS (Nat.ne_of_lt (Nat.lt_of_lt_of_le y202.lt (Nat.le_of_eq gb207.symm))) nin0)).keep K238 (ninS (Nat.ne_of_lt (Nat.lt_of_lt_of_le y202.lt (Nat.le_of_eq gb207.symm))) (ninS (Nat.ne_of_lt (Nat.lt_of_lt_of_le (Nat.lt_of_lt_of_le y202.lt E207.1) y225)) (ninS (Nat.ne_of_lt (Nat.lt_of_lt_of_le (Nat.lt_of_lt_of_le y202.lt E207.1) y226)) nin0))))
    have ge303 : n0 ≤ r1_ := own_ge_or a283 ge289 (own_old_le O236)
    have hn304 : ¬ (r192 = r1_) := own_ne_or a283 (Nat.lt_of_lt_of_le y202.lt (Nat.le_trans E207.1 K215.1)) (Nat.ne_of_lt (Nat.lt_of_lt_of_le (Nat.lt_of_lt_of_le y202.lt E207.1) y226))
    have hn305 : ¬ (r191 = r1_) := own_ne_or a283 (Nat.lt_of_lt_of_le y198.lt (Nat.le_trans E207.1 K215.1)) (Nat.ne_of_lt (Nat.lt_of_lt_of_le (Nat.lt_of_lt_of_le y198.lt E207.1) y226))
    have hn306 : ¬ (b207 = r1_) := own_ne_or a283 (Nat.lt_of_lt_of_le A207.lt K215.1) (Nat.ne_of_lt (Nat.lt_of_lt_of_le A207.lt y226))
    let lo307 : Array Slot := #[iv q1, iv q2, iv q3, iv q4, iv q5, iv cn1, iv ca, iv cb, iv cn2, iv rq, iv hs, iv hi, rv r127, rv b143, rv r191, rv b207, .unset, .unset, .unset]
    obtain ⟨cq297, kq297, q297a, q297b, q297c⟩ := isOf hZ e238 y298
    obtain ⟨_, _, ⟨T297, L297, k297, n297⟩, -, X297, hS297, hg297, ⟨Lc297, hQ297, l297, y297, z297, C297⟩, st297⟩ := X238.virtualBackS hx (y := mN69) (z := mN69) hown (mvT hZ (hw _ (mi 262 rfl))) (mvT hZ (hw _ (mi 263 rfl))) (notFace_of_selects (args := #[]) (mvT hZ (hw _ (mi 265 rfl)))) (mvT hZ (hw _ (mi 265 rfl))) (mvT hZ (hw _ (mi 264 rfl))) (by decide) (backOfSH (W := 0) (rm_addI hw b207 r217 r1_ k1_ l1 d1_ z1_ w1_ r191 r192 r193 [cn2] r194 r195 r196 hx1 kx hxs fi cs fm f1 rq ds dg kg dgs h238 n0 O291 y298 y275 y276 y277 y278 y279 y280 y281 y282 j284 y299 y300 y301 y302 y203 (Or.inl rfl) (own_chars1 z_cn2 y_cn2) (Nat.le_trans j287 (by decide)) ge216 ge290 ge303 j285 hn304 hn305 (Nat.ne_of_lt (Nat.lt_of_lt_of_le (Nat.lt_of_lt_of_le y198.lt E207.1) y225)) (Nat.ne_of_lt (Nat.lt_of_lt_of_le (Nat.lt_of_lt_of_le y202.lt E207.1) y225)) hn306 (Nat.ne_of_lt (Nat.lt_of_lt_of_le y202.lt (Nat.le_of_eq gb207.symm))) S0_ ZA1_ hhx S6_ hfi (hrd) S3_ ZA4_ (hdg) hW) hZ (hw _ (mi 266 rfl)) (hw _ (mi 47 rfl)) (by decide) (by decide) (own_EW hw) R238.1) q297a q297c (g := (mkF m 136 lo307 [(.int rq), (.ref r191), (.ref b207)])) rfl (by rw [hml]; rfl) (Steps.refl _) (argsL := [(.ref r191), (.int rq)]) (rest := []) (lenOf pd_52 rfl) rfl (by show 2 * 0 + _ ≤ _; exact Nat.le_of_eq rfl) (hb hby at_136) (fun _ _ => ⟨rfl, e238, (by decide : 21 + 5 ≤ _), (by decide : 1390 + 552 ≤ _)⟩)
    dsimp only [Pt.U, Pt.locs, Pt.cells, Pt.slots] at X297 l297 y297 z297 st297 hQ297 hS297 hg297 C297
    subst y297 z297
    obtain ⟨X297, hS, hZ, hown⟩ := rebS hS (n1 := T238.heap.size) (by rw [e238]; exact hk) X297 hS297 hg297 hZ hown
    obtain ⟨r308, r309, r310, r311, r312, rfl, M297, K297, y313, y314, y315, y316, y317, y318, y319, y320, y321, y322, y323⟩ := hQ297
    have N297 : Fr n0 L297 := by rw [l297]; exact Fr.app N238 M297
    have R324 : CHr Z consts_1 s.vm h0 T297.vm T297.heap := R238.trans C297
    have O325 := O291.keep K297 (allS ge216 (allS ge290 (allS ge303 all0)))
    have g326 : Go p e below T297 (mkF m 139 lo307 [(.ref b207)]) A0 := fun t kont => g296 t (st297.trans kont)
    have g327 := jo X297 hx g326 (hb hby at_139) rfl rfl
    exact ⟨((((l1 ++ own_cm f1) ++ own_js [cn2]) ++ [(58 : Int32)]) ++ ds), r308, r309, r310, r311, r312, (0 : Int32), _, _, _, _, _, (X297.more (by decide) (by decide)), rfl, ((Keep.refl h238 [b207, r217, r1_]).trans K297 (allS (P := fun x => x ∈ [b207, r217, r1_] ∨ h238.size ≤ x) (Or.inl (mi 0 rfl)) (allS (P := fun x => x ∈ [b207, r217, r1_] ∨ h238.size ≤ x) (Or.inl (mi 1 rfl)) (allS (P := fun x => x ∈ [b207, r217, r1_] ∨ h238.size ≤ x) (Or.inl (mi 2 rfl)) all0)))), hS, (Nat.le_refl _), hZ, hown, R324, ((CHr.refl R238.1).trans (C297)), N297, g327, y314, y313, y315, y316, y317, y318, y319, y320, (own_alt_trans y321 (Or.inl rfl) (Nat.le_refl _)), (y322), (y323), (⟨fun q => absurd q c294, fun _ => ⟨rfl, rfl⟩⟩), (Nat.le_trans (own_ca (own_ca (own_ca (own_ca j287 (own_cml _)) (own_jsl1 _)) (Nat.le_refl 1)) (own_rdlat hrd).2.2) (by decide)), (own_chars_app (own_chars_app (own_chars_app (own_chars_app j288 (own_cmc _)) (own_jsc1 z_cn2 y_cn2)) (own_chars1 (by decide) (by decide))) (own_rdlat hrd).2.1)⟩
  have ge342 : n0 ≤ r1_ := own_ge_or a283 ge289 (own_old_le O236)
  have O343 := O291.keep K293 (allS ge216 (allS ge290 (allS ge342 all0)))
  have g344 := ja X293 hx g293 (hb hby at_140) rfl rfl
  have y346 := (((A207.keep K215).keep K238).keep K293)
  have ge347 : n0 ≤ r2_ := own_ge_or a336 ge342 (own_old_le O291)
  obtain ⟨_, L345, T345, ⟨r348, r349, r350, r351, r352, r353, rfl, M345, K345, y354, y355, y356, y357, y358, y359, y360⟩, X345, st345⟩ := own_callV X293 hx hZ hown (hw _ (mi 97 rfl)) (wd65 hw) (notFace_of_selects (args := #[]) (mvT hZ (hw _ (mi 100 rfl)))) y346 (rm_fin hw b207 r217 r2_ k2_ l2 d2_ z2_ w2_ cs fm h293 n0 O343 y346 y328 y330 y331 y332 y333 y334 y335 j337 (Nat.le_trans j340 (by decide)) ge290 ge347 j338 hW) g344 e293 [] rfl (lenOf pd_44 rfl) (hb hby at_142) hml.symm 0 rfl (by decide)
  have N345 := Fr.app N293 M345
  have sf362 : Safe Z consts_1 vm293 h293 r2_ := own_safe_sb hZ (hw _ (mi 230 rfl)) (by decide) (by decide) y335 j337
  have sf363 : Safe Z consts_1 vm293 h293 r217 := (CHr.safe C293 (Nat.lt_of_lt_of_le y227.lt K238.1) (CHr.safe C238 y227.lt (Safe.keep K215 (sfS (Safe.ext E207 R204.1 (Safe.new (Nat.le_of_eq gb207.symm))) sf0) R209.1 (Safe.new y225))))
  have R361 : CHr Z consts_1 s.vm h0 vm293 T345.heap := R293.trans (CHr.keep K345 (sfS sf363 (sfS sf362 sf0)) R293.1)
  have O364 := O343.keep K345 (allS ge290 (allS ge347 all0))
  have g365 := jb X345 hx (jt X345 hx st345 (hb hby at_145) rfl rfl (l' := #[iv q1, iv q2, iv q3, iv q4, iv q5, iv cn1, iv ca, iv cb, iv cn2, iv rq, iv hs, iv hi, rv r127, rv b143, rv r191, rv b207, rv r348, .unset, .unset]) rfl) (hb hby at_147) 40 rfl
  let lo367 : Array Slot := #[iv q1, iv q2, iv q3, iv q4, iv q5, iv cn1, iv ca, iv cb, iv cn2, iv rq, iv hs, iv hi, rv r127, rv b143, rv r191, rv b207, rv r348, .unset, .unset]
  obtain ⟨T366, h366, k366, X366, e366, E366, A366, F366, st366⟩ := newPE X345 hx hZ (hw _ (mi 28 rfl)) rfl (g := (mkF m 149 lo367 [(.int 40)])) rfl (hb hby at_149) rfl (by decide) (cap := 40) (by decide) (by decide) (by decide) (by decide) (ad := "[C") (by decide)
  obtain ⟨b366, gb366⟩ : ∃ z, z = T345.heap.size := ⟨_, rfl⟩
  rw [← gb366] at A366 F366 st366
  have R368 : CHr Z consts_1 s.vm h0 vm293 h366 := R361.trans (CHr.ext E366 R361.1)
  have O369 := O364.ext E366
  have y370 : Arv Z h366 b366 k366 .char (40 : Int32) (List.replicate 40 (.int 0)) (.int 0) := (Arv.new A366 (by decide)).pad (pad_rep [] (.int 0) 40)
  obtain ⟨Ls371, hLs371⟩ : ∃ z : List Value, z = (List.replicate 40 (.int 0)) := ⟨_, rfl⟩
  rw [← hLs371] at y370
  have lLs371 : Ls371.length = 40 := by rw [hLs371, List.length_replicate]
  have g372 : Go p e below T366 (mkF m 151 lo367 [(.ref b366)]) A0 := fun t kont => g365 t (st366 t kont)
  have y373 : Arv Z h366 b366 k366 .char (40 : Int32) (own_E []) (.int 0) := by rw [own_E0]; have q := y370; rw [hLs371] at q; exact q
  have g374 := jb X366 hx (ji X366 hx (ja X366 hx (js X366 hx (jc X366 hx (jt X366 hx g372 (hb hby at_151) rfl rfl (l' := #[iv q1, iv q2, iv q3, iv q4, iv q5, iv cn1, iv ca, iv cb, iv cn2, iv rq, iv hs, iv hi, rv r127, rv b143, rv r191, rv b207, rv r348, rv b366, .unset]) rfl) (hb hby at_153) 0 rfl) (hb hby at_154) rfl (l' := #[iv q1, iv q2, iv q3, iv q4, iv q5, iv cn1, iv ca, iv cb, iv cn2, iv rq, iv hs, iv hi, rv r127, rv b143, rv r191, rv b207, rv r348, rv b366, iv 0]) rfl) (hb hby at_156) rfl rfl) (hb hby at_158) rfl) (hb hby at_160) 123 rfl
  have ge376 : n0 ≤ b366 := Nat.le_trans (own_old_le O364) (Nat.le_of_eq gb366.symm)
  have zz375 := y373
  obtain ⟨cl375, Ar375, q375, S375, M375, H375, G375⟩ := zz375
  have in375 : ¬ ((0 : Int32) < 0 ∨ cl375.slots.size ≤ ((0 : Int32)).toNatClampNeg) := inb_of S375 ⟨by decide, by decide⟩
  let lo377 : Array Slot := #[iv q1, iv q2, iv q3, iv q4, iv q5, iv cn1, iv ca, iv cb, iv cn2, iv rq, iv hs, iv hi, rv r127, rv b143, rv r191, rv b207, rv r348, rv b366, iv 0]
  obtain ⟨T375, h375, X375, e375, W375, st375⟩ := stC X366 hx hZ e366 Ar375 (j := (0 : Int32)) in375 (g := (mkF m 162 lo377 [(.int 123), (.int 0), (.ref b366)])) rfl rfl (hb hby at_162)
  rw [show nar .char (123 : Int32) = (123 : Int32) from (by decide : nar .char (123 : Int32) = (123 : Int32))] at W375
  have R378 : CHr Z consts_1 s.vm h0 vm293 h375 := R368.trans (CHr.wr W375 (Safe.ext E366 R361.1 (Safe.new (Nat.le_of_eq gb366.symm))) R368.1)
  have O379 := O369.wr W375 ge376
  have y380 : Arv Z h375 b366 k366 .char (40 : Int32) ((own_E []).set 0 (.int 123)) (.int 0) := Arv.set Ar375 q375 S375 M375 H375 G375 (own_ft_char (z := (123 : Int32)) (by decide : nar .char (123 : Int32) = (123 : Int32))) W375 0 rfl (Nat.le_of_ble_eq_true rfl)
  have N375 := Fr.snoc X375 N345 ge376
  have g381 : Go p e below T375 (mkF m 163 lo377 []) A0 := fun t kont => g374 t (st375 t kont)
  have y382 : Arv Z h375 b366 k366 .char (40 : Int32) (own_E own_L0) (.int 0) := by have q := y380; rw [show (own_E []).set 0 (.int 123) = own_E own_L0 from own_Eset (ts := []) (by decide)] at q; exact q
  have g383 := js X375 hx (jP X375 hx (jc X375 hx (ji X375 hx g381 (hb hby at_163) rfl) (hb hby at_165) 1 rfl) (hb hby at_166) rfl) (hb hby at_167) rfl (l' := #[iv q1, iv q2, iv q3, iv q4, iv q5, iv cn1, iv ca, iv cb, iv cn2, iv rq, iv hs, iv hi, rv r127, rv b143, rv r191, rv b207, rv r348, rv b366, iv 1]) rfl
  have g384 : Go p e below T375 (mkF m 169 #[iv q1, iv q2, iv q3, iv q4, iv q5, iv cn1, iv ca, iv cb, iv cn2, iv rq, iv hs, iv hi, rv r127, rv b143, rv r191, rv b207, rv r348, rv b366, iv (Int32.ofNat own_L0.length)] []) A0 := g383
  have g385 := ji X375 hx g384 (hb hby at_169) rfl
  obtain ⟨T386, lc386, h386, vm386, k386, X386, e386, K386, hS, hk, hZ, hown, R386, C386, N386, g386, y442⟩ : ∃ (T386 : State) (lc386 : List Loc) (h386 : Heap) (vm386 : Vm) (k386 : Nat), Stand p l e room_1 (s.setVm vm386) m #[(.int q1), (.int q2), (.int q3), (.int q4), (.int q5)] below meth c T386 lc386 29 2066 ∧ T386.heap = h386 ∧ Keep h375 h386 [b366] ∧ s.Since vm386 k386 ∧ k386 ≤ h386.size ∧ Z.Warmed39 (s.setVm vm386).vm ∧ (s.setVm vm386).vm.findClass "com/example/clear_fault/clearfault/JsonObjectWriterFinishPinLaw" = some m.cls ∧ CHr Z consts_1 s.vm h0 vm386 h386 ∧ CHr Z consts_1 vm293 h375 vm386 h386 ∧ Fr n0 lc386 ∧ Go p e below T386 (mkF m 242 #[iv q1, iv q2, iv q3, iv q4, iv q5, iv cn1, iv ca, iv cb, iv cn2, iv rq, iv hs, iv hi, rv r127, rv b143, rv r191, rv b207, rv r348, rv b366, iv (Int32.ofNat l1.length)] []) A0 ∧ (Arv Z h386 b366 k366 .char (40 : Int32) (own_E l1) (.int 0)) := by
    by_cases c387 : hs = (0 : Int32)
    ·
      have g388 := jY X375 hx g385 (hb hby at_171) rfl ((if0 _ _).trans (teq c387).1) (pc' := 242) (by decide)
      have y389 : Arv Z h375 b366 k366 .char (40 : Int32) (own_E l1) (.int 0) := by have q := y382; rw [← (j286.1 c387).1] at q; exact q
      have g390 : Go p e below T375 (mkF m 242 #[iv q1, iv q2, iv q3, iv q4, iv q5, iv cn1, iv ca, iv cb, iv cn2, iv rq, iv hs, iv hi, rv r127, rv b143, rv r191, rv b207, rv r348, rv b366, iv (Int32.ofNat l1.length)] []) A0 := by have z : Go p e below T375 (mkF m 242 #[iv q1, iv q2, iv q3, iv q4, iv q5, iv cn1, iv ca, iv cb, iv cn2, iv rq, iv hs, iv hi, rv r127, rv b143, rv r191, rv b207, rv r348, rv b366, iv (Int32.ofNat own_L0.length)] []) A0 := g388; rw [← (j286.1 c387).1] at z; exact z
      exact ⟨_, _, _, _, _, (X375.more (by decide) (by decide)), e375, (Keep.refl h375 [b366]), hS, (Nat.le_trans hk (Nat.le_trans (Nat.le_trans K345.1 E366.1) (Keep.of_wr W375).1)), hZ, hown, R378, (CHr.refl R378.1), N375, g390, y389⟩
    have g391 := ji X375 hx (ji X375 hx (ja X375 hx (jN X375 hx g385 (hb hby at_171) rfl ((if0 _ _).trans (feq c387).1)) (hb hby at_174) rfl rfl) (hb hby at_176) rfl) (hb hby at_178) rfl
    obtain ⟨_, L392, T392, ⟨rfl, M392, K392, y393⟩, X392, st392⟩ := own_callS X375 hx hZ hown (hw _ (mi 284 rfl)) (wd66 hw) (rm_strC hw b366 k366 own_L0 cn1 h375 n0 O379 y382 ge376 (Nat.le_trans (Nat.le_refl 1) (by decide)) z_cn1 y_cn1) g391 e375 [] rfl (lenOf pd_47 rfl) (hb hby at_180) hml.symm 0 rfl (by decide)
    have N392 := Fr.app N375 M392
    have sf395 : Safe Z consts_1 vm293 h375 b366 := (Safe.wr W375 (Safe.ext E366 R361.1 (Safe.new (Nat.le_of_eq gb366.symm))) R368.1 (Safe.ext E366 R361.1 (Safe.new (Nat.le_of_eq gb366.symm))))
    have R394 : CHr Z consts_1 s.vm h0 vm293 T392.heap := R378.trans (CHr.keep K392 (sfS sf395 sf0) R378.1)
    have O396 := O379.keep K392 (allS ge376 all0)
    have g397 := jb X392 hx (ji X392 hx (ja X392 hx (js X392 hx st392 (hb hby at_183) rfl (l' := #[iv q1, iv q2, iv q3, iv q4, iv q5, iv cn1, iv ca, iv cb, iv cn2, iv rq, iv hs, iv hi, rv r127, rv b143, rv r191, rv b207, rv r348, rv b366, iv (Int32.ofNat (own_L0 ++ own_js [cn1]).length)]) rfl) (hb hby at_185) rfl rfl) (hb hby at_187) rfl) (hb hby at_189) 58 rfl
    have zz398 := y393
    obtain ⟨cl398, Ar398, q398, S398, M398, H398, G398⟩ := zz398
    have in398 : ¬ ((Int32.ofNat (own_L0 ++ own_js [cn1]).length) < 0 ∨ cl398.slots.size ≤ ((Int32.ofNat (own_L0 ++ own_js [cn1]).length)).toNatClampNeg) := inb_of S398 ⟨own_nonneg (Nat.lt_of_le_of_lt (own_ca (Nat.le_refl 1) (own_jsl1 _)) (by decide)), own_lt (b := 40) (Nat.lt_of_le_of_lt (own_ca (Nat.le_refl 1) (own_jsl1 _)) (by decide)) (by decide)⟩
    let lo399 : Array Slot := #[iv q1, iv q2, iv q3, iv q4, iv q5, iv cn1, iv ca, iv cb, iv cn2, iv rq, iv hs, iv hi, rv r127, rv b143, rv r191, rv b207, rv r348, rv b366, iv (Int32.ofNat (own_L0 ++ own_js [cn1]).length)]
    obtain ⟨T398, h398, X398, e398, W398, st398⟩ := stC X392 hx hZ rfl Ar398 (j := (Int32.ofNat (own_L0 ++ own_js [cn1]).length)) in398 (g := (mkF m 191 lo399 [(.int 58), (.int (Int32.ofNat (own_L0 ++ own_js [cn1]).length)), (.ref b366)])) rfl rfl (hb hby at_191)
    rw [show nar .char (58 : Int32) = (58 : Int32) from (by decide : nar .char (58 : Int32) = (58 : Int32))] at W398
    have sf401 : Safe Z consts_1 vm293 T392.heap b366 := (Safe.keep K392 (sfS sf395 sf0) R378.1 sf395)
    have R400 : CHr Z consts_1 s.vm h0 vm293 h398 := R394.trans (CHr.wr W398 sf401 R394.1)
    have O402 := O396.wr W398 ge376
    have y403 : Arv Z h398 b366 k366 .char (40 : Int32) ((own_E (own_L0 ++ own_js [cn1])).set (own_L0 ++ own_js [cn1]).length (.int 58)) (.int 0) := Arv.set Ar398 q398 S398 M398 H398 G398 (own_ft_char (z := (58 : Int32)) (by decide : nar .char (58 : Int32) = (58 : Int32))) W398 (own_L0 ++ own_js [cn1]).length (own_clamp (Nat.lt_of_le_of_lt (own_ca (Nat.le_refl 1) (own_jsl1 _)) (by decide))) (by rw [own_Elen (Nat.le_trans (own_ca (Nat.le_refl 1) (own_jsl1 _)) (by decide))]; exact (Nat.lt_of_le_of_lt (own_ca (Nat.le_refl 1) (own_jsl1 _)) (by decide)))
    have N398 := Fr.snoc X398 N392 ge376
    have g404 : Go p e below T398 (mkF m 192 lo399 []) A0 := fun t kont => g397 t (st398 t kont)
    have y405 : Arv Z h398 b366 k366 .char (40 : Int32) (own_E ((own_L0 ++ own_js [cn1]) ++ [(58 : Int32)])) (.int 0) := by have q := y403; rw [own_Eset (Nat.lt_of_le_of_lt (own_ca (Nat.le_refl 1) (own_jsl1 _)) (by decide))] at q; exact q
    have g406 := jb X398 hx (jP X398 hx (jc X398 hx (ji X398 hx (ja X398 hx g404 (hb hby at_192) rfl rfl) (hb hby at_194) rfl) (hb hby at_196) 1 rfl) (hb hby at_197) rfl) (hb hby at_198) 34 rfl
    have zz407 := y405
    obtain ⟨cl407, Ar407, q407, S407, M407, H407, G407⟩ := zz407
    have in407 : ¬ (((Int32.ofNat (own_L0 ++ own_js [cn1]).length) + (1 : Int32)) < 0 ∨ cl407.slots.size ≤ (((Int32.ofNat (own_L0 ++ own_js [cn1]).length) + (1 : Int32))).toNatClampNeg) := inb_of S407 (by rw [own_succ]; exact ⟨own_nonneg (Nat.lt_of_le_of_lt (Nat.add_le_add_right (own_ca (Nat.le_refl 1) (own_jsl1 _)) 1) (by decide)), own_lt (b := 40) (Nat.lt_of_le_of_lt (Nat.add_le_add_right (own_ca (Nat.le_refl 1) (own_jsl1 _)) 1) (by decide)) (by decide)⟩)
    obtain ⟨T407, h407, X407, e407, W407, st407⟩ := stC X398 hx hZ e398 Ar407 (j := ((Int32.ofNat (own_L0 ++ own_js [cn1]).length) + (1 : Int32))) in407 (g := (mkF m 200 lo399 [(.int 34), (.int ((Int32.ofNat (own_L0 ++ own_js [cn1]).length) + (1 : Int32))), (.ref b366)])) rfl rfl (hb hby at_200)
    rw [show nar .char (34 : Int32) = (34 : Int32) from (by decide : nar .char (34 : Int32) = (34 : Int32))] at W407
    have sf409 : Safe Z consts_1 vm293 h398 b366 := (Safe.wr W398 sf401 R394.1 sf401)
    have R408 : CHr Z consts_1 s.vm h0 vm293 h407 := R400.trans (CHr.wr W407 sf409 R400.1)
    have O410 := O402.wr W407 ge376
    have y411 : Arv Z h407 b366 k366 .char (40 : Int32) ((own_E ((own_L0 ++ own_js [cn1]) ++ [(58 : Int32)])).set ((own_L0 ++ own_js [cn1]).length + 1) (.int 34)) (.int 0) := Arv.set Ar407 q407 S407 M407 H407 G407 (own_ft_char (z := (34 : Int32)) (by decide : nar .char (34 : Int32) = (34 : Int32))) W407 ((own_L0 ++ own_js [cn1]).length + 1) (by rw [own_succ]; exact own_clamp (Nat.lt_of_le_of_lt (Nat.add_le_add_right (own_ca (Nat.le_refl 1) (own_jsl1 _)) 1) (by decide))) (by rw [own_Elen (Nat.le_trans (own_ca (own_ca (Nat.le_refl 1) (own_jsl1 _)) (Nat.le_refl 1)) (by decide))]; exact (Nat.lt_of_le_of_lt (Nat.add_le_add_right (own_ca (Nat.le_refl 1) (own_jsl1 _)) 1) (by decide)))
    have N407 := Fr.snoc X407 N398 ge376
    have g412 : Go p e below T407 (mkF m 201 lo399 []) A0 := fun t kont => g406 t (st407 t kont)
    have y413 : Arv Z h407 b366 k366 .char (40 : Int32) (own_E (((own_L0 ++ own_js [cn1]) ++ [(58 : Int32)]) ++ [(34 : Int32)])) (.int 0) := by have q := y411; rw [own_E2 (Nat.lt_of_le_of_lt (Nat.add_le_add_right (own_ca (Nat.le_refl 1) (own_jsl1 _)) 1) (by decide))] at q; exact q
    have g414 := jP X407 hx (jc X407 hx (ji X407 hx g412 (hb hby at_201) rfl) (hb hby at_203) 2 rfl) (hb hby at_204) rfl
    have g415 : Go p e below T407 (mkF m 205 lo399 [(.int (Int32.ofNat (((own_L0 ++ own_js [cn1]) ++ [(58 : Int32)]) ++ [(34 : Int32)]).length))]) A0 := by have z := g414; rw [own_n2] at z; exact z
    have g416 := ji X407 hx (ji X407 hx (ja X407 hx (js X407 hx g415 (hb hby at_205) rfl (l' := #[iv q1, iv q2, iv q3, iv q4, iv q5, iv cn1, iv ca, iv cb, iv cn2, iv rq, iv hs, iv hi, rv r127, rv b143, rv r191, rv b207, rv r348, rv b366, iv (Int32.ofNat (((own_L0 ++ own_js [cn1]) ++ [(58 : Int32)]) ++ [(34 : Int32)]).length)]) rfl) (hb hby at_207) rfl rfl) (hb hby at_209) rfl) (hb hby at_211) rfl
    obtain ⟨_, L417, T417, ⟨rfl, M417, K417, y418⟩, X417, st417⟩ := own_callS X407 hx hZ hown (hw _ (mi 287 rfl)) (wd61 hw) (rm_encC hw b366 k366 (((own_L0 ++ own_js [cn1]) ++ [(58 : Int32)]) ++ [(34 : Int32)]) ca h407 n0 O410 y413 ge376 (Nat.le_trans (own_ca (own_ca (own_ca (Nat.le_refl 1) (own_jsl1 _)) (Nat.le_refl 1)) (Nat.le_refl 1)) (by decide)) z_ca y_ca) g416 e407 [] rfl (lenOf pd_47 rfl) (hb hby at_213) hml.symm 0 rfl (by decide)
    have N417 := Fr.app N407 M417
    have sf420 : Safe Z consts_1 vm293 h407 b366 := (Safe.wr W407 sf409 R400.1 sf409)
    have R419 : CHr Z consts_1 s.vm h0 vm293 T417.heap := R408.trans (CHr.keep K417 (sfS sf420 sf0) R408.1)
    have O421 := O410.keep K417 (allS ge376 all0)
    have g422 := ji X417 hx (ji X417 hx (ja X417 hx (js X417 hx st417 (hb hby at_216) rfl (l' := #[iv q1, iv q2, iv q3, iv q4, iv q5, iv cn1, iv ca, iv cb, iv cn2, iv rq, iv hs, iv hi, rv r127, rv b143, rv r191, rv b207, rv r348, rv b366, iv (Int32.ofNat ((((own_L0 ++ own_js [cn1]) ++ [(58 : Int32)]) ++ [(34 : Int32)]) ++ own_enc ca).length)]) rfl) (hb hby at_218) rfl rfl) (hb hby at_220) rfl) (hb hby at_222) rfl
    obtain ⟨_, L423, T423, ⟨rfl, M423, K423, y424⟩, X423, st423⟩ := own_callS X417 hx hZ hown (hw _ (mi 287 rfl)) (wd61 hw) (rm_encC hw b366 k366 ((((own_L0 ++ own_js [cn1]) ++ [(58 : Int32)]) ++ [(34 : Int32)]) ++ own_enc ca) cb T417.heap n0 O421 y418 ge376 (Nat.le_trans (own_ca (own_ca (own_ca (own_ca (Nat.le_refl 1) (own_jsl1 _)) (Nat.le_refl 1)) (Nat.le_refl 1)) (own_encl _)) (by decide)) z_cb y_cb) g422 rfl [] rfl (lenOf pd_47 rfl) (hb hby at_224) hml.symm 0 rfl (by decide)
    have N423 := Fr.app N417 M423
    have sf426 : Safe Z consts_1 vm293 T417.heap b366 := (Safe.keep K417 (sfS sf420 sf0) R408.1 sf420)
    have R425 : CHr Z consts_1 s.vm h0 vm293 T423.heap := R419.trans (CHr.keep K423 (sfS sf426 sf0) R419.1)
    have O427 := O421.keep K423 (allS ge376 all0)
    have g428 := jb X423 hx (ji X423 hx (ja X423 hx (js X423 hx st423 (hb hby at_227) rfl (l' := #[iv q1, iv q2, iv q3, iv q4, iv q5, iv cn1, iv ca, iv cb, iv cn2, iv rq, iv hs, iv hi, rv r127, rv b143, rv r191, rv b207, rv r348, rv b366, iv (Int32.ofNat (((((own_L0 ++ own_js [cn1]) ++ [(58 : Int32)]) ++ [(34 : Int32)]) ++ own_enc ca) ++ own_enc cb).length)]) rfl) (hb hby at_229) rfl rfl) (hb hby at_231) rfl) (hb hby at_233) 34 rfl
    have zz429 := y424
    obtain ⟨cl429, Ar429, q429, S429, M429, H429, G429⟩ := zz429
    have in429 : ¬ ((Int32.ofNat (((((own_L0 ++ own_js [cn1]) ++ [(58 : Int32)]) ++ [(34 : Int32)]) ++ own_enc ca) ++ own_enc cb).length) < 0 ∨ cl429.slots.size ≤ ((Int32.ofNat (((((own_L0 ++ own_js [cn1]) ++ [(58 : Int32)]) ++ [(34 : Int32)]) ++ own_enc ca) ++ own_enc cb).length)).toNatClampNeg) := inb_of S429 ⟨own_nonneg (Nat.lt_of_le_of_lt (own_ca (own_ca (own_ca (own_ca (own_ca (Nat.le_refl 1) (own_jsl1 _)) (Nat.le_refl 1)) (Nat.le_refl 1)) (own_encl _)) (own_encl _)) (by decide)), own_lt (b := 40) (Nat.lt_of_le_of_lt (own_ca (own_ca (own_ca (own_ca (own_ca (Nat.le_refl 1) (own_jsl1 _)) (Nat.le_refl 1)) (Nat.le_refl 1)) (own_encl _)) (own_encl _)) (by decide)) (by decide)⟩
    let lo430 : Array Slot := #[iv q1, iv q2, iv q3, iv q4, iv q5, iv cn1, iv ca, iv cb, iv cn2, iv rq, iv hs, iv hi, rv r127, rv b143, rv r191, rv b207, rv r348, rv b366, iv (Int32.ofNat (((((own_L0 ++ own_js [cn1]) ++ [(58 : Int32)]) ++ [(34 : Int32)]) ++ own_enc ca) ++ own_enc cb).length)]
    obtain ⟨T429, h429, X429, e429, W429, st429⟩ := stC X423 hx hZ rfl Ar429 (j := (Int32.ofNat (((((own_L0 ++ own_js [cn1]) ++ [(58 : Int32)]) ++ [(34 : Int32)]) ++ own_enc ca) ++ own_enc cb).length)) in429 (g := (mkF m 235 lo430 [(.int 34), (.int (Int32.ofNat (((((own_L0 ++ own_js [cn1]) ++ [(58 : Int32)]) ++ [(34 : Int32)]) ++ own_enc ca) ++ own_enc cb).length)), (.ref b366)])) rfl rfl (hb hby at_235)
    rw [show nar .char (34 : Int32) = (34 : Int32) from (by decide : nar .char (34 : Int32) = (34 : Int32))] at W429
    have sf432 : Safe Z consts_1 vm293 T423.heap b366 := (Safe.keep K423 (sfS sf426 sf0) R419.1 sf426)
    have R431 : CHr Z consts_1 s.vm h0 vm293 h429 := R425.trans (CHr.wr W429 sf432 R425.1)
    have O433 := O427.wr W429 ge376
    have y434 : Arv Z h429 b366 k366 .char (40 : Int32) ((own_E (((((own_L0 ++ own_js [cn1]) ++ [(58 : Int32)]) ++ [(34 : Int32)]) ++ own_enc ca) ++ own_enc cb)).set (((((own_L0 ++ own_js [cn1]) ++ [(58 : Int32)]) ++ [(34 : Int32)]) ++ own_enc ca) ++ own_enc cb).length (.int 34)) (.int 0) := Arv.set Ar429 q429 S429 M429 H429 G429 (own_ft_char (z := (34 : Int32)) (by decide : nar .char (34 : Int32) = (34 : Int32))) W429 (((((own_L0 ++ own_js [cn1]) ++ [(58 : Int32)]) ++ [(34 : Int32)]) ++ own_enc ca) ++ own_enc cb).length (own_clamp (Nat.lt_of_le_of_lt (own_ca (own_ca (own_ca (own_ca (own_ca (Nat.le_refl 1) (own_jsl1 _)) (Nat.le_refl 1)) (Nat.le_refl 1)) (own_encl _)) (own_encl _)) (by decide))) (by rw [own_Elen (Nat.le_trans (own_ca (own_ca (own_ca (own_ca (own_ca (Nat.le_refl 1) (own_jsl1 _)) (Nat.le_refl 1)) (Nat.le_refl 1)) (own_encl _)) (own_encl _)) (by decide))]; exact (Nat.lt_of_le_of_lt (own_ca (own_ca (own_ca (own_ca (own_ca (Nat.le_refl 1) (own_jsl1 _)) (Nat.le_refl 1)) (Nat.le_refl 1)) (own_encl _)) (own_encl _)) (by decide)))
    have N429 := Fr.snoc X429 N423 ge376
    have g435 : Go p e below T429 (mkF m 236 lo430 []) A0 := fun t kont => g428 t (st429 t kont)
    have y436 : Arv Z h429 b366 k366 .char (40 : Int32) (own_E ((((((own_L0 ++ own_js [cn1]) ++ [(58 : Int32)]) ++ [(34 : Int32)]) ++ own_enc ca) ++ own_enc cb) ++ [(34 : Int32)])) (.int 0) := by have q := y434; rw [own_Eset (Nat.lt_of_le_of_lt (own_ca (own_ca (own_ca (own_ca (own_ca (Nat.le_refl 1) (own_jsl1 _)) (Nat.le_refl 1)) (Nat.le_refl 1)) (own_encl _)) (own_encl _)) (by decide))] at q; exact q
    have g437 := jP X429 hx (jc X429 hx (ji X429 hx g435 (hb hby at_236) rfl) (hb hby at_238) 1 rfl) (hb hby at_239) rfl
    have g438 : Go p e below T429 (mkF m 240 lo430 [(.int (Int32.ofNat ((((((own_L0 ++ own_js [cn1]) ++ [(58 : Int32)]) ++ [(34 : Int32)]) ++ own_enc ca) ++ own_enc cb) ++ [(34 : Int32)]).length))]) A0 := by have z := g437; rw [own_n1] at z; exact z
    have y439 : Arv Z h429 b366 k366 .char (40 : Int32) (own_E l1) (.int 0) := by have q := y436; rw [own_T1 (j286.2 c387).1.symm] at q; exact q
    have g440 : Go p e below T429 (mkF m 240 #[iv q1, iv q2, iv q3, iv q4, iv q5, iv cn1, iv ca, iv cb, iv cn2, iv rq, iv hs, iv hi, rv r127, rv b143, rv r191, rv b207, rv r348, rv b366, iv (Int32.ofNat (((((own_L0 ++ own_js [cn1]) ++ [(58 : Int32)]) ++ [(34 : Int32)]) ++ own_enc ca) ++ own_enc cb).length)] [(.int (Int32.ofNat l1.length))]) A0 := by have z := g438; rw [own_T1 (j286.2 c387).1.symm] at z; exact z
    have g441 := js X429 hx g440 (hb hby at_240) rfl (l' := #[iv q1, iv q2, iv q3, iv q4, iv q5, iv cn1, iv ca, iv cb, iv cn2, iv rq, iv hs, iv hi, rv r127, rv b143, rv r191, rv b207, rv r348, rv b366, iv (Int32.ofNat l1.length)]) rfl
    exact ⟨_, _, _, _, _, (X429.more (by decide) (by decide)), e429, (((((((Keep.refl h375 [b366]).trans K392 (allS (P := fun x => x ∈ [b366] ∨ h375.size ≤ x) (Or.inl (mi 0 rfl)) all0)).wr W398 (Or.inl (mi 0 rfl))).wr W407 (Or.inl (mi 0 rfl))).trans K417 (allS (P := fun x => x ∈ [b366] ∨ h375.size ≤ x) (Or.inl (mi 0 rfl)) all0)).trans K423 (allS (P := fun x => x ∈ [b366] ∨ h375.size ≤ x) (Or.inl (mi 0 rfl)) all0)).wr W429 (Or.inl (mi 0 rfl))), hS, (Nat.le_trans hk (Nat.le_trans (Nat.le_trans (Nat.le_trans (Nat.le_trans (Nat.le_trans (Nat.le_trans (Nat.le_trans (Nat.le_trans K345.1 E366.1) (Keep.of_wr W375).1) K392.1) (Keep.of_wr W398).1) (Keep.of_wr W407).1) K417.1) K423.1) (Keep.of_wr W429).1)), hZ, hown, R431, (((((((CHr.refl R378.1).trans (CHr.keep K392 (sfS sf395 sf0) R378.1)).trans (CHr.wr W398 sf401 R394.1)).trans (CHr.wr W407 sf409 R400.1)).trans (CHr.keep K417 (sfS sf420 sf0) R408.1)).trans (CHr.keep K423 (sfS sf426 sf0) R419.1)).trans (CHr.wr W429 sf432 R425.1)), N429, g441, y439⟩
  have O443 := O379.keep K386 (allS ge376 all0)
  have g444 := ji X386 hx g386 (hb hby at_242) rfl
  obtain ⟨T445, lc445, h445, vm445, k445, X445, e445, K445, hS, hk, hZ, hown, R445, C445, N445, g445, y528⟩ : ∃ (T445 : State) (lc445 : List Loc) (h445 : Heap) (vm445 : Vm) (k445 : Nat), Stand p l e room_1 (s.setVm vm445) m #[(.int q1), (.int q2), (.int q3), (.int q4), (.int q5)] below meth c T445 lc445 29 2066 ∧ T445.heap = h445 ∧ Keep h386 h445 [b366] ∧ s.Since vm445 k445 ∧ k445 ≤ h445.size ∧ Z.Warmed39 (s.setVm vm445).vm ∧ (s.setVm vm445).vm.findClass "com/example/clear_fault/clearfault/JsonObjectWriterFinishPinLaw" = some m.cls ∧ CHr Z consts_1 s.vm h0 vm445 h445 ∧ CHr Z consts_1 vm386 h386 vm445 h445 ∧ Fr n0 lc445 ∧ Go p e below T445 (mkF m 340 #[iv q1, iv q2, iv q3, iv q4, iv q5, iv cn1, iv ca, iv cb, iv cn2, iv rq, iv hs, iv hi, rv r127, rv b143, rv r191, rv b207, rv r348, rv b366, iv (Int32.ofNat l2.length)] []) A0 ∧ (Arv Z h445 b366 k366 .char (40 : Int32) (own_E l2) (.int 0)) := by
    by_cases c446 : hi = (0 : Int32)
    ·
      have g447 := jY X386 hx g444 (hb hby at_244) rfl ((if0 _ _).trans (teq c446).1) (pc' := 340) (by decide)
      have y448 : Arv Z h386 b366 k366 .char (40 : Int32) (own_E l2) (.int 0) := by have q := y442; rw [← (j339.1 c446).1] at q; exact q
      have g449 : Go p e below T386 (mkF m 340 #[iv q1, iv q2, iv q3, iv q4, iv q5, iv cn1, iv ca, iv cb, iv cn2, iv rq, iv hs, iv hi, rv r127, rv b143, rv r191, rv b207, rv r348, rv b366, iv (Int32.ofNat l2.length)] []) A0 := by have z : Go p e below T386 (mkF m 340 #[iv q1, iv q2, iv q3, iv q4, iv q5, iv cn1, iv ca, iv cb, iv cn2, iv rq, iv hs, iv hi, rv r127, rv b143, rv r191, rv b207, rv r348, rv b366, iv (Int32.ofNat l1.length)] []) A0 := g447; rw [← (j339.1 c446).1] at z; exact z
      exact ⟨_, _, _, _, _, (X386.more (by decide) (by decide)), e386, (Keep.refl h386 [b366]), hS, hk, hZ, hown, R386, (CHr.refl R386.1), N386, g449, y448⟩
    have g450 := ji X386 hx (jN X386 hx g444 (hb hby at_244) rfl ((if0 _ _).trans (feq c446).1)) (hb hby at_247) rfl
    obtain ⟨T451, lc451, h451, vm451, k451, X451, e451, K451, hS, hk, hZ, hown, R451, C451, N451, g451, y470⟩ : ∃ (T451 : State) (lc451 : List Loc) (h451 : Heap) (vm451 : Vm) (k451 : Nat), Stand p l e room_1 (s.setVm vm451) m #[(.int q1), (.int q2), (.int q3), (.int q4), (.int q5)] below meth c T451 lc451 29 2066 ∧ T451.heap = h451 ∧ Keep h386 h451 [b366] ∧ s.Since vm451 k451 ∧ k451 ≤ h451.size ∧ Z.Warmed39 (s.setVm vm451).vm ∧ (s.setVm vm451).vm.findClass "com/example/clear_fault/clearfault/JsonObjectWriterFinishPinLaw" = some m.cls ∧ CHr Z consts_1 s.vm h0 vm451 h451 ∧ CHr Z consts_1 vm386 h386 vm451 h451 ∧ Fr n0 lc451 ∧ Go p e below T451 (mkF m 265 #[iv q1, iv q2, iv q3, iv q4, iv q5, iv cn1, iv ca, iv cb, iv cn2, iv rq, iv hs, iv hi, rv r127, rv b143, rv r191, rv b207, rv r348, rv b366, iv (Int32.ofNat (l1 ++ own_cm f1).length)] []) A0 ∧ (Arv Z h451 b366 k366 .char (40 : Int32) (own_E (l1 ++ own_cm f1)) (.int 0)) := by
      by_cases c452 : hs = (0 : Int32)
      ·
        have g453 := jY X386 hx g450 (hb hby at_249) rfl ((if0 _ _).trans (teq c452).1) (pc' := 265) (by decide)
        have y454 : Arv Z h386 b366 k366 .char (40 : Int32) (own_E (l1 ++ own_cm f1)) (.int 0) := by have q := y442; rw [own_cm1 (f := f1) (by rw [(j286.1 c452).2]; decide) l1] at q; exact q
        have g455 : Go p e below T386 (mkF m 265 #[iv q1, iv q2, iv q3, iv q4, iv q5, iv cn1, iv ca, iv cb, iv cn2, iv rq, iv hs, iv hi, rv r127, rv b143, rv r191, rv b207, rv r348, rv b366, iv (Int32.ofNat (l1 ++ own_cm f1).length)] []) A0 := by have z : Go p e below T386 (mkF m 265 #[iv q1, iv q2, iv q3, iv q4, iv q5, iv cn1, iv ca, iv cb, iv cn2, iv rq, iv hs, iv hi, rv r127, rv b143, rv r191, rv b207, rv r348, rv b366, iv (Int32.ofNat l1.length)] []) A0 := g453; rw [own_cm1 (f := f1) (by rw [(j286.1 c452).2]; decide) l1] at z; exact z
        exact ⟨_, _, _, _, _, (X386.more (by decide) (by decide)), e386, (Keep.refl h386 [b366]), hS, hk, hZ, hown, R386, (CHr.refl R386.1), N386, g455, y454⟩
      have g456 := jb X386 hx (ji X386 hx (ja X386 hx (jN X386 hx g450 (hb hby at_249) rfl ((if0 _ _).trans (feq c452).1)) (hb hby at_252) rfl rfl) (hb hby at_254) rfl) (hb hby at_256) 44 rfl
      have zz457 := y442
      obtain ⟨cl457, Ar457, q457, S457, M457, H457, G457⟩ := zz457
      have in457 : ¬ ((Int32.ofNat l1.length) < 0 ∨ cl457.slots.size ≤ ((Int32.ofNat l1.length)).toNatClampNeg) := inb_of S457 ⟨own_nonneg (Nat.lt_of_le_of_lt j287 (by decide)), own_lt (b := 40) (Nat.lt_of_le_of_lt j287 (by decide)) (by decide)⟩
      let lo458 : Array Slot := #[iv q1, iv q2, iv q3, iv q4, iv q5, iv cn1, iv ca, iv cb, iv cn2, iv rq, iv hs, iv hi, rv r127, rv b143, rv r191, rv b207, rv r348, rv b366, iv (Int32.ofNat l1.length)]
      obtain ⟨T457, h457, X457, e457, W457, st457⟩ := stC X386 hx hZ e386 Ar457 (j := (Int32.ofNat l1.length)) in457 (g := (mkF m 258 lo458 [(.int 44), (.int (Int32.ofNat l1.length)), (.ref b366)])) rfl rfl (hb hby at_258)
      rw [show nar .char (44 : Int32) = (44 : Int32) from (by decide : nar .char (44 : Int32) = (44 : Int32))] at W457
      have sf460 : Safe Z consts_1 vm386 h386 b366 := (CHr.safe C386 (Nat.lt_of_lt_of_le y370.lt (Keep.of_wr W375).1) (Safe.wr W375 (Safe.ext E366 R361.1 (Safe.new (Nat.le_of_eq gb366.symm))) R368.1 (Safe.ext E366 R361.1 (Safe.new (Nat.le_of_eq gb366.symm)))))
      have R459 : CHr Z consts_1 s.vm h0 vm386 h457 := R386.trans (CHr.wr W457 sf460 R386.1)
      have O461 := O443.wr W457 ge376
      have y462 : Arv Z h457 b366 k366 .char (40 : Int32) ((own_E l1).set l1.length (.int 44)) (.int 0) := Arv.set Ar457 q457 S457 M457 H457 G457 (own_ft_char (z := (44 : Int32)) (by decide : nar .char (44 : Int32) = (44 : Int32))) W457 l1.length (own_clamp (Nat.lt_of_le_of_lt j287 (by decide))) (by rw [own_Elen (Nat.le_trans j287 (by decide))]; exact (Nat.lt_of_le_of_lt j287 (by decide)))
      have N457 := Fr.snoc X457 N386 ge376
      have g463 : Go p e below T457 (mkF m 259 lo458 []) A0 := fun t kont => g456 t (st457 t kont)
      have y464 : Arv Z h457 b366 k366 .char (40 : Int32) (own_E (l1 ++ [(44 : Int32)])) (.int 0) := by have q := y462; rw [own_Eset (Nat.lt_of_le_of_lt j287 (by decide))] at q; exact q
      have g465 := jP X457 hx (jc X457 hx (ji X457 hx g463 (hb hby at_259) rfl) (hb hby at_261) 1 rfl) (hb hby at_262) rfl
      have g466 : Go p e below T457 (mkF m 263 lo458 [(.int (Int32.ofNat (l1 ++ [(44 : Int32)]).length))]) A0 := by have z := g465; rw [own_n1] at z; exact z
      have y467 : Arv Z h457 b366 k366 .char (40 : Int32) (own_E (l1 ++ own_cm f1)) (.int 0) := by have q := y464; rw [own_cm0 (j286.2 c452).2 l1] at q; exact q
      have g468 : Go p e below T457 (mkF m 263 #[iv q1, iv q2, iv q3, iv q4, iv q5, iv cn1, iv ca, iv cb, iv cn2, iv rq, iv hs, iv hi, rv r127, rv b143, rv r191, rv b207, rv r348, rv b366, iv (Int32.ofNat l1.length)] [(.int (Int32.ofNat (l1 ++ own_cm f1).length))]) A0 := by have z := g466; rw [own_cm0 (j286.2 c452).2 l1] at z; exact z
      have g469 := js X457 hx g468 (hb hby at_263) rfl (l' := #[iv q1, iv q2, iv q3, iv q4, iv q5, iv cn1, iv ca, iv cb, iv cn2, iv rq, iv hs, iv hi, rv r127, rv b143, rv r191, rv b207, rv r348, rv b366, iv (Int32.ofNat (l1 ++ own_cm f1).length)]) rfl
      exact ⟨_, _, _, _, _, (X457.more (by decide) (by decide)), e457, ((Keep.refl h386 [b366]).wr W457 (Or.inl (mi 0 rfl))), hS, (Nat.le_trans hk (Keep.of_wr W457).1), hZ, hown, R459, ((CHr.refl R386.1).trans (CHr.wr W457 sf460 R386.1)), N457, g469, y467⟩
    have O471 := O443.keep K451 (allS ge376 all0)
    have g472 := ji X451 hx (ji X451 hx (ja X451 hx g451 (hb hby at_265) rfl rfl) (hb hby at_267) rfl) (hb hby at_269) rfl
    obtain ⟨_, L473, T473, ⟨rfl, M473, K473, y474⟩, X473, st473⟩ := own_callS X451 hx hZ hown (hw _ (mi 284 rfl)) (wd66 hw) (rm_strC hw b366 k366 (l1 ++ own_cm f1) cn2 h451 n0 O471 y470 ge376 (Nat.le_trans (own_ca j287 (own_cml _)) (by decide)) z_cn2 y_cn2) g472 e451 [] rfl (lenOf pd_47 rfl) (hb hby at_271) hml.symm 0 rfl (by decide)
    have N473 := Fr.app N451 M473
    have sf476 : Safe Z consts_1 vm451 h451 b366 := (CHr.safe C451 (Nat.lt_of_lt_of_le y370.lt (Nat.le_trans (Keep.of_wr W375).1 K386.1)) (CHr.safe C386 (Nat.lt_of_lt_of_le y370.lt (Keep.of_wr W375).1) (Safe.wr W375 (Safe.ext E366 R361.1 (Safe.new (Nat.le_of_eq gb366.symm))) R368.1 (Safe.ext E366 R361.1 (Safe.new (Nat.le_of_eq gb366.symm))))))
    have R475 : CHr Z consts_1 s.vm h0 vm451 T473.heap := R451.trans (CHr.keep K473 (sfS sf476 sf0) R451.1)
    have O477 := O471.keep K473 (allS ge376 all0)
    have g478 := jb X473 hx (ji X473 hx (ja X473 hx (js X473 hx st473 (hb hby at_274) rfl (l' := #[iv q1, iv q2, iv q3, iv q4, iv q5, iv cn1, iv ca, iv cb, iv cn2, iv rq, iv hs, iv hi, rv r127, rv b143, rv r191, rv b207, rv r348, rv b366, iv (Int32.ofNat ((l1 ++ own_cm f1) ++ own_js [cn2]).length)]) rfl) (hb hby at_276) rfl rfl) (hb hby at_278) rfl) (hb hby at_280) 58 rfl
    have zz479 := y474
    obtain ⟨cl479, Ar479, q479, S479, M479, H479, G479⟩ := zz479
    have in479 : ¬ ((Int32.ofNat ((l1 ++ own_cm f1) ++ own_js [cn2]).length) < 0 ∨ cl479.slots.size ≤ ((Int32.ofNat ((l1 ++ own_cm f1) ++ own_js [cn2]).length)).toNatClampNeg) := inb_of S479 ⟨own_nonneg (Nat.lt_of_le_of_lt (own_ca (own_ca j287 (own_cml _)) (own_jsl1 _)) (by decide)), own_lt (b := 40) (Nat.lt_of_le_of_lt (own_ca (own_ca j287 (own_cml _)) (own_jsl1 _)) (by decide)) (by decide)⟩
    let lo480 : Array Slot := #[iv q1, iv q2, iv q3, iv q4, iv q5, iv cn1, iv ca, iv cb, iv cn2, iv rq, iv hs, iv hi, rv r127, rv b143, rv r191, rv b207, rv r348, rv b366, iv (Int32.ofNat ((l1 ++ own_cm f1) ++ own_js [cn2]).length)]
    obtain ⟨T479, h479, X479, e479, W479, st479⟩ := stC X473 hx hZ rfl Ar479 (j := (Int32.ofNat ((l1 ++ own_cm f1) ++ own_js [cn2]).length)) in479 (g := (mkF m 282 lo480 [(.int 58), (.int (Int32.ofNat ((l1 ++ own_cm f1) ++ own_js [cn2]).length)), (.ref b366)])) rfl rfl (hb hby at_282)
    rw [show nar .char (58 : Int32) = (58 : Int32) from (by decide : nar .char (58 : Int32) = (58 : Int32))] at W479
    have sf482 : Safe Z consts_1 vm451 T473.heap b366 := (Safe.keep K473 (sfS sf476 sf0) R451.1 sf476)
    have R481 : CHr Z consts_1 s.vm h0 vm451 h479 := R475.trans (CHr.wr W479 sf482 R475.1)
    have O483 := O477.wr W479 ge376
    have y484 : Arv Z h479 b366 k366 .char (40 : Int32) ((own_E ((l1 ++ own_cm f1) ++ own_js [cn2])).set ((l1 ++ own_cm f1) ++ own_js [cn2]).length (.int 58)) (.int 0) := Arv.set Ar479 q479 S479 M479 H479 G479 (own_ft_char (z := (58 : Int32)) (by decide : nar .char (58 : Int32) = (58 : Int32))) W479 ((l1 ++ own_cm f1) ++ own_js [cn2]).length (own_clamp (Nat.lt_of_le_of_lt (own_ca (own_ca j287 (own_cml _)) (own_jsl1 _)) (by decide))) (by rw [own_Elen (Nat.le_trans (own_ca (own_ca j287 (own_cml _)) (own_jsl1 _)) (by decide))]; exact (Nat.lt_of_le_of_lt (own_ca (own_ca j287 (own_cml _)) (own_jsl1 _)) (by decide)))
    have N479 := Fr.snoc X479 N473 ge376
    have g485 : Go p e below T479 (mkF m 283 lo480 []) A0 := fun t kont => g478 t (st479 t kont)
    have y486 : Arv Z h479 b366 k366 .char (40 : Int32) (own_E (((l1 ++ own_cm f1) ++ own_js [cn2]) ++ [(58 : Int32)])) (.int 0) := by have q := y484; rw [own_Eset (Nat.lt_of_le_of_lt (own_ca (own_ca j287 (own_cml _)) (own_jsl1 _)) (by decide))] at q; exact q
    have g487 := jP X479 hx (jc X479 hx (ji X479 hx g485 (hb hby at_283) rfl) (hb hby at_285) 1 rfl) (hb hby at_286) rfl
    have g488 : Go p e below T479 (mkF m 287 lo480 [(.int (Int32.ofNat (((l1 ++ own_cm f1) ++ own_js [cn2]) ++ [(58 : Int32)]).length))]) A0 := by have z := g487; rw [own_n1] at z; exact z
    have g489 := js X479 hx g488 (hb hby at_287) rfl (l' := #[iv q1, iv q2, iv q3, iv q4, iv q5, iv cn1, iv ca, iv cb, iv cn2, iv rq, iv hs, iv hi, rv r127, rv b143, rv r191, rv b207, rv r348, rv b366, iv (Int32.ofNat (((l1 ++ own_cm f1) ++ own_js [cn2]) ++ [(58 : Int32)]).length)]) rfl
    have hq := hrd
    rcases hq with ⟨dd, hd9, e5, e6⟩ | ⟨dd, hd1, hd9, e5, e6⟩
    ·
      have g490 := jz X479 hx (jP X479 hx (ji X479 hx (jb X479 hx (ji X479 hx (ja X479 hx (jY X479 hx (ji X479 hx g489 (hb hby at_289) rfl) (hb hby at_291) rfl ((if0 _ _).trans (flt (by rw [e5]; exact own_nonneg (Nat.lt_of_le_of_lt hd9 (by decide)) : ¬ (rq < (0 : Int32)))).2.1) (pc' := 323) (by decide)) (hb hby at_323) rfl rfl) (hb hby at_325) rfl) (hb hby at_327) 48 rfl) (hb hby at_329) rfl) (hb hby at_331) rfl) (hb hby at_332) rfl
      have g491 := own_rwS g490 (own_dpos hd9 e5 : (((48 : Int32) + rq).toUInt32.toUInt16.toUInt32.toInt32) = (Int32.ofNat (48 + dd)))
      have zz492 := y486
      obtain ⟨cl492, Ar492, q492, S492, M492, H492, G492⟩ := zz492
      have in492 : ¬ ((Int32.ofNat (((l1 ++ own_cm f1) ++ own_js [cn2]) ++ [(58 : Int32)]).length) < 0 ∨ cl492.slots.size ≤ ((Int32.ofNat (((l1 ++ own_cm f1) ++ own_js [cn2]) ++ [(58 : Int32)]).length)).toNatClampNeg) := inb_of S492 ⟨own_nonneg (Nat.lt_of_le_of_lt (own_ca (own_ca (own_ca j287 (own_cml _)) (own_jsl1 _)) (Nat.le_refl 1)) (by decide)), own_lt (b := 40) (Nat.lt_of_le_of_lt (own_ca (own_ca (own_ca j287 (own_cml _)) (own_jsl1 _)) (Nat.le_refl 1)) (by decide)) (by decide)⟩
      let lo493 : Array Slot := #[iv q1, iv q2, iv q3, iv q4, iv q5, iv cn1, iv ca, iv cb, iv cn2, iv rq, iv hs, iv hi, rv r127, rv b143, rv r191, rv b207, rv r348, rv b366, iv (Int32.ofNat (((l1 ++ own_cm f1) ++ own_js [cn2]) ++ [(58 : Int32)]).length)]
      obtain ⟨T492, h492, X492, e492, W492, st492⟩ := stC X479 hx hZ e479 Ar492 (j := (Int32.ofNat (((l1 ++ own_cm f1) ++ own_js [cn2]) ++ [(58 : Int32)]).length)) in492 (g := (mkF m 333 lo493 [(.int (Int32.ofNat (48 + dd))), (.int (Int32.ofNat (((l1 ++ own_cm f1) ++ own_js [cn2]) ++ [(58 : Int32)]).length)), (.ref b366)])) rfl rfl (hb hby at_333)
      rw [show nar .char (Int32.ofNat (48 + dd)) = (Int32.ofNat (48 + dd)) from (own_narid (own_48 hd9).1 (own_w255 (own_48 hd9).2))] at W492
      have sf495 : Safe Z consts_1 vm451 h479 b366 := (Safe.wr W479 sf482 R475.1 sf482)
      have R494 : CHr Z consts_1 s.vm h0 vm451 h492 := R481.trans (CHr.wr W492 sf495 R481.1)
      have O496 := O483.wr W492 ge376
      have y497 : Arv Z h492 b366 k366 .char (40 : Int32) ((own_E (((l1 ++ own_cm f1) ++ own_js [cn2]) ++ [(58 : Int32)])).set (((l1 ++ own_cm f1) ++ own_js [cn2]) ++ [(58 : Int32)]).length (.int (Int32.ofNat (48 + dd)))) (.int 0) := Arv.set Ar492 q492 S492 M492 H492 G492 (own_ft_char (z := (Int32.ofNat (48 + dd))) (own_narid (own_48 hd9).1 (own_w255 (own_48 hd9).2))) W492 (((l1 ++ own_cm f1) ++ own_js [cn2]) ++ [(58 : Int32)]).length (own_clamp (Nat.lt_of_le_of_lt (own_ca (own_ca (own_ca j287 (own_cml _)) (own_jsl1 _)) (Nat.le_refl 1)) (by decide))) (by rw [own_Elen (Nat.le_trans (own_ca (own_ca (own_ca j287 (own_cml _)) (own_jsl1 _)) (Nat.le_refl 1)) (by decide))]; exact (Nat.lt_of_le_of_lt (own_ca (own_ca (own_ca j287 (own_cml _)) (own_jsl1 _)) (Nat.le_refl 1)) (by decide)))
      have N492 := Fr.snoc X492 N479 ge376
      have g498 : Go p e below T492 (mkF m 334 lo493 []) A0 := fun t kont => g491 t (st492 t kont)
      have y499 : Arv Z h492 b366 k366 .char (40 : Int32) (own_E ((((l1 ++ own_cm f1) ++ own_js [cn2]) ++ [(58 : Int32)]) ++ [(Int32.ofNat (48 + dd))])) (.int 0) := by have q := y497; rw [own_Eset (Nat.lt_of_le_of_lt (own_ca (own_ca (own_ca j287 (own_cml _)) (own_jsl1 _)) (Nat.le_refl 1)) (by decide))] at q; exact q
      have g500 := jP X492 hx (jc X492 hx (ji X492 hx g498 (hb hby at_334) rfl) (hb hby at_336) 1 rfl) (hb hby at_337) rfl
      have g501 : Go p e below T492 (mkF m 338 lo493 [(.int (Int32.ofNat ((((l1 ++ own_cm f1) ++ own_js [cn2]) ++ [(58 : Int32)]) ++ [(Int32.ofNat (48 + dd))]).length))]) A0 := by have z := g500; rw [own_n1] at z; exact z
      have y502 : Arv Z h492 b366 k366 .char (40 : Int32) (own_E l2) (.int 0) := by have q := y499; rw [own_T2P e6 (j339.2 c446).1.symm] at q; exact q
      have g503 : Go p e below T492 (mkF m 338 #[iv q1, iv q2, iv q3, iv q4, iv q5, iv cn1, iv ca, iv cb, iv cn2, iv rq, iv hs, iv hi, rv r127, rv b143, rv r191, rv b207, rv r348, rv b366, iv (Int32.ofNat (((l1 ++ own_cm f1) ++ own_js [cn2]) ++ [(58 : Int32)]).length)] [(.int (Int32.ofNat l2.length))]) A0 := by have z := g501; rw [own_T2P e6 (j339.2 c446).1.symm] at z; exact z
      have g504 := js X492 hx g503 (hb hby at_338) rfl (l' := #[iv q1, iv q2, iv q3, iv q4, iv q5, iv cn1, iv ca, iv cb, iv cn2, iv rq, iv hs, iv hi, rv r127, rv b143, rv r191, rv b207, rv r348, rv b366, iv (Int32.ofNat l2.length)]) rfl
      exact ⟨_, _, _, _, _, (X492.more (by decide) (by decide)), e492, (((((Keep.refl h386 [b366]).trans K451 (allS (P := fun x => x ∈ [b366] ∨ h386.size ≤ x) (Or.inl (mi 0 rfl)) all0)).trans K473 (allS (P := fun x => x ∈ [b366] ∨ h386.size ≤ x) (Or.inl (mi 0 rfl)) all0)).wr W479 (Or.inl (mi 0 rfl))).wr W492 (Or.inl (mi 0 rfl))), hS, (Nat.le_trans hk (Nat.le_trans (Nat.le_trans K473.1 (Keep.of_wr W479).1) (Keep.of_wr W492).1)), hZ, hown, R494, (((((CHr.refl R386.1).trans (C451)).trans (CHr.keep K473 (sfS sf476 sf0) R451.1)).trans (CHr.wr W479 sf482 R475.1)).trans (CHr.wr W492 sf495 R481.1)), N492, g504, y502⟩
    have g505 := jb X479 hx (ji X479 hx (ja X479 hx (jN X479 hx (ji X479 hx g489 (hb hby at_289) rfl) (hb hby at_291) rfl ((if0 _ _).trans (tlt (by rw [e5]; exact own_neglt hd1 hd9 : rq < (0 : Int32))).2.1)) (hb hby at_294) rfl rfl) (hb hby at_296) rfl) (hb hby at_298) 45 rfl
    have zz506 := y486
    obtain ⟨cl506, Ar506, q506, S506, M506, H506, G506⟩ := zz506
    have in506 : ¬ ((Int32.ofNat (((l1 ++ own_cm f1) ++ own_js [cn2]) ++ [(58 : Int32)]).length) < 0 ∨ cl506.slots.size ≤ ((Int32.ofNat (((l1 ++ own_cm f1) ++ own_js [cn2]) ++ [(58 : Int32)]).length)).toNatClampNeg) := inb_of S506 ⟨own_nonneg (Nat.lt_of_le_of_lt (own_ca (own_ca (own_ca j287 (own_cml _)) (own_jsl1 _)) (Nat.le_refl 1)) (by decide)), own_lt (b := 40) (Nat.lt_of_le_of_lt (own_ca (own_ca (own_ca j287 (own_cml _)) (own_jsl1 _)) (Nat.le_refl 1)) (by decide)) (by decide)⟩
    let lo507 : Array Slot := #[iv q1, iv q2, iv q3, iv q4, iv q5, iv cn1, iv ca, iv cb, iv cn2, iv rq, iv hs, iv hi, rv r127, rv b143, rv r191, rv b207, rv r348, rv b366, iv (Int32.ofNat (((l1 ++ own_cm f1) ++ own_js [cn2]) ++ [(58 : Int32)]).length)]
    obtain ⟨T506, h506, X506, e506, W506, st506⟩ := stC X479 hx hZ e479 Ar506 (j := (Int32.ofNat (((l1 ++ own_cm f1) ++ own_js [cn2]) ++ [(58 : Int32)]).length)) in506 (g := (mkF m 300 lo507 [(.int 45), (.int (Int32.ofNat (((l1 ++ own_cm f1) ++ own_js [cn2]) ++ [(58 : Int32)]).length)), (.ref b366)])) rfl rfl (hb hby at_300)
    rw [show nar .char (45 : Int32) = (45 : Int32) from (by decide : nar .char (45 : Int32) = (45 : Int32))] at W506
    have sf509 : Safe Z consts_1 vm451 h479 b366 := (Safe.wr W479 sf482 R475.1 sf482)
    have R508 : CHr Z consts_1 s.vm h0 vm451 h506 := R481.trans (CHr.wr W506 sf509 R481.1)
    have O510 := O483.wr W506 ge376
    have y511 : Arv Z h506 b366 k366 .char (40 : Int32) ((own_E (((l1 ++ own_cm f1) ++ own_js [cn2]) ++ [(58 : Int32)])).set (((l1 ++ own_cm f1) ++ own_js [cn2]) ++ [(58 : Int32)]).length (.int 45)) (.int 0) := Arv.set Ar506 q506 S506 M506 H506 G506 (own_ft_char (z := (45 : Int32)) (by decide : nar .char (45 : Int32) = (45 : Int32))) W506 (((l1 ++ own_cm f1) ++ own_js [cn2]) ++ [(58 : Int32)]).length (own_clamp (Nat.lt_of_le_of_lt (own_ca (own_ca (own_ca j287 (own_cml _)) (own_jsl1 _)) (Nat.le_refl 1)) (by decide))) (by rw [own_Elen (Nat.le_trans (own_ca (own_ca (own_ca j287 (own_cml _)) (own_jsl1 _)) (Nat.le_refl 1)) (by decide))]; exact (Nat.lt_of_le_of_lt (own_ca (own_ca (own_ca j287 (own_cml _)) (own_jsl1 _)) (Nat.le_refl 1)) (by decide)))
    have N506 := Fr.snoc X506 N479 ge376
    have g512 : Go p e below T506 (mkF m 301 lo507 []) A0 := fun t kont => g505 t (st506 t kont)
    have y513 : Arv Z h506 b366 k366 .char (40 : Int32) (own_E ((((l1 ++ own_cm f1) ++ own_js [cn2]) ++ [(58 : Int32)]) ++ [(45 : Int32)])) (.int 0) := by have q := y511; rw [own_Eset (Nat.lt_of_le_of_lt (own_ca (own_ca (own_ca j287 (own_cml _)) (own_jsl1 _)) (Nat.le_refl 1)) (by decide))] at q; exact q
    have g514 := jz X506 hx (jM X506 hx (ji X506 hx (jb X506 hx (jP X506 hx (jc X506 hx (ji X506 hx (ja X506 hx g512 (hb hby at_301) rfl rfl) (hb hby at_303) rfl) (hb hby at_305) 1 rfl) (hb hby at_306) rfl) (hb hby at_307) 48 rfl) (hb hby at_309) rfl) (hb hby at_311) rfl) (hb hby at_312) rfl
    have g515 := own_rwS g514 (own_dneg hd9 e5 : (((48 : Int32) - rq).toUInt32.toUInt16.toUInt32.toInt32) = (Int32.ofNat (48 + dd)))
    have zz516 := y513
    obtain ⟨cl516, Ar516, q516, S516, M516, H516, G516⟩ := zz516
    have in516 : ¬ (((Int32.ofNat (((l1 ++ own_cm f1) ++ own_js [cn2]) ++ [(58 : Int32)]).length) + (1 : Int32)) < 0 ∨ cl516.slots.size ≤ (((Int32.ofNat (((l1 ++ own_cm f1) ++ own_js [cn2]) ++ [(58 : Int32)]).length) + (1 : Int32))).toNatClampNeg) := inb_of S516 (by rw [own_succ]; exact ⟨own_nonneg (Nat.lt_of_le_of_lt (Nat.add_le_add_right (own_ca (own_ca (own_ca j287 (own_cml _)) (own_jsl1 _)) (Nat.le_refl 1)) 1) (by decide)), own_lt (b := 40) (Nat.lt_of_le_of_lt (Nat.add_le_add_right (own_ca (own_ca (own_ca j287 (own_cml _)) (own_jsl1 _)) (Nat.le_refl 1)) 1) (by decide)) (by decide)⟩)
    obtain ⟨T516, h516, X516, e516, W516, st516⟩ := stC X506 hx hZ e506 Ar516 (j := ((Int32.ofNat (((l1 ++ own_cm f1) ++ own_js [cn2]) ++ [(58 : Int32)]).length) + (1 : Int32))) in516 (g := (mkF m 313 lo507 [(.int (Int32.ofNat (48 + dd))), (.int ((Int32.ofNat (((l1 ++ own_cm f1) ++ own_js [cn2]) ++ [(58 : Int32)]).length) + (1 : Int32))), (.ref b366)])) rfl rfl (hb hby at_313)
    rw [show nar .char (Int32.ofNat (48 + dd)) = (Int32.ofNat (48 + dd)) from (own_narid (own_48 hd9).1 (own_w255 (own_48 hd9).2))] at W516
    have sf518 : Safe Z consts_1 vm451 h506 b366 := (Safe.wr W506 sf509 R481.1 sf509)
    have R517 : CHr Z consts_1 s.vm h0 vm451 h516 := R508.trans (CHr.wr W516 sf518 R508.1)
    have O519 := O510.wr W516 ge376
    have y520 : Arv Z h516 b366 k366 .char (40 : Int32) ((own_E ((((l1 ++ own_cm f1) ++ own_js [cn2]) ++ [(58 : Int32)]) ++ [(45 : Int32)])).set ((((l1 ++ own_cm f1) ++ own_js [cn2]) ++ [(58 : Int32)]).length + 1) (.int (Int32.ofNat (48 + dd)))) (.int 0) := Arv.set Ar516 q516 S516 M516 H516 G516 (own_ft_char (z := (Int32.ofNat (48 + dd))) (own_narid (own_48 hd9).1 (own_w255 (own_48 hd9).2))) W516 ((((l1 ++ own_cm f1) ++ own_js [cn2]) ++ [(58 : Int32)]).length + 1) (by rw [own_succ]; exact own_clamp (Nat.lt_of_le_of_lt (Nat.add_le_add_right (own_ca (own_ca (own_ca j287 (own_cml _)) (own_jsl1 _)) (Nat.le_refl 1)) 1) (by decide))) (by rw [own_Elen (Nat.le_trans (own_ca (own_ca (own_ca (own_ca j287 (own_cml _)) (own_jsl1 _)) (Nat.le_refl 1)) (Nat.le_refl 1)) (by decide))]; exact (Nat.lt_of_le_of_lt (Nat.add_le_add_right (own_ca (own_ca (own_ca j287 (own_cml _)) (own_jsl1 _)) (Nat.le_refl 1)) 1) (by decide)))
    have N516 := Fr.snoc X516 N506 ge376
    have g521 : Go p e below T516 (mkF m 314 lo507 []) A0 := fun t kont => g515 t (st516 t kont)
    have y522 : Arv Z h516 b366 k366 .char (40 : Int32) (own_E (((((l1 ++ own_cm f1) ++ own_js [cn2]) ++ [(58 : Int32)]) ++ [(45 : Int32)]) ++ [(Int32.ofNat (48 + dd))])) (.int 0) := by have q := y520; rw [own_E2 (Nat.lt_of_le_of_lt (Nat.add_le_add_right (own_ca (own_ca (own_ca j287 (own_cml _)) (own_jsl1 _)) (Nat.le_refl 1)) 1) (by decide))] at q; exact q
    have g523 := jP X516 hx (jc X516 hx (ji X516 hx g521 (hb hby at_314) rfl) (hb hby at_316) 2 rfl) (hb hby at_317) rfl
    have g524 : Go p e below T516 (mkF m 318 lo507 [(.int (Int32.ofNat (((((l1 ++ own_cm f1) ++ own_js [cn2]) ++ [(58 : Int32)]) ++ [(45 : Int32)]) ++ [(Int32.ofNat (48 + dd))]).length))]) A0 := by have z := g523; rw [own_n2] at z; exact z
    have y525 : Arv Z h516 b366 k366 .char (40 : Int32) (own_E l2) (.int 0) := by have q := y522; rw [own_T2M e6 (j339.2 c446).1.symm] at q; exact q
    have g526 : Go p e below T516 (mkF m 318 #[iv q1, iv q2, iv q3, iv q4, iv q5, iv cn1, iv ca, iv cb, iv cn2, iv rq, iv hs, iv hi, rv r127, rv b143, rv r191, rv b207, rv r348, rv b366, iv (Int32.ofNat (((l1 ++ own_cm f1) ++ own_js [cn2]) ++ [(58 : Int32)]).length)] [(.int (Int32.ofNat l2.length))]) A0 := by have z := g524; rw [own_T2M e6 (j339.2 c446).1.symm] at z; exact z
    have g527 := jg X516 hx (js X516 hx g526 (hb hby at_318) rfl (l' := #[iv q1, iv q2, iv q3, iv q4, iv q5, iv cn1, iv ca, iv cb, iv cn2, iv rq, iv hs, iv hi, rv r127, rv b143, rv r191, rv b207, rv r348, rv b366, iv (Int32.ofNat l2.length)]) rfl) (hb hby at_320) (pc' := 340) (by decide)
    exact ⟨_, _, _, _, _, (X516.more (by decide) (by decide)), e516, ((((((Keep.refl h386 [b366]).trans K451 (allS (P := fun x => x ∈ [b366] ∨ h386.size ≤ x) (Or.inl (mi 0 rfl)) all0)).trans K473 (allS (P := fun x => x ∈ [b366] ∨ h386.size ≤ x) (Or.inl (mi 0 rfl)) all0)).wr W479 (Or.inl (mi 0 rfl))).wr W506 (Or.inl (mi 0 rfl))).wr W516 (Or.inl (mi 0 rfl))), hS, (Nat.le_trans hk (Nat.le_trans (Nat.le_trans (Nat.le_trans K473.1 (Keep.of_wr W479).1) (Keep.of_wr W506).1) (Keep.of_wr W516).1)), hZ, hown, R517, ((((((CHr.refl R386.1).trans (C451)).trans (CHr.keep K473 (sfS sf476 sf0) R451.1)).trans (CHr.wr W479 sf482 R475.1)).trans (CHr.wr W506 sf509 R481.1)).trans (CHr.wr W516 sf518 R508.1)), N516, g527, y525⟩
  have O529 := O443.keep K445 (allS ge376 all0)
  have g530 := jb X445 hx (ji X445 hx (ja X445 hx g445 (hb hby at_340) rfl rfl) (hb hby at_342) rfl) (hb hby at_344) 125 rfl
  have zz531 := y528
  obtain ⟨cl531, Ar531, q531, S531, M531, H531, G531⟩ := zz531
  have in531 : ¬ ((Int32.ofNat l2.length) < 0 ∨ cl531.slots.size ≤ ((Int32.ofNat l2.length)).toNatClampNeg) := inb_of S531 ⟨own_nonneg (Nat.lt_of_le_of_lt j340 (by decide)), own_lt (b := 40) (Nat.lt_of_le_of_lt j340 (by decide)) (by decide)⟩
  let lo532 : Array Slot := #[iv q1, iv q2, iv q3, iv q4, iv q5, iv cn1, iv ca, iv cb, iv cn2, iv rq, iv hs, iv hi, rv r127, rv b143, rv r191, rv b207, rv r348, rv b366, iv (Int32.ofNat l2.length)]
  obtain ⟨T531, h531, X531, e531, W531, st531⟩ := stC X445 hx hZ e445 Ar531 (j := (Int32.ofNat l2.length)) in531 (g := (mkF m 346 lo532 [(.int 125), (.int (Int32.ofNat l2.length)), (.ref b366)])) rfl rfl (hb hby at_346)
  rw [show nar .char (125 : Int32) = (125 : Int32) from (by decide : nar .char (125 : Int32) = (125 : Int32))] at W531
  have sf534 : Safe Z consts_1 vm445 h445 b366 := (CHr.safe C445 (Nat.lt_of_lt_of_le y370.lt (Nat.le_trans (Keep.of_wr W375).1 K386.1)) (CHr.safe C386 (Nat.lt_of_lt_of_le y370.lt (Keep.of_wr W375).1) (Safe.wr W375 (Safe.ext E366 R361.1 (Safe.new (Nat.le_of_eq gb366.symm))) R368.1 (Safe.ext E366 R361.1 (Safe.new (Nat.le_of_eq gb366.symm))))))
  have R533 : CHr Z consts_1 s.vm h0 vm445 h531 := R445.trans (CHr.wr W531 sf534 R445.1)
  have O535 := O529.wr W531 ge376
  have y536 : Arv Z h531 b366 k366 .char (40 : Int32) ((own_E l2).set l2.length (.int 125)) (.int 0) := Arv.set Ar531 q531 S531 M531 H531 G531 (own_ft_char (z := (125 : Int32)) (by decide : nar .char (125 : Int32) = (125 : Int32))) W531 l2.length (own_clamp (Nat.lt_of_le_of_lt j340 (by decide))) (by rw [own_Elen (Nat.le_trans j340 (by decide))]; exact (Nat.lt_of_le_of_lt j340 (by decide)))
  have N531 := Fr.snoc X531 N445 ge376
  have g537 : Go p e below T531 (mkF m 347 lo532 []) A0 := fun t kont => g530 t (st531 t kont)
  have y538 : Arv Z h531 b366 k366 .char (40 : Int32) (own_E (l2 ++ [(125 : Int32)])) (.int 0) := by have q := y536; rw [own_Eset (Nat.lt_of_le_of_lt j340 (by decide))] at q; exact q
  have g539 := jP X531 hx (jc X531 hx (ji X531 hx g537 (hb hby at_347) rfl) (hb hby at_349) 1 rfl) (hb hby at_350) rfl
  have g540 : Go p e below T531 (mkF m 351 lo532 [(.int (Int32.ofNat (l2 ++ [(125 : Int32)]).length))]) A0 := by have z := g539; rw [own_n1] at z; exact z
  have hc541 : own_chars (l2 ++ [(125 : Int32)]) := own_chars_app j341 (own_chars1 (by decide) (by decide))
  have hb542 : (l2 ++ [(125 : Int32)]).length ≤ 40 := Nat.le_trans (own_ca j340 (Nat.le_refl 1)) (by decide)
  have g543 := ja X531 hx (js X531 hx g540 (hb hby at_351) rfl (l' := #[iv q1, iv q2, iv q3, iv q4, iv q5, iv cn1, iv ca, iv cb, iv cn2, iv rq, iv hs, iv hi, rv r127, rv b143, rv r191, rv b207, rv r348, rv b366, iv (Int32.ofNat (l2 ++ [(125 : Int32)]).length)]) rfl) (hb hby at_353) rfl rfl
  have y545 := (((((y355.ext E366).wr W375).keep K386).keep K445).wr W531)
  have y546 := (((((y357.ext E366).other W375 (Or.inl (Nat.ne_of_lt (Nat.lt_of_lt_of_le y355.lt (Nat.le_of_eq gb366.symm))))).keep K386 (ninS (Nat.ne_of_lt (Nat.lt_of_lt_of_le y355.lt (Nat.le_of_eq gb366.symm))) nin0)).keep K445 (ninS (Nat.ne_of_lt (Nat.lt_of_lt_of_le y355.lt (Nat.le_of_eq gb366.symm))) nin0)).other W531 (Or.inl (Nat.ne_of_lt (Nat.lt_of_lt_of_le y355.lt (Nat.le_of_eq gb366.symm)))))
  have y547 := (((((y356.ext E366).other W375 (Or.inl (Nat.ne_of_lt (Nat.lt_of_lt_of_le y355.lt (Nat.le_of_eq gb366.symm))))).keep K386 (ninS (Nat.ne_of_lt (Nat.lt_of_lt_of_le y355.lt (Nat.le_of_eq gb366.symm))) nin0)).keep K445 (ninS (Nat.ne_of_lt (Nat.lt_of_lt_of_le y355.lt (Nat.le_of_eq gb366.symm))) nin0)).other W531 (Or.inl (Nat.ne_of_lt (Nat.lt_of_lt_of_le y355.lt (Nat.le_of_eq gb366.symm)))))
  have y548 := (((((y359.ext E366).other W375 (Nat.ne_of_lt (Nat.lt_of_lt_of_le y359.lt (Nat.le_of_eq gb366.symm)))).keep K386 (ninS (Nat.ne_of_lt (Nat.lt_of_lt_of_le y359.lt (Nat.le_of_eq gb366.symm))) nin0)).keep K445 (ninS (Nat.ne_of_lt (Nat.lt_of_lt_of_le y359.lt (Nat.le_of_eq gb366.symm))) nin0)).other W531 (Nat.ne_of_lt (Nat.lt_of_lt_of_le y359.lt (Nat.le_of_eq gb366.symm))))
  obtain ⟨_, L544, T544, ⟨rfl, M544, e544⟩, X544, st544⟩ := own_callV X531 hx hZ hown (hw _ (mi 146 rfl)) (wd38 hw) (notFace_of_selects (args := #[]) (mvT hZ (hw _ (mi 149 rfl)))) y545 (rm_lenG hw r348 r349 r350 r351 r352 r353 (l2 ++ [(125 : Int32)]) cs h531 n0 O535 SC_ hcs y546 y547 y545 y548 y360 (hb542)) g543 e531 [] rfl (lenOf pd_23 rfl) (hb hby at_355) hml.symm 0 rfl (by decide)
  have N544 := Fr.app N531 M544
  have g549 := jn X544 hx (ji X544 hx st544 (hb hby at_358) rfl) (hb hby at_360) rfl (teq (rfl : (Int32.ofNat (l2 ++ [(125 : Int32)]).length) = (Int32.ofNat (l2 ++ [(125 : Int32)]).length))).2
  obtain ⟨T550, L550, X550, e550, N550, g550⟩ := own_at hw X544 hx hZ hown O535 e544 N544 y546 y547 y545 y548 y360 hb542 hc541 y538 hW g549 rfl rfl rfl hml.symm (by decide) (i1 := 0) (by decide) (fun g => jc X544 hx g (hb hby at_369) _ rfl) (hb hby at_363) (hb hby at_365) (hb hby at_367) (hb hby at_370) (hb hby at_373)
  obtain ⟨T551, L551, X551, e551, N551, g551⟩ := own_at hw X550 hx hZ hown O535 e550 N550 y546 y547 y545 y548 y360 hb542 hc541 y538 hW g550 rfl rfl rfl hml.symm (by decide) (i1 := 1) (by decide) (fun g => jc X550 hx g (hb hby at_382) _ rfl) (hb hby at_376) (hb hby at_378) (hb hby at_380) (hb hby at_383) (hb hby at_386)
  obtain ⟨T552, L552, X552, e552, N552, g552⟩ := own_at hw X551 hx hZ hown O535 e551 N551 y546 y547 y545 y548 y360 hb542 hc541 y538 hW g551 rfl rfl rfl hml.symm (by decide) (i1 := 2) (by decide) (fun g => jc X551 hx g (hb hby at_395) _ rfl) (hb hby at_389) (hb hby at_391) (hb hby at_393) (hb hby at_396) (hb hby at_399)
  obtain ⟨T553, L553, X553, e553, N553, g553⟩ := own_at hw X552 hx hZ hown O535 e552 N552 y546 y547 y545 y548 y360 hb542 hc541 y538 hW g552 rfl rfl rfl hml.symm (by decide) (i1 := 3) (by decide) (fun g => jc X552 hx g (hb hby at_408) _ rfl) (hb hby at_402) (hb hby at_404) (hb hby at_406) (hb hby at_409) (hb hby at_412)
  obtain ⟨T554, L554, X554, e554, N554, g554⟩ := own_at hw X553 hx hZ hown O535 e553 N553 y546 y547 y545 y548 y360 hb542 hc541 y538 hW g553 rfl rfl rfl hml.symm (by decide) (i1 := 4) (by decide) (fun g => jc X553 hx g (hb hby at_421) _ rfl) (hb hby at_415) (hb hby at_417) (hb hby at_419) (hb hby at_422) (hb hby at_425)
  obtain ⟨T555, L555, X555, e555, N555, g555⟩ := own_at hw X554 hx hZ hown O535 e554 N554 y546 y547 y545 y548 y360 hb542 hc541 y538 hW g554 rfl rfl rfl hml.symm (by decide) (i1 := 5) (by decide) (fun g => jc X554 hx g (hb hby at_434) _ rfl) (hb hby at_428) (hb hby at_430) (hb hby at_432) (hb hby at_435) (hb hby at_438)
  obtain ⟨T556, L556, X556, e556, N556, g556⟩ := own_at hw X555 hx hZ hown O535 e555 N555 y546 y547 y545 y548 y360 hb542 hc541 y538 hW g555 rfl rfl rfl hml.symm (by decide) (i1 := 6) (by decide) (fun g => jb X555 hx g (hb hby at_447) _ rfl) (hb hby at_441) (hb hby at_443) (hb hby at_445) (hb hby at_449) (hb hby at_452)
  obtain ⟨T557, L557, X557, e557, N557, g557⟩ := own_at hw X556 hx hZ hown O535 e556 N556 y546 y547 y545 y548 y360 hb542 hc541 y538 hW g556 rfl rfl rfl hml.symm (by decide) (i1 := 7) (by decide) (fun g => jb X556 hx g (hb hby at_461) _ rfl) (hb hby at_455) (hb hby at_457) (hb hby at_459) (hb hby at_463) (hb hby at_466)
  obtain ⟨T558, L558, X558, e558, N558, g558⟩ := own_at hw X557 hx hZ hown O535 e557 N557 y546 y547 y545 y548 y360 hb542 hc541 y538 hW g557 rfl rfl rfl hml.symm (by decide) (i1 := 8) (by decide) (fun g => jb X557 hx g (hb hby at_475) _ rfl) (hb hby at_469) (hb hby at_471) (hb hby at_473) (hb hby at_477) (hb hby at_480)
  obtain ⟨T559, L559, X559, e559, N559, g559⟩ := own_at hw X558 hx hZ hown O535 e558 N558 y546 y547 y545 y548 y360 hb542 hc541 y538 hW g558 rfl rfl rfl hml.symm (by decide) (i1 := 9) (by decide) (fun g => jb X558 hx g (hb hby at_489) _ rfl) (hb hby at_483) (hb hby at_485) (hb hby at_487) (hb hby at_491) (hb hby at_494)
  obtain ⟨T560, L560, X560, e560, N560, g560⟩ := own_at hw X559 hx hZ hown O535 e559 N559 y546 y547 y545 y548 y360 hb542 hc541 y538 hW g559 rfl rfl rfl hml.symm (by decide) (i1 := 10) (by decide) (fun g => jb X559 hx g (hb hby at_503) _ rfl) (hb hby at_497) (hb hby at_499) (hb hby at_501) (hb hby at_505) (hb hby at_508)
  obtain ⟨T561, L561, X561, e561, N561, g561⟩ := own_at hw X560 hx hZ hown O535 e560 N560 y546 y547 y545 y548 y360 hb542 hc541 y538 hW g560 rfl rfl rfl hml.symm (by decide) (i1 := 11) (by decide) (fun g => jb X560 hx g (hb hby at_517) _ rfl) (hb hby at_511) (hb hby at_513) (hb hby at_515) (hb hby at_519) (hb hby at_522)
  obtain ⟨T562, L562, X562, e562, N562, g562⟩ := own_at hw X561 hx hZ hown O535 e561 N561 y546 y547 y545 y548 y360 hb542 hc541 y538 hW g561 rfl rfl rfl hml.symm (by decide) (i1 := 12) (by decide) (fun g => jb X561 hx g (hb hby at_531) _ rfl) (hb hby at_525) (hb hby at_527) (hb hby at_529) (hb hby at_533) (hb hby at_536)
  obtain ⟨T563, L563, X563, e563, N563, g563⟩ := own_at hw X562 hx hZ hown O535 e562 N562 y546 y547 y545 y548 y360 hb542 hc541 y538 hW g562 rfl rfl rfl hml.symm (by decide) (i1 := 13) (by decide) (fun g => jb X562 hx g (hb hby at_545) _ rfl) (hb hby at_539) (hb hby at_541) (hb hby at_543) (hb hby at_547) (hb hby at_550)
  obtain ⟨T564, L564, X564, e564, N564, g564⟩ := own_at hw X563 hx hZ hown O535 e563 N563 y546 y547 y545 y548 y360 hb542 hc541 y538 hW g563 rfl rfl rfl hml.symm (by decide) (i1 := 14) (by decide) (fun g => jb X563 hx g (hb hby at_559) _ rfl) (hb hby at_553) (hb hby at_555) (hb hby at_557) (hb hby at_561) (hb hby at_564)
  obtain ⟨T565, L565, X565, e565, N565, g565⟩ := own_at hw X564 hx hZ hown O535 e564 N564 y546 y547 y545 y548 y360 hb542 hc541 y538 hW g564 rfl rfl rfl hml.symm (by decide) (i1 := 15) (by decide) (fun g => jb X564 hx g (hb hby at_573) _ rfl) (hb hby at_567) (hb hby at_569) (hb hby at_571) (hb hby at_575) (hb hby at_578)
  obtain ⟨T566, L566, X566, e566, N566, g566⟩ := own_at hw X565 hx hZ hown O535 e565 N565 y546 y547 y545 y548 y360 hb542 hc541 y538 hW g565 rfl rfl rfl hml.symm (by decide) (i1 := 16) (by decide) (fun g => jb X565 hx g (hb hby at_587) _ rfl) (hb hby at_581) (hb hby at_583) (hb hby at_585) (hb hby at_589) (hb hby at_592)
  obtain ⟨T567, L567, X567, e567, N567, g567⟩ := own_at hw X566 hx hZ hown O535 e566 N566 y546 y547 y545 y548 y360 hb542 hc541 y538 hW g566 rfl rfl rfl hml.symm (by decide) (i1 := 17) (by decide) (fun g => jb X566 hx g (hb hby at_601) _ rfl) (hb hby at_595) (hb hby at_597) (hb hby at_599) (hb hby at_603) (hb hby at_606)
  obtain ⟨T568, L568, X568, e568, N568, g568⟩ := own_at hw X567 hx hZ hown O535 e567 N567 y546 y547 y545 y548 y360 hb542 hc541 y538 hW g567 rfl rfl rfl hml.symm (by decide) (i1 := 18) (by decide) (fun g => jb X567 hx g (hb hby at_615) _ rfl) (hb hby at_609) (hb hby at_611) (hb hby at_613) (hb hby at_617) (hb hby at_620)
  obtain ⟨T569, L569, X569, e569, N569, g569⟩ := own_at hw X568 hx hZ hown O535 e568 N568 y546 y547 y545 y548 y360 hb542 hc541 y538 hW g568 rfl rfl rfl hml.symm (by decide) (i1 := 19) (by decide) (fun g => jb X568 hx g (hb hby at_629) _ rfl) (hb hby at_623) (hb hby at_625) (hb hby at_627) (hb hby at_631) (hb hby at_634)
  obtain ⟨T570, L570, X570, e570, N570, g570⟩ := own_at hw X569 hx hZ hown O535 e569 N569 y546 y547 y545 y548 y360 hb542 hc541 y538 hW g569 rfl rfl rfl hml.symm (by decide) (i1 := 20) (by decide) (fun g => jb X569 hx g (hb hby at_643) _ rfl) (hb hby at_637) (hb hby at_639) (hb hby at_641) (hb hby at_645) (hb hby at_648)
  obtain ⟨T571, L571, X571, e571, N571, g571⟩ := own_at hw X570 hx hZ hown O535 e570 N570 y546 y547 y545 y548 y360 hb542 hc541 y538 hW g570 rfl rfl rfl hml.symm (by decide) (i1 := 21) (by decide) (fun g => jb X570 hx g (hb hby at_657) _ rfl) (hb hby at_651) (hb hby at_653) (hb hby at_655) (hb hby at_659) (hb hby at_662)
  obtain ⟨T572, L572, X572, e572, N572, g572⟩ := own_at hw X571 hx hZ hown O535 e571 N571 y546 y547 y545 y548 y360 hb542 hc541 y538 hW g571 rfl rfl rfl hml.symm (by decide) (i1 := 22) (by decide) (fun g => jb X571 hx g (hb hby at_671) _ rfl) (hb hby at_665) (hb hby at_667) (hb hby at_669) (hb hby at_673) (hb hby at_676)
  obtain ⟨T573, L573, X573, e573, N573, g573⟩ := own_at hw X572 hx hZ hown O535 e572 N572 y546 y547 y545 y548 y360 hb542 hc541 y538 hW g572 rfl rfl rfl hml.symm (by decide) (i1 := 23) (by decide) (fun g => jb X572 hx g (hb hby at_685) _ rfl) (hb hby at_679) (hb hby at_681) (hb hby at_683) (hb hby at_687) (hb hby at_690)
  obtain ⟨T574, L574, X574, e574, N574, g574⟩ := own_at hw X573 hx hZ hown O535 e573 N573 y546 y547 y545 y548 y360 hb542 hc541 y538 hW g573 rfl rfl rfl hml.symm (by decide) (i1 := 24) (by decide) (fun g => jb X573 hx g (hb hby at_699) _ rfl) (hb hby at_693) (hb hby at_695) (hb hby at_697) (hb hby at_701) (hb hby at_704)
  obtain ⟨T575, L575, X575, e575, N575, g575⟩ := own_at hw X574 hx hZ hown O535 e574 N574 y546 y547 y545 y548 y360 hb542 hc541 y538 hW g574 rfl rfl rfl hml.symm (by decide) (i1 := 25) (by decide) (fun g => jb X574 hx g (hb hby at_713) _ rfl) (hb hby at_707) (hb hby at_709) (hb hby at_711) (hb hby at_715) (hb hby at_718)
  obtain ⟨T576, L576, X576, e576, N576, g576⟩ := own_at hw X575 hx hZ hown O535 e575 N575 y546 y547 y545 y548 y360 hb542 hc541 y538 hW g575 rfl rfl rfl hml.symm (by decide) (i1 := 26) (by decide) (fun g => jb X575 hx g (hb hby at_727) _ rfl) (hb hby at_721) (hb hby at_723) (hb hby at_725) (hb hby at_729) (hb hby at_732)
  obtain ⟨T577, L577, X577, e577, N577, g577⟩ := own_at hw X576 hx hZ hown O535 e576 N576 y546 y547 y545 y548 y360 hb542 hc541 y538 hW g576 rfl rfl rfl hml.symm (by decide) (i1 := 27) (by decide) (fun g => jb X576 hx g (hb hby at_741) _ rfl) (hb hby at_735) (hb hby at_737) (hb hby at_739) (hb hby at_743) (hb hby at_746)
  obtain ⟨T578, L578, X578, e578, N578, g578⟩ := own_at hw X577 hx hZ hown O535 e577 N577 y546 y547 y545 y548 y360 hb542 hc541 y538 hW g577 rfl rfl rfl hml.symm (by decide) (i1 := 28) (by decide) (fun g => jb X577 hx g (hb hby at_755) _ rfl) (hb hby at_749) (hb hby at_751) (hb hby at_753) (hb hby at_757) (hb hby at_760)
  obtain ⟨T579, L579, X579, e579, N579, g579⟩ := own_at hw X578 hx hZ hown O535 e578 N578 y546 y547 y545 y548 y360 hb542 hc541 y538 hW g578 rfl rfl rfl hml.symm (by decide) (i1 := 29) (by decide) (fun g => jb X578 hx g (hb hby at_769) _ rfl) (hb hby at_763) (hb hby at_765) (hb hby at_767) (hb hby at_771) (hb hby at_774)
  obtain ⟨T580, L580, X580, e580, N580, g580⟩ := own_at hw X579 hx hZ hown O535 e579 N579 y546 y547 y545 y548 y360 hb542 hc541 y538 hW g579 rfl rfl rfl hml.symm (by decide) (i1 := 30) (by decide) (fun g => jb X579 hx g (hb hby at_783) _ rfl) (hb hby at_777) (hb hby at_779) (hb hby at_781) (hb hby at_785) (hb hby at_788)
  obtain ⟨T581, L581, X581, e581, N581, g581⟩ := own_at hw X580 hx hZ hown O535 e580 N580 y546 y547 y545 y548 y360 hb542 hc541 y538 hW g580 rfl rfl rfl hml.symm (by decide) (i1 := 31) (by decide) (fun g => jb X580 hx g (hb hby at_797) _ rfl) (hb hby at_791) (hb hby at_793) (hb hby at_795) (hb hby at_799) (hb hby at_802)
  obtain ⟨T582, L582, X582, e582, N582, g582⟩ := own_at hw X581 hx hZ hown O535 e581 N581 y546 y547 y545 y548 y360 hb542 hc541 y538 hW g581 rfl rfl rfl hml.symm (by decide) (i1 := 32) (by decide) (fun g => jb X581 hx g (hb hby at_811) _ rfl) (hb hby at_805) (hb hby at_807) (hb hby at_809) (hb hby at_813) (hb hby at_816)
  obtain ⟨T583, L583, X583, e583, N583, g583⟩ := own_at hw X582 hx hZ hown O535 e582 N582 y546 y547 y545 y548 y360 hb542 hc541 y538 hW g582 rfl rfl rfl hml.symm (by decide) (i1 := 33) (by decide) (fun g => jb X582 hx g (hb hby at_825) _ rfl) (hb hby at_819) (hb hby at_821) (hb hby at_823) (hb hby at_827) (hb hby at_830)
  obtain ⟨T584, L584, X584, e584, N584, g584⟩ := own_at hw X583 hx hZ hown O535 e583 N583 y546 y547 y545 y548 y360 hb542 hc541 y538 hW g583 rfl rfl rfl hml.symm (by decide) (i1 := 34) (by decide) (fun g => jb X583 hx g (hb hby at_839) _ rfl) (hb hby at_833) (hb hby at_835) (hb hby at_837) (hb hby at_841) (hb hby at_844)
  obtain ⟨T585, L585, X585, e585, N585, g585⟩ := own_at hw X584 hx hZ hown O535 e584 N584 y546 y547 y545 y548 y360 hb542 hc541 y538 hW g584 rfl rfl rfl hml.symm (by decide) (i1 := 35) (by decide) (fun g => jb X584 hx g (hb hby at_853) _ rfl) (hb hby at_847) (hb hby at_849) (hb hby at_851) (hb hby at_855) (hb hby at_858)
  obtain ⟨T586, L586, X586, e586, N586, g586⟩ := own_at hw X585 hx hZ hown O535 e585 N585 y546 y547 y545 y548 y360 hb542 hc541 y538 hW g585 rfl rfl rfl hml.symm (by decide) (i1 := 36) (by decide) (fun g => jb X585 hx g (hb hby at_867) _ rfl) (hb hby at_861) (hb hby at_863) (hb hby at_865) (hb hby at_869) (hb hby at_872)
  obtain ⟨T587, L587, X587, e587, N587, g587⟩ := own_at hw X586 hx hZ hown O535 e586 N586 y546 y547 y545 y548 y360 hb542 hc541 y538 hW g586 rfl rfl rfl hml.symm (by decide) (i1 := 37) (by decide) (fun g => jb X586 hx g (hb hby at_881) _ rfl) (hb hby at_875) (hb hby at_877) (hb hby at_879) (hb hby at_883) (hb hby at_886)
  obtain ⟨T588, L588, X588, e588, N588, g588⟩ := own_at hw X587 hx hZ hown O535 e587 N587 y546 y547 y545 y548 y360 hb542 hc541 y538 hW g587 rfl rfl rfl hml.symm (by decide) (i1 := 38) (by decide) (fun g => jb X587 hx g (hb hby at_895) _ rfl) (hb hby at_889) (hb hby at_891) (hb hby at_893) (hb hby at_897) (hb hby at_900)
  obtain ⟨T589, L589, X589, e589, N589, g589⟩ := own_at hw X588 hx hZ hown O535 e588 N588 y546 y547 y545 y548 y360 hb542 hc541 y538 hW g588 rfl rfl rfl hml.symm (by decide) (i1 := 39) (by decide) (fun g => jb X588 hx g (hb hby at_909) _ rfl) (hb hby at_903) (hb hby at_905) (hb hby at_907) (hb hby at_911) (hb hby at_914)
  have g590 := jg X589 hx (jc X589 hx g589 (hb hby at_917) 1 rfl) (hb hby at_918) (pc' := 922) (by decide)
  obtain ⟨fs, hr, hrun, hended, hRW⟩ := X589.leaveW hS (by rw [e589]; exact (Nat.le_trans hk (Keep.of_wr W531).1)) (v := some (.int 1)) (fun h => by rw [Bd.returns] at h; cases h)
  refine ⟨_, _, g590 _ (retN X589 hx (t := .boolean) Bd.returns (by simp) (hb hby at_922) hr), hrun, hended, _, _, rfl, ?_, ?_, hRW.1, hRW.2.1, hRW.2.2.1, hRW.2.2.2.mono (by decide) (by decide)⟩
  ·
    show Q_law Z q1 q2 q3 q4 q5 hx1 kx hxs dg kg dgs fi cs fm h0 n0 _ T589.heap _
    rw [e589]
    exact ⟨rfl, N589⟩
  ·
    rw [hh]
    show CHr Z consts_1 s.vm h0 T589.vm T589.heap
    rw [e589]
    exact R533.trans (CHv.at X589 hZ (own_EW hw) R533.1)
theorem comes_1 {Post : Tables → Env → Array Value → State → Outcome → State → Prop} (hpost : ∀ tb e args s v u, (limb_1_1.after args s (.returned v) u = true ∧ limb_1_2.after args s (.returned v) u = true ∧ True) → ReturnedEndW s (.returned v) u (Jvm.fieldLocs frame_1_writes args s ++ Jvm.arrayLocs frame_1_arrays args s ++ Jvm.staticLocs frame_1_statics s) 40 2944 → Post tb e args s (.returned v) u) :
    ArmFor flags0 classFile x code maxLocals ret World_1 tables_1 room_1 Calls_1 rest_1 Pre_1 Post := by
  intro l hfl _ _ p e ha hc hk s m args below hf hA hF happ hP
  obtain ⟨hcalls, hrest, hpre⟩ := hP
  obtain ⟨-, -, -, hnamed, -, -, -, hat⟩ := (Spec.applies_iff hf).mp happ
  obtain ⟨hg, hn⟩ := and_e (Cond.before_iff.mp (show (Jvm.Cond.and given_1 narrow_1).before args s = true from hpre))
  obtain ⟨hcount, hg⟩ := and_e hg
  obtain ⟨ha0, hg⟩ := and_e hg
  obtain ⟨ha1, hg⟩ := and_e hg
  obtain ⟨ha2, hg⟩ := and_e hg
  obtain ⟨ha3, hg⟩ := and_e hg
  have ha4 := hg
  obtain ⟨w0, w1, w2, w3, w4, rfl⟩ : ∃ w0 w1 w2 w3 w4 : Value, args = #[w0, w1, w2, w3, w4] := by
    have hs : args.size = 5 := by simpa [Cond.value, given_1] using hcount
    obtain ⟨L⟩ := args
    match L, hs with
    | [w0, w1, w2, w3, w4], _ => exact ⟨w0, w1, w2, w3, w4, rfl⟩
  have hw := fun d (hd : d ∈ tables_1) => atoms_spec (ws := Jvm.Cond.code x code maxLocals ret :: tables_1) hat d (List.mem_cons_of_mem _ hd)
  obtain ⟨hsets, hown0⟩ := atoms_of _ (rest_1_c_eq ▸ (show rest_1_c.before _ s = true from hrest))
  have hfit : Fit s := fun {y c} hc i hi => by
    obtain ⟨ha, rfl⟩ := Array.getElem?_eq_some_iff.mp hc
    have q := List.all_eq_true.mp ((Array.all_eq_true_iff_forall_mem.mp hF) _ (Array.getElem_mem ha)) i (List.mem_range.mpr hi)
    simpa [Array.getElem?_eq_getElem hi] using q
  obtain ⟨q1, ea0⟩ := is_v ha0
  obtain rfl : w0 = (.int q1) := Option.some.inj ea0
  obtain ⟨q2, ea1⟩ := is_v ha1
  obtain rfl : w1 = (.int q2) := Option.some.inj ea1
  obtain ⟨q3, ea2⟩ := is_v ha2
  obtain rfl : w2 = (.int q3) := Option.some.inj ea2
  obtain ⟨q4, ea3⟩ := is_v ha3
  obtain rfl : w3 = (.int q4) := Option.some.inj ea3
  obtain ⟨q5, ea4⟩ := is_v ha4
  obtain rfl : w4 = (.int q5) := Option.some.inj ea4
  obtain ⟨i_COMPACT_STRINGS, ev_COMPACT_STRINGS⟩ := is_v (Cond.before_iff.mp (hsets _ (mi 1 rfl)))
  obtain ⟨v_SIOOBE_FORMATTER, ev_SIOOBE_FORMATTER, r_SIOOBE_FORMATTER⟩ := isR_v (Cond.before_iff.mp (hsets _ (mi 8 rfl)))
  obtain ⟨w_DigitOnes, ev_DigitOnes⟩ := exa_v (Cond.before_iff.mp (hsets _ (mi 12 rfl)))
  have E_DigitOnes : Exa s s.heap w_DigitOnes "[B" := Exa.start ev_DigitOnes (Cond.before_iff.mp (hsets _ (mi 12 rfl)))
  obtain ⟨w_DigitTens, ev_DigitTens⟩ := exa_v (Cond.before_iff.mp (hsets _ (mi 17 rfl)))
  have E_DigitTens : Exa s s.heap w_DigitTens "[B" := Exa.start ev_DigitTens (Cond.before_iff.mp (hsets _ (mi 17 rfl)))
  have ev_StringUTF16__assertionsDisabled := own_eqint (Cond.before_iff.mp (hsets _ (mi 23 rfl)))
  have ev_StringUTF16_HI_BYTE_SHIFT := own_eqint (Cond.before_iff.mp (hsets _ (mi 26 rfl)))
  have ev_StringUTF16_LO_BYTE_SHIFT := own_eqint (Cond.before_iff.mp (hsets _ (mi 29 rfl)))
  have S_COMPACT_STRINGS : Sta s s.heap "java/lang/String" "COMPACT_STRINGS" "Z" (.int i_COMPACT_STRINGS) := Sta.start ev_COMPACT_STRINGS (Or.inl (hsets _ (mi 0 rfl)))
  have S_SIOOBE_FORMATTER : Sta s s.heap "jdk/internal/util/Preconditions" "SIOOBE_FORMATTER" "Ljava/util/function/BiFunction;" v_SIOOBE_FORMATTER := Sta.start ev_SIOOBE_FORMATTER (Or.inl (hsets _ (mi 7 rfl)))
  have S_DigitOnes : Sta s s.heap "java/lang/Integer" "DigitOnes" "[B" (.ref w_DigitOnes) := Sta.start ev_DigitOnes (Or.inl (hsets _ (mi 11 rfl)))
  have S_DigitTens : Sta s s.heap "java/lang/Integer" "DigitTens" "[B" (.ref w_DigitTens) := Sta.start ev_DigitTens (Or.inl (hsets _ (mi 16 rfl)))
  have S_StringUTF16__assertionsDisabled : Sta s s.heap "java/lang/StringUTF16" "$assertionsDisabled" "Z" (.int 1) := Sta.start ev_StringUTF16__assertionsDisabled (Or.inl (hsets _ (mi 22 rfl)))
  have S_StringUTF16_HI_BYTE_SHIFT : Sta s s.heap "java/lang/StringUTF16" "HI_BYTE_SHIFT" "I" (.int 0) := Sta.start ev_StringUTF16_HI_BYTE_SHIFT (Or.inl (hsets _ (mi 25 rfl)))
  have S_StringUTF16_LO_BYTE_SHIFT : Sta s s.heap "java/lang/StringUTF16" "LO_BYTE_SHIFT" "I" (.int 8) := Sta.start ev_StringUTF16_LO_BYTE_SHIFT (Or.inl (hsets _ (mi 28 rfl)))
  have c_COMPACT_STRINGS : ¬ (i_COMPACT_STRINGS = (0 : Int32)) := gotF (Cond.eq_ints ev_COMPACT_STRINGS (Term.int_eval (0))) (not_v (Cond.before_iff.mp (hsets _ (mi 2 rfl))))
  obtain ⟨dg, kg, dgs, evd, Ad, hdg⟩ := own_digA (T := .static "java/lang/Integer" "DigitOnes" "[B") hfit (fun _ => rfl) (hsets _ (mi 12 rfl)) (hsets _ (mi 13 rfl)) (hsets _ (mi 14 rfl)) (hw _ (mi 15 rfl))
  have Sd : Sta s s.heap "java/lang/Integer" "DigitOnes" "[B" (.ref dg) := Sta.start evd (Or.inl (hsets _ (mi 11 rfl)))
  obtain ⟨hn0, hn⟩ := and_e hn
  obtain ⟨hn1, hn⟩ := and_e hn
  obtain ⟨hn2, hn3⟩ := and_e hn
  obtain ⟨hx1, kx, hxs, evh, Ah, hhx⟩ := own_hexA (T := .static "com/example/clear_fault/clearfault/JsonObjectWriter" "HEX" "[C") hfit (fun _ => rfl) hn0 hn1 hn2 hn3
  have Sh : Sta s s.heap "com/example/clear_fault/clearfault/JsonObjectWriter" "HEX" "[C" (.ref hx1) := Sta.start evh (Or.inr ⟨(hw _ (mi 47 rfl)), (hw _ (mi 261 rfl))⟩)
  obtain ⟨fi, evi, hfi⟩ := own_refS hfit (t := .object "java/util/function/BiFunction") (by decide +kernel) rfl (hw _ (mi 213 rfl))
  have Si : Sta s s.heap "jdk/internal/util/Preconditions" "IOOBE_FORMATTER" "Ljava/util/function/BiFunction;" fi := Sta.start evi (Or.inr ⟨(hw _ (mi 177 rfl)), (hw _ (mi 213 rfl))⟩)
  have hW : own_W s i_COMPACT_STRINGS v_SIOOBE_FORMATTER := ⟨S_COMPACT_STRINGS, c_COMPACT_STRINGS, S_SIOOBE_FORMATTER, r_SIOOBE_FORMATTER, S_StringUTF16__assertionsDisabled, S_StringUTF16_HI_BYTE_SHIFT, S_StringUTF16_LO_BYTE_SHIFT⟩
  have hch : CHv s consts_1 s.vm s.heap := CHv.start (own_EW hw) (fun p hp => hcalls.1 p hp) (own_compact hsets) (hw _ (mi 15 rfl)) (hw _ (mi 11 rfl))
  obtain ⟨n, o, h1, h2, h3, _, L, rfl, ⟨rfl, N⟩, -, hq⟩ := rm_law hw tables_1 q1 q2 q3 q4 q5 hx1 kx hxs dg kg dgs fi i_COMPACT_STRINGS v_SIOOBE_FORMATTER s.heap s.heap.size (Old.start s) Sh Ah hhx Sd Ad hdg Si hfi hW p e ha hc hk s m _ below hf ((Spec.applies_iff_loose hf).mp happ).1 ⟨rfl, State.Warmed39.refl s, rfl, hch⟩ trivial
  refine ⟨n, _, h1, h2, h3, hpost _ _ _ _ _ _ ⟨Cond.after_iff.mpr rfl, Cond.after_iff.mpr (eq_i res_at (Term.int_eval (1)) rfl), trivial⟩ ⟨hq.1, hq.2.1, hq.2.2.1, (hq.2.2.2.sift fun y hy => Or.inr (N y hy)).mono (by decide) (by decide)⟩⟩
theorem main_1_1 : Claimed_1_1 := comes_1 fun _ _ _ _ _ _ h hF => ⟨h.1, hF⟩
theorem main_1_2 : Claimed_1_2 := comes_1 fun _ _ _ _ _ _ h hF => ⟨h.2.1, hF⟩
end Jvm.Pilot.@@N@@
namespace Jvm.Pilot.@@N@@
open Jvm Jvm.ClassFile Sem Op Lib Jvm.Free Jvm.Stand Jvm.Pilot.@@N@@.Jvm.D
/-! MADE BY PROGRAM (witnessworld.py) out of the Statement's table words and the real class files: 26 classes; the members and pool entries that the words name. The judged class is class 1, her method 5. -/
namespace start1
open Jvm.ClassFile
def u (s : String) : CpInfo := .utf8 (stringToUtf16 s)
/-- a pool by its gaps: so many unusable entries, then the entry; so many at the end -/
def gap : Nat → List CpInfo → List CpInfo
  | 0, r => r
  | n + 1, r => .unusable :: gap n r
def poolList (es : List (Nat × CpInfo)) (last : Nat) : List CpInfo := es.foldr (fun e r => gap e.1 (e.2 :: r)) (gap last [])
def pool (es : List (Nat × CpInfo)) (last : Nat) : Array CpInfo := ⟨poolList es last⟩
def fileOf (pool : Array CpInfo) (this : Nat) (attrs : Array Attribute := #[]) (ms : Array MethodInfo := #[]) (fl : Nat := 33) (sup : Nat := 0) (ifs : Array Nat := #[]) (fds : Array FieldInfo := #[]) : ClassFile where
  minorVersion := 0
  majorVersion := 65
  constantPool := pool
  accessFlags := fl
  thisClass := this
  superClass := sup
  interfaces := ifs
  fields := fds
  methods := ms
  attributes := attrs
def plain (name : String) (sup : Option ClassId) : Class where
  name := name
  kind := .ordinary
  loader := none
  accessFlags := 33
  super := sup
  interfaces := #[]
  cf := none
  fields := #[]
  methods := #[]
  instanceTypes := #[]
  staticTypes := #[]
  resolved := #[]
  callSites := []
  init := .initialized
  statics := none
  mirror := none

def pool0 : Array CpInfo := pool [(5, u "<init>"), (0, u "()V"), (1, .class_ 10), (1, u "java/lang/Object")] 113

def k0c0 : Code := { maxStack := 0, maxLocals := 1, code := object_method_1_code, exceptionTable := #[], attributes := #[] }
def k0m0 : Method := { name := "<init>", desc := "()V", sig := { parameters := [], returnType := none }, accessFlags := 1, code := some k0c0 }
/-- java/lang/Object -/
def k0 : Class := { plain "java/lang/Object" none with
  accessFlags := 33
  interfaces := #[]
  cf := some (fileOf pool0 8 #[] #[{ accessFlags := 1, nameIndex := 5, descriptorIndex := 6, attributes := #[] }] 33 0 #[] #[])
  fields := #[]
  methods := #[k0m0]
  instanceTypes := #[]
  staticTypes := #[]
  resolved := Array.replicate 124 none
  statics := none }

def pool1 : Array CpInfo := pool [(2, .class_ 4), (0, .nameAndType 5 6), (0, u "java/lang/Object"), (0, u "<init>"), (0, u "()V"), (0, .methodref 8 9), (0, .class_ 10), (0, .nameAndType 11 12), (0, u "com/example/clear_fault/clearfault/JsonObjectWriterFinishPinLaw"), (0, u "hex"), (0, u "(I)C"), (0, .methodref 8 14), (0, .nameAndType 15 16), (0, u "enc"), (0, u "([CIC)I"), (0, .methodref 18 19), (0, .class_ 20), (0, .nameAndType 21 12), (0, u "java/lang/String"), (0, u "charAt"), (0, .integer 65535), (0, .methodref 18 24), (0, .nameAndType 25 26), (0, u "valueOf"), (0, u "(C)Ljava/lang/String;"), (0, .methodref 18 28), (0, .nameAndType 5 29), (0, u "([C)V"), (0, .class_ 31), (0, u "com/example/clear_fault/clearfault/JsonObjectWriter"), (0, .methodref 30 3), (0, .methodref 30 34), (0, .nameAndType 35 36), (0, u "add"), (0, u "(Ljava/lang/String;Ljava/lang/String;)Lcom/example/clear_fault/clearfault/JsonObjectWriter;"), (0, .methodref 30 38), (0, .nameAndType 35 39), (0, u "(Ljava/lang/String;I)Lcom/example/clear_fault/clearfault/JsonObjectWriter;"), (0, .methodref 30 41), (0, .nameAndType 42 43), (0, u "finish"), (0, u "()Ljava/lang/String;"), (0, .methodref 8 45), (0, .nameAndType 46 16), (0, u "str1"), (0, .methodref 18 48), (0, .nameAndType 49 50), (0, u "length"), (0, u "()I"), (0, .methodref 8 52), (0, .nameAndType 53 54), (0, u "at"), (0, u "(Ljava/lang/String;[CII)Z"), (3, u "law"), (0, u "(IIIII)Z")] 4

def k1m0 : Method := { name := "<init>", desc := "()V", sig := { parameters := [], returnType := none }, accessFlags := 1, code := none }
def k1c1 : Code := { maxStack := 3, maxLocals := 1, code := method_2_code, exceptionTable := #[], attributes := #[] }
def k1m1 : Method := { name := "hex", desc := "(I)C", sig := { parameters := [.int], returnType := some .char }, accessFlags := 10, code := some k1c1 }
def k1c2 : Code := { maxStack := 4, maxLocals := 3, code := method_3_code, exceptionTable := #[], attributes := #[] }
def k1m2 : Method := { name := "enc", desc := "([CIC)I", sig := { parameters := [(.array .char), .int, .char], returnType := some .int }, accessFlags := 10, code := some k1c2 }
def k1c3 : Code := { maxStack := 3, maxLocals := 4, code := method_4_code, exceptionTable := #[], attributes := #[] }
def k1m3 : Method := { name := "str1", desc := "([CIC)I", sig := { parameters := [(.array .char), .int, .char], returnType := some .int }, accessFlags := 10, code := some k1c3 }
def k1c4 : Code := { maxStack := 3, maxLocals := 4, code := method_5_code, exceptionTable := #[], attributes := #[] }
def k1m4 : Method := { name := "at", desc := "(Ljava/lang/String;[CII)Z", sig := { parameters := [(.object "java/lang/String"), (.array .char), .int, .int], returnType := some .boolean }, accessFlags := 10, code := some k1c4 }
def k1c5 : Code := { maxStack := 6, maxLocals := 19, code := code, exceptionTable := #[], attributes := #[] }
def k1m5 : Method := { name := "law", desc := "(IIIII)Z", sig := { parameters := [.int, .int, .int, .int, .int], returnType := some .boolean }, accessFlags := 9, code := some k1c5 }
/-- com/example/clear_fault/clearfault/JsonObjectWriterFinishPinLaw -/
def k1 : Class := { plain "com/example/clear_fault/clearfault/JsonObjectWriterFinishPinLaw" (some 0) with
  accessFlags := 49
  interfaces := #[]
  cf := some (fileOf pool1 8 #[] #[{ accessFlags := 1, nameIndex := 5, descriptorIndex := 6, attributes := #[] }, { accessFlags := 10, nameIndex := 11, descriptorIndex := 12, attributes := #[] }, { accessFlags := 10, nameIndex := 15, descriptorIndex := 16, attributes := #[] }, { accessFlags := 10, nameIndex := 46, descriptorIndex := 16, attributes := #[] }, { accessFlags := 10, nameIndex := 53, descriptorIndex := 54, attributes := #[] }, { accessFlags := 9, nameIndex := 58, descriptorIndex := 59, attributes := #[] }] 49 2 #[] #[])
  fields := #[]
  methods := #[k1m0, k1m1, k1m2, k1m3, k1m4, k1m5]
  instanceTypes := #[]
  staticTypes := #[]
  resolved := Array.replicate 64 none
  statics := none }

def pool2 : Array CpInfo := pool [(1, .class_ 2), (0, u "java/io/Serializable"), (0, .class_ 4), (0, u "java/lang/Object")] 2

/-- java/io/Serializable -/
def k2 : Class := { plain "java/io/Serializable" (some 0) with
  accessFlags := 1537
  interfaces := #[]
  cf := some (fileOf pool2 1 #[] #[] 1537 3 #[] #[])
  fields := #[]
  methods := #[]
  instanceTypes := #[]
  staticTypes := #[]
  resolved := Array.replicate 7 none
  statics := none }

def pool3 : Array CpInfo := pool [(1, .class_ 2), (0, u "java/lang/Comparable"), (0, .class_ 4), (0, u "java/lang/Object")] 7

/-- java/lang/Comparable -/
def k3 : Class := { plain "java/lang/Comparable" (some 0) with
  accessFlags := 1537
  interfaces := #[]
  cf := some (fileOf pool3 1 #[] #[] 1537 3 #[] #[])
  fields := #[]
  methods := #[]
  instanceTypes := #[]
  staticTypes := #[]
  resolved := Array.replicate 12 none
  statics := none }

def pool4 : Array CpInfo := pool [(2, .class_ 4), (1, u "java/lang/CharSequence"), (0, u "length"), (0, u "()I"), (38, u "charAt"), (0, u "(I)C"), (0, .class_ 48), (0, u "java/lang/CharSequence$1CodePointIterator"), (10, .class_ 60), (0, u "java/lang/CharSequence$1CharIterator"), (5, .class_ 67), (0, u "java/lang/Object")] 63

def k4m0 : Method := { name := "length", desc := "()I", sig := { parameters := [], returnType := some .int }, accessFlags := 1025, code := none }
def k4m1 : Method := { name := "charAt", desc := "(I)C", sig := { parameters := [.int], returnType := some .char }, accessFlags := 1025, code := none }
/-- java/lang/CharSequence -/
def k4 : Class := { plain "java/lang/CharSequence" (some 0) with
  accessFlags := 1537
  interfaces := #[]
  cf := some (fileOf pool4 2 #[.nestMembers #[47, 59]] #[{ accessFlags := 1025, nameIndex := 5, descriptorIndex := 6, attributes := #[] }, { accessFlags := 1025, nameIndex := 45, descriptorIndex := 46, attributes := #[] }] 1537 66 #[] #[])
  fields := #[]
  methods := #[k4m0, k4m1]
  instanceTypes := #[]
  staticTypes := #[]
  resolved := Array.replicate 131 none
  statics := none }

def pool5 : Array CpInfo := pool [(1, .class_ 2), (0, u "java/lang/constant/Constable"), (0, .class_ 4), (0, u "java/lang/Object")] 6

/-- java/lang/constant/Constable -/
def k5 : Class := { plain "java/lang/constant/Constable" (some 0) with
  accessFlags := 1537
  interfaces := #[]
  cf := some (fileOf pool5 1 #[] #[] 1537 3 #[] #[])
  fields := #[]
  methods := #[]
  instanceTypes := #[]
  staticTypes := #[]
  resolved := Array.replicate 11 none
  statics := none }

def pool6 : Array CpInfo := pool [(1, .class_ 2), (0, u "java/lang/constant/ConstantDesc"), (0, .class_ 4), (0, u "java/lang/Object")] 32

/-- java/lang/constant/ConstantDesc -/
def k6 : Class := { plain "java/lang/constant/ConstantDesc" (some 0) with
  accessFlags := 1537
  interfaces := #[]
  cf := some (fileOf pool6 1 #[] #[] 1537 3 #[] #[])
  fields := #[]
  methods := #[]
  instanceTypes := #[]
  staticTypes := #[]
  resolved := Array.replicate 37 none
  statics := none }

def pool7 : Array CpInfo := pool [(1, .methodref 2 3), (0, .class_ 4), (0, .nameAndType 5 6), (0, u "java/lang/Object"), (0, u "<init>"), (0, u "()V"), (2, .fieldref 10 11), (0, .class_ 12), (0, .nameAndType 13 14), (0, u "java/lang/String"), (0, u "value"), (0, u "[B"), (0, .fieldref 10 16), (0, .nameAndType 17 18), (0, u "coder"), (0, u "B"), (2, u "hash"), (0, u "I"), (2, u "hashIsZero"), (0, u "Z"), (0, .methodref 10 28), (0, .nameAndType 5 29), (0, u "([CIILjava/lang/Void;)V"), (6, u "checkBoundsOffCount"), (0, u "(III)I"), (0, .fieldref 10 39), (0, .nameAndType 40 26), (0, u "COMPACT_STRINGS"), (1, .class_ 44), (1, u "java/lang/StringUTF16"), (0, u "compress"), (1, .methodref 42 48), (0, .nameAndType 49 50), (0, u "coderFromArrayLen"), (0, u "([BI)B"), (2, u "toBytes"), (0, .methodref 55 56), (0, .class_ 57), (0, .nameAndType 58 59), (0, u "java/util/Arrays"), (0, u "copyOfRange"), (0, u "([BII)[B"), (46, .methodref 107 108), (0, .class_ 109), (0, .nameAndType 110 111), (0, u "java/lang/StringLatin1"), (0, u "inflate"), (0, u "([BI[BII)V"), (30, u "()Z"), (34, .methodref 42 178), (0, .nameAndType 45 179), (0, u "([CII)[B"), (13, .class_ 195), (1, u "java/lang/System"), (13, .methodref 10 210), (0, .nameAndType 5 211), (0, u "([BB)V"), (0, .methodref 193 213), (0, .nameAndType 214 215), (0, u "arraycopy"), (0, u "(Ljava/lang/Object;ILjava/lang/Object;II)V"), (118, u "()I"), (0, .methodref 10 336), (0, .nameAndType 17 337), (0, u "()B"), (2, u "()[B"), (22, u "([BI)C"), (5, u "(C)Z"), (21, u "(II)V"), (35, u "(I)C"), (61, .methodref 10 490), (0, .nameAndType 5 491), (0, u "(Ljava/lang/AbstractStringBuilder;Ljava/lang/Void;)V"), (0, .methodref 10 493), (0, .nameAndType 494 142), (0, u "isLatin1"), (0, .methodref 107 496), (0, .nameAndType 497 363), (0, u "charAt"), (0, .methodref 42 496), (2, u "checkIndex"), (4, .nameAndType 507 334), (0, u "length"), (5, u "checkFromToIndex"), (9, u "checkBoundsBeginEnd"), (0, u "(III)V"), (7, u "getBytes"), (16, .methodref 550 506), (0, .class_ 551), (0, u "java/lang/AbstractStringBuilder"), (0, .methodref 550 553), (0, .nameAndType 554 340), (0, u "getValue"), (20, .class_ 576), (0, u "java/lang/CharSequence"), (22, u "CASE_INSENSITIVE_ORDER"), (0, u "Ljava/util/Comparator;"), (181, u "valueOf"), (0, u "(C)Ljava/lang/String;"), (37, u "([BIB)V"), (188, u "([C)V"), (4, .methodref 107 1016), (0, .nameAndType 1017 369), (0, u "canEncode"), (0, .methodref 107 1019), (0, .nameAndType 53 1020), (0, u "(C)[B"), (0, .methodref 42 1019), (25, .methodref 550 493), (0, .fieldref 550 1049), (0, .nameAndType 1050 26), (0, u "maybeLatin1"), (2, .fieldref 1054 1055), (0, .class_ 1056), (0, .nameAndType 1057 1058), (0, u "jdk/internal/util/Preconditions"), (0, u "SIOOBE_FORMATTER"), (0, u "Ljava/util/function/BiFunction;"), (0, .methodref 1054 1060), (0, .nameAndType 501 1061), (0, u "(IILjava/util/function/BiFunction;)I"), (0, .methodref 1054 1063), (0, .nameAndType 513 1064), (0, u "(IIILjava/util/function/BiFunction;)I"), (0, .methodref 1054 1066), (0, .nameAndType 1067 1064), (0, u "checkFromIndexSize"), (33, u "serialPersistentFields"), (0, u "[Ljava/io/ObjectStreamField;"), (0, .class_ 1104), (0, u "java/lang/String$CaseInsensitiveComparator"), (1, .class_ 1107), (0, u "java/io/Serializable"), (0, .class_ 1109), (0, u "java/lang/Comparable"), (0, .class_ 1111), (0, u "java/lang/constant/Constable"), (0, .class_ 1113), (0, u "java/lang/constant/ConstantDesc"), (2, u "serialVersionUID"), (0, u "J"), (3, u "REPL"), (0, u "C"), (2, u "LATIN1"), (1, u "UTF16"), (105, u "(Ljava/lang/StringBuilder;)V")] 217

def k7m0 : Method := { name := "<init>", desc := "()V", sig := { parameters := [], returnType := none }, accessFlags := 1, code := none }
def k7c1 : Code := { maxStack := 5, maxLocals := 2, code := jdk_42_method_3_code, exceptionTable := #[], attributes := #[] }
def k7m1 : Method := { name := "<init>", desc := "([C)V", sig := { parameters := [(.array .char)], returnType := none }, accessFlags := 1, code := some k7c1 }
def k7c2 : Code := { maxStack := 3, maxLocals := 2, code := jdk_42_method_53_code, exceptionTable := #[], attributes := #[] }
def k7m2 : Method := { name := "<init>", desc := "(Ljava/lang/StringBuilder;)V", sig := { parameters := [(.object "java/lang/StringBuilder")], returnType := none }, accessFlags := 1, code := some k7c2 }
def k7c3 : Code := { maxStack := 2, maxLocals := 1, code := jdk_42_method_54_code, exceptionTable := #[], attributes := #[] }
def k7m3 : Method := { name := "length", desc := "()I", sig := { parameters := [], returnType := some .int }, accessFlags := 1, code := some k7c3 }
def k7c4 : Code := { maxStack := 2, maxLocals := 2, code := jdk_42_method_56_code, exceptionTable := #[], attributes := #[] }
def k7m4 : Method := { name := "charAt", desc := "(I)C", sig := { parameters := [.int], returnType := some .char }, accessFlags := 1, code := some k7c4 }
def k7c5 : Code := { maxStack := 4, maxLocals := 1, code := jdk_42_method_139_code, exceptionTable := #[], attributes := #[] }
def k7m5 : Method := { name := "valueOf", desc := "(C)Ljava/lang/String;", sig := { parameters := [.char], returnType := some (.object "java/lang/String") }, accessFlags := 9, code := some k7c5 }
def k7c6 : Code := { maxStack := 5, maxLocals := 4, code := jdk_42_method_147_code, exceptionTable := #[], attributes := #[] }
def k7m6 : Method := { name := "getBytes", desc := "([BIB)V", sig := { parameters := [(.array .byte), .int, .byte], returnType := none }, accessFlags := 0, code := some k7c6 }
def k7c7 : Code := { maxStack := 4, maxLocals := 6, code := jdk_42_method_149_code, exceptionTable := #[], attributes := #[] }
def k7m7 : Method := { name := "<init>", desc := "([CIILjava/lang/Void;)V", sig := { parameters := [(.array .char), .int, .int, (.object "java/lang/Void")], returnType := none }, accessFlags := 2, code := some k7c7 }
def k7c8 : Code := { maxStack := 5, maxLocals := 5, code := jdk_42_method_150_code, exceptionTable := #[], attributes := #[] }
def k7m8 : Method := { name := "<init>", desc := "(Ljava/lang/AbstractStringBuilder;Ljava/lang/Void;)V", sig := { parameters := [(.object "java/lang/AbstractStringBuilder"), (.object "java/lang/Void")], returnType := none }, accessFlags := 0, code := some k7c8 }
def k7c9 : Code := { maxStack := 2, maxLocals := 3, code := jdk_42_method_151_code, exceptionTable := #[], attributes := #[] }
def k7m9 : Method := { name := "<init>", desc := "([BB)V", sig := { parameters := [(.array .byte), .byte], returnType := none }, accessFlags := 0, code := some k7c9 }
def k7c10 : Code := { maxStack := 1, maxLocals := 1, code := jdk_42_method_152_code, exceptionTable := #[], attributes := #[] }
def k7m10 : Method := { name := "coder", desc := "()B", sig := { parameters := [], returnType := some .byte }, accessFlags := 0, code := some k7c10 }
def k7c11 : Code := { maxStack := 1, maxLocals := 1, code := jdk_42_method_153_code, exceptionTable := #[], attributes := #[] }
def k7m11 : Method := { name := "value", desc := "()[B", sig := { parameters := [], returnType := some (.array .byte) }, accessFlags := 0, code := some k7c11 }
def k7c12 : Code := { maxStack := 1, maxLocals := 1, code := jdk_42_method_154_code, exceptionTable := #[], attributes := #[] }
def k7m12 : Method := { name := "isLatin1", desc := "()Z", sig := { parameters := [], returnType := some .boolean }, accessFlags := 0, code := some k7c12 }
def k7c13 : Code := { maxStack := 3, maxLocals := 2, code := jdk_42_method_155_code, exceptionTable := #[], attributes := #[] }
def k7m13 : Method := { name := "checkIndex", desc := "(II)V", sig := { parameters := [.int, .int], returnType := none }, accessFlags := 8, code := some k7c13 }
def k7c14 : Code := { maxStack := 4, maxLocals := 3, code := jdk_42_method_157_code, exceptionTable := #[], attributes := #[] }
def k7m14 : Method := { name := "checkBoundsOffCount", desc := "(III)I", sig := { parameters := [.int, .int, .int], returnType := some .int }, accessFlags := 8, code := some k7c14 }
def k7c15 : Code := { maxStack := 4, maxLocals := 3, code := jdk_42_method_158_code, exceptionTable := #[], attributes := #[] }
def k7m15 : Method := { name := "checkBoundsBeginEnd", desc := "(III)V", sig := { parameters := [.int, .int, .int], returnType := none }, accessFlags := 8, code := some k7c15 }
/-- java/lang/String -/
def k7 : Class := { plain "java/lang/String" (some 0) with
  accessFlags := 49
  interfaces := #[2, 3, 4, 5, 6]
  cf := some (fileOf pool7 10 #[.nestMembers #[1103]] #[{ accessFlags := 1, nameIndex := 5, descriptorIndex := 6, attributes := #[] }, { accessFlags := 1, nameIndex := 5, descriptorIndex := 1010, attributes := #[] }, { accessFlags := 1, nameIndex := 5, descriptorIndex := 1233, attributes := #[] }, { accessFlags := 1, nameIndex := 507, descriptorIndex := 334, attributes := #[] }, { accessFlags := 1, nameIndex := 497, descriptorIndex := 427, attributes := #[] }, { accessFlags := 9, nameIndex := 782, descriptorIndex := 783, attributes := #[] }, { accessFlags := 0, nameIndex := 532, descriptorIndex := 821, attributes := #[] }, { accessFlags := 2, nameIndex := 5, descriptorIndex := 29, attributes := #[] }, { accessFlags := 0, nameIndex := 5, descriptorIndex := 491, attributes := #[] }, { accessFlags := 0, nameIndex := 5, descriptorIndex := 211, attributes := #[] }, { accessFlags := 0, nameIndex := 17, descriptorIndex := 337, attributes := #[] }, { accessFlags := 0, nameIndex := 13, descriptorIndex := 340, attributes := #[] }, { accessFlags := 0, nameIndex := 494, descriptorIndex := 142, attributes := #[] }, { accessFlags := 8, nameIndex := 501, descriptorIndex := 391, attributes := #[] }, { accessFlags := 8, nameIndex := 36, descriptorIndex := 37, attributes := #[] }, { accessFlags := 8, nameIndex := 523, descriptorIndex := 524, attributes := #[] }] 49 2 #[1106, 1108, 575, 1110, 1112] #[{ accessFlags := 18, nameIndex := 13, descriptorIndex := 14, attributes := #[] }, { accessFlags := 18, nameIndex := 17, descriptorIndex := 18, attributes := #[] }, { accessFlags := 2, nameIndex := 21, descriptorIndex := 22, attributes := #[] }, { accessFlags := 2, nameIndex := 25, descriptorIndex := 26, attributes := #[] }, { accessFlags := 26, nameIndex := 1116, descriptorIndex := 1117, attributes := #[] }, { accessFlags := 24, nameIndex := 40, descriptorIndex := 26, attributes := #[] }, { accessFlags := 26, nameIndex := 1101, descriptorIndex := 1102, attributes := #[] }, { accessFlags := 26, nameIndex := 1121, descriptorIndex := 1122, attributes := #[] }, { accessFlags := 25, nameIndex := 599, descriptorIndex := 600, attributes := #[] }, { accessFlags := 24, nameIndex := 1125, descriptorIndex := 18, attributes := #[] }, { accessFlags := 24, nameIndex := 1127, descriptorIndex := 18, attributes := #[] }])
  fields := #[{ name := "value", type := (.array .byte), accessFlags := 18, slot := 0, constantValue := 0 }, { name := "coder", type := .byte, accessFlags := 18, slot := 1, constantValue := 0 }, { name := "hash", type := .int, accessFlags := 2, slot := 2, constantValue := 0 }, { name := "hashIsZero", type := .boolean, accessFlags := 2, slot := 3, constantValue := 0 }, { name := "serialVersionUID", type := .long, accessFlags := 26, slot := 0, constantValue := 0 }, { name := "COMPACT_STRINGS", type := .boolean, accessFlags := 24, slot := 1, constantValue := 0 }, { name := "serialPersistentFields", type := (.array (.object "java/io/ObjectStreamField")), accessFlags := 26, slot := 2, constantValue := 0 }, { name := "REPL", type := .char, accessFlags := 26, slot := 3, constantValue := 0 }, { name := "CASE_INSENSITIVE_ORDER", type := (.object "java/util/Comparator"), accessFlags := 25, slot := 4, constantValue := 0 }, { name := "LATIN1", type := .byte, accessFlags := 24, slot := 5, constantValue := 0 }, { name := "UTF16", type := .byte, accessFlags := 24, slot := 6, constantValue := 0 }]
  methods := #[k7m0, k7m1, k7m2, k7m3, k7m4, k7m5, k7m6, k7m7, k7m8, k7m9, k7m10, k7m11, k7m12, k7m13, k7m14, k7m15]
  instanceTypes := #[(.array .byte), .byte, .int, .boolean]
  staticTypes := #[.long, .boolean, (.array (.object "java/io/ObjectStreamField")), .char, (.object "java/util/Comparator"), .byte, .byte]
  resolved := Array.replicate 1451 none
  statics := some 0 }

def pool8 : Array CpInfo := pool [(1, .class_ 2), (0, u "java/lang/String"), (1, .class_ 6), (1, u "java/lang/Object"), (0, u "<init>"), (0, u "()V"), (0, .methodref 1 10), (0, .nameAndType 11 12), (0, u "checkIndex"), (0, u "(II)V"), (1, .class_ 16), (1, u "java/lang/StringLatin1"), (0, u "inflate"), (2, .class_ 22), (1, u "java/lang/StringUTF16"), (3, .nameAndType 17 27), (0, u "([BI[BII)V"), (25, u "([BI)C"), (36, u "canEncode"), (14, u "(C)Z"), (15, u "$assertionsDisabled"), (0, u "Z"), (98, .class_ 223), (1, u "java/lang/StringLatin1$LinesSpliterator"), (16, .methodref 20 26), (11, u "charAt"), (127, u "toBytes"), (1, u "(C)[B"), (7, .class_ 391), (0, u "java/lang/StringLatin1$CharsSpliterator")] 3

def k8m0 : Method := { name := "<init>", desc := "()V", sig := { parameters := [], returnType := none }, accessFlags := 0, code := none }
def k8c1 : Code := { maxStack := 2, maxLocals := 2, code := jdk_43_method_2_code, exceptionTable := #[], attributes := #[] }
def k8m1 : Method := { name := "charAt", desc := "([BI)C", sig := { parameters := [(.array .byte), .int], returnType := some .char }, accessFlags := 9, code := some k8c1 }
def k8c2 : Code := { maxStack := 2, maxLocals := 1, code := jdk_43_method_3_code, exceptionTable := #[], attributes := #[] }
def k8m2 : Method := { name := "canEncode", desc := "(C)Z", sig := { parameters := [.char], returnType := some .boolean }, accessFlags := 9, code := some k8c2 }
def k8c3 : Code := { maxStack := 4, maxLocals := 1, code := jdk_43_method_46_code, exceptionTable := #[], attributes := #[] }
def k8m3 : Method := { name := "toBytes", desc := "(C)[B", sig := { parameters := [.char], returnType := some (.array .byte) }, accessFlags := 9, code := some k8c3 }
def k8c4 : Code := { maxStack := 5, maxLocals := 5, code := jdk_43_method_50_code, exceptionTable := #[], attributes := #[] }
def k8m4 : Method := { name := "inflate", desc := "([BI[BII)V", sig := { parameters := [(.array .byte), .int, (.array .byte), .int, .int], returnType := none }, accessFlags := 9, code := some k8c4 }
/-- java/lang/StringLatin1 -/
def k8 : Class := { plain "java/lang/StringLatin1" (some 0) with
  accessFlags := 48
  interfaces := #[]
  cf := some (fileOf pool8 14 #[.nestMembers #[390, 221]] #[{ accessFlags := 0, nameIndex := 7, descriptorIndex := 8, attributes := #[] }, { accessFlags := 9, nameIndex := 252, descriptorIndex := 53, attributes := #[] }, { accessFlags := 9, nameIndex := 90, descriptorIndex := 105, attributes := #[] }, { accessFlags := 9, nameIndex := 380, descriptorIndex := 382, attributes := #[] }, { accessFlags := 9, nameIndex := 17, descriptorIndex := 27, attributes := #[] }] 48 4 #[] #[{ accessFlags := 4120, nameIndex := 121, descriptorIndex := 122, attributes := #[] }])
  fields := #[{ name := "$assertionsDisabled", type := .boolean, accessFlags := 4120, slot := 0, constantValue := 0 }]
  methods := #[k8m0, k8m1, k8m2, k8m3, k8m4]
  instanceTypes := #[]
  staticTypes := #[.boolean]
  resolved := Array.replicate 395 none
  statics := none }

def pool9 : Array CpInfo := pool [(1, .class_ 2), (0, u "java/lang/Integer"), (0, .class_ 4), (0, u "java/lang/String"), (1, .class_ 8), (1, u "java/lang/Object"), (0, u "<init>"), (0, u "()V"), (0, .methodref 12 13), (0, .class_ 14), (0, .nameAndType 15 16), (0, u "java/lang/StringUTF16"), (0, u "newBytesLength"), (0, u "(I)I"), (3, .integer 1073741823), (23, .fieldref 12 45), (0, .nameAndType 46 47), (0, u "$assertionsDisabled"), (0, u "Z"), (0, .methodref 12 49), (0, .nameAndType 50 51), (0, u "length"), (0, u "([B)I"), (7, .fieldref 12 60), (0, .nameAndType 61 62), (0, u "HI_BYTE_SHIFT"), (0, u "I"), (0, .fieldref 12 64), (0, .nameAndType 65 62), (0, u "LO_BYTE_SHIFT"), (1, .methodref 12 68), (0, .nameAndType 69 70), (0, u "checkIndex"), (0, u "(I[B)V"), (0, .methodref 12 72), (0, .nameAndType 73 74), (0, u "getChar"), (0, u "([BI)C"), (21, .methodref 12 97), (0, .nameAndType 98 99), (0, u "checkBoundsBeginEnd"), (0, u "(II[B)V"), (5, u "getChars"), (1, .methodref 12 108), (0, .nameAndType 109 110), (0, u "newBytesFor"), (0, u "(I)[B"), (0, .methodref 12 112), (0, .nameAndType 113 114), (0, u "putChar"), (0, u "([BII)V"), (0, .methodref 12 116), (0, .nameAndType 117 118), (0, u "compress"), (0, u "([CI[BII)I"), (0, .methodref 12 120), (0, .nameAndType 121 122), (0, u "toBytes"), (0, u "([CII)[B"), (17, u "inflate"), (0, u "([BI[BII)V"), (18, u "(I)C"), (12, .methodref 12 174), (0, .nameAndType 175 99), (0, u "checkBoundsOffCount"), (65, .methodref 3 242), (0, .nameAndType 98 243), (0, u "(III)V"), (17, u "coderFromArrayLen"), (0, u "([BI)B"), (18, u "(III)I"), (87, .class_ 371), (1, u "java/lang/StringUTF16$LinesSpliterator"), (16, .interfaceMethodref 389 390), (0, .class_ 391), (0, .nameAndType 392 160), (0, u "java/lang/CharSequence"), (0, u "charAt"), (0, .methodref 12 394), (0, .nameAndType 105 395), (0, u "(II[B)I"), (7, .fieldref 1 404), (0, .nameAndType 405 406), (0, u "DigitOnes"), (0, u "[B"), (7, .methodref 3 415), (0, .nameAndType 69 416), (0, u "(II)V"), (2, .methodref 3 420), (0, .nameAndType 175 281), (9, u "MAX_LENGTH"), (44, u "(C)[B"), (110, u "putCharSB"), (0, u "putCharsSB"), (1, u "([BILjava/lang/CharSequence;II)V"), (5, u "(III[B)I"), (31, .class_ 628), (0, u "java/lang/StringUTF16$CodePointsSpliterator"), (0, .class_ 630), (0, u "java/lang/StringUTF16$CharsSpliterator")] 4

def k9m0 : Method := { name := "<init>", desc := "()V", sig := { parameters := [], returnType := none }, accessFlags := 0, code := none }
def k9c1 : Code := { maxStack := 1, maxLocals := 1, code := jdk_52_method_2_code, exceptionTable := #[], attributes := #[] }
def k9m1 : Method := { name := "newBytesFor", desc := "(I)[B", sig := { parameters := [.int], returnType := some (.array .byte) }, accessFlags := 9, code := some k9c1 }
def k9c2 : Code := { maxStack := 4, maxLocals := 1, code := jdk_52_method_3_code, exceptionTable := #[], attributes := #[] }
def k9m2 : Method := { name := "newBytesLength", desc := "(I)I", sig := { parameters := [.int], returnType := some .int }, accessFlags := 9, code := some k9c2 }
def k9c3 : Code := { maxStack := 4, maxLocals := 3, code := jdk_52_method_4_code, exceptionTable := #[], attributes := #[] }
def k9m3 : Method := { name := "putChar", desc := "([BII)V", sig := { parameters := [(.array .byte), .int, .int], returnType := none }, accessFlags := 8, code := some k9c3 }
def k9c4 : Code := { maxStack := 3, maxLocals := 2, code := jdk_52_method_5_code, exceptionTable := #[], attributes := #[] }
def k9m4 : Method := { name := "getChar", desc := "([BI)C", sig := { parameters := [(.array .byte), .int], returnType := some .char }, accessFlags := 8, code := some k9c4 }
def k9c5 : Code := { maxStack := 2, maxLocals := 1, code := jdk_52_method_6_code, exceptionTable := #[], attributes := #[] }
def k9m5 : Method := { name := "length", desc := "([B)I", sig := { parameters := [(.array .byte)], returnType := some .int }, accessFlags := 9, code := some k9c5 }
def k9c6 : Code := { maxStack := 4, maxLocals := 5, code := jdk_52_method_14_code, exceptionTable := #[], attributes := #[] }
def k9m6 : Method := { name := "toBytes", desc := "([CII)[B", sig := { parameters := [(.array .char), .int, .int], returnType := some (.array .byte) }, accessFlags := 9, code := some k9c6 }
def k9c7 : Code := { maxStack := 2, maxLocals := 2, code := jdk_52_method_15_code, exceptionTable := #[], attributes := #[] }
def k9m7 : Method := { name := "coderFromArrayLen", desc := "([BI)B", sig := { parameters := [(.array .byte), .int], returnType := some .byte }, accessFlags := 8, code := some k9c7 }
def k9c8 : Code := { maxStack := 5, maxLocals := 6, code := jdk_52_method_16_code, exceptionTable := #[], attributes := #[] }
def k9m8 : Method := { name := "compress", desc := "([CII)[B", sig := { parameters := [(.array .char), .int, .int], returnType := some (.array .byte) }, accessFlags := 9, code := some k9c8 }
def k9c9 : Code := { maxStack := 3, maxLocals := 7, code := jdk_52_method_21_code, exceptionTable := #[], attributes := #[] }
def k9m9 : Method := { name := "compress", desc := "([CI[BII)I", sig := { parameters := [(.array .char), .int, (.array .byte), .int, .int], returnType := some .int }, accessFlags := 9, code := some k9c9 }
def k9c10 : Code := { maxStack := 3, maxLocals := 2, code := jdk_52_method_24_code, exceptionTable := #[], attributes := #[] }
def k9m10 : Method := { name := "toBytes", desc := "(C)[B", sig := { parameters := [.char], returnType := some (.array .byte) }, accessFlags := 9, code := some k9c10 }
def k9c11 : Code := { maxStack := 3, maxLocals := 3, code := jdk_52_method_71_code, exceptionTable := #[], attributes := #[] }
def k9m11 : Method := { name := "putCharSB", desc := "([BII)V", sig := { parameters := [(.array .byte), .int, .int], returnType := none }, accessFlags := 9, code := some k9c11 }
def k9c12 : Code := { maxStack := 4, maxLocals := 6, code := jdk_52_method_73_code, exceptionTable := #[], attributes := #[] }
def k9m12 : Method := { name := "putCharsSB", desc := "([BILjava/lang/CharSequence;II)V", sig := { parameters := [(.array .byte), .int, (.object "java/lang/CharSequence"), .int, .int], returnType := none }, accessFlags := 9, code := some k9c12 }
def k9c13 : Code := { maxStack := 3, maxLocals := 5, code := jdk_52_method_77_code, exceptionTable := #[], attributes := #[] }
def k9m13 : Method := { name := "getChars", desc := "(III[B)I", sig := { parameters := [.int, .int, .int, (.array .byte)], returnType := some .int }, accessFlags := 9, code := some k9c13 }
def k9c14 : Code := { maxStack := 2, maxLocals := 2, code := jdk_52_method_83_code, exceptionTable := #[], attributes := #[] }
def k9m14 : Method := { name := "charAt", desc := "([BI)C", sig := { parameters := [(.array .byte), .int], returnType := some .char }, accessFlags := 9, code := some k9c14 }
def k9c15 : Code := { maxStack := 4, maxLocals := 6, code := jdk_52_method_86_code, exceptionTable := #[], attributes := #[] }
def k9m15 : Method := { name := "inflate", desc := "([BI[BII)V", sig := { parameters := [(.array .byte), .int, (.array .byte), .int, .int], returnType := none }, accessFlags := 9, code := some k9c15 }
def k9c16 : Code := { maxStack := 4, maxLocals := 7, code := jdk_52_method_89_code, exceptionTable := #[], attributes := #[] }
def k9m16 : Method := { name := "getChars", desc := "(II[B)I", sig := { parameters := [.int, .int, (.array .byte)], returnType := some .int }, accessFlags := 8, code := some k9c16 }
def k9c17 : Code := { maxStack := 2, maxLocals := 2, code := jdk_52_method_91_code, exceptionTable := #[], attributes := #[] }
def k9m17 : Method := { name := "checkIndex", desc := "(I[B)V", sig := { parameters := [.int, (.array .byte)], returnType := none }, accessFlags := 9, code := some k9c17 }
def k9c18 : Code := { maxStack := 3, maxLocals := 3, code := jdk_52_method_93_code, exceptionTable := #[], attributes := #[] }
def k9m18 : Method := { name := "checkBoundsBeginEnd", desc := "(II[B)V", sig := { parameters := [.int, .int, (.array .byte)], returnType := none }, accessFlags := 9, code := some k9c18 }
def k9c19 : Code := { maxStack := 3, maxLocals := 3, code := jdk_52_method_94_code, exceptionTable := #[], attributes := #[] }
def k9m19 : Method := { name := "checkBoundsOffCount", desc := "(II[B)V", sig := { parameters := [.int, .int, (.array .byte)], returnType := none }, accessFlags := 9, code := some k9c19 }
/-- java/lang/StringUTF16 -/
def k9 : Class := { plain "java/lang/StringUTF16" (some 0) with
  accessFlags := 48
  interfaces := #[]
  cf := some (fileOf pool9 12 #[.nestMembers #[627, 629, 369]] #[{ accessFlags := 0, nameIndex := 9, descriptorIndex := 10, attributes := #[] }, { accessFlags := 9, nameIndex := 109, descriptorIndex := 110, attributes := #[] }, { accessFlags := 9, nameIndex := 15, descriptorIndex := 16, attributes := #[] }, { accessFlags := 8, nameIndex := 113, descriptorIndex := 114, attributes := #[] }, { accessFlags := 8, nameIndex := 73, descriptorIndex := 74, attributes := #[] }, { accessFlags := 9, nameIndex := 50, descriptorIndex := 51, attributes := #[] }, { accessFlags := 9, nameIndex := 121, descriptorIndex := 122, attributes := #[] }, { accessFlags := 8, nameIndex := 261, descriptorIndex := 262, attributes := #[] }, { accessFlags := 9, nameIndex := 117, descriptorIndex := 122, attributes := #[] }, { accessFlags := 9, nameIndex := 117, descriptorIndex := 118, attributes := #[] }, { accessFlags := 9, nameIndex := 121, descriptorIndex := 475, attributes := #[] }, { accessFlags := 9, nameIndex := 586, descriptorIndex := 114, attributes := #[] }, { accessFlags := 9, nameIndex := 587, descriptorIndex := 589, attributes := #[] }, { accessFlags := 9, nameIndex := 105, descriptorIndex := 595, attributes := #[] }, { accessFlags := 9, nameIndex := 392, descriptorIndex := 74, attributes := #[] }, { accessFlags := 9, nameIndex := 140, descriptorIndex := 141, attributes := #[] }, { accessFlags := 8, nameIndex := 105, descriptorIndex := 395, attributes := #[] }, { accessFlags := 9, nameIndex := 69, descriptorIndex := 70, attributes := #[] }, { accessFlags := 9, nameIndex := 98, descriptorIndex := 99, attributes := #[] }, { accessFlags := 9, nameIndex := 175, descriptorIndex := 99, attributes := #[] }] 48 6 #[] #[{ accessFlags := 26, nameIndex := 61, descriptorIndex := 62, attributes := #[] }, { accessFlags := 26, nameIndex := 65, descriptorIndex := 62, attributes := #[] }, { accessFlags := 24, nameIndex := 430, descriptorIndex := 62, attributes := #[] }, { accessFlags := 4120, nameIndex := 46, descriptorIndex := 47, attributes := #[] }])
  fields := #[{ name := "HI_BYTE_SHIFT", type := .int, accessFlags := 26, slot := 0, constantValue := 0 }, { name := "LO_BYTE_SHIFT", type := .int, accessFlags := 26, slot := 1, constantValue := 0 }, { name := "MAX_LENGTH", type := .int, accessFlags := 24, slot := 2, constantValue := 0 }, { name := "$assertionsDisabled", type := .boolean, accessFlags := 4120, slot := 3, constantValue := 0 }]
  methods := #[k9m0, k9m1, k9m2, k9m3, k9m4, k9m5, k9m6, k9m7, k9m8, k9m9, k9m10, k9m11, k9m12, k9m13, k9m14, k9m15, k9m16, k9m17, k9m18, k9m19]
  instanceTypes := #[]
  staticTypes := #[.int, .int, .int, .boolean]
  resolved := Array.replicate 635 none
  statics := some 1 }

def pool10 : Array CpInfo := pool [(1, .methodref 2 3), (0, .class_ 4), (0, .nameAndType 5 6), (0, u "java/lang/Object"), (0, u "<init>"), (0, u "()V"), (0, .class_ 8), (0, u "java/lang/StringBuilder"), (0, .methodref 7 10), (0, .nameAndType 5 11), (0, u "(I)V"), (0, .methodref 7 13), (0, .nameAndType 14 15), (0, u "append"), (0, u "(C)Ljava/lang/StringBuilder;"), (0, .fieldref 17 18), (0, .class_ 19), (0, .nameAndType 20 21), (0, u "com/example/clear_fault/clearfault/JsonObjectWriter"), (0, u "out"), (0, u "Ljava/lang/StringBuilder;"), (0, .fieldref 17 23), (0, .nameAndType 24 25), (0, u "first"), (0, u "Z"), (0, .methodref 17 27), (0, .nameAndType 28 29), (0, u "name"), (0, u "(Ljava/lang/String;)V"), (0, .methodref 17 31), (0, .nameAndType 32 29), (0, u "appendString"), (2, u "add"), (0, u "(Ljava/lang/String;Ljava/lang/String;)Lcom/example/clear_fault/clearfault/JsonObjectWriter;"), (0, .methodref 7 38), (0, .nameAndType 14 39), (0, u "(I)Ljava/lang/StringBuilder;"), (9, u "()I"), (6, u "finish"), (0, u "()Ljava/lang/String;"), (0, .methodref 7 59), (0, .nameAndType 14 60), (0, u "(Ljava/lang/String;)Ljava/lang/StringBuilder;"), (0, .methodref 7 62), (0, .nameAndType 63 57), (0, u "toString"), (0, .methodref 65 66), (0, .class_ 67), (0, .nameAndType 68 49), (0, u "java/lang/String"), (0, u "length"), (0, .methodref 65 70), (0, .nameAndType 71 72), (0, u "charAt"), (0, u "(I)C"), (0, .methodref 7 74), (0, .nameAndType 14 75), (0, u "(Ljava/lang/CharSequence;II)Ljava/lang/StringBuilder;"), (0, .string 77), (0, u "\\u00"), (0, .fieldref 17 79), (0, .nameAndType 80 81), (0, u "HEX"), (0, u "[C"), (10, u "(Ljava/lang/String;I)Lcom/example/clear_fault/clearfault/JsonObjectWriter;")] 7

def k10c0 : Code := { maxStack := 4, maxLocals := 1, code := prog_13_method_1_code, exceptionTable := #[], attributes := #[] }
def k10m0 : Method := { name := "<init>", desc := "()V", sig := { parameters := [], returnType := none }, accessFlags := 0, code := some k10c0 }
def k10c1 : Code := { maxStack := 2, maxLocals := 3, code := prog_13_method_2_code, exceptionTable := #[], attributes := #[] }
def k10m1 : Method := { name := "add", desc := "(Ljava/lang/String;Ljava/lang/String;)Lcom/example/clear_fault/clearfault/JsonObjectWriter;", sig := { parameters := [(.object "java/lang/String"), (.object "java/lang/String")], returnType := some (.object "com/example/clear_fault/clearfault/JsonObjectWriter") }, accessFlags := 0, code := some k10c1 }
def k10c2 : Code := { maxStack := 2, maxLocals := 3, code := prog_13_method_4_code, exceptionTable := #[], attributes := #[] }
def k10m2 : Method := { name := "add", desc := "(Ljava/lang/String;I)Lcom/example/clear_fault/clearfault/JsonObjectWriter;", sig := { parameters := [(.object "java/lang/String"), .int], returnType := some (.object "com/example/clear_fault/clearfault/JsonObjectWriter") }, accessFlags := 0, code := some k10c2 }
def k10c3 : Code := { maxStack := 2, maxLocals := 1, code := prog_13_method_6_code, exceptionTable := #[], attributes := #[] }
def k10m3 : Method := { name := "finish", desc := "()Ljava/lang/String;", sig := { parameters := [], returnType := some (.object "java/lang/String") }, accessFlags := 0, code := some k10c3 }
def k10c4 : Code := { maxStack := 2, maxLocals := 2, code := prog_13_method_7_code, exceptionTable := #[], attributes := #[] }
def k10m4 : Method := { name := "name", desc := "(Ljava/lang/String;)V", sig := { parameters := [(.object "java/lang/String")], returnType := none }, accessFlags := 2, code := some k10c4 }
def k10c5 : Code := { maxStack := 4, maxLocals := 5, code := prog_13_method_8_code, exceptionTable := #[], attributes := #[] }
def k10m5 : Method := { name := "appendString", desc := "(Ljava/lang/String;)V", sig := { parameters := [(.object "java/lang/String")], returnType := none }, accessFlags := 2, code := some k10c5 }
/-- com/example/clear_fault/clearfault/JsonObjectWriter -/
def k10 : Class := { plain "com/example/clear_fault/clearfault/JsonObjectWriter" (some 0) with
  accessFlags := 48
  interfaces := #[]
  cf := some (fileOf pool10 17 #[] #[{ accessFlags := 0, nameIndex := 5, descriptorIndex := 6, attributes := #[] }, { accessFlags := 0, nameIndex := 35, descriptorIndex := 36, attributes := #[] }, { accessFlags := 0, nameIndex := 35, descriptorIndex := 92, attributes := #[] }, { accessFlags := 0, nameIndex := 56, descriptorIndex := 57, attributes := #[] }, { accessFlags := 2, nameIndex := 28, descriptorIndex := 29, attributes := #[] }, { accessFlags := 2, nameIndex := 32, descriptorIndex := 29, attributes := #[] }] 48 2 #[] #[{ accessFlags := 26, nameIndex := 80, descriptorIndex := 81, attributes := #[] }, { accessFlags := 18, nameIndex := 20, descriptorIndex := 21, attributes := #[] }, { accessFlags := 2, nameIndex := 24, descriptorIndex := 25, attributes := #[] }])
  fields := #[{ name := "HEX", type := (.array .char), accessFlags := 26, slot := 0, constantValue := 0 }, { name := "out", type := (.object "java/lang/StringBuilder"), accessFlags := 18, slot := 0, constantValue := 0 }, { name := "first", type := .boolean, accessFlags := 2, slot := 1, constantValue := 0 }]
  methods := #[k10m0, k10m1, k10m2, k10m3, k10m4, k10m5]
  instanceTypes := #[(.object "java/lang/StringBuilder"), .boolean]
  staticTypes := #[(.array .char)]
  resolved := Array.replicate 100 none
  statics := some 2 }

def pool11 : Array CpInfo := pool [(1, .class_ 2), (0, u "java/lang/Appendable"), (0, .class_ 4), (0, u "java/lang/Object")] 9

/-- java/lang/Appendable -/
def k11 : Class := { plain "java/lang/Appendable" (some 0) with
  accessFlags := 1537
  interfaces := #[]
  cf := some (fileOf pool11 1 #[] #[] 1537 3 #[] #[])
  fields := #[]
  methods := #[]
  instanceTypes := #[]
  staticTypes := #[]
  resolved := Array.replicate 14 none
  statics := none }

def pool12 : Array CpInfo := pool [(1, .class_ 2), (0, u "java/lang/String"), (0, .methodref 4 5), (0, .class_ 6), (0, .nameAndType 7 8), (0, u "java/lang/Object"), (0, u "<init>"), (0, u "()V"), (1, .class_ 12), (1, u "java/lang/AbstractStringBuilder"), (0, u "EMPTYVALUE"), (0, u "[B"), (0, .fieldref 10 16), (0, .nameAndType 17 14), (0, u "value"), (0, .fieldref 1 19), (0, .nameAndType 20 21), (0, u "COMPACT_STRINGS"), (0, u "Z"), (0, .fieldref 10 23), (0, .nameAndType 24 25), (0, u "coder"), (0, u "B"), (0, .methodref 27 28), (0, .class_ 29), (0, .nameAndType 30 31), (0, u "java/lang/StringUTF16"), (0, u "newBytesFor"), (0, u "(I)[B"), (0, .methodref 1 33), (0, .nameAndType 34 35), (0, u "length"), (0, u "()I"), (0, .class_ 37), (0, u "java/lang/Integer"), (2, .methodref 1 41), (0, .nameAndType 24 42), (0, u "()B"), (2, u "append"), (0, u "(Ljava/lang/String;)Ljava/lang/AbstractStringBuilder;"), (0, .interfaceMethodref 48 33), (0, .class_ 49), (0, u "java/lang/CharSequence"), (19, u "(Ljava/lang/String;)V"), (5, u "maybeLatin1"), (3, .fieldref 10 80), (0, .nameAndType 81 82), (0, u "count"), (0, u "I"), (0, .methodref 10 84), (0, .nameAndType 85 86), (0, u "isLatin1"), (0, u "()Z"), (1, .class_ 90), (1, u "java/lang/StringLatin1"), (9, .methodref 10 101), (0, .nameAndType 102 103), (0, u "ensureCapacityInternal"), (0, u "(I)V"), (3, u "(I)I"), (17, .methodref 88 126), (0, .nameAndType 127 128), (0, u "inflate"), (0, u "([BI[BII)V"), (7, u "([BII)V"), (24, .methodref 162 163), (0, .class_ 164), (0, .nameAndType 165 166), (0, u "jdk/internal/util/Preconditions"), (0, u "checkFromToIndex"), (0, u "(IIILjava/util/function/BiFunction;)I"), (15, u "Ljava/util/function/BiFunction;"), (0, .fieldref 162 184), (0, .nameAndType 185 182), (0, u "IOOBE_FORMATTER"), (2, u "getChars"), (2, .methodref 88 192), (0, .nameAndType 193 194), (0, u "canEncode"), (0, u "(C)Z"), (0, .methodref 10 196), (0, .nameAndType 127 8), (0, .methodref 27 198), (0, .nameAndType 199 136), (0, u "putCharSB"), (8, .methodref 10 209), (0, .nameAndType 210 211), (0, u "putStringAt"), (0, u "(ILjava/lang/String;)V"), (5, u "inflateIfNeededFor"), (2, .nameAndType 221 222), (0, u "getBytes"), (0, u "([BIB)V"), (2, u "(Ljava/lang/CharSequence;II)Ljava/lang/AbstractStringBuilder;"), (6, .methodref 10 233), (0, .nameAndType 234 235), (0, u "appendChars"), (0, u "(Ljava/lang/String;II)V"), (9, .methodref 36 246), (0, .nameAndType 247 107), (0, u "stringSize"), (0, .methodref 36 249), (0, .nameAndType 188 250), (0, u "(II[B)I"), (0, .methodref 27 252), (0, .nameAndType 188 253), (0, u "(III[B)I"), (38, u "(C)Ljava/lang/AbstractStringBuilder;"), (16, .methodref 310 311), (0, .class_ 312), (0, .nameAndType 313 314), (0, u "java/lang/System"), (0, u "arraycopy"), (0, u "(Ljava/lang/Object;ILjava/lang/Object;II)V"), (73, u "putCharsSB"), (2, .nameAndType 392 393), (0, u "charAt"), (0, u "(I)C"), (0, .methodref 27 395), (0, .nameAndType 388 396), (0, u "([BILjava/lang/CharSequence;II)V"), (0, .methodref 10 398), (0, .nameAndType 217 69), (0, .methodref 1 220), (0, .methodref 1 84), (0, .methodref 1 402), (0, .nameAndType 17 403), (0, u "()[B"), (0, .methodref 1 391), (39, .class_ 445), (0, u "java/lang/Appendable"), (65, u "(I)Ljava/lang/AbstractStringBuilder;"), (40, u "getValue")] 56

def k12m0 : Method := { name := "<init>", desc := "()V", sig := { parameters := [], returnType := none }, accessFlags := 0, code := none }
def k12c1 : Code := { maxStack := 2, maxLocals := 2, code := jdk_68_method_2_code, exceptionTable := #[], attributes := #[] }
def k12m1 : Method := { name := "<init>", desc := "(I)V", sig := { parameters := [.int], returnType := none }, accessFlags := 0, code := some k12c1 }
def k12c2 : Code := { maxStack := 1, maxLocals := 1, code := jdk_68_method_6_code, exceptionTable := #[], attributes := #[] }
def k12m2 : Method := { name := "length", desc := "()I", sig := { parameters := [], returnType := some .int }, accessFlags := 1, code := some k12c2 }
def k12c3 : Code := { maxStack := 4, maxLocals := 3, code := jdk_68_method_9_code, exceptionTable := #[], attributes := #[] }
def k12m3 : Method := { name := "ensureCapacityInternal", desc := "(I)V", sig := { parameters := [.int], returnType := none }, accessFlags := 2, code := some k12c3 }
def k12c4 : Code := { maxStack := 5, maxLocals := 2, code := jdk_68_method_11_code, exceptionTable := #[], attributes := #[] }
def k12m4 : Method := { name := "inflate", desc := "()V", sig := { parameters := [], returnType := none }, accessFlags := 2, code := some k12c4 }
def k12c5 : Code := { maxStack := 3, maxLocals := 3, code := jdk_68_method_22_code, exceptionTable := #[], attributes := #[] }
def k12m5 : Method := { name := "append", desc := "(Ljava/lang/String;)Ljava/lang/AbstractStringBuilder;", sig := { parameters := [(.object "java/lang/String")], returnType := some (.object "java/lang/AbstractStringBuilder") }, accessFlags := 1, code := some k12c5 }
def k12c6 : Code := { maxStack := 4, maxLocals := 5, code := jdk_68_method_27_code, exceptionTable := #[], attributes := #[] }
def k12m6 : Method := { name := "append", desc := "(Ljava/lang/CharSequence;II)Ljava/lang/AbstractStringBuilder;", sig := { parameters := [(.object "java/lang/CharSequence"), .int, .int], returnType := some (.object "java/lang/AbstractStringBuilder") }, accessFlags := 1, code := some k12c6 }
def k12c7 : Code := { maxStack := 5, maxLocals := 2, code := jdk_68_method_31_code, exceptionTable := #[], attributes := #[] }
def k12m7 : Method := { name := "append", desc := "(C)Ljava/lang/AbstractStringBuilder;", sig := { parameters := [.char], returnType := some (.object "java/lang/AbstractStringBuilder") }, accessFlags := 1, code := some k12c7 }
def k12c8 : Code := { maxStack := 4, maxLocals := 4, code := jdk_68_method_32_code, exceptionTable := #[], attributes := #[] }
def k12m8 : Method := { name := "append", desc := "(I)Ljava/lang/AbstractStringBuilder;", sig := { parameters := [.int], returnType := some (.object "java/lang/AbstractStringBuilder") }, accessFlags := 1, code := some k12c8 }
def k12c9 : Code := { maxStack := 1, maxLocals := 1, code := jdk_68_method_64_code, exceptionTable := #[], attributes := #[] }
def k12m9 : Method := { name := "getValue", desc := "()[B", sig := { parameters := [], returnType := some (.array .byte) }, accessFlags := 16, code := some k12c9 }
def k12c10 : Code := { maxStack := 1, maxLocals := 1, code := jdk_68_method_68_code, exceptionTable := #[], attributes := #[] }
def k12m10 : Method := { name := "isLatin1", desc := "()Z", sig := { parameters := [], returnType := some .boolean }, accessFlags := 16, code := some k12c10 }
def k12c11 : Code := { maxStack := 2, maxLocals := 2, code := jdk_68_method_71_code, exceptionTable := #[], attributes := #[] }
def k12m11 : Method := { name := "inflateIfNeededFor", desc := "(Ljava/lang/String;)V", sig := { parameters := [(.object "java/lang/String")], returnType := none }, accessFlags := 2, code := some k12c11 }
def k12c12 : Code := { maxStack := 4, maxLocals := 3, code := jdk_68_method_73_code, exceptionTable := #[], attributes := #[] }
def k12m12 : Method := { name := "putStringAt", desc := "(ILjava/lang/String;)V", sig := { parameters := [.int, (.object "java/lang/String")], returnType := none }, accessFlags := 2, code := some k12c12 }
def k12c13 : Code := { maxStack := 6, maxLocals := 8, code := jdk_68_method_75_code, exceptionTable := #[], attributes := #[] }
def k12m13 : Method := { name := "appendChars", desc := "(Ljava/lang/String;II)V", sig := { parameters := [(.object "java/lang/String"), .int, .int], returnType := none }, accessFlags := 18, code := some k12c13 }
/-- java/lang/AbstractStringBuilder -/
def k12 : Class := { plain "java/lang/AbstractStringBuilder" (some 0) with
  accessFlags := 1056
  interfaces := #[11, 4]
  cf := some (fileOf pool12 10 #[] #[{ accessFlags := 0, nameIndex := 7, descriptorIndex := 8, attributes := #[] }, { accessFlags := 0, nameIndex := 7, descriptorIndex := 103, attributes := #[] }, { accessFlags := 1, nameIndex := 34, descriptorIndex := 35, attributes := #[] }, { accessFlags := 2, nameIndex := 102, descriptorIndex := 103, attributes := #[] }, { accessFlags := 2, nameIndex := 127, descriptorIndex := 8, attributes := #[] }, { accessFlags := 1, nameIndex := 45, descriptorIndex := 46, attributes := #[] }, { accessFlags := 1, nameIndex := 45, descriptorIndex := 225, attributes := #[] }, { accessFlags := 1, nameIndex := 45, descriptorIndex := 292, attributes := #[] }, { accessFlags := 1, nameIndex := 45, descriptorIndex := 511, attributes := #[] }, { accessFlags := 16, nameIndex := 552, descriptorIndex := 403, attributes := #[] }, { accessFlags := 16, nameIndex := 85, descriptorIndex := 86, attributes := #[] }, { accessFlags := 2, nameIndex := 217, descriptorIndex := 69, attributes := #[] }, { accessFlags := 2, nameIndex := 210, descriptorIndex := 211, attributes := #[] }, { accessFlags := 18, nameIndex := 234, descriptorIndex := 235, attributes := #[] }] 1056 4 #[444, 48] #[{ accessFlags := 0, nameIndex := 17, descriptorIndex := 14, attributes := #[] }, { accessFlags := 0, nameIndex := 24, descriptorIndex := 25, attributes := #[] }, { accessFlags := 0, nameIndex := 75, descriptorIndex := 21, attributes := #[] }, { accessFlags := 0, nameIndex := 81, descriptorIndex := 82, attributes := #[] }, { accessFlags := 26, nameIndex := 13, descriptorIndex := 14, attributes := #[] }])
  fields := #[{ name := "value", type := (.array .byte), accessFlags := 0, slot := 0, constantValue := 0 }, { name := "coder", type := .byte, accessFlags := 0, slot := 1, constantValue := 0 }, { name := "maybeLatin1", type := .boolean, accessFlags := 0, slot := 2, constantValue := 0 }, { name := "count", type := .int, accessFlags := 0, slot := 3, constantValue := 0 }, { name := "EMPTYVALUE", type := (.array .byte), accessFlags := 26, slot := 0, constantValue := 0 }]
  methods := #[k12m0, k12m1, k12m2, k12m3, k12m4, k12m5, k12m6, k12m7, k12m8, k12m9, k12m10, k12m11, k12m12, k12m13]
  instanceTypes := #[(.array .byte), .byte, .boolean, .int]
  staticTypes := #[(.array .byte)]
  resolved := Array.replicate 609 none
  statics := none }

def pool13 : Array CpInfo := pool [(1, .methodref 2 3), (0, .class_ 4), (0, .nameAndType 5 6), (0, u "java/lang/AbstractStringBuilder"), (0, u "<init>"), (0, u "(I)V"), (11, .class_ 20), (1, u "java/lang/String"), (3, .class_ 26), (1, u "java/lang/StringBuilder"), (0, u "append"), (0, u "(Ljava/lang/String;)Ljava/lang/StringBuilder;"), (0, .methodref 2 30), (0, .nameAndType 27 31), (0, u "(Ljava/lang/String;)Ljava/lang/AbstractStringBuilder;"), (6, .methodref 2 39), (0, .nameAndType 27 40), (0, u "(Ljava/lang/CharSequence;II)Ljava/lang/AbstractStringBuilder;"), (9, .methodref 2 51), (0, .nameAndType 27 52), (0, u "(C)Ljava/lang/AbstractStringBuilder;"), (0, .methodref 2 54), (0, .nameAndType 27 55), (0, u "(I)Ljava/lang/AbstractStringBuilder;"), (81, .methodref 18 138), (0, .nameAndType 5 139), (0, u "(Ljava/lang/StringBuilder;)V"), (5, u "()V"), (10, u "()I"), (111, u "(I)Ljava/lang/StringBuilder;"), (17, u "(C)Ljava/lang/StringBuilder;"), (11, u "(Ljava/lang/CharSequence;II)Ljava/lang/StringBuilder;"), (44, .methodref 2 344), (0, .nameAndType 345 156), (0, u "length"), (3, .class_ 350), (0, u "java/lang/Appendable"), (0, .class_ 352), (0, u "java/io/Serializable"), (0, .class_ 354), (0, u "java/lang/Comparable"), (0, .class_ 356), (0, u "java/lang/CharSequence"), (0, u "serialVersionUID"), (0, u "J"), (40, u "toString"), (0, u "()Ljava/lang/String;")] 21

def k13m0 : Method := { name := "<init>", desc := "()V", sig := { parameters := [], returnType := none }, accessFlags := 1, code := none }
def k13c1 : Code := { maxStack := 2, maxLocals := 2, code := jdk_67_method_2_code, exceptionTable := #[], attributes := #[] }
def k13m1 : Method := { name := "<init>", desc := "(I)V", sig := { parameters := [.int], returnType := none }, accessFlags := 1, code := some k13c1 }
def k13c2 : Code := { maxStack := 2, maxLocals := 2, code := jdk_67_method_7_code, exceptionTable := #[], attributes := #[] }
def k13m2 : Method := { name := "append", desc := "(Ljava/lang/String;)Ljava/lang/StringBuilder;", sig := { parameters := [(.object "java/lang/String")], returnType := some (.object "java/lang/StringBuilder") }, accessFlags := 1, code := some k13c2 }
def k13c3 : Code := { maxStack := 4, maxLocals := 4, code := jdk_67_method_10_code, exceptionTable := #[], attributes := #[] }
def k13m3 : Method := { name := "append", desc := "(Ljava/lang/CharSequence;II)Ljava/lang/StringBuilder;", sig := { parameters := [(.object "java/lang/CharSequence"), .int, .int], returnType := some (.object "java/lang/StringBuilder") }, accessFlags := 1, code := some k13c3 }
def k13c4 : Code := { maxStack := 2, maxLocals := 2, code := jdk_67_method_14_code, exceptionTable := #[], attributes := #[] }
def k13m4 : Method := { name := "append", desc := "(C)Ljava/lang/StringBuilder;", sig := { parameters := [.char], returnType := some (.object "java/lang/StringBuilder") }, accessFlags := 1, code := some k13c4 }
def k13c5 : Code := { maxStack := 2, maxLocals := 2, code := jdk_67_method_15_code, exceptionTable := #[], attributes := #[] }
def k13m5 : Method := { name := "append", desc := "(I)Ljava/lang/StringBuilder;", sig := { parameters := [.int], returnType := some (.object "java/lang/StringBuilder") }, accessFlags := 1, code := some k13c5 }
def k13c6 : Code := { maxStack := 3, maxLocals := 1, code := jdk_67_method_42_code, exceptionTable := #[], attributes := #[] }
def k13m6 : Method := { name := "toString", desc := "()Ljava/lang/String;", sig := { parameters := [], returnType := some (.object "java/lang/String") }, accessFlags := 1, code := some k13c6 }
def k13c7 : Code := { maxStack := 1, maxLocals := 1, code := jdk_67_method_93_code, exceptionTable := #[], attributes := #[] }
def k13m7 : Method := { name := "length", desc := "()I", sig := { parameters := [], returnType := some .int }, accessFlags := 4161, code := some k13c7 }
/-- java/lang/StringBuilder -/
def k13 : Class := { plain "java/lang/StringBuilder" (some 12) with
  accessFlags := 49
  interfaces := #[11, 2, 3, 4]
  cf := some (fileOf pool13 24 #[] #[{ accessFlags := 1, nameIndex := 5, descriptorIndex := 145, attributes := #[] }, { accessFlags := 1, nameIndex := 5, descriptorIndex := 6, attributes := #[] }, { accessFlags := 1, nameIndex := 27, descriptorIndex := 28, attributes := #[] }, { accessFlags := 1, nameIndex := 27, descriptorIndex := 298, attributes := #[] }, { accessFlags := 1, nameIndex := 27, descriptorIndex := 286, attributes := #[] }, { accessFlags := 1, nameIndex := 27, descriptorIndex := 268, attributes := #[] }, { accessFlags := 1, nameIndex := 399, descriptorIndex := 400, attributes := #[] }, { accessFlags := 4161, nameIndex := 345, descriptorIndex := 156, attributes := #[] }] 49 2 #[349, 351, 353, 355] #[{ accessFlags := 24, nameIndex := 357, descriptorIndex := 358, attributes := #[] }])
  fields := #[{ name := "serialVersionUID", type := .long, accessFlags := 24, slot := 0, constantValue := 0 }]
  methods := #[k13m0, k13m1, k13m2, k13m3, k13m4, k13m5, k13m6, k13m7]
  instanceTypes := #[(.array .byte), .byte, .boolean, .int]
  staticTypes := #[.long]
  resolved := Array.replicate 422 none
  statics := none }

def pool14 : Array CpInfo := pool [(2, .class_ 4), (1, u "java/lang/Object"), (0, u "<init>"), (0, u "()V"), (7, .class_ 16), (1, u "java/util/Arrays"), (57, .class_ 76), (1, u "java/util/Arrays$NaturalOrder"), (36, .class_ 115), (1, u "java/util/Arrays$LegacyMergeSort"), (1, u "Z"), (21, u "copyOfRange"), (10, .methodref 151 152), (0, .class_ 153), (0, .nameAndType 154 155), (0, u "java/lang/System"), (0, u "arraycopy"), (0, u "(Ljava/lang/Object;ILjava/lang/Object;II)V"), (148, .methodref 305 306), (0, .class_ 307), (0, .nameAndType 308 309), (0, u "java/lang/Math"), (0, u "min"), (0, u "(II)I"), (29, .methodref 14 340), (0, .nameAndType 341 342), (0, u "copyOfRangeByte"), (0, u "([BII)[B"), (0, .methodref 14 344), (0, .nameAndType 345 346), (0, u "checkLength"), (0, u "(II)V"), (28, .class_ 376), (0, u "java/util/Arrays$ArrayList"), (68, u "$assertionsDisabled"), (269, u "MIN_ARRAY_SORT_GRAN"), (0, u "I"), (2, u "INSERTIONSORT_THRESHOLD"), (255, .class_ 976), (0, u "java/util/Arrays$ArrayItr")] 52

def k14m0 : Method := { name := "<init>", desc := "()V", sig := { parameters := [], returnType := none }, accessFlags := 2, code := none }
def k14c1 : Code := { maxStack := 4, maxLocals := 2, code := jdk_65_method_131_code, exceptionTable := #[], attributes := #[] }
def k14m1 : Method := { name := "checkLength", desc := "(II)V", sig := { parameters := [.int, .int], returnType := none }, accessFlags := 10, code := some k14c1 }
def k14c2 : Code := { maxStack := 3, maxLocals := 3, code := jdk_65_method_132_code, exceptionTable := #[], attributes := #[] }
def k14m2 : Method := { name := "copyOfRange", desc := "([BII)[B", sig := { parameters := [(.array .byte), .int, .int], returnType := some (.array .byte) }, accessFlags := 9, code := some k14c2 }
def k14c3 : Code := { maxStack := 6, maxLocals := 5, code := jdk_65_method_133_code, exceptionTable := #[], attributes := #[] }
def k14m3 : Method := { name := "copyOfRangeByte", desc := "([BII)[B", sig := { parameters := [(.array .byte), .int, .int], returnType := some (.array .byte) }, accessFlags := 10, code := some k14c3 }
/-- java/util/Arrays -/
def k14 : Class := { plain "java/util/Arrays" (some 0) with
  accessFlags := 49
  interfaces := #[]
  cf := some (fileOf pool14 14 #[.nestMembers #[975, 375, 113, 74]] #[{ accessFlags := 2, nameIndex := 5, descriptorIndex := 6, attributes := #[] }, { accessFlags := 10, nameIndex := 345, descriptorIndex := 346, attributes := #[] }, { accessFlags := 9, nameIndex := 139, descriptorIndex := 342, attributes := #[] }, { accessFlags := 10, nameIndex := 341, descriptorIndex := 342, attributes := #[] }] 49 2 #[] #[{ accessFlags := 26, nameIndex := 715, descriptorIndex := 716, attributes := #[] }, { accessFlags := 26, nameIndex := 719, descriptorIndex := 716, attributes := #[] }, { accessFlags := 4120, nameIndex := 445, descriptorIndex := 117, attributes := #[] }])
  fields := #[{ name := "MIN_ARRAY_SORT_GRAN", type := .int, accessFlags := 26, slot := 0, constantValue := 0 }, { name := "INSERTIONSORT_THRESHOLD", type := .int, accessFlags := 26, slot := 1, constantValue := 0 }, { name := "$assertionsDisabled", type := .boolean, accessFlags := 4120, slot := 2, constantValue := 0 }]
  methods := #[k14m0, k14m1, k14m2, k14m3]
  instanceTypes := #[]
  staticTypes := #[.int, .int, .boolean]
  resolved := Array.replicate 1029 none
  statics := none }

def pool15 : Array CpInfo := pool [(1, .class_ 2), (0, u "java/lang/Math"), (1, .class_ 6), (1, u "java/lang/Object"), (0, u "<init>"), (0, u "()V"), (89, .class_ 100), (1, u "java/lang/Math$RandomNumberGeneratorHolder"), (71, u "negativeZeroFloatBits"), (0, u "J"), (2, u "negativeZeroDoubleBits"), (24, u "min"), (43, u "$assertionsDisabled"), (0, u "Z"), (88, u "(II)I"), (2, u "twoToTheDoubleScaleDown"), (0, u "D"), (4, u "twoToTheDoubleScaleUp"), (9, u "E"), (3, u "PI"), (2, u "TAU"), (2, u "DEGREES_TO_RADIANS"), (0, u "RADIANS_TO_DEGREES")] 94

def k15m0 : Method := { name := "<init>", desc := "()V", sig := { parameters := [], returnType := none }, accessFlags := 2, code := none }
def k15c1 : Code := { maxStack := 2, maxLocals := 2, code := jdk_29_method_69_code, exceptionTable := #[], attributes := #[] }
def k15m1 : Method := { name := "min", desc := "(II)I", sig := { parameters := [.int, .int], returnType := some .int }, accessFlags := 9, code := some k15c1 }
/-- java/lang/Math -/
def k15 : Class := { plain "java/lang/Math" (some 0) with
  accessFlags := 49
  interfaces := #[]
  cf := some (fileOf pool15 1 #[.nestMembers #[98]] #[{ accessFlags := 2, nameIndex := 7, descriptorIndex := 8, attributes := #[] }, { accessFlags := 9, nameIndex := 201, descriptorIndex := 335, attributes := #[] }] 49 4 #[] #[{ accessFlags := 25, nameIndex := 354, descriptorIndex := 339, attributes := #[] }, { accessFlags := 25, nameIndex := 358, descriptorIndex := 339, attributes := #[] }, { accessFlags := 25, nameIndex := 361, descriptorIndex := 339, attributes := #[] }, { accessFlags := 26, nameIndex := 364, descriptorIndex := 339, attributes := #[] }, { accessFlags := 26, nameIndex := 365, descriptorIndex := 339, attributes := #[] }, { accessFlags := 26, nameIndex := 172, descriptorIndex := 173, attributes := #[] }, { accessFlags := 26, nameIndex := 176, descriptorIndex := 173, attributes := #[] }, { accessFlags := 8, nameIndex := 344, descriptorIndex := 339, attributes := #[] }, { accessFlags := 8, nameIndex := 338, descriptorIndex := 339, attributes := #[] }, { accessFlags := 4120, nameIndex := 245, descriptorIndex := 246, attributes := #[] }])
  fields := #[{ name := "E", type := .double, accessFlags := 25, slot := 0, constantValue := 0 }, { name := "PI", type := .double, accessFlags := 25, slot := 1, constantValue := 0 }, { name := "TAU", type := .double, accessFlags := 25, slot := 2, constantValue := 0 }, { name := "DEGREES_TO_RADIANS", type := .double, accessFlags := 26, slot := 3, constantValue := 0 }, { name := "RADIANS_TO_DEGREES", type := .double, accessFlags := 26, slot := 4, constantValue := 0 }, { name := "negativeZeroFloatBits", type := .long, accessFlags := 26, slot := 5, constantValue := 0 }, { name := "negativeZeroDoubleBits", type := .long, accessFlags := 26, slot := 6, constantValue := 0 }, { name := "twoToTheDoubleScaleUp", type := .double, accessFlags := 8, slot := 7, constantValue := 0 }, { name := "twoToTheDoubleScaleDown", type := .double, accessFlags := 8, slot := 8, constantValue := 0 }, { name := "$assertionsDisabled", type := .boolean, accessFlags := 4120, slot := 9, constantValue := 0 }]
  methods := #[k15m0, k15m1]
  instanceTypes := #[]
  staticTypes := #[.double, .double, .double, .double, .double, .long, .long, .double, .double, .boolean]
  resolved := Array.replicate 460 none
  statics := none }

def pool16 : Array CpInfo := pool [(2, .class_ 4), (1, u "java/lang/Object"), (0, u "<init>"), (0, u "()V"), (1, .class_ 10), (1, u "java/lang/System"), (0, u "allowSecurityManager"), (0, u "I"), (16, u "cons"), (0, u "Ljava/io/Console;"), (77, .class_ 110), (1, u "java/lang/System$CallersHolder"), (43, u "initialErrStream"), (0, u "Ljava/io/PrintStream;"), (19, u "security"), (0, u "Ljava/lang/SecurityManager;"), (31, .class_ 209), (0, u "java/lang/System$1"), (7, u "props"), (0, u "Ljava/util/Properties;"), (2, u "lineSeparator"), (0, u "Ljava/lang/String;"), (96, .class_ 321), (1, u "java/lang/System$LoggerFinder"), (5, .class_ 328), (0, u "java/lang/System$Logger"), (67, u "err"), (2, u "out"), (91, u "notSupportedJnuEncoding"), (15, u "in"), (17, u "initialIn"), (0, u "Ljava/io/InputStream;"), (35, u "bootLayer"), (0, u "Ljava/lang/ModuleLayer;"), (99, .class_ 664), (0, u "java/lang/System$2"), (9, u "NEVER"), (2, u "MAYBE"), (49, u "arraycopy"), (0, u "(Ljava/lang/Object;ILjava/lang/Object;II)V"), (72, .class_ 802), (0, u "java/lang/System$Logger$Level")] 31

def k16m0 : Method := { name := "<init>", desc := "()V", sig := { parameters := [], returnType := none }, accessFlags := 2, code := none }
def k16m1 : Method := { name := "arraycopy", desc := "(Ljava/lang/Object;ILjava/lang/Object;II)V", sig := { parameters := [(.object "java/lang/Object"), .int, (.object "java/lang/Object"), .int, .int], returnType := none }, accessFlags := 265, code := none }
/-- java/lang/System -/
def k16 : Class := { plain "java/lang/System" (some 0) with
  accessFlags := 49
  interfaces := #[]
  cf := some (fileOf pool16 8 #[.nestMembers #[319, 327, 801, 108, 663, 208]] #[{ accessFlags := 2, nameIndex := 5, descriptorIndex := 6, attributes := #[] }, { accessFlags := 265, nameIndex := 727, descriptorIndex := 728, attributes := #[] }] 49 2 #[] #[{ accessFlags := 25, nameIndex := 507, descriptorIndex := 526, attributes := #[] }, { accessFlags := 25, nameIndex := 399, descriptorIndex := 155, attributes := #[] }, { accessFlags := 25, nameIndex := 396, descriptorIndex := 155, attributes := #[] }, { accessFlags := 10, nameIndex := 525, descriptorIndex := 526, attributes := #[] }, { accessFlags := 26, nameIndex := 674, descriptorIndex := 12, attributes := #[] }, { accessFlags := 26, nameIndex := 677, descriptorIndex := 12, attributes := #[] }, { accessFlags := 10, nameIndex := 11, descriptorIndex := 12, attributes := #[] }, { accessFlags := 74, nameIndex := 175, descriptorIndex := 176, attributes := #[] }, { accessFlags := 10, nameIndex := 491, descriptorIndex := 222, attributes := #[] }, { accessFlags := 74, nameIndex := 29, descriptorIndex := 30, attributes := #[] }, { accessFlags := 74, nameIndex := 154, descriptorIndex := 155, attributes := #[] }, { accessFlags := 10, nameIndex := 217, descriptorIndex := 218, attributes := #[] }, { accessFlags := 10, nameIndex := 221, descriptorIndex := 222, attributes := #[] }, { accessFlags := 8, nameIndex := 562, descriptorIndex := 563, attributes := #[] }])
  fields := #[{ name := "in", type := (.object "java/io/InputStream"), accessFlags := 25, slot := 0, constantValue := 0 }, { name := "out", type := (.object "java/io/PrintStream"), accessFlags := 25, slot := 1, constantValue := 0 }, { name := "err", type := (.object "java/io/PrintStream"), accessFlags := 25, slot := 2, constantValue := 0 }, { name := "initialIn", type := (.object "java/io/InputStream"), accessFlags := 10, slot := 3, constantValue := 0 }, { name := "NEVER", type := .int, accessFlags := 26, slot := 4, constantValue := 0 }, { name := "MAYBE", type := .int, accessFlags := 26, slot := 5, constantValue := 0 }, { name := "allowSecurityManager", type := .int, accessFlags := 10, slot := 6, constantValue := 0 }, { name := "security", type := (.object "java/lang/SecurityManager"), accessFlags := 74, slot := 7, constantValue := 0 }, { name := "notSupportedJnuEncoding", type := (.object "java/lang/String"), accessFlags := 10, slot := 8, constantValue := 0 }, { name := "cons", type := (.object "java/io/Console"), accessFlags := 74, slot := 9, constantValue := 0 }, { name := "initialErrStream", type := (.object "java/io/PrintStream"), accessFlags := 74, slot := 10, constantValue := 0 }, { name := "props", type := (.object "java/util/Properties"), accessFlags := 10, slot := 11, constantValue := 0 }, { name := "lineSeparator", type := (.object "java/lang/String"), accessFlags := 10, slot := 12, constantValue := 0 }, { name := "bootLayer", type := (.object "java/lang/ModuleLayer"), accessFlags := 8, slot := 13, constantValue := 0 }]
  methods := #[k16m0, k16m1]
  instanceTypes := #[]
  staticTypes := #[(.object "java/io/InputStream"), (.object "java/io/PrintStream"), (.object "java/io/PrintStream"), (.object "java/io/InputStream"), .int, .int, .int, (.object "java/lang/SecurityManager"), (.object "java/lang/String"), (.object "java/io/Console"), (.object "java/io/PrintStream"), (.object "java/util/Properties"), (.object "java/lang/String"), (.object "java/lang/ModuleLayer")]
  resolved := Array.replicate 834 none
  statics := none }

def pool17 : Array CpInfo := pool [(2, .class_ 4), (1, u "java/lang/Object"), (0, u "<init>"), (0, u "()V"), (17, .class_ 26), (1, u "jdk/internal/util/Preconditions"), (6, u "checkIndex"), (13, u "checkFromToIndex"), (1, u "checkFromIndexSize"), (5, .class_ 56), (0, u "jdk/internal/util/Preconditions$4"), (57, .class_ 115), (0, u "jdk/internal/util/Preconditions$1"), (7, u "SIOOBE_FORMATTER"), (0, u "Ljava/util/function/BiFunction;"), (0, .class_ 126), (0, u "jdk/internal/util/Preconditions$2"), (3, u "AIOOBE_FORMATTER"), (0, .class_ 132), (0, u "jdk/internal/util/Preconditions$3"), (3, u "IOOBE_FORMATTER"), (41, u "(IILjava/util/function/BiFunction;)I"), (4, u "(IIILjava/util/function/BiFunction;)I")] 10

def k17m0 : Method := { name := "<init>", desc := "()V", sig := { parameters := [], returnType := none }, accessFlags := 1, code := none }
def k17c1 : Code := { maxStack := 3, maxLocals := 3, code := jdk_41_method_11_code, exceptionTable := #[], attributes := #[] }
def k17m1 : Method := { name := "checkIndex", desc := "(IILjava/util/function/BiFunction;)I", sig := { parameters := [.int, .int, (.object "java/util/function/BiFunction")], returnType := some .int }, accessFlags := 9, code := some k17c1 }
def k17c2 : Code := { maxStack := 4, maxLocals := 4, code := jdk_41_method_12_code, exceptionTable := #[], attributes := #[] }
def k17m2 : Method := { name := "checkFromToIndex", desc := "(IIILjava/util/function/BiFunction;)I", sig := { parameters := [.int, .int, .int, (.object "java/util/function/BiFunction")], returnType := some .int }, accessFlags := 9, code := some k17c2 }
def k17c3 : Code := { maxStack := 4, maxLocals := 4, code := jdk_41_method_13_code, exceptionTable := #[], attributes := #[] }
def k17m3 : Method := { name := "checkFromIndexSize", desc := "(IIILjava/util/function/BiFunction;)I", sig := { parameters := [.int, .int, .int, (.object "java/util/function/BiFunction")], returnType := some .int }, accessFlags := 9, code := some k17c3 }
/-- jdk/internal/util/Preconditions -/
def k17 : Class := { plain "jdk/internal/util/Preconditions" (some 0) with
  accessFlags := 33
  interfaces := #[]
  cf := some (fileOf pool17 24 #[.nestMembers #[55, 131, 125, 114]] #[{ accessFlags := 1, nameIndex := 5, descriptorIndex := 6, attributes := #[] }, { accessFlags := 9, nameIndex := 33, descriptorIndex := 178, attributes := #[] }, { accessFlags := 9, nameIndex := 47, descriptorIndex := 183, attributes := #[] }, { accessFlags := 9, nameIndex := 49, descriptorIndex := 183, attributes := #[] }] 33 2 #[] #[{ accessFlags := 25, nameIndex := 123, descriptorIndex := 124, attributes := #[] }, { accessFlags := 25, nameIndex := 130, descriptorIndex := 124, attributes := #[] }, { accessFlags := 25, nameIndex := 136, descriptorIndex := 124, attributes := #[] }])
  fields := #[{ name := "SIOOBE_FORMATTER", type := (.object "java/util/function/BiFunction"), accessFlags := 25, slot := 0, constantValue := 0 }, { name := "AIOOBE_FORMATTER", type := (.object "java/util/function/BiFunction"), accessFlags := 25, slot := 1, constantValue := 0 }, { name := "IOOBE_FORMATTER", type := (.object "java/util/function/BiFunction"), accessFlags := 25, slot := 2, constantValue := 0 }]
  methods := #[k17m0, k17m1, k17m2, k17m3]
  instanceTypes := #[]
  staticTypes := #[(.object "java/util/function/BiFunction"), (.object "java/util/function/BiFunction"), (.object "java/util/function/BiFunction")]
  resolved := Array.replicate 194 none
  statics := some 3 }

def pool18 : Array CpInfo := pool [(2, .class_ 4), (1, u "java/lang/Object"), (0, u "<init>"), (0, u "()V"), (1, .class_ 10), (1, u "java/lang/Number"), (2, .class_ 14), (0, u "java/io/Serializable"), (0, u "serialVersionUID"), (0, u "J")] 20

def k18m0 : Method := { name := "<init>", desc := "()V", sig := { parameters := [], returnType := none }, accessFlags := 1, code := none }
/-- java/lang/Number -/
def k18 : Class := { plain "java/lang/Number" (some 0) with
  accessFlags := 1057
  interfaces := #[2]
  cf := some (fileOf pool18 8 #[] #[{ accessFlags := 1, nameIndex := 5, descriptorIndex := 6, attributes := #[] }] 1057 2 #[13] #[{ accessFlags := 26, nameIndex := 15, descriptorIndex := 16, attributes := #[] }])
  fields := #[{ name := "serialVersionUID", type := .long, accessFlags := 26, slot := 0, constantValue := 0 }]
  methods := #[k18m0]
  instanceTypes := #[]
  staticTypes := #[.long]
  resolved := Array.replicate 37 none
  statics := none }

def pool19 : Array CpInfo := pool [(1, .class_ 2), (0, u "java/lang/Integer"), (16, u "digits"), (0, u "[C"), (33, u "(I)I"), (19, u "stringSize"), (2, u "getChars"), (0, u "(II[B)I"), (4, .fieldref 1 84), (0, .nameAndType 85 86), (0, u "DigitOnes"), (0, u "[B"), (2, u "DigitTens"), (99, .class_ 190), (0, u "java/lang/Integer$IntegerCache"), (3, u "I"), (8, .class_ 204), (0, u "java/lang/Number"), (2, u "value"), (94, u "TYPE"), (0, u "Ljava/lang/Class;"), (0, .class_ 305), (0, u "java/lang/Comparable"), (0, .class_ 307), (0, u "java/lang/constant/Constable"), (0, .class_ 309), (0, u "java/lang/constant/ConstantDesc"), (0, u "MIN_VALUE"), (1, u "MAX_VALUE"), (3, u "SIZE"), (1, u "BYTES"), (1, u "serialVersionUID"), (0, u "J")] 131

def k19c0 : Code := { maxStack := 4, maxLocals := 7, code := jdk_33_method_12_code, exceptionTable := #[], attributes := #[] }
def k19m0 : Method := { name := "getChars", desc := "(II[B)I", sig := { parameters := [.int, .int, (.array .byte)], returnType := some .int }, accessFlags := 8, code := some k19c0 }
def k19c1 : Code := { maxStack := 2, maxLocals := 4, code := jdk_33_method_13_code, exceptionTable := #[], attributes := #[] }
def k19m1 : Method := { name := "stringSize", desc := "(I)I", sig := { parameters := [.int], returnType := some .int }, accessFlags := 8, code := some k19c1 }
/-- java/lang/Integer -/
def k19 : Class := { plain "java/lang/Integer" (some 18) with
  accessFlags := 49
  interfaces := #[3, 5, 6]
  cf := some (fileOf pool19 1 #[.nestMembers #[189]] #[{ accessFlags := 8, nameIndex := 77, descriptorIndex := 78, attributes := #[] }, { accessFlags := 8, nameIndex := 74, descriptorIndex := 54, attributes := #[] }] 49 203 #[304, 306, 308] #[{ accessFlags := 25, nameIndex := 310, descriptorIndex := 194, attributes := #[] }, { accessFlags := 25, nameIndex := 312, descriptorIndex := 194, attributes := #[] }, { accessFlags := 25, nameIndex := 302, descriptorIndex := 303, attributes := #[] }, { accessFlags := 24, nameIndex := 19, descriptorIndex := 20, attributes := #[] }, { accessFlags := 24, nameIndex := 89, descriptorIndex := 86, attributes := #[] }, { accessFlags := 24, nameIndex := 85, descriptorIndex := 86, attributes := #[] }, { accessFlags := 18, nameIndex := 207, descriptorIndex := 194, attributes := #[] }, { accessFlags := 25, nameIndex := 316, descriptorIndex := 194, attributes := #[] }, { accessFlags := 25, nameIndex := 318, descriptorIndex := 194, attributes := #[] }, { accessFlags := 26, nameIndex := 320, descriptorIndex := 321, attributes := #[] }])
  fields := #[{ name := "MIN_VALUE", type := .int, accessFlags := 25, slot := 0, constantValue := 0 }, { name := "MAX_VALUE", type := .int, accessFlags := 25, slot := 1, constantValue := 0 }, { name := "TYPE", type := (.object "java/lang/Class"), accessFlags := 25, slot := 2, constantValue := 0 }, { name := "digits", type := (.array .char), accessFlags := 24, slot := 3, constantValue := 0 }, { name := "DigitTens", type := (.array .byte), accessFlags := 24, slot := 4, constantValue := 0 }, { name := "DigitOnes", type := (.array .byte), accessFlags := 24, slot := 5, constantValue := 0 }, { name := "value", type := .int, accessFlags := 18, slot := 0, constantValue := 0 }, { name := "SIZE", type := .int, accessFlags := 25, slot := 6, constantValue := 0 }, { name := "BYTES", type := .int, accessFlags := 25, slot := 7, constantValue := 0 }, { name := "serialVersionUID", type := .long, accessFlags := 26, slot := 8, constantValue := 0 }]
  methods := #[k19m0, k19m1]
  instanceTypes := #[.int]
  staticTypes := #[.int, .int, (.object "java/lang/Class"), (.array .char), (.array .byte), (.array .byte), .int, .int, .long]
  resolved := Array.replicate 453 none
  statics := some 4 }

def pool20 : Array CpInfo := pool [(9, u "<init>"), (6, .class_ 18), (1, u "java/lang/Object"), (0, u "()V"), (1, .class_ 23), (1, u "jdk/internal/util/ArraysSupport"), (0, u "LOG2_ARRAY_LONG_INDEX_SCALE"), (0, u "I"), (2, u "U"), (0, u "Ljdk/internal/misc/Unsafe;"), (8, u "BIG_ENDIAN"), (0, u "Z"), (8, u "LOG2_BYTE_BIT_SIZE"), (4, u "LOG2_ARRAY_INT_INDEX_SCALE"), (54, u "JLA"), (0, u "Ljdk/internal/access/JavaLangAccess;"), (11, u "LOG2_ARRAY_BOOLEAN_INDEX_SCALE"), (9, u "LOG2_ARRAY_BYTE_INDEX_SCALE"), (5, u "LOG2_ARRAY_CHAR_INDEX_SCALE"), (5, u "LOG2_ARRAY_SHORT_INDEX_SCALE"), (18, u "LOG2_ARRAY_FLOAT_INDEX_SCALE"), (24, u "LOG2_ARRAY_DOUBLE_INDEX_SCALE"), (89, u "T_BOOLEAN"), (2, u "T_CHAR"), (1, u "T_FLOAT"), (1, u "T_DOUBLE"), (1, u "T_BYTE"), (1, u "T_SHORT"), (1, u "T_INT"), (1, u "T_LONG"), (1, u "SOFT_MAX_ARRAY_LENGTH")] 83

def k20m0 : Method := { name := "<init>", desc := "()V", sig := { parameters := [], returnType := none }, accessFlags := 2, code := none }
/-- jdk/internal/util/ArraysSupport -/
def k20 : Class := { plain "jdk/internal/util/ArraysSupport" (some 0) with
  accessFlags := 33
  interfaces := #[]
  cf := some (fileOf pool20 21 #[] #[{ accessFlags := 2, nameIndex := 9, descriptorIndex := 19, attributes := #[] }] 33 16 #[] #[{ accessFlags := 24, nameIndex := 28, descriptorIndex := 29, attributes := #[] }, { accessFlags := 26, nameIndex := 38, descriptorIndex := 39, attributes := #[] }, { accessFlags := 25, nameIndex := 121, descriptorIndex := 25, attributes := #[] }, { accessFlags := 25, nameIndex := 131, descriptorIndex := 25, attributes := #[] }, { accessFlags := 25, nameIndex := 137, descriptorIndex := 25, attributes := #[] }, { accessFlags := 25, nameIndex := 143, descriptorIndex := 25, attributes := #[] }, { accessFlags := 25, nameIndex := 53, descriptorIndex := 25, attributes := #[] }, { accessFlags := 25, nameIndex := 24, descriptorIndex := 25, attributes := #[] }, { accessFlags := 25, nameIndex := 162, descriptorIndex := 25, attributes := #[] }, { accessFlags := 25, nameIndex := 187, descriptorIndex := 25, attributes := #[] }, { accessFlags := 26, nameIndex := 48, descriptorIndex := 25, attributes := #[] }, { accessFlags := 25, nameIndex := 277, descriptorIndex := 25, attributes := #[] }, { accessFlags := 25, nameIndex := 280, descriptorIndex := 25, attributes := #[] }, { accessFlags := 25, nameIndex := 282, descriptorIndex := 25, attributes := #[] }, { accessFlags := 25, nameIndex := 284, descriptorIndex := 25, attributes := #[] }, { accessFlags := 25, nameIndex := 286, descriptorIndex := 25, attributes := #[] }, { accessFlags := 25, nameIndex := 288, descriptorIndex := 25, attributes := #[] }, { accessFlags := 25, nameIndex := 290, descriptorIndex := 25, attributes := #[] }, { accessFlags := 25, nameIndex := 292, descriptorIndex := 25, attributes := #[] }, { accessFlags := 26, nameIndex := 108, descriptorIndex := 109, attributes := #[] }, { accessFlags := 25, nameIndex := 294, descriptorIndex := 25, attributes := #[] }])
  fields := #[{ name := "U", type := (.object "jdk/internal/misc/Unsafe"), accessFlags := 24, slot := 0, constantValue := 0 }, { name := "BIG_ENDIAN", type := .boolean, accessFlags := 26, slot := 1, constantValue := 0 }, { name := "LOG2_ARRAY_BOOLEAN_INDEX_SCALE", type := .int, accessFlags := 25, slot := 2, constantValue := 0 }, { name := "LOG2_ARRAY_BYTE_INDEX_SCALE", type := .int, accessFlags := 25, slot := 3, constantValue := 0 }, { name := "LOG2_ARRAY_CHAR_INDEX_SCALE", type := .int, accessFlags := 25, slot := 4, constantValue := 0 }, { name := "LOG2_ARRAY_SHORT_INDEX_SCALE", type := .int, accessFlags := 25, slot := 5, constantValue := 0 }, { name := "LOG2_ARRAY_INT_INDEX_SCALE", type := .int, accessFlags := 25, slot := 6, constantValue := 0 }, { name := "LOG2_ARRAY_LONG_INDEX_SCALE", type := .int, accessFlags := 25, slot := 7, constantValue := 0 }, { name := "LOG2_ARRAY_FLOAT_INDEX_SCALE", type := .int, accessFlags := 25, slot := 8, constantValue := 0 }, { name := "LOG2_ARRAY_DOUBLE_INDEX_SCALE", type := .int, accessFlags := 25, slot := 9, constantValue := 0 }, { name := "LOG2_BYTE_BIT_SIZE", type := .int, accessFlags := 26, slot := 10, constantValue := 0 }, { name := "T_BOOLEAN", type := .int, accessFlags := 25, slot := 11, constantValue := 0 }, { name := "T_CHAR", type := .int, accessFlags := 25, slot := 12, constantValue := 0 }, { name := "T_FLOAT", type := .int, accessFlags := 25, slot := 13, constantValue := 0 }, { name := "T_DOUBLE", type := .int, accessFlags := 25, slot := 14, constantValue := 0 }, { name := "T_BYTE", type := .int, accessFlags := 25, slot := 15, constantValue := 0 }, { name := "T_SHORT", type := .int, accessFlags := 25, slot := 16, constantValue := 0 }, { name := "T_INT", type := .int, accessFlags := 25, slot := 17, constantValue := 0 }, { name := "T_LONG", type := .int, accessFlags := 25, slot := 18, constantValue := 0 }, { name := "JLA", type := (.object "jdk/internal/access/JavaLangAccess"), accessFlags := 26, slot := 19, constantValue := 0 }, { name := "SOFT_MAX_ARRAY_LENGTH", type := .int, accessFlags := 25, slot := 20, constantValue := 0 }]
  methods := #[k20m0]
  instanceTypes := #[]
  staticTypes := #[(.object "jdk/internal/misc/Unsafe"), .boolean, .int, .int, .int, .int, .int, .int, .int, .int, .int, .int, .int, .int, .int, .int, .int, .int, .int, (.object "jdk/internal/access/JavaLangAccess"), .int]
  resolved := Array.replicate 378 none
  statics := none }

def pool21 : Array CpInfo := pool [(1, u "java/lang/Cloneable"), (0, .class_ 1), (0, u "java/lang/Object"), (0, .class_ 3)] 3

/-- java/lang/Cloneable -/
def k21 : Class := { plain "java/lang/Cloneable" (some 0) with
  accessFlags := 1537
  interfaces := #[]
  cf := some (fileOf pool21 2 #[] #[] 1537 4 #[] #[])
  fields := #[]
  methods := #[]
  instanceTypes := #[]
  staticTypes := #[]
  resolved := Array.replicate 8 none
  statics := none }

/-- the primitive byte -/
def k22 : Class := { plain "byte" none with kind := .primitive 'B', accessFlags := 0x411 }
/-- [B -/
def k23 : Class := { plain "[B" (some 0) with kind := .array 22 .byte, interfaces := #[21, 2], accessFlags := 1041 }

/-- the primitive char -/
def k24 : Class := { plain "char" none with kind := .primitive 'C', accessFlags := 0x411 }
/-- [C -/
def k25 : Class := { plain "[C" (some 0) with kind := .array 24 .char, interfaces := #[21, 2], accessFlags := 1041 }

def heap : Heap := #[{ cls := 7, slots := #[.long 0, .int 1, .null, .int 0, .null, .int 0, .int 0], vm := .statics 7 },
  { cls := 9, slots := #[.int 0, .int 8, .int 0, .int 1], vm := .statics 9 },
  { cls := 10, slots := #[.ref 5], vm := .statics 10 },
  { cls := 17, slots := #[.null, .null, .null], vm := .statics 17 },
  { cls := 19, slots := #[.int 0, .int 0, .null, .null, .ref 7, .ref 6, .int 0, .int 0, .long 0], vm := .statics 19 },
  { cls := 25, slots := #[.int 48, .int 49, .int 50, .int 51, .int 52, .int 53, .int 54, .int 55, .int 56, .int 57, .int 97, .int 98, .int 99, .int 100, .int 101, .int 102], vm := .none },
  { cls := 23, slots := #[.int 48, .int 49, .int 50, .int 51, .int 52, .int 53, .int 54, .int 55, .int 56, .int 57, .int 48, .int 49, .int 50, .int 51, .int 52, .int 53, .int 54, .int 55, .int 56, .int 57, .int 48, .int 49, .int 50, .int 51, .int 52, .int 53, .int 54, .int 55, .int 56, .int 57, .int 48, .int 49, .int 50, .int 51, .int 52, .int 53, .int 54, .int 55, .int 56, .int 57, .int 48, .int 49, .int 50, .int 51, .int 52, .int 53, .int 54, .int 55, .int 56, .int 57, .int 48, .int 49, .int 50, .int 51, .int 52, .int 53, .int 54, .int 55, .int 56, .int 57, .int 48, .int 49, .int 50, .int 51, .int 52, .int 53, .int 54, .int 55, .int 56, .int 57, .int 48, .int 49, .int 50, .int 51, .int 52, .int 53, .int 54, .int 55, .int 56, .int 57, .int 48, .int 49, .int 50, .int 51, .int 52, .int 53, .int 54, .int 55, .int 56, .int 57, .int 48, .int 49, .int 50, .int 51, .int 52, .int 53, .int 54, .int 55, .int 56, .int 57], vm := .none },
  { cls := 23, slots := #[.int 48, .int 48, .int 48, .int 48, .int 48, .int 48, .int 48, .int 48, .int 48, .int 48, .int 49, .int 49, .int 49, .int 49, .int 49, .int 49, .int 49, .int 49, .int 49, .int 49, .int 50, .int 50, .int 50, .int 50, .int 50, .int 50, .int 50, .int 50, .int 50, .int 50, .int 51, .int 51, .int 51, .int 51, .int 51, .int 51, .int 51, .int 51, .int 51, .int 51, .int 52, .int 52, .int 52, .int 52, .int 52, .int 52, .int 52, .int 52, .int 52, .int 52, .int 53, .int 53, .int 53, .int 53, .int 53, .int 53, .int 53, .int 53, .int 53, .int 53, .int 54, .int 54, .int 54, .int 54, .int 54, .int 54, .int 54, .int 54, .int 54, .int 54, .int 55, .int 55, .int 55, .int 55, .int 55, .int 55, .int 55, .int 55, .int 55, .int 55, .int 56, .int 56, .int 56, .int 56, .int 56, .int 56, .int 56, .int 56, .int 56, .int 56, .int 57, .int 57, .int 57, .int 57, .int 57, .int 57, .int 57, .int 57, .int 57, .int 57], vm := .none }]
def classes : Array Class := #[k0, k1, k2, k3, k4, k5, k6, k7, k8, k9, k10, k11, k12, k13, k14, k15, k16, k17, k18, k19, k20, k21, k22, k23, k24, k25]
def interned : List (Array UInt16 × Addr) := []
def slotsUsed : Nat := 240
def theMethod : MethodId := ⟨1, 5⟩
def args0 : Array Value := #[.int 97, .int 6422626, .int 99, .int 5, .int 3]
def aboutOver (below : List Frame) : State where
  vm := { classes := classes, interned := interned.toArray }
  heap := heap
  slotsUsed := slotsUsed
  threads := #[{ frames := .invoking theMethod args0 :: below }]
def below0 : List Frame := [.native { method := ⟨0, 0⟩, args := #[] }]
def about1 : State := aboutOver below0
def p0 : Program := .bare "" "" ""
def e0 : Env := launch0.env 0 0 0
theorem w_frames : about1.frames = Frame.invoking theMethod args0 :: below0 := rfl
set_option maxRecDepth 65536 in
theorem w_args : argsFit about1.vm theMethod args0 = true := by decide +kernel
set_option maxRecDepth 65536 in
theorem w_heap : heapFits about1 = true := by decide +kernel
set_option maxRecDepth 65536 in
theorem w_runnable : about1.curStatus? = some .runnable := by decide +kernel
set_option maxRecDepth 65536 in
theorem w_alone : about1.alone = true := by decide +kernel
set_option maxRecDepth 65536 in
theorem w_named : about1.methodNamed? x = some theMethod := by decide +kernel
set_option maxRecDepth 65536 in
theorem w_hears : about1.hears theMethod below0 = true := by decide +kernel
set_option maxRecDepth 65536 in
theorem w_ripe : about1.ripe theMethod args0 below0 = true := by decide +kernel
theorem w_running : about1.status = .running := rfl
set_option maxRecDepth 65536 in
theorem w_room : about1.hasRoom e0.platform room_1 = true :=
  launch0.hasRoom_least _ room_1 (by decide +kernel) (by decide +kernel) (by decide +kernel) (by decide +kernel) (by decide +kernel) (by decide +kernel)
theorem allAtoms_all (ts : List Jvm.Cond) (a : Array Jvm.Value) (st : Jvm.State) : (allAtoms ts).before a st = ts.all (fun c => c.before a st) := by
  induction ts with
  | nil => rfl
  | cons c t ih =>
    show (Jvm.Cond.and c (allAtoms t)).before a st = _
    rw [Jvm.Cond.before_and, ih, List.all_cons]
def words1 : List Jvm.Cond := Jvm.Cond.code x code maxLocals ret :: tables_1
/-- a 'code' word, met by the world's own term for the bytes: nothing is compared byte by byte -/
theorem code_word {y : MethodName} {bytes : ByteArray} {mx : Nat} {rt : Option FieldType} {a : Array Value} {s : State} {m : MethodId} {meth : Method} {c : Code} (h1 : s.methodNamed? y = some m) (h2 : s.vm.method? m = some meth) (h3 : meth.code = some c) (h4 : c.code = bytes)
    (h5 : (c.maxLocals == mx && c.exceptionTable.isEmpty && decide (c.maxStack ≤ mostOperands) && decide (meth.sig.returnType = rt) && !meth.locks && decide (parseMethodDescriptor y.desc = some meth.sig)) = true) : (Jvm.Cond.code y bytes mx rt).before a s = true := by
  simp only [Bool.and_eq_true, beq_iff_eq, Bool.not_eq_true', decide_eq_true_eq] at h5
  obtain ⟨⟨⟨⟨⟨g1, g2⟩, g3⟩, g4⟩, g5⟩, g6⟩ := h5
  simp [Cond.before, Cond.holds, Cond.value, h1, h2, h3, h4, g1, g2, g3, g4, g5, g6]
def isCode : Jvm.Cond → Bool
  | .code _ _ _ _ => true
  | _ => false
theorem all_split {L : List Jvm.Cond} {P : Jvm.Cond → Bool} (h1 : L.all (fun c => isCode c || P c) = true) (h2 : ∀ c ∈ L.filter isCode, P c = true) : L.all P = true := by
  refine List.all_eq_true.mpr fun c hc => ?_
  have h := List.all_eq_true.mp h1 c hc
  rcases Bool.eq_false_or_eq_true (isCode c) with hi | hi
  · exact h2 c (List.mem_filter.mpr ⟨hc, hi⟩)
  · simpa [hi] using h
set_option maxRecDepth 65536 in
theorem w_c0 : (Jvm.Cond.code x code maxLocals ret).before args0 about1 = true := code_word (m := ⟨1, 5⟩) (meth := k1m5) (c := k1c5) (by decide +kernel) rfl rfl rfl (by decide +kernel)
set_option maxRecDepth 65536 in
theorem w_c1 : (Jvm.Cond.code ({ cls := "java/lang/String", name := "valueOf", desc := "(C)Ljava/lang/String;" } : Jvm.MethodName) jdk_42_method_139_code (1 : Nat) (Option.some (Jvm.ClassFile.FieldType.object "java/lang/String"))).before args0 about1 = true := code_word (m := ⟨7, 5⟩) (meth := k7m5) (c := k7c5) (by decide +kernel) rfl rfl rfl (by decide +kernel)
set_option maxRecDepth 65536 in
theorem w_c2 : (Jvm.Cond.code ({ cls := "java/lang/StringLatin1", name := "canEncode", desc := "(C)Z" } : Jvm.MethodName) jdk_43_method_3_code (1 : Nat) (Option.some Jvm.ClassFile.FieldType.boolean)).before args0 about1 = true := code_word (m := ⟨8, 2⟩) (meth := k8m2) (c := k8c2) (by decide +kernel) rfl rfl rfl (by decide +kernel)
set_option maxRecDepth 65536 in
theorem w_c3 : (Jvm.Cond.code ({ cls := "java/lang/StringLatin1", name := "toBytes", desc := "(C)[B" } : Jvm.MethodName) jdk_43_method_46_code (1 : Nat) (Option.some (Jvm.ClassFile.FieldType.array Jvm.ClassFile.FieldType.byte))).before args0 about1 = true := code_word (m := ⟨8, 3⟩) (meth := k8m3) (c := k8c3) (by decide +kernel) rfl rfl rfl (by decide +kernel)
set_option maxRecDepth 65536 in
theorem w_c4 : (Jvm.Cond.code ({ cls := "java/lang/String", name := "<init>", desc := "([BB)V" } : Jvm.MethodName) jdk_42_method_151_code (3 : Nat) (Option.none : Option Jvm.ClassFile.FieldType)).before args0 about1 = true := code_word (m := ⟨7, 9⟩) (meth := k7m9) (c := k7c9) (by decide +kernel) rfl rfl rfl (by decide +kernel)
set_option maxRecDepth 65536 in
theorem w_c5 : (Jvm.Cond.code ({ cls := "java/lang/Object", name := "<init>", desc := "()V" } : Jvm.MethodName) object_method_1_code (1 : Nat) (Option.none : Option Jvm.ClassFile.FieldType)).before args0 about1 = true := code_word (m := ⟨0, 0⟩) (meth := k0m0) (c := k0c0) (by decide +kernel) rfl rfl rfl (by decide +kernel)
set_option maxRecDepth 65536 in
theorem w_c6 : (Jvm.Cond.code ({ cls := "java/lang/String", name := "<init>", desc := "([C)V" } : Jvm.MethodName) jdk_42_method_3_code (2 : Nat) (Option.none : Option Jvm.ClassFile.FieldType)).before args0 about1 = true := code_word (m := ⟨7, 1⟩) (meth := k7m1) (c := k7c1) (by decide +kernel) rfl rfl rfl (by decide +kernel)
set_option maxRecDepth 65536 in
theorem w_c7 : (Jvm.Cond.code ({ cls := "java/lang/String", name := "<init>", desc := "([CIILjava/lang/Void;)V" } : Jvm.MethodName) jdk_42_method_149_code (6 : Nat) (Option.none : Option Jvm.ClassFile.FieldType)).before args0 about1 = true := code_word (m := ⟨7, 7⟩) (meth := k7m7) (c := k7c7) (by decide +kernel) rfl rfl rfl (by decide +kernel)
set_option maxRecDepth 65536 in
theorem w_c8 : (Jvm.Cond.code ({ cls := "java/lang/StringUTF16", name := "compress", desc := "([CII)[B" } : Jvm.MethodName) jdk_52_method_16_code (6 : Nat) (Option.some (Jvm.ClassFile.FieldType.array Jvm.ClassFile.FieldType.byte))).before args0 about1 = true := code_word (m := ⟨9, 8⟩) (meth := k9m8) (c := k9c8) (by decide +kernel) rfl rfl rfl (by decide +kernel)
set_option maxRecDepth 65536 in
theorem w_c9 : (Jvm.Cond.code ({ cls := "java/lang/StringUTF16", name := "compress", desc := "([CI[BII)I" } : Jvm.MethodName) jdk_52_method_21_code (7 : Nat) (Option.some Jvm.ClassFile.FieldType.int)).before args0 about1 = true := code_word (m := ⟨9, 9⟩) (meth := k9m9) (c := k9c9) (by decide +kernel) rfl rfl rfl (by decide +kernel)
set_option maxRecDepth 65536 in
theorem w_c10 : (Jvm.Cond.code ({ cls := "java/lang/StringUTF16", name := "coderFromArrayLen", desc := "([BI)B" } : Jvm.MethodName) jdk_52_method_15_code (2 : Nat) (Option.some Jvm.ClassFile.FieldType.byte)).before args0 about1 = true := code_word (m := ⟨9, 7⟩) (meth := k9m7) (c := k9c7) (by decide +kernel) rfl rfl rfl (by decide +kernel)
set_option maxRecDepth 65536 in
theorem w_c11 : (Jvm.Cond.code ({ cls := "com/example/clear_fault/clearfault/JsonObjectWriter", name := "<init>", desc := "()V" } : Jvm.MethodName) prog_13_method_1_code (1 : Nat) (Option.none : Option Jvm.ClassFile.FieldType)).before args0 about1 = true := code_word (m := ⟨10, 0⟩) (meth := k10m0) (c := k10c0) (by decide +kernel) rfl rfl rfl (by decide +kernel)
set_option maxRecDepth 65536 in
theorem w_c12 : (Jvm.Cond.code ({ cls := "java/lang/StringBuilder", name := "<init>", desc := "(I)V" } : Jvm.MethodName) jdk_67_method_2_code (2 : Nat) (Option.none : Option Jvm.ClassFile.FieldType)).before args0 about1 = true := code_word (m := ⟨13, 1⟩) (meth := k13m1) (c := k13c1) (by decide +kernel) rfl rfl rfl (by decide +kernel)
set_option maxRecDepth 65536 in
theorem w_c13 : (Jvm.Cond.code ({ cls := "java/lang/AbstractStringBuilder", name := "<init>", desc := "(I)V" } : Jvm.MethodName) jdk_68_method_2_code (2 : Nat) (Option.none : Option Jvm.ClassFile.FieldType)).before args0 about1 = true := code_word (m := ⟨12, 1⟩) (meth := k12m1) (c := k12c1) (by decide +kernel) rfl rfl rfl (by decide +kernel)
set_option maxRecDepth 65536 in
theorem w_c14 : (Jvm.Cond.code ({ cls := "java/lang/StringBuilder", name := "append", desc := "(C)Ljava/lang/StringBuilder;" } : Jvm.MethodName) jdk_67_method_14_code (2 : Nat) (Option.some (Jvm.ClassFile.FieldType.object "java/lang/StringBuilder"))).before args0 about1 = true := code_word (m := ⟨13, 4⟩) (meth := k13m4) (c := k13c4) (by decide +kernel) rfl rfl rfl (by decide +kernel)
set_option maxRecDepth 65536 in
theorem w_c15 : (Jvm.Cond.code ({ cls := "java/lang/AbstractStringBuilder", name := "append", desc := "(C)Ljava/lang/AbstractStringBuilder;" } : Jvm.MethodName) jdk_68_method_31_code (2 : Nat) (Option.some (Jvm.ClassFile.FieldType.object "java/lang/AbstractStringBuilder"))).before args0 about1 = true := code_word (m := ⟨12, 7⟩) (meth := k12m7) (c := k12c7) (by decide +kernel) rfl rfl rfl (by decide +kernel)
set_option maxRecDepth 65536 in
theorem w_c16 : (Jvm.Cond.code ({ cls := "java/lang/AbstractStringBuilder", name := "ensureCapacityInternal", desc := "(I)V" } : Jvm.MethodName) jdk_68_method_9_code (3 : Nat) (Option.none : Option Jvm.ClassFile.FieldType)).before args0 about1 = true := code_word (m := ⟨12, 3⟩) (meth := k12m3) (c := k12c3) (by decide +kernel) rfl rfl rfl (by decide +kernel)
set_option maxRecDepth 65536 in
theorem w_c17 : (Jvm.Cond.code ({ cls := "java/lang/AbstractStringBuilder", name := "isLatin1", desc := "()Z" } : Jvm.MethodName) jdk_68_method_68_code (1 : Nat) (Option.some Jvm.ClassFile.FieldType.boolean)).before args0 about1 = true := code_word (m := ⟨12, 10⟩) (meth := k12m10) (c := k12c10) (by decide +kernel) rfl rfl rfl (by decide +kernel)
set_option maxRecDepth 65536 in
theorem w_c18 : (Jvm.Cond.code ({ cls := "com/example/clear_fault/clearfault/JsonObjectWriter", name := "finish", desc := "()Ljava/lang/String;" } : Jvm.MethodName) prog_13_method_6_code (1 : Nat) (Option.some (Jvm.ClassFile.FieldType.object "java/lang/String"))).before args0 about1 = true := code_word (m := ⟨10, 3⟩) (meth := k10m3) (c := k10c3) (by decide +kernel) rfl rfl rfl (by decide +kernel)
set_option maxRecDepth 65536 in
theorem w_c19 : (Jvm.Cond.code ({ cls := "java/lang/StringBuilder", name := "toString", desc := "()Ljava/lang/String;" } : Jvm.MethodName) jdk_67_method_42_code (1 : Nat) (Option.some (Jvm.ClassFile.FieldType.object "java/lang/String"))).before args0 about1 = true := code_word (m := ⟨13, 6⟩) (meth := k13m6) (c := k13c6) (by decide +kernel) rfl rfl rfl (by decide +kernel)
set_option maxRecDepth 65536 in
theorem w_c20 : (Jvm.Cond.code ({ cls := "java/lang/String", name := "<init>", desc := "(Ljava/lang/StringBuilder;)V" } : Jvm.MethodName) jdk_42_method_53_code (2 : Nat) (Option.none : Option Jvm.ClassFile.FieldType)).before args0 about1 = true := code_word (m := ⟨7, 2⟩) (meth := k7m2) (c := k7c2) (by decide +kernel) rfl rfl rfl (by decide +kernel)
set_option maxRecDepth 65536 in
theorem w_c21 : (Jvm.Cond.code ({ cls := "java/lang/String", name := "<init>", desc := "(Ljava/lang/AbstractStringBuilder;Ljava/lang/Void;)V" } : Jvm.MethodName) jdk_42_method_150_code (5 : Nat) (Option.none : Option Jvm.ClassFile.FieldType)).before args0 about1 = true := code_word (m := ⟨7, 8⟩) (meth := k7m8) (c := k7c8) (by decide +kernel) rfl rfl rfl (by decide +kernel)
set_option maxRecDepth 65536 in
theorem w_c22 : (Jvm.Cond.code ({ cls := "java/lang/AbstractStringBuilder", name := "getValue", desc := "()[B" } : Jvm.MethodName) jdk_68_method_64_code (1 : Nat) (Option.some (Jvm.ClassFile.FieldType.array Jvm.ClassFile.FieldType.byte))).before args0 about1 = true := code_word (m := ⟨12, 9⟩) (meth := k12m9) (c := k12c9) (by decide +kernel) rfl rfl rfl (by decide +kernel)
set_option maxRecDepth 65536 in
theorem w_c23 : (Jvm.Cond.code ({ cls := "java/lang/StringBuilder", name := "length", desc := "()I" } : Jvm.MethodName) jdk_67_method_93_code (1 : Nat) (Option.some Jvm.ClassFile.FieldType.int)).before args0 about1 = true := code_word (m := ⟨13, 7⟩) (meth := k13m7) (c := k13c7) (by decide +kernel) rfl rfl rfl (by decide +kernel)
set_option maxRecDepth 65536 in
theorem w_c24 : (Jvm.Cond.code ({ cls := "java/lang/AbstractStringBuilder", name := "length", desc := "()I" } : Jvm.MethodName) jdk_68_method_6_code (1 : Nat) (Option.some Jvm.ClassFile.FieldType.int)).before args0 about1 = true := code_word (m := ⟨12, 2⟩) (meth := k12m2) (c := k12c2) (by decide +kernel) rfl rfl rfl (by decide +kernel)
set_option maxRecDepth 65536 in
theorem w_c25 : (Jvm.Cond.code ({ cls := "java/util/Arrays", name := "copyOfRange", desc := "([BII)[B" } : Jvm.MethodName) jdk_65_method_132_code (3 : Nat) (Option.some (Jvm.ClassFile.FieldType.array Jvm.ClassFile.FieldType.byte))).before args0 about1 = true := code_word (m := ⟨14, 2⟩) (meth := k14m2) (c := k14c2) (by decide +kernel) rfl rfl rfl (by decide +kernel)
set_option maxRecDepth 65536 in
theorem w_c26 : (Jvm.Cond.code ({ cls := "java/util/Arrays", name := "copyOfRangeByte", desc := "([BII)[B" } : Jvm.MethodName) jdk_65_method_133_code (5 : Nat) (Option.some (Jvm.ClassFile.FieldType.array Jvm.ClassFile.FieldType.byte))).before args0 about1 = true := code_word (m := ⟨14, 3⟩) (meth := k14m3) (c := k14c3) (by decide +kernel) rfl rfl rfl (by decide +kernel)
set_option maxRecDepth 65536 in
theorem w_c27 : (Jvm.Cond.code ({ cls := "java/util/Arrays", name := "checkLength", desc := "(II)V" } : Jvm.MethodName) jdk_65_method_131_code (2 : Nat) (Option.none : Option Jvm.ClassFile.FieldType)).before args0 about1 = true := code_word (m := ⟨14, 1⟩) (meth := k14m1) (c := k14c1) (by decide +kernel) rfl rfl rfl (by decide +kernel)
set_option maxRecDepth 65536 in
theorem w_c28 : (Jvm.Cond.code ({ cls := "java/lang/Math", name := "min", desc := "(II)I" } : Jvm.MethodName) jdk_29_method_69_code (2 : Nat) (Option.some Jvm.ClassFile.FieldType.int)).before args0 about1 = true := code_word (m := ⟨15, 1⟩) (meth := k15m1) (c := k15c1) (by decide +kernel) rfl rfl rfl (by decide +kernel)
set_option maxRecDepth 65536 in
theorem w_c29 : (Jvm.Cond.code ({ cls := "java/lang/String", name := "length", desc := "()I" } : Jvm.MethodName) jdk_42_method_54_code (1 : Nat) (Option.some Jvm.ClassFile.FieldType.int)).before args0 about1 = true := code_word (m := ⟨7, 3⟩) (meth := k7m3) (c := k7c3) (by decide +kernel) rfl rfl rfl (by decide +kernel)
set_option maxRecDepth 65536 in
theorem w_c30 : (Jvm.Cond.code ({ cls := "java/lang/String", name := "coder", desc := "()B" } : Jvm.MethodName) jdk_42_method_152_code (1 : Nat) (Option.some Jvm.ClassFile.FieldType.byte)).before args0 about1 = true := code_word (m := ⟨7, 10⟩) (meth := k7m10) (c := k7c10) (by decide +kernel) rfl rfl rfl (by decide +kernel)
set_option maxRecDepth 65536 in
theorem w_c31 : (Jvm.Cond.code ({ cls := "com/example/clear_fault/clearfault/JsonObjectWriterFinishPinLaw", name := "at", desc := "(Ljava/lang/String;[CII)Z" } : Jvm.MethodName) method_5_code (4 : Nat) (Option.some Jvm.ClassFile.FieldType.boolean)).before args0 about1 = true := code_word (m := ⟨1, 4⟩) (meth := k1m4) (c := k1c4) (by decide +kernel) rfl rfl rfl (by decide +kernel)
set_option maxRecDepth 65536 in
theorem w_c32 : (Jvm.Cond.code ({ cls := "java/lang/String", name := "charAt", desc := "(I)C" } : Jvm.MethodName) jdk_42_method_56_code (2 : Nat) (Option.some Jvm.ClassFile.FieldType.char)).before args0 about1 = true := code_word (m := ⟨7, 4⟩) (meth := k7m4) (c := k7c4) (by decide +kernel) rfl rfl rfl (by decide +kernel)
set_option maxRecDepth 65536 in
theorem w_c33 : (Jvm.Cond.code ({ cls := "java/lang/String", name := "isLatin1", desc := "()Z" } : Jvm.MethodName) jdk_42_method_154_code (1 : Nat) (Option.some Jvm.ClassFile.FieldType.boolean)).before args0 about1 = true := code_word (m := ⟨7, 12⟩) (meth := k7m12) (c := k7c12) (by decide +kernel) rfl rfl rfl (by decide +kernel)
set_option maxRecDepth 65536 in
theorem w_c34 : (Jvm.Cond.code ({ cls := "java/lang/StringLatin1", name := "charAt", desc := "([BI)C" } : Jvm.MethodName) jdk_43_method_2_code (2 : Nat) (Option.some Jvm.ClassFile.FieldType.char)).before args0 about1 = true := code_word (m := ⟨8, 1⟩) (meth := k8m1) (c := k8c1) (by decide +kernel) rfl rfl rfl (by decide +kernel)
set_option maxRecDepth 65536 in
theorem w_c35 : (Jvm.Cond.code ({ cls := "java/lang/String", name := "checkIndex", desc := "(II)V" } : Jvm.MethodName) jdk_42_method_155_code (2 : Nat) (Option.none : Option Jvm.ClassFile.FieldType)).before args0 about1 = true := code_word (m := ⟨7, 13⟩) (meth := k7m13) (c := k7c13) (by decide +kernel) rfl rfl rfl (by decide +kernel)
set_option maxRecDepth 65536 in
theorem w_c36 : (Jvm.Cond.code ({ cls := "jdk/internal/util/Preconditions", name := "checkIndex", desc := "(IILjava/util/function/BiFunction;)I" } : Jvm.MethodName) jdk_41_method_11_code (3 : Nat) (Option.some Jvm.ClassFile.FieldType.int)).before args0 about1 = true := code_word (m := ⟨17, 1⟩) (meth := k17m1) (c := k17c1) (by decide +kernel) rfl rfl rfl (by decide +kernel)
set_option maxRecDepth 65536 in
theorem w_c37 : (Jvm.Cond.code ({ cls := "com/example/clear_fault/clearfault/JsonObjectWriter", name := "add", desc := "(Ljava/lang/String;Ljava/lang/String;)Lcom/example/clear_fault/clearfault/JsonObjectWriter;" } : Jvm.MethodName) prog_13_method_2_code (3 : Nat) (Option.some (Jvm.ClassFile.FieldType.object "com/example/clear_fault/clearfault/JsonObjectWriter"))).before args0 about1 = true := code_word (m := ⟨10, 1⟩) (meth := k10m1) (c := k10c1) (by decide +kernel) rfl rfl rfl (by decide +kernel)
set_option maxRecDepth 65536 in
theorem w_c38 : (Jvm.Cond.code ({ cls := "com/example/clear_fault/clearfault/JsonObjectWriter", name := "name", desc := "(Ljava/lang/String;)V" } : Jvm.MethodName) prog_13_method_7_code (2 : Nat) (Option.none : Option Jvm.ClassFile.FieldType)).before args0 about1 = true := code_word (m := ⟨10, 4⟩) (meth := k10m4) (c := k10c4) (by decide +kernel) rfl rfl rfl (by decide +kernel)
set_option maxRecDepth 65536 in
theorem w_c39 : (Jvm.Cond.code ({ cls := "com/example/clear_fault/clearfault/JsonObjectWriter", name := "appendString", desc := "(Ljava/lang/String;)V" } : Jvm.MethodName) prog_13_method_8_code (5 : Nat) (Option.none : Option Jvm.ClassFile.FieldType)).before args0 about1 = true := code_word (m := ⟨10, 5⟩) (meth := k10m5) (c := k10c5) (by decide +kernel) rfl rfl rfl (by decide +kernel)
set_option maxRecDepth 65536 in
theorem w_c40 : (Jvm.Cond.code ({ cls := "java/lang/StringBuilder", name := "append", desc := "(Ljava/lang/CharSequence;II)Ljava/lang/StringBuilder;" } : Jvm.MethodName) jdk_67_method_10_code (4 : Nat) (Option.some (Jvm.ClassFile.FieldType.object "java/lang/StringBuilder"))).before args0 about1 = true := code_word (m := ⟨13, 3⟩) (meth := k13m3) (c := k13c3) (by decide +kernel) rfl rfl rfl (by decide +kernel)
set_option maxRecDepth 65536 in
theorem w_c41 : (Jvm.Cond.code ({ cls := "java/lang/AbstractStringBuilder", name := "append", desc := "(Ljava/lang/CharSequence;II)Ljava/lang/AbstractStringBuilder;" } : Jvm.MethodName) jdk_68_method_27_code (5 : Nat) (Option.some (Jvm.ClassFile.FieldType.object "java/lang/AbstractStringBuilder"))).before args0 about1 = true := code_word (m := ⟨12, 6⟩) (meth := k12m6) (c := k12c6) (by decide +kernel) rfl rfl rfl (by decide +kernel)
set_option maxRecDepth 65536 in
theorem w_c42 : (Jvm.Cond.code ({ cls := "jdk/internal/util/Preconditions", name := "checkFromToIndex", desc := "(IIILjava/util/function/BiFunction;)I" } : Jvm.MethodName) jdk_41_method_12_code (4 : Nat) (Option.some Jvm.ClassFile.FieldType.int)).before args0 about1 = true := code_word (m := ⟨17, 2⟩) (meth := k17m2) (c := k17c2) (by decide +kernel) rfl rfl rfl (by decide +kernel)
set_option maxRecDepth 65536 in
theorem w_c43 : (Jvm.Cond.code ({ cls := "java/lang/AbstractStringBuilder", name := "appendChars", desc := "(Ljava/lang/String;II)V" } : Jvm.MethodName) jdk_68_method_75_code (8 : Nat) (Option.none : Option Jvm.ClassFile.FieldType)).before args0 about1 = true := code_word (m := ⟨12, 13⟩) (meth := k12m13) (c := k12c13) (by decide +kernel) rfl rfl rfl (by decide +kernel)
set_option maxRecDepth 65536 in
theorem w_c44 : (Jvm.Cond.code ({ cls := "java/lang/String", name := "value", desc := "()[B" } : Jvm.MethodName) jdk_42_method_153_code (1 : Nat) (Option.some (Jvm.ClassFile.FieldType.array Jvm.ClassFile.FieldType.byte))).before args0 about1 = true := code_word (m := ⟨7, 11⟩) (meth := k7m11) (c := k7c11) (by decide +kernel) rfl rfl rfl (by decide +kernel)
set_option maxRecDepth 65536 in
theorem w_c45 : (Jvm.Cond.code ({ cls := "java/lang/StringBuilder", name := "append", desc := "(Ljava/lang/String;)Ljava/lang/StringBuilder;" } : Jvm.MethodName) jdk_67_method_7_code (2 : Nat) (Option.some (Jvm.ClassFile.FieldType.object "java/lang/StringBuilder"))).before args0 about1 = true := code_word (m := ⟨13, 2⟩) (meth := k13m2) (c := k13c2) (by decide +kernel) rfl rfl rfl (by decide +kernel)
set_option maxRecDepth 65536 in
theorem w_c46 : (Jvm.Cond.code ({ cls := "java/lang/AbstractStringBuilder", name := "append", desc := "(Ljava/lang/String;)Ljava/lang/AbstractStringBuilder;" } : Jvm.MethodName) jdk_68_method_22_code (3 : Nat) (Option.some (Jvm.ClassFile.FieldType.object "java/lang/AbstractStringBuilder"))).before args0 about1 = true := code_word (m := ⟨12, 5⟩) (meth := k12m5) (c := k12c5) (by decide +kernel) rfl rfl rfl (by decide +kernel)
set_option maxRecDepth 65536 in
theorem w_c47 : (Jvm.Cond.code ({ cls := "java/lang/AbstractStringBuilder", name := "putStringAt", desc := "(ILjava/lang/String;)V" } : Jvm.MethodName) jdk_68_method_73_code (3 : Nat) (Option.none : Option Jvm.ClassFile.FieldType)).before args0 about1 = true := code_word (m := ⟨12, 12⟩) (meth := k12m12) (c := k12c12) (by decide +kernel) rfl rfl rfl (by decide +kernel)
set_option maxRecDepth 65536 in
theorem w_c48 : (Jvm.Cond.code ({ cls := "java/lang/AbstractStringBuilder", name := "inflateIfNeededFor", desc := "(Ljava/lang/String;)V" } : Jvm.MethodName) jdk_68_method_71_code (2 : Nat) (Option.none : Option Jvm.ClassFile.FieldType)).before args0 about1 = true := code_word (m := ⟨12, 11⟩) (meth := k12m11) (c := k12c11) (by decide +kernel) rfl rfl rfl (by decide +kernel)
set_option maxRecDepth 65536 in
theorem w_c49 : (Jvm.Cond.code ({ cls := "java/lang/String", name := "getBytes", desc := "([BIB)V" } : Jvm.MethodName) jdk_42_method_147_code (4 : Nat) (Option.none : Option Jvm.ClassFile.FieldType)).before args0 about1 = true := code_word (m := ⟨7, 6⟩) (meth := k7m6) (c := k7c6) (by decide +kernel) rfl rfl rfl (by decide +kernel)
set_option maxRecDepth 65536 in
theorem w_c50 : (Jvm.Cond.code ({ cls := "com/example/clear_fault/clearfault/JsonObjectWriter", name := "add", desc := "(Ljava/lang/String;I)Lcom/example/clear_fault/clearfault/JsonObjectWriter;" } : Jvm.MethodName) prog_13_method_4_code (3 : Nat) (Option.some (Jvm.ClassFile.FieldType.object "com/example/clear_fault/clearfault/JsonObjectWriter"))).before args0 about1 = true := code_word (m := ⟨10, 2⟩) (meth := k10m2) (c := k10c2) (by decide +kernel) rfl rfl rfl (by decide +kernel)
set_option maxRecDepth 65536 in
theorem w_c51 : (Jvm.Cond.code ({ cls := "java/lang/StringBuilder", name := "append", desc := "(I)Ljava/lang/StringBuilder;" } : Jvm.MethodName) jdk_67_method_15_code (2 : Nat) (Option.some (Jvm.ClassFile.FieldType.object "java/lang/StringBuilder"))).before args0 about1 = true := code_word (m := ⟨13, 5⟩) (meth := k13m5) (c := k13c5) (by decide +kernel) rfl rfl rfl (by decide +kernel)
set_option maxRecDepth 65536 in
theorem w_c52 : (Jvm.Cond.code ({ cls := "java/lang/AbstractStringBuilder", name := "append", desc := "(I)Ljava/lang/AbstractStringBuilder;" } : Jvm.MethodName) jdk_68_method_32_code (4 : Nat) (Option.some (Jvm.ClassFile.FieldType.object "java/lang/AbstractStringBuilder"))).before args0 about1 = true := code_word (m := ⟨12, 8⟩) (meth := k12m8) (c := k12c8) (by decide +kernel) rfl rfl rfl (by decide +kernel)
set_option maxRecDepth 65536 in
theorem w_c53 : (Jvm.Cond.code ({ cls := "java/lang/Integer", name := "stringSize", desc := "(I)I" } : Jvm.MethodName) jdk_33_method_13_code (4 : Nat) (Option.some Jvm.ClassFile.FieldType.int)).before args0 about1 = true := code_word (m := ⟨19, 1⟩) (meth := k19m1) (c := k19c1) (by decide +kernel) rfl rfl rfl (by decide +kernel)
set_option maxRecDepth 65536 in
theorem w_c54 : (Jvm.Cond.code ({ cls := "java/lang/Integer", name := "getChars", desc := "(II[B)I" } : Jvm.MethodName) jdk_33_method_12_code (7 : Nat) (Option.some Jvm.ClassFile.FieldType.int)).before args0 about1 = true := code_word (m := ⟨19, 0⟩) (meth := k19m0) (c := k19c0) (by decide +kernel) rfl rfl rfl (by decide +kernel)
set_option maxRecDepth 65536 in
theorem w_c55 : (Jvm.Cond.code ({ cls := "com/example/clear_fault/clearfault/JsonObjectWriterFinishPinLaw", name := "str1", desc := "([CIC)I" } : Jvm.MethodName) method_4_code (4 : Nat) (Option.some Jvm.ClassFile.FieldType.int)).before args0 about1 = true := code_word (m := ⟨1, 3⟩) (meth := k1m3) (c := k1c3) (by decide +kernel) rfl rfl rfl (by decide +kernel)
set_option maxRecDepth 65536 in
theorem w_c56 : (Jvm.Cond.code ({ cls := "com/example/clear_fault/clearfault/JsonObjectWriterFinishPinLaw", name := "enc", desc := "([CIC)I" } : Jvm.MethodName) method_3_code (3 : Nat) (Option.some Jvm.ClassFile.FieldType.int)).before args0 about1 = true := code_word (m := ⟨1, 2⟩) (meth := k1m2) (c := k1c2) (by decide +kernel) rfl rfl rfl (by decide +kernel)
set_option maxRecDepth 65536 in
theorem w_c57 : (Jvm.Cond.code ({ cls := "com/example/clear_fault/clearfault/JsonObjectWriterFinishPinLaw", name := "hex", desc := "(I)C" } : Jvm.MethodName) method_2_code (1 : Nat) (Option.some Jvm.ClassFile.FieldType.char)).before args0 about1 = true := code_word (m := ⟨1, 1⟩) (meth := k1m1) (c := k1c1) (by decide +kernel) rfl rfl rfl (by decide +kernel)
set_option maxRecDepth 65536 in
theorem w_c58 : (Jvm.Cond.code ({ cls := "java/lang/StringUTF16", name := "toBytes", desc := "(C)[B" } : Jvm.MethodName) jdk_52_method_24_code (2 : Nat) (Option.some (Jvm.ClassFile.FieldType.array Jvm.ClassFile.FieldType.byte))).before args0 about1 = true := code_word (m := ⟨9, 10⟩) (meth := k9m10) (c := k9c10) (by decide +kernel) rfl rfl rfl (by decide +kernel)
set_option maxRecDepth 65536 in
theorem w_c59 : (Jvm.Cond.code ({ cls := "java/lang/StringUTF16", name := "putChar", desc := "([BII)V" } : Jvm.MethodName) jdk_52_method_4_code (3 : Nat) (Option.none : Option Jvm.ClassFile.FieldType)).before args0 about1 = true := code_word (m := ⟨9, 3⟩) (meth := k9m3) (c := k9c3) (by decide +kernel) rfl rfl rfl (by decide +kernel)
set_option maxRecDepth 65536 in
theorem w_c60 : (Jvm.Cond.code ({ cls := "java/lang/StringUTF16", name := "toBytes", desc := "([CII)[B" } : Jvm.MethodName) jdk_52_method_14_code (5 : Nat) (Option.some (Jvm.ClassFile.FieldType.array Jvm.ClassFile.FieldType.byte))).before args0 about1 = true := code_word (m := ⟨9, 6⟩) (meth := k9m6) (c := k9c6) (by decide +kernel) rfl rfl rfl (by decide +kernel)
set_option maxRecDepth 65536 in
theorem w_c61 : (Jvm.Cond.code ({ cls := "java/lang/StringUTF16", name := "newBytesFor", desc := "(I)[B" } : Jvm.MethodName) jdk_52_method_2_code (1 : Nat) (Option.some (Jvm.ClassFile.FieldType.array Jvm.ClassFile.FieldType.byte))).before args0 about1 = true := code_word (m := ⟨9, 1⟩) (meth := k9m1) (c := k9c1) (by decide +kernel) rfl rfl rfl (by decide +kernel)
set_option maxRecDepth 65536 in
theorem w_c62 : (Jvm.Cond.code ({ cls := "java/lang/StringUTF16", name := "newBytesLength", desc := "(I)I" } : Jvm.MethodName) jdk_52_method_3_code (1 : Nat) (Option.some Jvm.ClassFile.FieldType.int)).before args0 about1 = true := code_word (m := ⟨9, 2⟩) (meth := k9m2) (c := k9c2) (by decide +kernel) rfl rfl rfl (by decide +kernel)
set_option maxRecDepth 65536 in
theorem w_c63 : (Jvm.Cond.code ({ cls := "java/lang/StringUTF16", name := "getChar", desc := "([BI)C" } : Jvm.MethodName) jdk_52_method_5_code (2 : Nat) (Option.some Jvm.ClassFile.FieldType.char)).before args0 about1 = true := code_word (m := ⟨9, 4⟩) (meth := k9m4) (c := k9c4) (by decide +kernel) rfl rfl rfl (by decide +kernel)
set_option maxRecDepth 65536 in
theorem w_c64 : (Jvm.Cond.code ({ cls := "java/lang/StringUTF16", name := "charAt", desc := "([BI)C" } : Jvm.MethodName) jdk_52_method_83_code (2 : Nat) (Option.some Jvm.ClassFile.FieldType.char)).before args0 about1 = true := code_word (m := ⟨9, 14⟩) (meth := k9m14) (c := k9c14) (by decide +kernel) rfl rfl rfl (by decide +kernel)
set_option maxRecDepth 65536 in
theorem w_c65 : (Jvm.Cond.code ({ cls := "java/lang/StringUTF16", name := "checkIndex", desc := "(I[B)V" } : Jvm.MethodName) jdk_52_method_91_code (2 : Nat) (Option.none : Option Jvm.ClassFile.FieldType)).before args0 about1 = true := code_word (m := ⟨9, 17⟩) (meth := k9m17) (c := k9c17) (by decide +kernel) rfl rfl rfl (by decide +kernel)
set_option maxRecDepth 65536 in
theorem w_c66 : (Jvm.Cond.code ({ cls := "java/lang/StringUTF16", name := "length", desc := "([B)I" } : Jvm.MethodName) jdk_52_method_6_code (1 : Nat) (Option.some Jvm.ClassFile.FieldType.int)).before args0 about1 = true := code_word (m := ⟨9, 5⟩) (meth := k9m5) (c := k9c5) (by decide +kernel) rfl rfl rfl (by decide +kernel)
set_option maxRecDepth 65536 in
theorem w_c67 : (Jvm.Cond.code ({ cls := "java/lang/AbstractStringBuilder", name := "inflate", desc := "()V" } : Jvm.MethodName) jdk_68_method_11_code (2 : Nat) (Option.none : Option Jvm.ClassFile.FieldType)).before args0 about1 = true := code_word (m := ⟨12, 4⟩) (meth := k12m4) (c := k12c4) (by decide +kernel) rfl rfl rfl (by decide +kernel)
set_option maxRecDepth 65536 in
theorem w_c68 : (Jvm.Cond.code ({ cls := "java/lang/StringLatin1", name := "inflate", desc := "([BI[BII)V" } : Jvm.MethodName) jdk_43_method_50_code (5 : Nat) (Option.none : Option Jvm.ClassFile.FieldType)).before args0 about1 = true := code_word (m := ⟨8, 4⟩) (meth := k8m4) (c := k8c4) (by decide +kernel) rfl rfl rfl (by decide +kernel)
set_option maxRecDepth 65536 in
theorem w_c69 : (Jvm.Cond.code ({ cls := "java/lang/StringUTF16", name := "inflate", desc := "([BI[BII)V" } : Jvm.MethodName) jdk_52_method_86_code (6 : Nat) (Option.none : Option Jvm.ClassFile.FieldType)).before args0 about1 = true := code_word (m := ⟨9, 15⟩) (meth := k9m15) (c := k9c15) (by decide +kernel) rfl rfl rfl (by decide +kernel)
set_option maxRecDepth 65536 in
theorem w_c70 : (Jvm.Cond.code ({ cls := "java/lang/StringUTF16", name := "checkBoundsOffCount", desc := "(II[B)V" } : Jvm.MethodName) jdk_52_method_94_code (3 : Nat) (Option.none : Option Jvm.ClassFile.FieldType)).before args0 about1 = true := code_word (m := ⟨9, 19⟩) (meth := k9m19) (c := k9c19) (by decide +kernel) rfl rfl rfl (by decide +kernel)
set_option maxRecDepth 65536 in
theorem w_c71 : (Jvm.Cond.code ({ cls := "java/lang/String", name := "checkBoundsOffCount", desc := "(III)I" } : Jvm.MethodName) jdk_42_method_157_code (3 : Nat) (Option.some Jvm.ClassFile.FieldType.int)).before args0 about1 = true := code_word (m := ⟨7, 14⟩) (meth := k7m14) (c := k7c14) (by decide +kernel) rfl rfl rfl (by decide +kernel)
set_option maxRecDepth 65536 in
theorem w_c72 : (Jvm.Cond.code ({ cls := "jdk/internal/util/Preconditions", name := "checkFromIndexSize", desc := "(IIILjava/util/function/BiFunction;)I" } : Jvm.MethodName) jdk_41_method_13_code (4 : Nat) (Option.some Jvm.ClassFile.FieldType.int)).before args0 about1 = true := code_word (m := ⟨17, 3⟩) (meth := k17m3) (c := k17c3) (by decide +kernel) rfl rfl rfl (by decide +kernel)
set_option maxRecDepth 65536 in
theorem w_c73 : (Jvm.Cond.code ({ cls := "java/lang/StringUTF16", name := "putCharSB", desc := "([BII)V" } : Jvm.MethodName) jdk_52_method_71_code (3 : Nat) (Option.none : Option Jvm.ClassFile.FieldType)).before args0 about1 = true := code_word (m := ⟨9, 11⟩) (meth := k9m11) (c := k9c11) (by decide +kernel) rfl rfl rfl (by decide +kernel)
set_option maxRecDepth 65536 in
theorem w_c74 : (Jvm.Cond.code ({ cls := "java/lang/StringUTF16", name := "getChars", desc := "(III[B)I" } : Jvm.MethodName) jdk_52_method_77_code (5 : Nat) (Option.some Jvm.ClassFile.FieldType.int)).before args0 about1 = true := code_word (m := ⟨9, 13⟩) (meth := k9m13) (c := k9c13) (by decide +kernel) rfl rfl rfl (by decide +kernel)
set_option maxRecDepth 65536 in
theorem w_c75 : (Jvm.Cond.code ({ cls := "java/lang/StringUTF16", name := "checkBoundsBeginEnd", desc := "(II[B)V" } : Jvm.MethodName) jdk_52_method_93_code (3 : Nat) (Option.none : Option Jvm.ClassFile.FieldType)).before args0 about1 = true := code_word (m := ⟨9, 18⟩) (meth := k9m18) (c := k9c18) (by decide +kernel) rfl rfl rfl (by decide +kernel)
set_option maxRecDepth 65536 in
theorem w_c76 : (Jvm.Cond.code ({ cls := "java/lang/String", name := "checkBoundsBeginEnd", desc := "(III)V" } : Jvm.MethodName) jdk_42_method_158_code (3 : Nat) (Option.none : Option Jvm.ClassFile.FieldType)).before args0 about1 = true := code_word (m := ⟨7, 15⟩) (meth := k7m15) (c := k7c15) (by decide +kernel) rfl rfl rfl (by decide +kernel)
set_option maxRecDepth 65536 in
theorem w_c77 : (Jvm.Cond.code ({ cls := "java/lang/StringUTF16", name := "getChars", desc := "(II[B)I" } : Jvm.MethodName) jdk_52_method_89_code (7 : Nat) (Option.some Jvm.ClassFile.FieldType.int)).before args0 about1 = true := code_word (m := ⟨9, 16⟩) (meth := k9m16) (c := k9c16) (by decide +kernel) rfl rfl rfl (by decide +kernel)
set_option maxRecDepth 65536 in
theorem w_c78 : (Jvm.Cond.code ({ cls := "java/lang/StringUTF16", name := "putCharsSB", desc := "([BILjava/lang/CharSequence;II)V" } : Jvm.MethodName) jdk_52_method_73_code (6 : Nat) (Option.none : Option Jvm.ClassFile.FieldType)).before args0 about1 = true := code_word (m := ⟨9, 12⟩) (meth := k9m12) (c := k9c12) (by decide +kernel) rfl rfl rfl (by decide +kernel)
def codes1 : List Jvm.Cond := [Jvm.Cond.code x code maxLocals ret, Jvm.Cond.code ({ cls := "java/lang/String", name := "valueOf", desc := "(C)Ljava/lang/String;" } : Jvm.MethodName) jdk_42_method_139_code (1 : Nat) (Option.some (Jvm.ClassFile.FieldType.object "java/lang/String")), Jvm.Cond.code ({ cls := "java/lang/StringLatin1", name := "canEncode", desc := "(C)Z" } : Jvm.MethodName) jdk_43_method_3_code (1 : Nat) (Option.some Jvm.ClassFile.FieldType.boolean), Jvm.Cond.code ({ cls := "java/lang/StringLatin1", name := "toBytes", desc := "(C)[B" } : Jvm.MethodName) jdk_43_method_46_code (1 : Nat) (Option.some (Jvm.ClassFile.FieldType.array Jvm.ClassFile.FieldType.byte)), Jvm.Cond.code ({ cls := "java/lang/String", name := "<init>", desc := "([BB)V" } : Jvm.MethodName) jdk_42_method_151_code (3 : Nat) (Option.none : Option Jvm.ClassFile.FieldType), Jvm.Cond.code ({ cls := "java/lang/Object", name := "<init>", desc := "()V" } : Jvm.MethodName) object_method_1_code (1 : Nat) (Option.none : Option Jvm.ClassFile.FieldType), Jvm.Cond.code ({ cls := "java/lang/String", name := "<init>", desc := "([C)V" } : Jvm.MethodName) jdk_42_method_3_code (2 : Nat) (Option.none : Option Jvm.ClassFile.FieldType), Jvm.Cond.code ({ cls := "java/lang/String", name := "<init>", desc := "([CIILjava/lang/Void;)V" } : Jvm.MethodName) jdk_42_method_149_code (6 : Nat) (Option.none : Option Jvm.ClassFile.FieldType), Jvm.Cond.code ({ cls := "java/lang/StringUTF16", name := "compress", desc := "([CII)[B" } : Jvm.MethodName) jdk_52_method_16_code (6 : Nat) (Option.some (Jvm.ClassFile.FieldType.array Jvm.ClassFile.FieldType.byte)), Jvm.Cond.code ({ cls := "java/lang/StringUTF16", name := "compress", desc := "([CI[BII)I" } : Jvm.MethodName) jdk_52_method_21_code (7 : Nat) (Option.some Jvm.ClassFile.FieldType.int), Jvm.Cond.code ({ cls := "java/lang/StringUTF16", name := "coderFromArrayLen", desc := "([BI)B" } : Jvm.MethodName) jdk_52_method_15_code (2 : Nat) (Option.some Jvm.ClassFile.FieldType.byte), Jvm.Cond.code ({ cls := "com/example/clear_fault/clearfault/JsonObjectWriter", name := "<init>", desc := "()V" } : Jvm.MethodName) prog_13_method_1_code (1 : Nat) (Option.none : Option Jvm.ClassFile.FieldType), Jvm.Cond.code ({ cls := "java/lang/StringBuilder", name := "<init>", desc := "(I)V" } : Jvm.MethodName) jdk_67_method_2_code (2 : Nat) (Option.none : Option Jvm.ClassFile.FieldType), Jvm.Cond.code ({ cls := "java/lang/AbstractStringBuilder", name := "<init>", desc := "(I)V" } : Jvm.MethodName) jdk_68_method_2_code (2 : Nat) (Option.none : Option Jvm.ClassFile.FieldType), Jvm.Cond.code ({ cls := "java/lang/StringBuilder", name := "append", desc := "(C)Ljava/lang/StringBuilder;" } : Jvm.MethodName) jdk_67_method_14_code (2 : Nat) (Option.some (Jvm.ClassFile.FieldType.object "java/lang/StringBuilder")), Jvm.Cond.code ({ cls := "java/lang/AbstractStringBuilder", name := "append", desc := "(C)Ljava/lang/AbstractStringBuilder;" } : Jvm.MethodName) jdk_68_method_31_code (2 : Nat) (Option.some (Jvm.ClassFile.FieldType.object "java/lang/AbstractStringBuilder")), Jvm.Cond.code ({ cls := "java/lang/AbstractStringBuilder", name := "ensureCapacityInternal", desc := "(I)V" } : Jvm.MethodName) jdk_68_method_9_code (3 : Nat) (Option.none : Option Jvm.ClassFile.FieldType), Jvm.Cond.code ({ cls := "java/lang/AbstractStringBuilder", name := "isLatin1", desc := "()Z" } : Jvm.MethodName) jdk_68_method_68_code (1 : Nat) (Option.some Jvm.ClassFile.FieldType.boolean), Jvm.Cond.code ({ cls := "com/example/clear_fault/clearfault/JsonObjectWriter", name := "finish", desc := "()Ljava/lang/String;" } : Jvm.MethodName) prog_13_method_6_code (1 : Nat) (Option.some (Jvm.ClassFile.FieldType.object "java/lang/String")), Jvm.Cond.code ({ cls := "java/lang/StringBuilder", name := "toString", desc := "()Ljava/lang/String;" } : Jvm.MethodName) jdk_67_method_42_code (1 : Nat) (Option.some (Jvm.ClassFile.FieldType.object "java/lang/String")), Jvm.Cond.code ({ cls := "java/lang/String", name := "<init>", desc := "(Ljava/lang/StringBuilder;)V" } : Jvm.MethodName) jdk_42_method_53_code (2 : Nat) (Option.none : Option Jvm.ClassFile.FieldType), Jvm.Cond.code ({ cls := "java/lang/String", name := "<init>", desc := "(Ljava/lang/AbstractStringBuilder;Ljava/lang/Void;)V" } : Jvm.MethodName) jdk_42_method_150_code (5 : Nat) (Option.none : Option Jvm.ClassFile.FieldType), Jvm.Cond.code ({ cls := "java/lang/AbstractStringBuilder", name := "getValue", desc := "()[B" } : Jvm.MethodName) jdk_68_method_64_code (1 : Nat) (Option.some (Jvm.ClassFile.FieldType.array Jvm.ClassFile.FieldType.byte)), Jvm.Cond.code ({ cls := "java/lang/StringBuilder", name := "length", desc := "()I" } : Jvm.MethodName) jdk_67_method_93_code (1 : Nat) (Option.some Jvm.ClassFile.FieldType.int), Jvm.Cond.code ({ cls := "java/lang/AbstractStringBuilder", name := "length", desc := "()I" } : Jvm.MethodName) jdk_68_method_6_code (1 : Nat) (Option.some Jvm.ClassFile.FieldType.int), Jvm.Cond.code ({ cls := "java/util/Arrays", name := "copyOfRange", desc := "([BII)[B" } : Jvm.MethodName) jdk_65_method_132_code (3 : Nat) (Option.some (Jvm.ClassFile.FieldType.array Jvm.ClassFile.FieldType.byte)), Jvm.Cond.code ({ cls := "java/util/Arrays", name := "copyOfRangeByte", desc := "([BII)[B" } : Jvm.MethodName) jdk_65_method_133_code (5 : Nat) (Option.some (Jvm.ClassFile.FieldType.array Jvm.ClassFile.FieldType.byte)), Jvm.Cond.code ({ cls := "java/util/Arrays", name := "checkLength", desc := "(II)V" } : Jvm.MethodName) jdk_65_method_131_code (2 : Nat) (Option.none : Option Jvm.ClassFile.FieldType), Jvm.Cond.code ({ cls := "java/lang/Math", name := "min", desc := "(II)I" } : Jvm.MethodName) jdk_29_method_69_code (2 : Nat) (Option.some Jvm.ClassFile.FieldType.int), Jvm.Cond.code ({ cls := "java/lang/String", name := "length", desc := "()I" } : Jvm.MethodName) jdk_42_method_54_code (1 : Nat) (Option.some Jvm.ClassFile.FieldType.int), Jvm.Cond.code ({ cls := "java/lang/String", name := "coder", desc := "()B" } : Jvm.MethodName) jdk_42_method_152_code (1 : Nat) (Option.some Jvm.ClassFile.FieldType.byte), Jvm.Cond.code ({ cls := "com/example/clear_fault/clearfault/JsonObjectWriterFinishPinLaw", name := "at", desc := "(Ljava/lang/String;[CII)Z" } : Jvm.MethodName) method_5_code (4 : Nat) (Option.some Jvm.ClassFile.FieldType.boolean), Jvm.Cond.code ({ cls := "java/lang/String", name := "charAt", desc := "(I)C" } : Jvm.MethodName) jdk_42_method_56_code (2 : Nat) (Option.some Jvm.ClassFile.FieldType.char), Jvm.Cond.code ({ cls := "java/lang/String", name := "isLatin1", desc := "()Z" } : Jvm.MethodName) jdk_42_method_154_code (1 : Nat) (Option.some Jvm.ClassFile.FieldType.boolean), Jvm.Cond.code ({ cls := "java/lang/StringLatin1", name := "charAt", desc := "([BI)C" } : Jvm.MethodName) jdk_43_method_2_code (2 : Nat) (Option.some Jvm.ClassFile.FieldType.char), Jvm.Cond.code ({ cls := "java/lang/String", name := "checkIndex", desc := "(II)V" } : Jvm.MethodName) jdk_42_method_155_code (2 : Nat) (Option.none : Option Jvm.ClassFile.FieldType), Jvm.Cond.code ({ cls := "jdk/internal/util/Preconditions", name := "checkIndex", desc := "(IILjava/util/function/BiFunction;)I" } : Jvm.MethodName) jdk_41_method_11_code (3 : Nat) (Option.some Jvm.ClassFile.FieldType.int), Jvm.Cond.code ({ cls := "com/example/clear_fault/clearfault/JsonObjectWriter", name := "add", desc := "(Ljava/lang/String;Ljava/lang/String;)Lcom/example/clear_fault/clearfault/JsonObjectWriter;" } : Jvm.MethodName) prog_13_method_2_code (3 : Nat) (Option.some (Jvm.ClassFile.FieldType.object "com/example/clear_fault/clearfault/JsonObjectWriter")), Jvm.Cond.code ({ cls := "com/example/clear_fault/clearfault/JsonObjectWriter", name := "name", desc := "(Ljava/lang/String;)V" } : Jvm.MethodName) prog_13_method_7_code (2 : Nat) (Option.none : Option Jvm.ClassFile.FieldType), Jvm.Cond.code ({ cls := "com/example/clear_fault/clearfault/JsonObjectWriter", name := "appendString", desc := "(Ljava/lang/String;)V" } : Jvm.MethodName) prog_13_method_8_code (5 : Nat) (Option.none : Option Jvm.ClassFile.FieldType), Jvm.Cond.code ({ cls := "java/lang/StringBuilder", name := "append", desc := "(Ljava/lang/CharSequence;II)Ljava/lang/StringBuilder;" } : Jvm.MethodName) jdk_67_method_10_code (4 : Nat) (Option.some (Jvm.ClassFile.FieldType.object "java/lang/StringBuilder")), Jvm.Cond.code ({ cls := "java/lang/AbstractStringBuilder", name := "append", desc := "(Ljava/lang/CharSequence;II)Ljava/lang/AbstractStringBuilder;" } : Jvm.MethodName) jdk_68_method_27_code (5 : Nat) (Option.some (Jvm.ClassFile.FieldType.object "java/lang/AbstractStringBuilder")), Jvm.Cond.code ({ cls := "jdk/internal/util/Preconditions", name := "checkFromToIndex", desc := "(IIILjava/util/function/BiFunction;)I" } : Jvm.MethodName) jdk_41_method_12_code (4 : Nat) (Option.some Jvm.ClassFile.FieldType.int), Jvm.Cond.code ({ cls := "java/lang/AbstractStringBuilder", name := "appendChars", desc := "(Ljava/lang/String;II)V" } : Jvm.MethodName) jdk_68_method_75_code (8 : Nat) (Option.none : Option Jvm.ClassFile.FieldType), Jvm.Cond.code ({ cls := "java/lang/String", name := "value", desc := "()[B" } : Jvm.MethodName) jdk_42_method_153_code (1 : Nat) (Option.some (Jvm.ClassFile.FieldType.array Jvm.ClassFile.FieldType.byte)), Jvm.Cond.code ({ cls := "java/lang/StringBuilder", name := "append", desc := "(Ljava/lang/String;)Ljava/lang/StringBuilder;" } : Jvm.MethodName) jdk_67_method_7_code (2 : Nat) (Option.some (Jvm.ClassFile.FieldType.object "java/lang/StringBuilder")), Jvm.Cond.code ({ cls := "java/lang/AbstractStringBuilder", name := "append", desc := "(Ljava/lang/String;)Ljava/lang/AbstractStringBuilder;" } : Jvm.MethodName) jdk_68_method_22_code (3 : Nat) (Option.some (Jvm.ClassFile.FieldType.object "java/lang/AbstractStringBuilder")), Jvm.Cond.code ({ cls := "java/lang/AbstractStringBuilder", name := "putStringAt", desc := "(ILjava/lang/String;)V" } : Jvm.MethodName) jdk_68_method_73_code (3 : Nat) (Option.none : Option Jvm.ClassFile.FieldType), Jvm.Cond.code ({ cls := "java/lang/AbstractStringBuilder", name := "inflateIfNeededFor", desc := "(Ljava/lang/String;)V" } : Jvm.MethodName) jdk_68_method_71_code (2 : Nat) (Option.none : Option Jvm.ClassFile.FieldType), Jvm.Cond.code ({ cls := "java/lang/String", name := "getBytes", desc := "([BIB)V" } : Jvm.MethodName) jdk_42_method_147_code (4 : Nat) (Option.none : Option Jvm.ClassFile.FieldType), Jvm.Cond.code ({ cls := "com/example/clear_fault/clearfault/JsonObjectWriter", name := "add", desc := "(Ljava/lang/String;I)Lcom/example/clear_fault/clearfault/JsonObjectWriter;" } : Jvm.MethodName) prog_13_method_4_code (3 : Nat) (Option.some (Jvm.ClassFile.FieldType.object "com/example/clear_fault/clearfault/JsonObjectWriter")), Jvm.Cond.code ({ cls := "java/lang/StringBuilder", name := "append", desc := "(I)Ljava/lang/StringBuilder;" } : Jvm.MethodName) jdk_67_method_15_code (2 : Nat) (Option.some (Jvm.ClassFile.FieldType.object "java/lang/StringBuilder")), Jvm.Cond.code ({ cls := "java/lang/AbstractStringBuilder", name := "append", desc := "(I)Ljava/lang/AbstractStringBuilder;" } : Jvm.MethodName) jdk_68_method_32_code (4 : Nat) (Option.some (Jvm.ClassFile.FieldType.object "java/lang/AbstractStringBuilder")), Jvm.Cond.code ({ cls := "java/lang/Integer", name := "stringSize", desc := "(I)I" } : Jvm.MethodName) jdk_33_method_13_code (4 : Nat) (Option.some Jvm.ClassFile.FieldType.int), Jvm.Cond.code ({ cls := "java/lang/Integer", name := "getChars", desc := "(II[B)I" } : Jvm.MethodName) jdk_33_method_12_code (7 : Nat) (Option.some Jvm.ClassFile.FieldType.int), Jvm.Cond.code ({ cls := "com/example/clear_fault/clearfault/JsonObjectWriterFinishPinLaw", name := "str1", desc := "([CIC)I" } : Jvm.MethodName) method_4_code (4 : Nat) (Option.some Jvm.ClassFile.FieldType.int), Jvm.Cond.code ({ cls := "com/example/clear_fault/clearfault/JsonObjectWriterFinishPinLaw", name := "enc", desc := "([CIC)I" } : Jvm.MethodName) method_3_code (3 : Nat) (Option.some Jvm.ClassFile.FieldType.int), Jvm.Cond.code ({ cls := "com/example/clear_fault/clearfault/JsonObjectWriterFinishPinLaw", name := "hex", desc := "(I)C" } : Jvm.MethodName) method_2_code (1 : Nat) (Option.some Jvm.ClassFile.FieldType.char), Jvm.Cond.code ({ cls := "java/lang/StringUTF16", name := "toBytes", desc := "(C)[B" } : Jvm.MethodName) jdk_52_method_24_code (2 : Nat) (Option.some (Jvm.ClassFile.FieldType.array Jvm.ClassFile.FieldType.byte)), Jvm.Cond.code ({ cls := "java/lang/StringUTF16", name := "putChar", desc := "([BII)V" } : Jvm.MethodName) jdk_52_method_4_code (3 : Nat) (Option.none : Option Jvm.ClassFile.FieldType), Jvm.Cond.code ({ cls := "java/lang/StringUTF16", name := "toBytes", desc := "([CII)[B" } : Jvm.MethodName) jdk_52_method_14_code (5 : Nat) (Option.some (Jvm.ClassFile.FieldType.array Jvm.ClassFile.FieldType.byte)), Jvm.Cond.code ({ cls := "java/lang/StringUTF16", name := "newBytesFor", desc := "(I)[B" } : Jvm.MethodName) jdk_52_method_2_code (1 : Nat) (Option.some (Jvm.ClassFile.FieldType.array Jvm.ClassFile.FieldType.byte)), Jvm.Cond.code ({ cls := "java/lang/StringUTF16", name := "newBytesLength", desc := "(I)I" } : Jvm.MethodName) jdk_52_method_3_code (1 : Nat) (Option.some Jvm.ClassFile.FieldType.int), Jvm.Cond.code ({ cls := "java/lang/StringUTF16", name := "getChar", desc := "([BI)C" } : Jvm.MethodName) jdk_52_method_5_code (2 : Nat) (Option.some Jvm.ClassFile.FieldType.char), Jvm.Cond.code ({ cls := "java/lang/StringUTF16", name := "charAt", desc := "([BI)C" } : Jvm.MethodName) jdk_52_method_83_code (2 : Nat) (Option.some Jvm.ClassFile.FieldType.char), Jvm.Cond.code ({ cls := "java/lang/StringUTF16", name := "checkIndex", desc := "(I[B)V" } : Jvm.MethodName) jdk_52_method_91_code (2 : Nat) (Option.none : Option Jvm.ClassFile.FieldType), Jvm.Cond.code ({ cls := "java/lang/StringUTF16", name := "length", desc := "([B)I" } : Jvm.MethodName) jdk_52_method_6_code (1 : Nat) (Option.some Jvm.ClassFile.FieldType.int), Jvm.Cond.code ({ cls := "java/lang/AbstractStringBuilder", name := "inflate", desc := "()V" } : Jvm.MethodName) jdk_68_method_11_code (2 : Nat) (Option.none : Option Jvm.ClassFile.FieldType), Jvm.Cond.code ({ cls := "java/lang/StringLatin1", name := "inflate", desc := "([BI[BII)V" } : Jvm.MethodName) jdk_43_method_50_code (5 : Nat) (Option.none : Option Jvm.ClassFile.FieldType), Jvm.Cond.code ({ cls := "java/lang/StringUTF16", name := "inflate", desc := "([BI[BII)V" } : Jvm.MethodName) jdk_52_method_86_code (6 : Nat) (Option.none : Option Jvm.ClassFile.FieldType), Jvm.Cond.code ({ cls := "java/lang/StringUTF16", name := "checkBoundsOffCount", desc := "(II[B)V" } : Jvm.MethodName) jdk_52_method_94_code (3 : Nat) (Option.none : Option Jvm.ClassFile.FieldType), Jvm.Cond.code ({ cls := "java/lang/String", name := "checkBoundsOffCount", desc := "(III)I" } : Jvm.MethodName) jdk_42_method_157_code (3 : Nat) (Option.some Jvm.ClassFile.FieldType.int), Jvm.Cond.code ({ cls := "jdk/internal/util/Preconditions", name := "checkFromIndexSize", desc := "(IIILjava/util/function/BiFunction;)I" } : Jvm.MethodName) jdk_41_method_13_code (4 : Nat) (Option.some Jvm.ClassFile.FieldType.int), Jvm.Cond.code ({ cls := "java/lang/StringUTF16", name := "putCharSB", desc := "([BII)V" } : Jvm.MethodName) jdk_52_method_71_code (3 : Nat) (Option.none : Option Jvm.ClassFile.FieldType), Jvm.Cond.code ({ cls := "java/lang/StringUTF16", name := "getChars", desc := "(III[B)I" } : Jvm.MethodName) jdk_52_method_77_code (5 : Nat) (Option.some Jvm.ClassFile.FieldType.int), Jvm.Cond.code ({ cls := "java/lang/StringUTF16", name := "checkBoundsBeginEnd", desc := "(II[B)V" } : Jvm.MethodName) jdk_52_method_93_code (3 : Nat) (Option.none : Option Jvm.ClassFile.FieldType), Jvm.Cond.code ({ cls := "java/lang/String", name := "checkBoundsBeginEnd", desc := "(III)V" } : Jvm.MethodName) jdk_42_method_158_code (3 : Nat) (Option.none : Option Jvm.ClassFile.FieldType), Jvm.Cond.code ({ cls := "java/lang/StringUTF16", name := "getChars", desc := "(II[B)I" } : Jvm.MethodName) jdk_52_method_89_code (7 : Nat) (Option.some Jvm.ClassFile.FieldType.int), Jvm.Cond.code ({ cls := "java/lang/StringUTF16", name := "putCharsSB", desc := "([BILjava/lang/CharSequence;II)V" } : Jvm.MethodName) jdk_52_method_73_code (6 : Nat) (Option.none : Option Jvm.ClassFile.FieldType)]
set_option maxRecDepth 65536 in
theorem codes_eq : words1.filter isCode = codes1 := rfl
theorem w_codes : ∀ c ∈ words1.filter isCode, c.before args0 about1 = true := by
  rw [codes_eq]
  intro c hc
  simp only [codes1, List.mem_cons, List.not_mem_nil, or_false] at hc
  rcases hc with rfl | rfl | rfl | rfl | rfl | rfl | rfl | rfl | rfl | rfl | rfl | rfl | rfl | rfl | rfl | rfl | rfl | rfl | rfl | rfl | rfl | rfl | rfl | rfl | rfl | rfl | rfl | rfl | rfl | rfl | rfl | rfl | rfl | rfl | rfl | rfl | rfl | rfl | rfl | rfl | rfl | rfl | rfl | rfl | rfl | rfl | rfl | rfl | rfl | rfl | rfl | rfl | rfl | rfl | rfl | rfl | rfl | rfl | rfl | rfl | rfl | rfl | rfl | rfl | rfl | rfl | rfl | rfl | rfl | rfl | rfl | rfl | rfl | rfl | rfl | rfl | rfl | rfl | rfl
  · exact w_c0
  · exact w_c1
  · exact w_c2
  · exact w_c3
  · exact w_c4
  · exact w_c5
  · exact w_c6
  · exact w_c7
  · exact w_c8
  · exact w_c9
  · exact w_c10
  · exact w_c11
  · exact w_c12
  · exact w_c13
  · exact w_c14
  · exact w_c15
  · exact w_c16
  · exact w_c17
  · exact w_c18
  · exact w_c19
  · exact w_c20
  · exact w_c21
  · exact w_c22
  · exact w_c23
  · exact w_c24
  · exact w_c25
  · exact w_c26
  · exact w_c27
  · exact w_c28
  · exact w_c29
  · exact w_c30
  · exact w_c31
  · exact w_c32
  · exact w_c33
  · exact w_c34
  · exact w_c35
  · exact w_c36
  · exact w_c37
  · exact w_c38
  · exact w_c39
  · exact w_c40
  · exact w_c41
  · exact w_c42
  · exact w_c43
  · exact w_c44
  · exact w_c45
  · exact w_c46
  · exact w_c47
  · exact w_c48
  · exact w_c49
  · exact w_c50
  · exact w_c51
  · exact w_c52
  · exact w_c53
  · exact w_c54
  · exact w_c55
  · exact w_c56
  · exact w_c57
  · exact w_c58
  · exact w_c59
  · exact w_c60
  · exact w_c61
  · exact w_c62
  · exact w_c63
  · exact w_c64
  · exact w_c65
  · exact w_c66
  · exact w_c67
  · exact w_c68
  · exact w_c69
  · exact w_c70
  · exact w_c71
  · exact w_c72
  · exact w_c73
  · exact w_c74
  · exact w_c75
  · exact w_c76
  · exact w_c77
  · exact w_c78
set_option maxRecDepth 65536 in
theorem w_t1 : (words1.take 24).all (fun c => isCode c || c.before args0 about1) = true := by decide +kernel
set_option maxRecDepth 65536 in
theorem w_t2 : ((words1.drop 24).take 24).all (fun c => isCode c || c.before args0 about1) = true := by decide +kernel
set_option maxRecDepth 65536 in
theorem w_t3 : (((words1.drop 24).drop 24).take 24).all (fun c => isCode c || c.before args0 about1) = true := by decide +kernel
set_option maxRecDepth 65536 in
theorem w_t4 : ((((words1.drop 24).drop 24).drop 24).take 24).all (fun c => isCode c || c.before args0 about1) = true := by decide +kernel
set_option maxRecDepth 65536 in
theorem w_t5 : (((((words1.drop 24).drop 24).drop 24).drop 24).take 24).all (fun c => isCode c || c.before args0 about1) = true := by decide +kernel
set_option maxRecDepth 65536 in
theorem w_t6 : ((((((words1.drop 24).drop 24).drop 24).drop 24).drop 24).take 24).all (fun c => isCode c || c.before args0 about1) = true := by decide +kernel
set_option maxRecDepth 65536 in
theorem w_t7 : (((((((words1.drop 24).drop 24).drop 24).drop 24).drop 24).drop 24).take 24).all (fun c => isCode c || c.before args0 about1) = true := by decide +kernel
set_option maxRecDepth 65536 in
theorem w_t8 : ((((((((words1.drop 24).drop 24).drop 24).drop 24).drop 24).drop 24).drop 24).take 24).all (fun c => isCode c || c.before args0 about1) = true := by decide +kernel
set_option maxRecDepth 65536 in
theorem w_t9 : (((((((((words1.drop 24).drop 24).drop 24).drop 24).drop 24).drop 24).drop 24).drop 24).take 24).all (fun c => isCode c || c.before args0 about1) = true := by decide +kernel
set_option maxRecDepth 65536 in
theorem w_t10 : ((((((((((words1.drop 24).drop 24).drop 24).drop 24).drop 24).drop 24).drop 24).drop 24).drop 24).take 24).all (fun c => isCode c || c.before args0 about1) = true := by decide +kernel
set_option maxRecDepth 65536 in
theorem w_t11 : (((((((((((words1.drop 24).drop 24).drop 24).drop 24).drop 24).drop 24).drop 24).drop 24).drop 24).drop 24).take 24).all (fun c => isCode c || c.before args0 about1) = true := by decide +kernel
set_option maxRecDepth 65536 in
theorem w_t12 : ((((((((((((words1.drop 24).drop 24).drop 24).drop 24).drop 24).drop 24).drop 24).drop 24).drop 24).drop 24).drop 24).take 24).all (fun c => isCode c || c.before args0 about1) = true := by decide +kernel
set_option maxRecDepth 65536 in
theorem w_t13 : (((((((((((((words1.drop 24).drop 24).drop 24).drop 24).drop 24).drop 24).drop 24).drop 24).drop 24).drop 24).drop 24).drop 24).take 24).all (fun c => isCode c || c.before args0 about1) = true := by decide +kernel
set_option maxRecDepth 65536 in
theorem w_t14 : ((((((((((((((words1.drop 24).drop 24).drop 24).drop 24).drop 24).drop 24).drop 24).drop 24).drop 24).drop 24).drop 24).drop 24).drop 24).take 24).all (fun c => isCode c || c.before args0 about1) = true := by decide +kernel
set_option maxRecDepth 65536 in
theorem w_t15 : (((((((((((((((words1.drop 24).drop 24).drop 24).drop 24).drop 24).drop 24).drop 24).drop 24).drop 24).drop 24).drop 24).drop 24).drop 24).drop 24).take 24).all (fun c => isCode c || c.before args0 about1) = true := by decide +kernel
set_option maxRecDepth 65536 in
theorem w_t16 : (((((((((((((((words1.drop 24).drop 24).drop 24).drop 24).drop 24).drop 24).drop 24).drop 24).drop 24).drop 24).drop 24).drop 24).drop 24).drop 24).drop 24).all (fun c => isCode c || c.before args0 about1) = true := by decide +kernel
theorem w_tables : (allAtoms (Jvm.Cond.code x code maxLocals ret :: tables_1)).before args0 about1 = true := by
  rw [allAtoms_all]
  show words1.all (fun c => c.before args0 about1) = true
  refine all_split ?_ w_codes
  rw [← List.take_append_drop 24 words1, List.all_append, w_t1, ← List.take_append_drop 24 (words1.drop 24), List.all_append, w_t2, ← List.take_append_drop 24 ((words1.drop 24).drop 24), List.all_append, w_t3, ← List.take_append_drop 24 (((words1.drop 24).drop 24).drop 24), List.all_append, w_t4, ← List.take_append_drop 24 ((((words1.drop 24).drop 24).drop 24).drop 24), List.all_append, w_t5, ← List.take_append_drop 24 (((((words1.drop 24).drop 24).drop 24).drop 24).drop 24), List.all_append, w_t6, ← List.take_append_drop 24 ((((((words1.drop 24).drop 24).drop 24).drop 24).drop 24).drop 24), List.all_append, w_t7, ← List.take_append_drop 24 (((((((words1.drop 24).drop 24).drop 24).drop 24).drop 24).drop 24).drop 24), List.all_append, w_t8, ← List.take_append_drop 24 ((((((((words1.drop 24).drop 24).drop 24).drop 24).drop 24).drop 24).drop 24).drop 24), List.all_append, w_t9, ← List.take_append_drop 24 (((((((((words1.drop 24).drop 24).drop 24).drop 24).drop 24).drop 24).drop 24).drop 24).drop 24), List.all_append, w_t10, ← List.take_append_drop 24 ((((((((((words1.drop 24).drop 24).drop 24).drop 24).drop 24).drop 24).drop 24).drop 24).drop 24).drop 24), List.all_append, w_t11, ← List.take_append_drop 24 (((((((((((words1.drop 24).drop 24).drop 24).drop 24).drop 24).drop 24).drop 24).drop 24).drop 24).drop 24).drop 24), List.all_append, w_t12, ← List.take_append_drop 24 ((((((((((((words1.drop 24).drop 24).drop 24).drop 24).drop 24).drop 24).drop 24).drop 24).drop 24).drop 24).drop 24).drop 24), List.all_append, w_t13, ← List.take_append_drop 24 (((((((((((((words1.drop 24).drop 24).drop 24).drop 24).drop 24).drop 24).drop 24).drop 24).drop 24).drop 24).drop 24).drop 24).drop 24), List.all_append, w_t14, ← List.take_append_drop 24 ((((((((((((((words1.drop 24).drop 24).drop 24).drop 24).drop 24).drop 24).drop 24).drop 24).drop 24).drop 24).drop 24).drop 24).drop 24).drop 24), List.all_append, w_t15, w_t16]
  rfl
set_option maxRecDepth 65536 in
theorem w_rest : rest_1_c.before args0 about1 = true := by decide +kernel
set_option maxRecDepth 65536 in
theorem w_case : (Jvm.Cond.and given_1 narrow_1).before args0 about1 = true := by decide +kernel
set_option maxRecDepth 65536 in
theorem w_consts : constsHeld consts_1 about1 := Jvm.Lit.constsHeldB_iff.mp (by decide +kernel)
theorem w_applies : (headSpec (Jvm.Cond.code x code maxLocals ret :: tables_1) room_1).applies x e0.platform about1 = true :=
  (Spec.applies_iff w_frames).mpr ⟨w_running, w_runnable, w_alone, w_named, w_hears, w_ripe, w_room, w_tables⟩
theorem atStart : AtStart classFile x code maxLocals ret World_1 tables_1 room_1 Calls_1 rest_1 Pre_1 launch0 p0 e0 about1 theMethod args0 below0 :=
  ⟨lists_1, trivial, launch0.admits_env _ _ _, launch0.least_env, fairChoices_fair.cas, fairChoices_fair.clock, w_frames, w_args, w_heap, w_applies, ⟨w_consts, trivial⟩, w_rest, w_case⟩
end start1
theorem witness_1 : WitnessClaimed_1 := ⟨start1.p0, start1.e0, start1.about1, start1.theMethod, start1.args0, start1.below0, start1.atStart⟩
end Jvm.Pilot.@@N@@
