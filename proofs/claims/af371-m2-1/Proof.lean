import JvmDerived
import JvmDerived.Pilot.@@N@@Statement
import JvmDerived.Pilot.@@N@@Code
set_option linter.unusedVariables false
set_option linter.unusedSimpArgs false
namespace Jvm.RoadKit
open Sem ClassFile Op Lib Jvm.Stand Jvm.Free Jvm.LawKit
section New
variable {p : Program} {l : Launch} {e : Env} {R : Room} {s : State} {m : MethodId} {args : Array Value} {below : List Frame} {meth : Method} {c : Code} {T : State} {locs : List Loc} {cells slots : Nat}
theorem retI (X : Stand p l e R s m args below meth c T locs cells slots) (hx : p.tables.exec = Jvm.exec) {pc : Nat} {Ls : Array Slot} {z : Int32} {rest : List Value} (hret : meth.sig.returnType = some .int) (hd : decode c.code pc = .ok (.ireturn, 1)) {fs : List Frame}
    (hl : ∀ (f : JFrame) (acts : List Action), f.method = m → f.locked = none → f.entered = [] → (doReturn e (T.setTop f) acts (some (.int z))).1 = T.setFrames fs) : Steps p.tables e below (T.setTop (mkF m pc Ls (.int z :: rest))) (T.setFrames fs) := by
  have hm' : T.vm.method? m = some meth := X.method'
  have hn : narrow .int (.int z) = .int z := rfl
  show Steps p.tables e below (T.setTop { method := m, pc := pc, locals := Ls, stack := _ :: rest, locked := none }) _
  jvm_step X.here [X.here.top, hx, hd, hm', hret, hn]
  first | (intro acts; rw [hl _ acts rfl rfl rfl]) | rw [hl _ _ rfl rfl rfl]
  exact Steps.refl _
end New
theorem mi {α : Type _} {l : List α} {a : α} (i : Nat) (h : l[i]? = some a) : a ∈ l := List.mem_of_getElem? h
abbrev DK (c : ByteArray) (pc : Nat) (i : Instr) (n : Nat) : Prop := decode c pc = .ok (i, n)
theorem own_hd {c : Code} {code : ByteArray} {D : List (Nat × Instr × Nat)} (h : c.code = code) (E : ∀ x ∈ D, DK code x.1 x.2.1 x.2.2) (i : Nat) {pc : Nat} {I : Instr} {n : Nat} (hi : D[i]? = some (pc, I, n)) : decode c.code pc = .ok (I, n) := by
  rw [h]; exact E (pc, I, n) (List.mem_of_getElem? hi)
abbrev Go (p : Program) (e : Env) (below : List Frame) (T : State) (f : JFrame) (A : State) : Prop := ∀ t, Steps p.tables e below (T.setTop f) t → Steps p.tables e below A t
abbrev own_M (l : Launch) (y : MethodName) (cd : Jvm.Cond) (ws : List Jvm.Cond) (R : Room) (a : Array Value) (Z : State) (h0 : Heap) (Q : Option Value → Heap → List Loc → Prop) : Prop :=
  MetFree l y (head1 (cd :: ws) R) (fun a' U => a' = a ∧ Z.Warmed39 U.vm ∧ U.heap = h0) (fun _ _ _ _ _ => True) (fun _ U o U' => ∃ v L, o = .returned v ∧ Q v U'.heap L ∧ FrameEnd U o U' L R.cells R.slots)
abbrev own_X (p : Program) (e : Env) (below : List Frame) (A0 s : State) (R : Room) (Q : Option Value → Heap → List Loc → Prop) : Prop :=
  ∃ s₂ o, Steps p.tables e below A0 s₂ ∧ s₂.status = .running ∧ Ended s₂ below o ∧ ∃ v L, o = .returned v ∧ Q v s₂.heap L ∧ FrameEnd s o s₂ L R.cells R.slots
theorem own_open {l : Launch} {y : MethodName} {code : ByteArray} {ml : Nat} {ret : Option FieldType} {ws : List Jvm.Cond} {R : Room} {a : Array Value} {Z : State} {h0 : Heap} {Q : Option Value → Heap → List Loc → Prop} (n0 : Nat) (pn : plainFor y = true) {lo : Array Slot} (hef : ∀ m, entryFrame m a ml = mkF m 0 lo [])
    (H : ∀ (p : Program) (e : Env) (s : State) (m : MethodId) (below : List Frame) (meth : Method) (c : Code) (s₁ A0 : State), BodyLoose p l y (head1 (Jvm.Cond.code y code ml ret :: ws) R) code ml ret e s m a below meth c s₁ → p.tables.exec = Jvm.exec → c.code = code → c.maxLocals = ml → s.vm.findClass y.cls = some m.cls → meth.name = y.name → Z.Warmed39 s.vm → s.heap = h0 → Stand p l e R s m a below meth c s₁ [] 0 0 → s₁.heap = h0 → Fr n0 [] → Go p e below s₁ (mkF m 0 lo []) A0 → own_X p e below A0 s R Q) :
    own_M l y (Jvm.Cond.code y code ml ret) ws R a Z h0 Q := by
  refine MetFree.of_bodySF pn hisR ?_
  intro p e s m args below meth c s₁ Bd hml0 hP hK
  obtain ⟨rfl, hZ, hh⟩ := hP
  exact H p e s m below meth c s₁ _ Bd Bd.exec Bd.bytes hml0 (findClass_of_methodNamed Bd.named) (name_of_methodNamed Bd.named Bd.method).1 hZ hh (Stand.of_body Bd) (by rw [← hh, Bd.state]; rfl) (Fr.nil n0) (fun t kont => castTop (hef m) kont)
theorem own_leave {p : Program} {l : Launch} {e : Env} {R R' : Room} {s : State} {m : MethodId} {args : Array Value} {below : List Frame} {meth : Method} {c : Code} {T : State} {locs : List Loc} {cells slots : Nat} {Q : Option Value → Heap → List Loc → Prop} {y : MethodName} {S : Spec} {code : ByteArray} {ml : Nat} {ret : Option FieldType} {s₁ A0 : State} (X : Stand p l e R s m args below meth c T locs cells slots) (Bd : BodyLoose p l y S code ml ret e s m args below meth c s₁) (v : Option Value) (hv : ret = none → v = none) {f : JFrame} (g : Go p e below T f A0)
    (hr : ∀ fs, (∀ (f : JFrame) (acts : List Action), f.method = m → f.locked = none → f.entered = [] → (doReturn e (T.setTop f) acts v).1 = T.setFrames fs) → Steps p.tables e below (T.setTop f) (T.setFrames fs))
    (hc : cells ≤ R'.cells) (hs : slots ≤ R'.slots) (hQ : Q v T.heap locs) : own_X p e below A0 s R' Q := by
  obtain ⟨fs, h1, hrun, hended, hW, hsame⟩ := X.leave (v := v) (fun h => hv (Bd.returns.symm.trans h)) Bd.notSynchronized
  exact ⟨_, _, g _ (hr fs h1), hrun, hended, _, _, rfl, hQ, ⟨_, rfl⟩, hW, hsame.mono hc hs⟩
section Call
variable {p : Program} {l : Launch} {e : Env} {R : Room} {s : State} {m : MethodId} {args : Array Value} {below : List Frame} {meth : Method} {c : Code} {T : State} {locs : List Loc} {cells slots : Nat} {Z A0 : State} {a0 : Array Value} {h : Heap} {own C : String} {index : Nat} {y z : MethodName} {bytes : ByteArray} {maxL : Nat} {ret : Option FieldType} {rm : Room} {Q : Option Value → Heap → List Loc → Prop} {pc : Nat} {Ls : Array Slot} {argsL stk : List Value} {b : Addr}
abbrev own_np (y : MethodName) : Prop := y.cls ≠ "java/lang/invoke/MethodHandle" ∧ y.cls ≠ "java/lang/invoke/VarHandle"
def own_wdS (a0 : Array Value) (Z : State) (y : MethodName) (bytes : ByteArray) (maxL : Nat) (ret : Option FieldType) : Prop := (Cond.static y).before a0 Z = true ∧ (Cond.initialized y.cls).before a0 Z = true ∧ (Cond.code y bytes maxL ret).before a0 Z = true ∧ own_np y
def own_wdV (a0 : Array Value) (Z : State) (C : String) (y z : MethodName) (bytes : ByteArray) (maxL : Nat) (ret : Option FieldType) : Prop := (Cond.declares y).before a0 Z = true ∧ (Cond.selects C y z).before a0 Z = true ∧ (Cond.instanceMethod z).before a0 Z = true ∧ (Cond.initialized z.cls).before a0 Z = true ∧ (Cond.code z bytes maxL ret).before a0 Z = true ∧ own_np y
def own_wdP (a0 : Array Value) (Z : State) (y : MethodName) (bytes : ByteArray) (maxL : Nat) (ret : Option FieldType) : Prop := (Cond.instanceMethod y).before a0 Z = true ∧ (Cond.selects y.cls y y).before a0 Z = true ∧ (Cond.privateMethod y).before a0 Z = true ∧ (Cond.initialized y.cls).before a0 Z = true ∧ (Cond.code y bytes maxL ret).before a0 Z = true ∧ own_np y
def own_wdI (a0 : Array Value) (Z : State) (y : MethodName) (bytes : ByteArray) (maxL : Nat) : Prop := (Cond.instanceMethod y).before a0 Z = true ∧ (Cond.initialized y.cls).before a0 Z = true ∧ (Cond.code y bytes maxL none).before a0 Z = true ∧ own_np y ∧ y.name = "<init>"
theorem own_callS (X : Stand p l e R s m args below meth c T locs cells slots) (hx : p.tables.exec = Jvm.exec) (hZ : Z.Warmed39 s.vm) (hown : s.vm.findClass own = some m.cls)
    (w1 : (Cond.methodLink own index y).before a0 Z = true) (wd : own_wdS a0 Z y bytes maxL ret)
    (hM : own_M l y (Cond.code y bytes maxL ret) [] rm argsL.toArray Z h Q) (g : Go p e below T (mkF m pc Ls stk) A0) (E : T.heap = h) (rest : List Value) (hst : stk = argsL.reverse ++ rest) (hlen : ∀ sig, parseMethodDescriptor y.desc = some sig → argsL.length = sig.parameters.length) (hd : decode c.code pc = .ok (.invokestatic index, 3)) (hsize : Ls.size = c.maxLocals) (W : Nat) (hW : (rest.map fun v => v.category).sum = W) (hR : rm.frames + 1 ≤ R.frames ∧ W + (maxL + 11) + rm.locals ≤ R.locals ∧ cells + rm.cells ≤ R.cells ∧ slots + rm.slots ≤ R.slots) :
    ∃ v L T', Q v T'.heap L ∧ Stand p l e R s m args below meth c T' (locs ++ L) (cells + rm.cells) (slots + rm.slots) ∧ Go p e below T' (mkF m (pc + 3) Ls (v.toList ++ rest)) A0 := by
  obtain ⟨w2, w3, w4, hy⟩ := wd
  obtain ⟨hf, hl, hc, hs⟩ := hR
  obtain ⟨v, _, ⟨T', L', k', n'⟩, -, X', ⟨L, hQ, e1, e2, e3⟩, st⟩ := Jvm.LawKit.callS X hx hown (mvT hZ w1) (mvT hZ w2) (mvT hZ w3) (mvT hZ w4) hy (backOf (W := W) hM hZ w4 w3 hf hl) (g := mkF m pc Ls stk) rfl hsize (argsL := argsL) (rest := rest) hlen hst (by show 2 * 0 + _ ≤ _; omega) hd (fun _ _ => ⟨rfl, E, hc, hs⟩)
  dsimp only [Pt.U, Pt.locs, Pt.cells, Pt.slots] at X' e1 e2 e3 st hQ
  subst e1 e2 e3
  exact ⟨v, L, T', hQ, X', fun t kont => g t (st t kont)⟩
theorem own_callV (X : Stand p l e R s m args below meth c T locs cells slots) (hx : p.tables.exec = Jvm.exec) (hZ : Z.Warmed39 s.vm) (hown : s.vm.findClass own = some m.cls)
    (w1 : (Cond.methodLink own index y).before a0 Z = true) (wd : own_wdV a0 Z C y z bytes maxL ret) (nf : NotFace s y) (Ex : Exa Z h b C)
    (hM : own_M l z (Cond.code z bytes maxL ret) [] rm (Value.ref b :: argsL).toArray Z h Q) (g : Go p e below T (mkF m pc Ls stk) A0) (E : T.heap = h) (rest : List Value) (hst : stk = argsL.reverse ++ .ref b :: rest) (hlen : ∀ sig, parseMethodDescriptor y.desc = some sig → argsL.length = sig.parameters.length) (hd : decode c.code pc = .ok (.invokevirtual index, 3)) (hsize : Ls.size = c.maxLocals) (W : Nat) (hW : (rest.map fun v => v.category).sum = W) (hR : rm.frames + 1 ≤ R.frames ∧ W + (maxL + 11) + rm.locals ≤ R.locals ∧ cells + rm.cells ≤ R.cells ∧ slots + rm.slots ≤ R.slots) :
    ∃ v L T', Q v T'.heap L ∧ Stand p l e R s m args below meth c T' (locs ++ L) (cells + rm.cells) (slots + rm.slots) ∧ Go p e below T' (mkF m (pc + 3) Ls (v.toList ++ rest)) A0 := by
  obtain ⟨w2, w5, w6, w3, w4, hy⟩ := wd
  obtain ⟨hf, hl, hc, hs⟩ := hR
  obtain ⟨_, _, q1, -, q3⟩ := isOf hZ E Ex
  obtain ⟨v, _, ⟨T', L', k', n'⟩, -, X', ⟨L, hQ, e1, e2, e3⟩, st⟩ := X.virtualBack hx hown (mvT hZ w1) (mvT hZ w2) nf (mvT hZ w5) (mvT hZ w6) hy (backOf (W := W) hM hZ w4 w3 hf hl) q1 q3 (g := mkF m pc Ls stk) rfl hsize (Steps.refl _) (argsL := argsL) (rest := rest) hlen hst (by show 2 * 0 + _ ≤ _; omega) hd (fun _ _ => ⟨rfl, E, hc, hs⟩)
  dsimp only [Pt.U, Pt.locs, Pt.cells, Pt.slots] at X' e1 e2 e3 st hQ
  subst e1 e2 e3
  exact ⟨v, L, T', hQ, X', fun t kont => g t (st.trans kont)⟩
theorem own_callP (X : Stand p l e R s m args below meth c T locs cells slots) (hx : p.tables.exec = Jvm.exec) (hZ : Z.Warmed39 s.vm) (hown : s.vm.findClass own = some m.cls)
    (w1 : (Cond.methodLink own index y).before a0 Z = true) (wd : own_wdP a0 Z y bytes maxL ret) (Ex : Exa Z h b C)
    (hM : own_M l y (Cond.code y bytes maxL ret) [] rm (Value.ref b :: argsL).toArray Z h Q) (g : Go p e below T (mkF m pc Ls stk) A0) (E : T.heap = h) (rest : List Value) (hst : stk = argsL.reverse ++ .ref b :: rest) (hlen : ∀ sig, parseMethodDescriptor y.desc = some sig → argsL.length = sig.parameters.length) (hd : decode c.code pc = .ok (.invokevirtual index, 3)) (hsize : Ls.size = c.maxLocals) (W : Nat) (hW : (rest.map fun v => v.category).sum = W) (hR : rm.frames + 1 ≤ R.frames ∧ W + (maxL + 11) + rm.locals ≤ R.locals ∧ cells + rm.cells ≤ R.cells ∧ slots + rm.slots ≤ R.slots) :
    ∃ v L T', Q v T'.heap L ∧ Stand p l e R s m args below meth c T' (locs ++ L) (cells + rm.cells) (slots + rm.slots) ∧ Go p e below T' (mkF m (pc + 3) Ls (v.toList ++ rest)) A0 := by
  obtain ⟨w2, w5, w6, w3, w4, hy⟩ := wd
  obtain ⟨hf, hl, hc, hs⟩ := hR
  obtain ⟨_, q1, q2⟩ := Ex.cell
  obtain ⟨v, _, ⟨T', L', k', n'⟩, -, X', ⟨L, hQ, e1, e2, e3⟩, st⟩ := X.privateBack hx hown (mvT hZ w1) (mvT hZ w2) (mvT hZ w5) (Cond.privateMethod_at (mvP hZ w6 (args := #[]))) (mvT hZ w4) hy (backOf (W := W) hM hZ w4 w3 hf hl) (g := mkF m pc Ls stk) rfl hsize (Steps.refl _) (a := b) (by rw [E]; exact q1) q2 (argsL := argsL) (rest := rest) hlen hst (by show 2 * 0 + _ ≤ _; omega) hd (fun _ _ => ⟨rfl, E, hc, hs⟩)
  dsimp only [Pt.U, Pt.locs, Pt.cells, Pt.slots] at X' e1 e2 e3 st hQ
  subst e1 e2 e3
  exact ⟨v, L, T', hQ, X', fun t kont => g t (st.trans kont)⟩
theorem own_callI (X : Stand p l e R s m args below meth c T locs cells slots) (hx : p.tables.exec = Jvm.exec) (hZ : Z.Warmed39 s.vm) (hown : s.vm.findClass own = some m.cls)
    (w1 : (Cond.methodLink own index y).before a0 Z = true) (wd : own_wdI a0 Z y bytes maxL)
    (hM : own_M l y (Cond.code y bytes maxL none) [] rm (Value.ref b :: argsL).toArray Z h Q) (g : Go p e below T (mkF m pc Ls stk) A0) (E : T.heap = h) (rest : List Value) (hst : stk = argsL.reverse ++ .ref b :: rest) (hlen : ∀ sig, parseMethodDescriptor y.desc = some sig → argsL.length = sig.parameters.length) (hd : decode c.code pc = .ok (.invokespecial index, 3)) (hsize : Ls.size = c.maxLocals) (W : Nat) (hW : (rest.map fun v => v.category).sum = W) (hR : rm.frames + 1 ≤ R.frames ∧ W + (maxL + 11) + rm.locals ≤ R.locals ∧ cells + rm.cells ≤ R.cells ∧ slots + rm.slots ≤ R.slots) :
    ∃ v L T', Q v T'.heap L ∧ Stand p l e R s m args below meth c T' (locs ++ L) (cells + rm.cells) (slots + rm.slots) ∧ Go p e below T' (mkF m (pc + 3) Ls (v.toList ++ rest)) A0 := by
  obtain ⟨w2, w3, w4, hy, hy1⟩ := wd
  obtain ⟨hf, hl, hc, hs⟩ := hR
  obtain ⟨v, _, ⟨T', L', k', n'⟩, -, X', ⟨L, hQ, e1, e2, e3⟩, st⟩ := X.specialBack hx hy1 hown (mvT hZ w1) (mvT hZ w2) (mvT hZ w4) hy (backOf (W := W) hM hZ w4 w3 hf hl) (g := mkF m pc Ls stk) rfl hsize (Steps.refl _) (a := b) (argsL := argsL) (rest := rest) hlen hst (by show 2 * 0 + _ ≤ _; omega) hd (fun _ _ => ⟨rfl, E, hc, hs⟩)
  dsimp only [Pt.U, Pt.locs, Pt.cells, Pt.slots] at X' e1 e2 e3 st hQ
  subst e1 e2 e3
  exact ⟨v, L, T', hQ, X', fun t kont => g t (st.trans kont)⟩
theorem own_getF (X : Stand p l e R s m args below meth c T locs cells slots) (hx : p.tables.exec = Jvm.exec) (hZ : Z.Warmed39 s.vm) {R0 O n d : String} (hown : s.vm.findClass own = some m.cls) (w : (Cond.fieldLink own index R0 n d).before a0 Z = true) (via : Via Z R0 O n d) (eT : T.heap = h) {v : Value} (F : Fld Z h b O n d v) (g : Go p e below T (mkF m pc Ls (.ref b :: stk)) A0) (hd : decode c.code pc = .ok (.getfield index, 3)) :
    ∃ T', Stand p l e R s m args below meth c T' locs cells slots ∧ T'.heap = h ∧ Go p e below T' (mkF m (pc + 3) Ls (v :: stk)) A0 := by
  obtain ⟨T', X', e', st⟩ := getF X hx hZ hown (host := "") (Or.inl w) via eT F (g := mkF m pc Ls (.ref b :: stk)) rfl rfl hd
  exact ⟨T', X', e', fun t kont => g t (st t kont)⟩
theorem jA (X : Stand p l e R s m args below meth c T locs cells slots) (hx : p.tables.exec = Jvm.exec) (g : Go p e below T (mkF m pc Ls stk) A0) {k : Fin 4} {v : Value} (hd : decode c.code pc = .ok (.aload_n k, 1)) (hl : Ls[k.val]? = some (.val v)) (hv : v.isRef = true) : Go p e below T (mkF m (pc + 1) Ls (v :: stk)) A0 := fun _ k => g _ (XS.aloadN X.here hx rfl hd hl hv k)
theorem ja (X : Stand p l e R s m args below meth c T locs cells slots) (hx : p.tables.exec = Jvm.exec) (g : Go p e below T (mkF m pc Ls stk) A0) {k : Nat} {v : Value} (hd : decode c.code pc = .ok (.aload k, 2)) (hl : Ls[k]? = some (.val v)) (hv : v.isRef = true) : Go p e below T (mkF m (pc + 2) Ls (v :: stk)) A0 := fun _ k => g _ (XS.aload X.here hx rfl hd hl hv k)
theorem ji (X : Stand p l e R s m args below meth c T locs cells slots) (hx : p.tables.exec = Jvm.exec) (g : Go p e below T (mkF m pc Ls stk) A0) {k : Nat} {v : Int32} (hd : decode c.code pc = .ok (.iload k, 2)) (hl : Ls[k]? = some (.val (.int v))) : Go p e below T (mkF m (pc + 2) Ls (.int v :: stk)) A0 := fun _ k => g _ (XS.iload X.here hx rfl hd hl k)
theorem jc (X : Stand p l e R s m args below meth c T locs cells slots) (hx : p.tables.exec = Jvm.exec) (g : Go p e below T (mkF m pc Ls stk) A0) {i : Int} (hd : decode c.code pc = .ok (.iconst i, 1)) (v : Int32) (hv : Int32.ofInt i = v) : Go p e below T (mkF m (pc + 1) Ls (.int v :: stk)) A0 := fun _ k => g _ (XS.iconst X.here hx rfl hd (hv ▸ k))
theorem jp (X : Stand p l e R s m args below meth c T locs cells slots) (hx : p.tables.exec = Jvm.exec) (g : Go p e below T (mkF m pc Ls stk) A0) {i : Int} (hd : decode c.code pc = .ok (.sipush i, 3)) (v : Int32) (hv : (Int16.ofInt i).toInt32 = v) : Go p e below T (mkF m (pc + 3) Ls (.int v :: stk)) A0 := fun _ k => g _ (XS.sipush X.here hx rfl hd (hv ▸ k))
theorem jS (X : Stand p l e R s m args below meth c T locs cells slots) (hx : p.tables.exec = Jvm.exec) (g : Go p e below T (mkF m pc Ls stk) A0) {k : Fin 4} {x : Int32} {rest : List Value} (hd : decode c.code pc = .ok (.istore_n k, 1)) (hs : stk = .int x :: rest) {l' : Array Slot} (hl : storeLocals Ls k.val (.int x) = some l') : Go p e below T (mkF m (pc + 1) l' rest) A0 := fun _ k => g _ (XS.istoreN X.here hx rfl hd hs hl k)
theorem js (X : Stand p l e R s m args below meth c T locs cells slots) (hx : p.tables.exec = Jvm.exec) (g : Go p e below T (mkF m pc Ls stk) A0) {k : Nat} {x : Int32} {rest : List Value} (hd : decode c.code pc = .ok (.istore k, 2)) (hs : stk = .int x :: rest) {l' : Array Slot} (hl : storeLocals Ls k (.int x) = some l') : Go p e below T (mkF m (pc + 2) l' rest) A0 := fun _ k => g _ (XS.istore X.here hx rfl hd hs hl k)
theorem jT (X : Stand p l e R s m args below meth c T locs cells slots) (hx : p.tables.exec = Jvm.exec) (g : Go p e below T (mkF m pc Ls stk) A0) {k : Fin 4} {x : Value} {rest : List Value} (hd : decode c.code pc = .ok (.astore_n k, 1)) (hs : stk = x :: rest) (hv : x.isRef = true) {l' : Array Slot} (hl : storeLocals Ls k.val x = some l') : Go p e below T (mkF m (pc + 1) l' rest) A0 := fun _ k => g _ (XS.astoreN X.here hx rfl hd hs hv hl k)
theorem jt (X : Stand p l e R s m args below meth c T locs cells slots) (hx : p.tables.exec = Jvm.exec) (g : Go p e below T (mkF m pc Ls stk) A0) {k : Nat} {x : Value} {rest : List Value} (hd : decode c.code pc = .ok (.astore k, 2)) (hs : stk = x :: rest) (hv : x.isRef = true) {l' : Array Slot} (hl : storeLocals Ls k x = some l') : Go p e below T (mkF m (pc + 2) l' rest) A0 := fun _ k => g _ (XS.astore X.here hx rfl hd hs hv hl k)
theorem jP (X : Stand p l e R s m args below meth c T locs cells slots) (hx : p.tables.exec = Jvm.exec) (g : Go p e below T (mkF m pc Ls stk) A0) {x y : Int32} {rest : List Value} (hd : decode c.code pc = .ok (.iadd, 1)) (hs : stk = .int y :: .int x :: rest) : Go p e below T (mkF m (pc + 1) Ls (.int (x + y) :: rest)) A0 := fun _ k => g _ (XS.iadd X.here hx rfl hd hs k)
theorem jB (X : Stand p l e R s m args below meth c T locs cells slots) (hx : p.tables.exec = Jvm.exec) (g : Go p e below T (mkF m pc Ls stk) A0) {x y : Int32} {rest : List Value} (hd : decode c.code pc = .ok (.iand, 1)) (hs : stk = .int y :: .int x :: rest) : Go p e below T (mkF m (pc + 1) Ls (.int (x &&& y) :: rest)) A0 := fun _ k => g _ (XS.iand X.here hx rfl hd hs k)
theorem jd (X : Stand p l e R s m args below meth c T locs cells slots) (hx : p.tables.exec = Jvm.exec) (g : Go p e below T (mkF m pc Ls stk) A0) {x : Value} {rest : List Value} (hd : decode c.code pc = .ok (.dup, 1)) (hs : stk = x :: rest) (hc : x.category = 1) : Go p e below T (mkF m (pc + 1) Ls (x :: x :: rest)) A0 := fun _ k => g _ (XS.dup X.here hx rfl hd hs hc k)
theorem jo (X : Stand p l e R s m args below meth c T locs cells slots) (hx : p.tables.exec = Jvm.exec) (g : Go p e below T (mkF m pc Ls stk) A0) {x : Value} {rest : List Value} (hd : decode c.code pc = .ok (.pop, 1)) (hs : stk = x :: rest) (hc : x.category = 1) : Go p e below T (mkF m (pc + 1) Ls rest) A0 := fun _ k => g _ (XS.pop X.here hx rfl hd hs hc k)
theorem jg (X : Stand p l e R s m args below meth c T locs cells slots) (hx : p.tables.exec = Jvm.exec) (g : Go p e below T (mkF m pc Ls stk) A0) {o : Int} {pc' : Nat} (hd : decode c.code pc = .ok (.goto o, 3)) (hp : 0 ≤ (pc : Int) + o ∧ ((pc : Int) + o).toNat = pc') : Go p e below T (mkF m pc' Ls stk) A0 := fun _ k => g _ (XS.goto X.here hx rfl rfl hd hp.1 hp.2 k)
theorem jY (X : Stand p l e R s m args below meth c T locs cells slots) (hx : p.tables.exec = Jvm.exec) (g : Go p e below T (mkF m pc Ls stk) A0) {cd : ClassFile.Cond} {x : Int32} {rest : List Value} {o : Int} {pc' : Nat} (hd : decode c.code pc = .ok (.ifCond cd o, 3)) (hs : stk = .int x :: rest) (hc : ifCond.holds cd x = true) (hp : 0 ≤ (pc : Int) + o ∧ ((pc : Int) + o).toNat = pc') : Go p e below T (mkF m pc' Ls rest) A0 := fun _ k => g _ (XS.ifYes X.here hx rfl rfl hd hs hc hp.1 hp.2 k)
theorem jN (X : Stand p l e R s m args below meth c T locs cells slots) (hx : p.tables.exec = Jvm.exec) (g : Go p e below T (mkF m pc Ls stk) A0) {cd : ClassFile.Cond} {x : Int32} {rest : List Value} {o : Int} (hd : decode c.code pc = .ok (.ifCond cd o, 3)) (hs : stk = .int x :: rest) (hc : ifCond.holds cd x = false) : Go p e below T (mkF m (pc + 3) Ls rest) A0 := fun _ k => g _ (XS.ifNo X.here hx rfl hd hs hc k)
theorem jy (X : Stand p l e R s m args below meth c T locs cells slots) (hx : p.tables.exec = Jvm.exec) (g : Go p e below T (mkF m pc Ls stk) A0) {cd : ClassFile.Cond} {x y : Int32} {rest : List Value} {o : Int} {pc' : Nat} (hd : decode c.code pc = .ok (.if_icmp cd o, 3)) (hs : stk = .int y :: .int x :: rest) (hc : if_icmp.holds cd x y = true) (hp : 0 ≤ (pc : Int) + o ∧ ((pc : Int) + o).toNat = pc') : Go p e below T (mkF m pc' Ls rest) A0 := fun _ k => g _ (XS.icmpYes X.here hx rfl rfl hd hs hc hp.1 hp.2 k)
theorem jn (X : Stand p l e R s m args below meth c T locs cells slots) (hx : p.tables.exec = Jvm.exec) (g : Go p e below T (mkF m pc Ls stk) A0) {cd : ClassFile.Cond} {x y : Int32} {rest : List Value} {o : Int} (hd : decode c.code pc = .ok (.if_icmp cd o, 3)) (hs : stk = .int y :: .int x :: rest) (hc : if_icmp.holds cd x y = false) : Go p e below T (mkF m (pc + 3) Ls rest) A0 := fun _ k => g _ (XS.icmpNo X.here hx rfl hd hs hc k)
theorem own_rwS {a b : Int32} (g : Go p e below T (mkF m pc Ls (.int a :: stk)) A0) (h : a = b) : Go p e below T (mkF m pc Ls (.int b :: stk)) A0 := h ▸ g
theorem own_getS (X : Stand p l e R s m args below meth c T locs cells slots) (hx : p.tables.exec = Jvm.exec) (hZ : Z.Warmed39 s.vm) {R0 O n d : String} (hown : s.vm.findClass own = some m.cls) (w : (Cond.fieldLink own index R0 n d).before a0 Z = true) (via : Via Z R0 O n d) (eT : T.heap = h) {v : Value} (F : Sta Z h O n d v) (g : Go p e below T (mkF m pc Ls stk) A0) (hd : decode c.code pc = .ok (.getstatic index, 3)) :
    ∃ T', Stand p l e R s m args below meth c T' locs cells slots ∧ T'.heap = h ∧ Go p e below T' (mkF m (pc + 3) Ls (v :: stk)) A0 := by
  obtain ⟨T', X', e', st⟩ := getS2 X hx hZ hown (host := "") (Or.inl w) via eT F (g := mkF m pc Ls stk) rfl hd
  exact ⟨T', X', e', fun t kont => g t (st t kont)⟩
theorem own_callF (X : Stand p l e R s m args below meth c T locs cells slots) (hx : p.tables.exec = Jvm.exec) (hZ : Z.Warmed39 s.vm) (hown : s.vm.findClass own = some m.cls) {count : Nat}
    (w1 : (Cond.methodLink own index y).before a0 Z = true) (w2 : (Cond.declares y).before a0 Z = true) (w7 : (Cond.interfaceMethod y.cls y.cls y.name y.desc).before args s = true) (w5 : (Cond.selects C y z).before a0 Z = true) (w6 : (Cond.instanceMethod z).before a0 Z = true) (w8 : (Cond.publicMethod z).before a0 Z = true) (w9 : (Cond.unhidden C y.name y.desc).before a0 Z = true) (wa : (Cond.castable C y.cls).before a0 Z = true) (w3 : (Cond.initialized z.cls).before a0 Z = true) (w4 : (Cond.code z bytes maxL ret).before a0 Z = true) (hy : own_np y) (Ex : Exa Z h b C)
    (hM : own_M l z (Cond.code z bytes maxL ret) [] rm (Value.ref b :: argsL).toArray Z h Q) (g : Go p e below T (mkF m pc Ls stk) A0) (E : T.heap = h) (rest : List Value) (hst : stk = argsL.reverse ++ .ref b :: rest) (hlen : ∀ sig, parseMethodDescriptor y.desc = some sig → argsL.length = sig.parameters.length) (hd : decode c.code pc = .ok (.invokeinterface index count, 5)) (hsize : Ls.size = c.maxLocals) (W : Nat) (hW : (rest.map fun v => v.category).sum = W) (hR : rm.frames + 1 ≤ R.frames ∧ W + (maxL + 11) + rm.locals ≤ R.locals ∧ cells + rm.cells ≤ R.cells ∧ slots + rm.slots ≤ R.slots) :
    ∃ v L T', Q v T'.heap L ∧ Stand p l e R s m args below meth c T' (locs ++ L) (cells + rm.cells) (slots + rm.slots) ∧ Go p e below T' (mkF m (pc + 5) Ls (v.toList ++ rest)) A0 := by
  obtain ⟨hf, hl, hc, hs⟩ := hR
  obtain ⟨_, _, q1, q2, q3⟩ := isOf hZ E Ex
  obtain ⟨v, _, ⟨T', L', k', n'⟩, -, X', ⟨L, hQ, e1, e2, e3⟩, st⟩ := X.interfaceBack hx hown (mvT hZ w1) (mvT hZ w2) w7 (mvT hZ w5) (mvT hZ w6) (mvT hZ w8) (mvT hZ w9) (mvT hZ wa) hy (backOf (W := W) hM hZ w4 w3 hf hl) q1 q2 q3 (g := mkF m pc Ls stk) rfl hsize (Steps.refl _) (argsL := argsL) (rest := rest) hlen hst (by show 2 * 0 + _ ≤ _; omega) hd (fun _ _ => ⟨rfl, E, hc, hs⟩)
  dsimp only [Pt.U, Pt.locs, Pt.cells, Pt.slots] at X' e1 e2 e3 st hQ
  subst e1 e2 e3
  exact ⟨v, L, T', hQ, X', fun t kont => g t (st.trans kont)⟩
theorem own_callW (X : Stand p l e R s m args below meth c T locs cells slots) (hx : p.tables.exec = Jvm.exec) (hZ : Z.Warmed39 s.vm) (hown : s.vm.findClass own = some m.cls) {owner : String}
    (w1 : (Cond.methodLink own index y).before a0 Z = true) (w7 : (Cond.sameMethod y.cls owner y.name y.desc).before a0 Z = true) (w2 : (Cond.declares ⟨owner, y.name, y.desc⟩).before a0 Z = true) (w5 : (Cond.selects C y z).before a0 Z = true) (w6 : (Cond.instanceMethod z).before a0 Z = true) (w3 : (Cond.initialized z.cls).before a0 Z = true) (w4 : (Cond.code z bytes maxL ret).before a0 Z = true) (hy : owner ≠ "java/lang/invoke/MethodHandle" ∧ owner ≠ "java/lang/invoke/VarHandle") (Ex : Exa Z h b C)
    (hM : own_M l z (Cond.code z bytes maxL ret) [] rm (Value.ref b :: argsL).toArray Z h Q) (g : Go p e below T (mkF m pc Ls stk) A0) (E : T.heap = h) (rest : List Value) (hst : stk = argsL.reverse ++ .ref b :: rest) (hlen : ∀ sig, parseMethodDescriptor y.desc = some sig → argsL.length = sig.parameters.length) (hd : decode c.code pc = .ok (.invokevirtual index, 3)) (hsize : Ls.size = c.maxLocals) (W : Nat) (hW : (rest.map fun v => v.category).sum = W) (hR : rm.frames + 1 ≤ R.frames ∧ W + (maxL + 11) + rm.locals ≤ R.locals ∧ cells + rm.cells ≤ R.cells ∧ slots + rm.slots ≤ R.slots) :
    ∃ v L T', Q v T'.heap L ∧ Stand p l e R s m args below meth c T' (locs ++ L) (cells + rm.cells) (slots + rm.slots) ∧ Go p e below T' (mkF m (pc + 3) Ls (v.toList ++ rest)) A0 := by
  obtain ⟨hf, hl, hc, hs⟩ := hR
  obtain ⟨_, _, q1, -, q3⟩ := isOf hZ E Ex
  obtain ⟨v, _, ⟨T', L', k', n'⟩, -, X', ⟨L, hQ, e1, e2, e3⟩, st⟩ := X.virtualBackUp hx hown (mvT hZ w1) (mvT hZ w7) (mvT hZ w2) hy (mvT hZ w5) (mvT hZ w6) (backOf (W := W) hM hZ w4 w3 hf hl) q1 q3 (g := mkF m pc Ls stk) rfl hsize (Steps.refl _) (argsL := argsL) (rest := rest) hlen hst (by show 2 * 0 + _ ≤ _; omega) hd (fun _ _ => ⟨rfl, E, hc, hs⟩)
  dsimp only [Pt.U, Pt.locs, Pt.cells, Pt.slots] at X' e1 e2 e3 st hQ
  subst e1 e2 e3
  exact ⟨v, L, T', hQ, X', fun t kont => g t (st.trans kont)⟩
end Call
theorem own_retA (w : Value) (h : w.isRef = true) (t : FieldType) (ht : t.isReference = true) : narrow t w = w := by
  cases w <;> simp [Value.isRef] at h <;> cases t <;> simp [FieldType.isReference] at ht <;> rfl
theorem own_fitA (w : Value) (h : w.isRef = true) (t : FieldType) (ht : t.isReference = true) : fits t w = true := by
  cases w <;> simp [Value.isRef] at h <;> cases t <;> simp [FieldType.isReference] at ht <;> rfl
theorem own_ft_boolean {z y : Int32} (e : nar .boolean z = y) : fits .boolean (.int y) = true := by rw [← e]; exact fits_nar_bool z
theorem own_nw_boolean {z y : Int32} (e : nar .boolean z = y) : narrow .boolean (.int z) = .int y := by rw [← e]; rfl
end Jvm.RoadKit
namespace Jvm.RoadKit
open Sem ClassFile Op Lib Jvm.Stand Jvm.Free Jvm.LawKit
theorem own_old_le {Z : State} {n0 : Nat} {h : Heap} (O : Old Z n0 h) : n0 ≤ h.size := O.1 ▸ O.2.1
theorem own_eqint {args : Array Value} {s : State} {t : Term} {k : Int32} (h : (Cond.eq t (.int k)).value args s none s [] = some true) : t.eval args s none [] s = some (.int k) := by
  obtain ⟨x, y, h1, h2, -, k2⟩ := cmp_v (Or.inl h)
  cases h2.symm.trans (Term.int_eval k)
  obtain ⟨z, rfl⟩ := k2
  have e : z = k := gotT (Cond.eq_ints h1 h2) h
  subst e
  exact h1
end Jvm.RoadKit
namespace Jvm.RoadKit
theorem own_lclt {x y : Int64} (h : x < y) : lcmpW x y < 0 := by rw [lcW]; exact (lc_lt x y).mpr h
theorem own_lcnlt {x y : Int64} (h : ¬ (x < y)) : ¬ (lcmpW x y < 0) := by rw [lcW]; exact fun q => h ((lc_lt x y).mp q)
theorem own_lcgt {x y : Int64} (h : y < x) : 0 < lcmpW x y := by rw [lcW]; exact (lc_gt x y).mpr h
theorem own_lcngt {x y : Int64} (h : ¬ (y < x)) : ¬ (0 < lcmpW x y) := by rw [lcW]; exact fun q => h ((lc_gt x y).mp q)
theorem own_lceq {x y : Int64} (h : x = y) : lcmpW x y = 0 := by rw [lcW]; exact (lc_eq x y).mpr h
theorem own_lcne {x y : Int64} (h : ¬ (x = y)) : ¬ (lcmpW x y = 0) := by rw [lcW]; exact fun q => h ((lc_eq x y).mp q)
theorem own_adx {x y : Int64} (hx : ¬ (x < (0 : Int64))) (hy : ¬ (y < (0 : Int64))) (hs : ¬ ((x + y) < (0 : Int64))) : ¬ (lcmpW ((x ^^^ (x + y)) &&& (y ^^^ (x + y))) (0 : Int64) < 0) := by
  refine own_lcnlt fun q => ?_
  have q' : ((x ^^^ (x + y)) &&& (y ^^^ (x + y))).toInt < 0 := Int64.lt_iff_toInt_lt.mp q
  have a : 0 ≤ x.toInt := by have := fun z => hx (Int64.lt_iff_toInt_lt.mpr z); exact Int.not_lt.mp this
  have b : 0 ≤ (x + y).toInt := by have := fun z => hs (Int64.lt_iff_toInt_lt.mpr z); exact Int.not_lt.mp this
  have c := (c_xorSL x (x + y)).2.2.2 a b
  have d := (c_andSL (x ^^^ (x + y)) (y ^^^ (x + y))).2.1 c
  omega
theorem own_addb {x y : Int64} {a a' b b' : Int} (hx : a ≤ x.toInt ∧ x.toInt ≤ a') (hy : b ≤ y.toInt ∧ y.toInt ≤ b') (h0 : 0 ≤ a + b) (h1 : a' + b' < 9223372036854775808) : a + b ≤ (x + y).toInt ∧ (x + y).toInt ≤ a' + b' := by
  have c := c_ladd x y
  have r := rng64 (x + y)
  omega
theorem own_nneg {x : Int64} {a b : Int} (h : a ≤ x.toInt ∧ x.toInt ≤ b) (h0 : 0 ≤ a) : ¬ (x < (0 : Int64)) := fun q => by
  have := Int64.lt_iff_toInt_lt.mp q
  have k : (0 : Int64).toInt = 0 := rfl
  omega
theorem own_ge1 {x : Int64} (h : ¬ (x < (1 : Int64))) : ¬ (x < (0 : Int64)) := fun q => h (by
  have := Int64.lt_iff_toInt_lt.mp q
  have k : (0 : Int64).toInt = 0 := rfl
  exact Int64.lt_iff_toInt_lt.mpr (by show x.toInt < 1; omega))
theorem own_n1 {x : Int64} {a b : Int} (h : a ≤ x.toInt ∧ x.toInt ≤ b) (h0 : 1 ≤ a) : ¬ (x < (1 : Int64)) := fun q => by
  have := Int64.lt_iff_toInt_lt.mp q
  have k : (1 : Int64).toInt = 1 := rfl
  omega
theorem own_n0 {x : Int64} {a b : Int} (h : a ≤ x.toInt ∧ x.toInt ≤ b) (h0 : 1 ≤ a) : ¬ (x = (0 : Int64)) := fun q => by
  subst q
  have k : (0 : Int64).toInt = 0 := rfl
  omega
theorem own_msk (x : Int64) : 1 ≤ ((x &&& (1152921504606846975 : Int64)) + (1 : Int64)).toInt ∧ ((x &&& (1152921504606846975 : Int64)) + (1 : Int64)).toInt ≤ 1152921504606846976 := by
  have q := c_maskL x 1152921504606846975 60 (by decide) (by decide)
  have r := c_ladd (x &&& (1152921504606846975 : Int64)) 1
  have k : (1 : Int64).toInt = 1 := rfl
  have g := rng64 ((x &&& (1152921504606846975 : Int64)) + 1)
  omega
theorem own_m3 (x : Int32) : (x &&& (3 : Int32)) = (0 : Int32) ∨ (x &&& (3 : Int32)) = (1 : Int32) ∨ (x &&& (3 : Int32)) = (2 : Int32) ∨ (x &&& (3 : Int32)) = (3 : Int32) := by
  have q := c_and x 3 (by decide)
  have k : (3 : Int32).toInt = 3 := rfl
  rcases (by omega : (x &&& 3).toInt = 0 ∨ (x &&& 3).toInt = 1 ∨ (x &&& 3).toInt = 2 ∨ (x &&& 3).toInt = 3) with h | h | h | h
  · exact Or.inl (Int32.toInt_inj.mp h)
  · exact Or.inr (Or.inl (Int32.toInt_inj.mp h))
  · exact Or.inr (Or.inr (Or.inl (Int32.toInt_inj.mp h)))
  · exact Or.inr (Or.inr (Or.inr (Int32.toInt_inj.mp h)))
theorem own_b0 : (0 : Int) ≤ (0 : Int64).toInt ∧ (0 : Int64).toInt ≤ 0 := by decide
theorem own_b1 : (1 : Int) ≤ (1 : Int64).toInt ∧ (1 : Int64).toInt ≤ 1 := by decide
def own_cmp (x y : Int64) : Int32 := if x < y then -1 else if x = y then 0 else 1
theorem own_cmpL {x y : Int64} (h : x < y) : own_cmp x y = (-1 : Int32) := if_pos h
theorem own_cmpE {x y : Int64} (h : x = y) : own_cmp x y = (0 : Int32) := by subst h; rw [own_cmp, if_neg (by rw [Int64.lt_iff_toInt_lt]; omega), if_pos rfl]
theorem own_cmpG {x y : Int64} (h : y < x) : own_cmp x y = (1 : Int32) := by
  have h' := Int64.lt_iff_toInt_lt.mp h
  rw [own_cmp, if_neg (by rw [Int64.lt_iff_toInt_lt]; omega), if_neg (fun q => by subst q; omega)]
theorem own_gt64 {x y : Int64} (h1 : ¬ (x < y)) (h2 : ¬ (x = y)) : y < x := by
  rw [Int64.lt_iff_toInt_lt] at h1 ⊢
  have : ¬ (x.toInt = y.toInt) := fun q => h2 (Int64.toInt_inj.mp q)
  omega
theorem own_lix {x : Int64} (h : ¬ (x < (-128 : Int64)) ∧ ¬ ((127 : Int64) < x)) : x.toInt32 + (128 : Int32) = Int32.ofNat (x.toInt + 128).toNat ∧ (x.toInt + 128).toNat < 256 ∧ Int64.ofInt ((((x.toInt + 128).toNat : Nat) : Int) - 128) = x := by
  have a : ¬ (x.toInt < -128) := fun q => h.1 (Int64.lt_iff_toInt_lt.mpr q)
  have b : ¬ (127 < x.toInt) := fun q => h.2 (Int64.lt_iff_toInt_lt.mpr q)
  refine ⟨?_, by omega, ?_⟩
  · apply Int32.toInt_inj.mp
    have c := c_iadd x.toInt32 128
    have d := c_l2i x
    have k : (128 : Int32).toInt = 128 := rfl
    have r1 := rng32 x.toInt32
    have r2 := rng32 (x.toInt32 + 128)
    rw [show (Int32.ofNat (x.toInt + 128).toNat).toInt = ((x.toInt + 128).toNat : Int) from Int32.toInt_ofNat_of_lt (by omega)]
    omega
  · apply Int64.toInt_inj.mp
    rw [show (((x.toInt + 128).toNat : Nat) : Int) - 128 = x.toInt by omega, Int64.ofInt_toInt]
end Jvm.RoadKit
namespace Jvm.RoadKit
open Sem ClassFile Op Lib Bundle Jvm.Stand Jvm.Free Jvm.LawKit Jvm.Lambda
theorem own_mReady {Z : State} {vm : Vm} (hZ : Z.Warmed39 vm) {c i : Nat} {m : MethodId} (h : Z.vm.methodReady c i m) : vm.methodReady c i m := by
  obtain ⟨k, hk, hr⟩ := h
  obtain ⟨k', hk', -, -, hres, -⟩ := hZ.2.2.2 _ _ hk
  refine ⟨k', hk', ?_⟩
  rcases hres i with q | ⟨q, -⟩
  · rw [q]; exact hr
  · rw [hr] at q; cases q
theorem own_cReady {Z : State} {vm : Vm} (hZ : Z.Warmed39 vm) {c i : Nat} {m : ClassId} (h : Z.vm.classReady c i m) : vm.classReady c i m := by
  obtain ⟨k, hk, hr⟩ := h
  obtain ⟨k', hk', -, -, hres, -⟩ := hZ.2.2.2 _ _ hk
  refine ⟨k', hk', ?_⟩
  rcases hres i with q | ⟨q, -⟩
  · rw [q]; exact hr
  · rw [hr] at q; cases q
def own_fcode : ByteArray := ⟨#[0x2b, 0xc0, 0x00, 0x0e, 0xb6, 0x00, 0x12, 0x2c, 0xc0, 0x00, 0x0e, 0xb6, 0x00, 0x12, 0xb8, 0x00, 0x16, 0xb8, 0x00, 0x1a, 0xb0]⟩
abbrev own_LG : String := "java/lang/Long"
/-- what the class that the rule makes must hold -/
def own_fwdOK (σ : Lambda.Shape) (host : String) : Bool :=
  plainName (host ++ "$$Lambda") && decide (σ.implClass = own_LG) && decide (σ.implName = "sum") && decide (σ.implDesc.toString = "(JJ)J") &&
  match σ.file host with
  | none => false
  | some D =>
    match (layoutMethods D).bind (·[1]?), D.constantPool[18]?, D.constantPool[22]?, D.constantPool[26]?, D.constantPool[14]? with
    | some f, some (CpInfo.methodref c1 n1), some (CpInfo.methodref c2 n2), some (CpInfo.methodref c3 n3), some (CpInfo.class_ n) =>
      decide ((f.code.map fun c => (c.code.data, c.maxLocals)) = some (own_fcode.data, 3)) && decide (f.accessFlags = 1) && decide (f.sig.returnType = some (.object "java/lang/Object")) && decide (c1 = 14 ∧ c2 = 14 ∧ c3 = 14) &&
      decide (D.constantPool.className? 14 = some own_LG) && decide (D.constantPool.nameAndType? n1 = some ("longValue", "()J")) && decide (D.constantPool.nameAndType? n2 = some ("sum", "(JJ)J")) && decide (D.constantPool.nameAndType? n3 = some ("valueOf", "(J)Ljava/lang/Long;")) && decide (D.constantPool.string? n = some own_LG) && decide (14 ≠ D.thisClass)
    | _, _, _, _, _ => false
/-- the made class, as it stands at Z -/
def own_MK (Z : State) (cK : ClassId) : Prop := ∃ (k : Class) (file : ClassFile) (methk : Method) (ck : Code) (lg : ClassId) (lk : Class) (n1 n2 n3 : Nat),
  Z.vm.classes[cK]? = some k ∧ plainName k.name = true ∧ k.cf = some file ∧ file.constantPool[18]? = some (.methodref 14 n1) ∧ file.constantPool[22]? = some (.methodref 14 n2) ∧ file.constantPool[26]? = some (.methodref 14 n3) ∧
  file.constantPool.nameAndType? n1 = some ("longValue", "()J") ∧ file.constantPool.nameAndType? n2 = some ("sum", "(JJ)J") ∧ file.constantPool.nameAndType? n3 = some ("valueOf", "(J)Ljava/lang/Long;") ∧
  Z.vm.method? ⟨cK, 1⟩ = some methk ∧ methk.code = some ck ∧ ck.code = own_fcode ∧ ck.maxLocals = 3 ∧ methk.locks = false ∧ methk.accessFlags = 1 ∧ methk.sig.returnType = some (.object "java/lang/Object") ∧
  Z.vm.findClass own_LG = some lg ∧ Z.vm.classes[lg]? = some lk ∧ Z.vm.classReady cK 14 lg ∧
  ∀ (i : Nat) (nm d : String) (mt : MethodId), (i = 18 ∧ nm = "longValue" ∧ d = "()J") ∨ (i = 22 ∧ nm = "sum" ∧ d = "(JJ)J") ∨ (i = 26 ∧ nm = "valueOf" ∧ d = "(J)Ljava/lang/Long;") → Z.methodNamed? ⟨own_LG, nm, d⟩ = some mt → Z.vm.methodReady cK i mt
theorem own_ask {Z : State} {lg : ClassId} {lk : Class} {nm d : String} {mt : MethodId} (hf : Z.vm.findClass own_LG = some lg) (hk : Z.vm.classes[lg]? = some lk) (hn : Z.methodNamed? ⟨own_LG, nm, d⟩ = some mt) : ((methodIn lg nm d lk.isInterface none).ask { classPath := fun _ => none } Z.vm).1 = .ok mt := by
  have h := State.methodFound?_of_named hn ⟨by show own_LG ≠ _; decide, by show own_LG ≠ _; decide⟩
  simp only [State.methodFound?, Option.bind_eq_bind, hf, hk, Option.bind_some] at h
  cases q : ((methodIn lg nm d lk.isInterface none).ask { classPath := fun _ => none } Z.vm).1 with
  | error x => rw [q] at h; cases h
  | ok t => rw [q] at h; cases h; rfl
theorem own_made {Z : State} {d c : ClassId} {dk : Class} {σ : Lambda.Shape} {host : String} (hok : own_fwdOK σ host = true) (hd : Z.vm.classes[d]? = some dk) (hname : dk.name = host) (h : isMade { classPath := fun _ => none } Z.vm d σ c = true) : own_MK Z c := by
  obtain ⟨dk', k, ok, tk, file, cf, object, iface, toy, lay, methods, target, found, hd', hk, hfile, hcf, -, -, -, -, hms, ht, htk, hg, -, hrec, -, -, -, -, hpool, hmeth, -, -, hres, -⟩ := isMade_spec h
  cases hd.symm.trans hd'
  rw [hname] at hcf
  unfold own_fwdOK at hok
  rw [hcf] at hok
  simp only [Bool.and_eq_true, decide_eq_true_eq] at hok
  obtain ⟨⟨⟨⟨hpn, hic⟩, hin⟩, hid⟩, hok⟩ := hok
  split at hok
  · rename_i f c1 n1 c2 n2 c3 n3 n hf h18 h22 h26 h14
    simp only [Bool.and_eq_true, decide_eq_true_eq] at hok
    obtain ⟨⟨⟨⟨⟨⟨⟨⟨⟨fc, ffl⟩, fr⟩, rfl, rfl, rfl⟩, hcn⟩, e1⟩, e2⟩, e3⟩, hs⟩, hne⟩ := hok
    rw [hms] at hf
    obtain ⟨b, hb, hsame⟩ := hmeth 1 f hf
    obtain ⟨-, -, hsig, hfl, x, y, hx, hy, -, hml, hcd, -⟩ := sameMethod_spec hsame
    rw [hx] at fc
    simp only [Option.map_some, Option.some.injEq, Prod.mk.injEq] at fc
    rw [hic] at ht
    refine ⟨k, file, b, y, toy, tk, n1, n2, n3, hk, by rw [hrec.1, hname]; exact hpn, hfile, by rw [hpool.2.1]; exact h18, by rw [hpool.2.1]; exact h22, by rw [hpool.2.1]; exact h26, by rw [hpool.2.1]; exact e1, by rw [hpool.2.1]; exact e2, by rw [hpool.2.1]; exact e3, by simp [Vm.method?, hk, hb], hy, ?_, by rw [hml]; exact fc.2, ?_, by rw [hfl]; exact ffl, by rw [hsig]; exact fr, ht, htk, ⟨k, hk, hres 14 _ (resolvedOf_class h14 hne hs ht)⟩, ?_⟩
    · rw [hcd]; exact ByteArray.ext fc.1
    · simp [Method.locks, Method.isSynchronized, hfl, ffl, hasFlag, Acc.synchronized]
    · intro i nm dd mt hi hn
      have hl := own_ask ht htk hn
      rcases hi with ⟨rfl, rfl, rfl⟩ | ⟨rfl, rfl, rfl⟩ | ⟨rfl, rfl, rfl⟩
      · exact ⟨k, hk, hres _ _ (resolvedOf_method h18 hcn ht htk e1 hl)⟩
      · exact ⟨k, hk, hres _ _ (resolvedOf_method h22 hcn ht htk e2 hl)⟩
      · exact ⟨k, hk, hres _ _ (resolvedOf_method h26 hcn ht htk e3 hl)⟩
  · cases hok
end Jvm.RoadKit
namespace Jvm.RoadKit
open Sem ClassFile Op Lib Bundle Jvm.Stand Jvm.Free Jvm.LawKit Jvm.Lambda
section Mk
variable {p : Program} {l : Launch} {e : Env} {R : Room} {s : State} {m : MethodId} {args : Array Value} {below : List Frame} {meth : Method} {c : Code} {T : State} {locs : List Loc} {cells slots : Nat} {Z A0 : State} {a0 : Array Value} {h : Heap} {y : MethodName} {bytes : ByteArray} {maxL : Nat} {ret : Option FieldType} {rm : Room} {Q : Option Value → Heap → List Loc → Prop} {pc i : Nat} {Ls : Array Slot} {argsL stk : List Value} {b : Addr}
theorem own_mkRef (hZ : Z.Warmed39 T.vm) (hMK : own_MK Z m.cls) (hi : (i = 22 ∧ y = ⟨own_LG, "sum", "(JJ)J"⟩) ∨ (i = 26 ∧ y = ⟨own_LG, "valueOf", "(J)Ljava/lang/Long;"⟩)) {mt : MethodId} (hn : Z.methodNamed? y = some mt) : plainRef T e m.cls i ∧ T.vm.methodReady m.cls i mt := by
  obtain ⟨k, file, methk, ck, lg, lk, n1, n2, n3, hk, -, hfile, -, h22, h26, -, e2, e3, -, -, -, -, -, -, -, hlg, hlk, hcr, hall⟩ := hMK
  obtain ⟨k', hk', ek⟩ := hZ.alike.2.2 _ _ hk
  obtain ⟨lk', hlk', el⟩ := hZ.alike.2.2 _ _ hlk
  have hfile' : k'.cf = some file := by rw [ek]; exact hfile
  obtain ⟨lk2, hlk2, hln⟩ := Vm.findClass_spec hlg
  cases hlk.symm.trans hlk2
  have hsp : ∀ z : Method, signaturePolymorphic lk' z = false := fun z => by
    have hn' : lk'.name = own_LG := by rw [el]; exact hln
    simp [signaturePolymorphic, hn', own_LG]
  rcases hi with ⟨rfl, rfl⟩ | ⟨rfl, rfl⟩
  · obtain ⟨b, hmem⟩ := memberRef_ask' (e := e) (vm := T.vm) (d := m.cls) (index := 22) hk' hfile' (Or.inl h22) e2
    exact ⟨⟨14, _, _, b, lg, lk', hmem, own_cReady hZ hcr, hlk', by simp [hsp]⟩, own_mReady hZ (hall _ _ _ _ (Or.inr (Or.inl ⟨rfl, rfl, rfl⟩)) hn)⟩
  · obtain ⟨b, hmem⟩ := memberRef_ask' (e := e) (vm := T.vm) (d := m.cls) (index := 26) hk' hfile' (Or.inl h26) e3
    exact ⟨⟨14, _, _, b, lg, lk', hmem, own_cReady hZ hcr, hlk', by simp [hsp]⟩, own_mReady hZ (hall _ _ _ _ (Or.inr (Or.inr ⟨rfl, rfl, rfl⟩)) hn)⟩
theorem own_namedT (hZ : Z.Warmed39 T.vm) {mt : MethodId} (hn : Z.methodNamed? y = some mt) : T.methodNamed? y = some mt := by
  have q : (Z.setVm T.vm).methodNamed? y = some mt := by rw [State.methodNamed?_setVm hZ.alike]; exact hn
  exact q
theorem own_mkS (X : Stand p l e R s m args below meth c T locs cells slots) (hx : p.tables.exec = Jvm.exec) (hZ : Z.Warmed39 s.vm) (hMK : own_MK Z m.cls) (hi : (i = 22 ∧ y = ⟨own_LG, "sum", "(JJ)J"⟩) ∨ (i = 26 ∧ y = ⟨own_LG, "valueOf", "(J)Ljava/lang/Long;"⟩)) (wd : own_wdS a0 Z y bytes maxL ret)
    (hM : own_M l y (Cond.code y bytes maxL ret) [] rm argsL.toArray Z h Q) (g : Go p e below T (mkF m pc Ls stk) A0) (E : T.heap = h) (rest : List Value) (hst : stk = argsL.reverse ++ rest) (hlen : ∀ sig, parseMethodDescriptor y.desc = some sig → argsL.length = sig.parameters.length) (hd : decode c.code pc = .ok (.invokestatic i, 3)) (hsize : Ls.size = c.maxLocals) (W : Nat) (hW : (rest.map fun v => v.category).sum = W) (hR : rm.frames + 1 ≤ R.frames ∧ W + (maxL + 11) + rm.locals ≤ R.locals ∧ cells + rm.cells ≤ R.cells ∧ slots + rm.slots ≤ R.slots) :
    ∃ v L T', Q v T'.heap L ∧ Stand p l e R s m args below meth c T' (locs ++ L) (cells + rm.cells) (slots + rm.slots) ∧ Go p e below T' (mkF m (pc + 3) Ls (v.toList ++ rest)) A0 := by
  obtain ⟨w2, w3, w4, hy⟩ := wd
  obtain ⟨hf, hl, hc, hs⟩ := hR
  have hT := wtrans hZ X.warmed
  obtain ⟨mt, hnZ⟩ := Cond.code_named w4
  have hnT := own_namedT hT hnZ
  obtain ⟨methT, cT, hmethT, -, -, -, -, -, -, hsigT⟩ := Cond.code_spec hnT (mvT (s := T) (args := #[]) hT w4)
  have hstT := Cond.static_spec hnT hmethT (mvT (s := T) (args := #[]) hT w2)
  obtain ⟨kT, hkT, hnmT⟩ := className_of_methodNamed hnT
  have hinit := Cond.initialized_spec (findClass_of_methodNamed hnT) hkT (mvT (s := T) (args := #[]) hT w3)
  have hpoly : signaturePolymorphic kT methT = false := by simp [signaturePolymorphic, hnmT, hy.1, hy.2]
  obtain ⟨href, hready⟩ := own_mkRef (e := e) hT hMK hi hnZ
  obtain ⟨v, ⟨T', L', k', n'⟩, X', ⟨L, hQ, e1, e2, e3⟩, st⟩ := backOf (len := 3) (p := p) (e := e) (below := below) (W := W) hM hZ w4 w3 hf hl m meth c ⟨T, locs, cells, slots⟩ (mkF m pc Ls rest) (.invokestatic i) mt argsL.toArray X rfl hsize hd (by show 2 * 0 + (rest.map fun v => v.category).sum ≤ W; omega) hnT ⟨rfl, E, hc, hs⟩
  dsimp only [Pt.U, Pt.locs, Pt.cells, Pt.slots] at X' e1 e2 e3 st hQ
  subst e1 e2 e3
  refine ⟨v, L, T', hQ, X', fun t kont => g t ?_⟩
  have hsU : T.topJava?.isSome := X.here.top
  show Steps p.tables e below (T.setTop (mkF m pc Ls stk)) t
  jvm_step X.here [hx, hd, invokestatic.wp_ready (e := e) (s := T) (m := mt) (k := kT) (meth := methT) (args := argsL) (rest := rest) (f := mkF m pc Ls stk) hsU href hready hkT hmethT hpoly hstT hinit (hlen _ hsigT) hst]
  intro acts'
  rw [doInvoke_state]
  exact st.trans kont
theorem own_mkC (X : Stand p l e R s m args below meth c T locs cells slots) (hx : p.tables.exec = Jvm.exec) (hZ : Z.Warmed39 s.vm) (hMK : own_MK Z m.cls) (Ex : Exa Z h b own_LG) (E : T.heap = h) (g : Go p e below T (mkF m pc Ls (.ref b :: stk)) A0) (hd : decode c.code pc = .ok (.checkcast 14, 3)) : Go p e below T (mkF m (pc + 3) Ls (.ref b :: stk)) A0 := by
  obtain ⟨k, file, methk, ck, lg, lk, n1, n2, n3, hk, -, hfile, -, -, -, -, -, -, -, -, -, -, -, -, -, hlg, hlk, hcr, -⟩ := hMK
  have hT := wtrans hZ X.warmed
  obtain ⟨lk', hlk', el⟩ := hT.alike.2.2 _ _ hlk
  obtain ⟨cell, kc, h1, h2, h3, h4, -⟩ := Ex
  cases hlg.symm.trans h2
  have hcell : T.heap[b]? = some cell := by rw [E]; exact h1
  intro t kont
  refine g t ?_
  have hsU : T.topJava?.isSome := X.here.top
  show Steps p.tables e below (T.setTop (mkF m pc Ls (.ref b :: stk))) t
  jvm_step X.here [hx, hd, checkcast.wp_ready (e := e) (s := T) (index := 14) (c := cell.cls) (x := .ref b) (rest := stk) (f := mkF m pc Ls (.ref b :: stk)) hsU (own_cReady hT hcr) rfl]
  refine ⟨cell, hcell, (fun z q => by rw [q] at h4; cases h4), lk', hlk', lk', hlk', ?_⟩
  rw [if_pos (Vm.assignable_self _ _)]
  exact kont
end Mk
end Jvm.RoadKit
namespace Jvm.RoadKit
open Sem ClassFile Op Lib Bundle Jvm.Stand Jvm.Free Jvm.LawKit Jvm.Lambda
section Mk
variable {p : Program} {l : Launch} {e : Env} {R : Room} {s : State} {m : MethodId} {args : Array Value} {below : List Frame} {meth : Method} {c : Code} {T : State} {locs : List Loc} {cells slots : Nat} {Z A0 : State} {a0 : Array Value} {h : Heap} {y : MethodName} {bytes : ByteArray} {maxL : Nat} {ret : Option FieldType} {rm : Room} {Q : Option Value → Heap → List Loc → Prop} {pc i : Nat} {Ls : Array Slot} {argsL stk : List Value} {b : Addr}
abbrev own_yV : MethodName := ⟨own_LG, "longValue", "()J"⟩
theorem own_mkV (X : Stand p l e R s m args below meth c T locs cells slots) (hx : p.tables.exec = Jvm.exec) (hZ : Z.Warmed39 s.vm) (hMK : own_MK Z m.cls) (w5 : (Cond.selects own_LG own_yV own_yV).before a0 Z = true) (w6 : (Cond.instanceMethod own_yV).before a0 Z = true) (w3 : (Cond.initialized own_yV.cls).before a0 Z = true) (w4 : (Cond.code own_yV bytes maxL ret).before a0 Z = true) (Ex : Exa Z h b own_LG)
    (hM : own_M l own_yV (Cond.code own_yV bytes maxL ret) [] rm #[.ref b] Z h Q) (g : Go p e below T (mkF m pc Ls stk) A0) (E : T.heap = h) (rest : List Value) (hst : stk = .ref b :: rest) (hlen : ∀ sig, parseMethodDescriptor own_yV.desc = some sig → ([] : List Value).length = sig.parameters.length) (hd : decode c.code pc = .ok (.invokevirtual 18, 3)) (hsize : Ls.size = c.maxLocals) (W : Nat) (hW : (rest.map fun v => v.category).sum = W) (hR : rm.frames + 1 ≤ R.frames ∧ W + (maxL + 11) + rm.locals ≤ R.locals ∧ cells + rm.cells ≤ R.cells ∧ slots + rm.slots ≤ R.slots) :
    ∃ v L T', Q v T'.heap L ∧ Stand p l e R s m args below meth c T' (locs ++ L) (cells + rm.cells) (slots + rm.slots) ∧ Go p e below T' (mkF m (pc + 3) Ls (v.toList ++ rest)) A0 := by
  obtain ⟨hf, hl, hc, hs⟩ := hR
  have hT := wtrans hZ X.warmed
  obtain ⟨mt, hnZ⟩ := Cond.code_named w4
  have hnT := own_namedT hT hnZ
  obtain ⟨methT, cT, hmethT, -, -, -, -, -, -, hsigT⟩ := Cond.code_spec hnT (mvT (s := T) (args := #[]) hT w4)
  obtain ⟨c0, r, m', hfc, hfound, hnm, hsel, mk, hmkc, hitf⟩ := Cond.selects_spec (mvT (s := T) (args := #[]) hT w5)
  cases hnT.symm.trans hnm
  have hfn := State.methodFound?_of_named hnT ⟨by decide, by decide⟩
  cases hfound.symm.trans hfn
  obtain ⟨m2, meth2, hn2, hm2, hst2, hab2⟩ := Cond.instanceMethod_spec (mvT (s := T) (args := #[]) hT w6)
  cases hnT.symm.trans hn2
  cases hmethT.symm.trans hm2
  obtain ⟨kT, hkT, hnmT⟩ := className_of_methodNamed hnT
  cases hmkc.symm.trans hkT
  have hpoly : signaturePolymorphic mk methT = false := by simp [signaturePolymorphic, hnmT, own_LG]
  obtain ⟨k, file, methk, ck, lg, lk, n1, n2, n3, hk, -, hfile, h18, -, -, e1', -, -, -, -, -, -, -, -, -, hlg, hlk, hcr, hall⟩ := hMK
  obtain ⟨k', hk', ek⟩ := hT.alike.2.2 _ _ hk
  have hfile' : k'.cf = some file := by rw [ek]; exact hfile
  have hcls : mt.cls = lg := by
    have q1 := findClass_of_methodNamed hnT
    have q2 : T.vm.findClass own_LG = some lg := by rw [hT.alike.findClass]; exact hlg
    exact Option.some.inj (q1.symm.trans q2)
  have hnames : namesAClass T m.cls 18 := ⟨k', file, 14, n1, lg, mk, hk', hfile', h18, own_cReady hT hcr, by rw [← hcls]; exact hmkc, hitf⟩
  have hready := own_mReady hT (hall 18 _ _ _ (Or.inl ⟨rfl, rfl, rfl⟩) hnZ)
  obtain ⟨cell, kc, h1, h2, h3, h4, -⟩ := Ex
  have hcell : T.heap[b]? = some cell := by rw [E]; exact h1
  have hcc : c0 = cell.cls := by
    have q2 : T.vm.findClass own_LG = some cell.cls := by rw [hT.alike.findClass]; exact h2
    exact Option.some.inj (hfc.symm.trans q2)
  subst hcc
  obtain ⟨v, ⟨T', L', k2, n'⟩, X', ⟨L, hQ, e1, e2, e3⟩, st⟩ := backOf (len := 3) (p := p) (e := e) (below := below) (W := W) hM hZ w4 w3 hf hl m meth c ⟨T, locs, cells, slots⟩ (mkF m pc Ls rest) (.invokevirtual 18) mt #[.ref b] X rfl hsize hd (by show 2 * 0 + (rest.map fun v => v.category).sum ≤ W; omega) hnT ⟨rfl, E, hc, hs⟩
  dsimp only [Pt.U, Pt.locs, Pt.cells, Pt.slots] at X' e1 e2 e3 st hQ
  subst e1 e2 e3
  refine ⟨v, L, T', hQ, X', fun t kont => g t ?_⟩
  have hsU : T.topJava?.isSome := X.here.top
  show Steps p.tables e below (T.setTop (mkF m pc Ls stk)) t
  jvm_step X.here [hx, hd, invokevirtual.wp_ready (e := e) (s := T) (index := 18) (a := b) (r := mt) (m := mt) (k := mk) (mk := mk) (rmeth := methT) (meth := methT) (args := []) (rest := rest) (cell := cell) (f := mkF m pc Ls stk) hsU hnames hready hmkc hmethT hpoly hst2 (hlen _ hsigT) hst hcell (fun z q => by rw [q] at h4; cases h4) (by rw [Launch.admits_selectMethod X.admits]; exact hsel) hmethT hab2 hmkc hitf]
  intro acts'
  rw [doInvoke_state]
  exact st.trans kont
end Mk
end Jvm.RoadKit
namespace Jvm.RoadKit
open Sem ClassFile Op Lib Bundle Jvm.Stand Jvm.Free Jvm.LawKit Jvm.Lambda
abbrev own_yA : MethodName := ⟨"java/util/function/BiFunction", "apply", "(Ljava/lang/Object;Ljava/lang/Object;)Ljava/lang/Object;"⟩
abbrev own_yS : MethodName := ⟨own_LG, "sum", "(JJ)J"⟩
abbrev own_yB : MethodName := ⟨own_LG, "valueOf", "(J)Ljava/lang/Long;"⟩
/-- the made class's method is what a call of the interface's method selects -/
def own_SL (Z : State) (cK : ClassId) : Prop := ∀ r0 r, Z.methodNamed? own_yA = some r0 → Z.vm.method? r0 = some r → Z.vm.assignable cK r0.cls = true ∧ selectMethod {} Z.vm cK r0 = .method ⟨cK, 1⟩ ∧ ((cK :: Z.vm.superclasses cK).any fun k => (declaredIn Z.vm r.name r.desc k).any fun (_, y) => y.isPrivate || y.isStatic) = false
theorem own_sel {Z : State} {a0 : Array Value} {d cK : ClassId} {σ : Lambda.Shape} (hmade : isMade { classPath := fun _ => none } Z.vm d σ cK = true) (hcan : Z.lambdaCallable σ cK = true) (hface : (Cond.interfaceMethod own_yA.cls own_yA.cls own_yA.name own_yA.desc).before a0 Z = true) (x1 : own_yA.cls = σ.iface) (x2 : own_yA.name = σ.name) (x3 : own_yA.desc = σ.sam.toString) : own_SL Z cK := fun r0 r hn hrm => by
  obtain ⟨cL, kL, r1, hcL, hkL, hiL, hfoundL, hn1⟩ := Cond.interfaceMethod_spec hface
  cases hn.symm.trans hn1
  have hr0cls : r0.cls = cL := Option.some.inj ((findClass_of_methodNamed hn).symm.trans hcL)
  obtain ⟨hnameR, hdescR⟩ := name_of_methodNamed hn hrm
  obtain ⟨-, -, -, -, -, -, -, iface', -, -, -, -, found, -, -, -, -, -, hi', -, -, -, -, -, -, hfound', -, -, -, -, -, -, -, -, -, -, hsel⟩ := Lambda.isMade_spec hmade
  rw [← x1] at hi'
  cases hcL.symm.trans hi'
  have hfr0 : found = r0 := by
    have h1 : Z.methodFound? own_yA.cls own_yA.name own_yA.desc = some r0 := hfoundL
    simp only [State.methodFound?, hcL, hkL, hiL, Option.bind_eq_bind, Option.bind_some] at h1
    rw [← x2, ← x3] at hfound'
    rw [hfound'] at h1
    exact Option.some.inj h1
  subst hfr0
  obtain ⟨i2, hi2, hasg, hway⟩ := State.lambdaCallable_spec hcan
  rw [← x1] at hi2
  cases hcL.symm.trans hi2
  exact ⟨by rw [hr0cls]; exact hasg, hsel, by rw [hnameR, hdescR, x2, x3]; exact hway⟩
/-- the function object at a -/
def own_Fn (h : Heap) (a : Addr) (cK : ClassId) : Prop := ∃ cell : Cell, h[a]? = some cell ∧ cell.cls = cK ∧ cell.vm = .none
section Mk
variable {p : Program} {l : Launch} {e : Env} {R R' : Room} {s : State} {m : MethodId} {args : Array Value} {below : List Frame} {meth : Method} {c : Code} {T : State} {locs : List Loc} {cells slots : Nat} {Z A0 : State} {a0 : Array Value} {h : Heap} {own : String} {index count : Nat} {pc : Nat} {Ls : Array Slot} {stk : List Value} {a k1 k2 : Addr} {x1 x2 : Int64} {cK : ClassId} {n0 : Nat} {bV bS bB : ByteArray} {mV mS mB : Nat} {rV rS rB : Option FieldType} {rmV rmS rmB : Room} {Q : Addr → Heap → Prop}
theorem own_fd0 : decode own_fcode 0 = .ok (.aload_n 1, 1) := by decide +kernel
theorem own_fd1 : decode own_fcode 1 = .ok (.checkcast 14, 3) := by decide +kernel
theorem own_fd4 : decode own_fcode 4 = .ok (.invokevirtual 18, 3) := by decide +kernel
theorem own_fd7 : decode own_fcode 7 = .ok (.aload_n 2, 1) := by decide +kernel
theorem own_fd8 : decode own_fcode 8 = .ok (.checkcast 14, 3) := by decide +kernel
theorem own_fd11 : decode own_fcode 11 = .ok (.invokevirtual 18, 3) := by decide +kernel
theorem own_fd14 : decode own_fcode 14 = .ok (.invokestatic 22, 3) := by decide +kernel
theorem own_fd17 : decode own_fcode 17 = .ok (.invokestatic 26, 3) := by decide +kernel
theorem own_fd20 : decode own_fcode 20 = .ok (.areturn, 1) := by decide +kernel
theorem own_lam (X : Stand p l e R s m args below meth c T locs cells slots) (hx : p.tables.exec = Jvm.exec) (hZ : Z.Warmed39 s.vm) (hown : s.vm.findClass own = some m.cls)
    (w1 : (Cond.methodLink own index own_yA).before a0 Z = true) (w2 : (Cond.declares own_yA).before a0 Z = true) (w3 : (Cond.interfaceMethod own_yA.cls own_yA.cls own_yA.name own_yA.desc).before a0 Z = true)
    (hMK : own_MK Z cK) (hSL : own_SL Z cK) (hfn : own_Fn h a cK) (E1 : Exa Z h k1 own_LG) (E2 : Exa Z h k2 own_LG)
    (wV1 : (Cond.selects own_LG own_yV own_yV).before a0 Z = true) (wV2 : (Cond.instanceMethod own_yV).before a0 Z = true) (wI : (Cond.initialized own_yV.cls).before a0 Z = true) (wV4 : (Cond.code own_yV bV mV rV).before a0 Z = true) (wdS : own_wdS a0 Z own_yS bS mS rS) (wdB : own_wdS a0 Z own_yB bB mB rB)
    (hM1 : own_M l own_yV (Cond.code own_yV bV mV rV) [] rmV #[.ref k1] Z h (fun v h' L => v = some (.long x1) ∧ Fr n0 L ∧ h' = h)) (hM2 : own_M l own_yV (Cond.code own_yV bV mV rV) [] rmV #[.ref k2] Z h (fun v h' L => v = some (.long x2) ∧ Fr n0 L ∧ h' = h))
    (hM3 : own_M l own_yS (Cond.code own_yS bS mS rS) [] rmS #[.long x1, .long x2] Z h (fun v h' L => v = some (.long (x1 + x2)) ∧ Fr n0 L ∧ h' = h)) (hM4 : own_M l own_yB (Cond.code own_yB bB mB rB) [] rmB #[.long (x1 + x2)] Z h (fun v h' L => ∃ rb, v = some (.ref rb) ∧ Fr n0 L ∧ Q rb h'))
    (g : Go p e below T (mkF m pc Ls stk) A0) (E : T.heap = h) (rest : List Value) (hst : stk = .ref k2 :: .ref k1 :: .ref a :: rest) (hd : decode c.code pc = .ok (.invokeinterface index count, 5)) (hsize : Ls.size = c.maxLocals) (W : Nat) (hW : (rest.map fun v => v.category).sum = W)
    (hz : rmV.cells = 0 ∧ rmV.slots = 0 ∧ rmS.cells = 0 ∧ rmS.slots = 0 ∧ R'.cells = rmB.cells ∧ R'.slots = rmB.slots) (hi : rmV.frames + 1 ≤ R'.frames ∧ rmS.frames + 1 ≤ R'.frames ∧ rmB.frames + 1 ≤ R'.frames ∧ 2 + (mV + 11) + rmV.locals ≤ R'.locals ∧ (mS + 11) + rmS.locals ≤ R'.locals ∧ (mB + 11) + rmB.locals ≤ R'.locals)
    (hR : R'.frames + 1 ≤ R.frames ∧ W + (3 + 11) + R'.locals ≤ R.locals ∧ cells + R'.cells ≤ R.cells ∧ slots + R'.slots ≤ R.slots) :
    ∃ rb L T', Q rb T'.heap ∧ Fr n0 L ∧ Stand p l e R s m args below meth c T' (locs ++ L) (cells + rmB.cells) (slots + rmB.slots) ∧ Go p e below T' (mkF m (pc + 5) Ls (.ref rb :: rest)) A0 := by
  obtain ⟨hf, hl, hc, hs⟩ := hR
  obtain ⟨z1, z2, z3, z4, z5, z6⟩ := hz
  obtain ⟨i1, i2, i3, i4, i5, i6⟩ := hi
  obtain ⟨cell, hcell, rfl, hvm⟩ := hfn
  -- the interface call selects the made method
  obtain ⟨r0, r, hnZ, hrmZ, hstR, hsigR⟩ := Cond.declares_spec w2
  obtain ⟨cL, kL, r1, hcL, hkL, hiL, -, hnL⟩ := Cond.interfaceMethod_spec w3
  cases hnZ.symm.trans hnL
  have hr0cls : r0.cls = cL := Option.some.inj ((findClass_of_methodNamed hnZ).symm.trans hcL)
  obtain ⟨hasg, hsel, hway⟩ := hSL r0 r hnZ hrmZ
  obtain ⟨kK, file, methk, ck, lg, lk, n1, n2, n3, hkK, hpn, hfile, q18, q22, q26, u1, u2, u3, hmk, hck, hbytes, hml, hlk, hfl, hretk, rest1⟩ := id hMK
  obtain ⟨kK', hkK', ekK⟩ := hZ.alike.2.2 _ _ hkK
  obtain ⟨kL', hkL', ekL⟩ := hZ.alike.2.2 _ _ hkL
  have hmks : s.vm.method? ⟨cell.cls, 1⟩ = some methk := by rw [hZ.alike.method?]; exact hmk
  obtain ⟨vm₁, X₁, hstep₁⟩ := X.invokeinterface hx hown (mvT hZ w1) (r0 := r0) (r := r) (own_namedT hZ hnZ) (by rw [hZ.alike.method?]; exact hrmZ) hstR (ki := kL') (by rw [hr0cls]; exact hkL') (by rw [ekL]; exact hiL) ⟨by decide, by decide⟩ (a := a) (cell := cell) (kcell := kK') (by rw [E]; exact hcell) (fun z q => by rw [hvm] at q; cases q) hkK'
    (by rw [hZ.alike.assignable]; exact hasg) (m' := ⟨cell.cls, 1⟩) (meth' := methk) (by rw [Launch.admits_selectMethod X.admits, hZ.alike.selectMethod]; exact hsel) hmks
    (by rw [hZ.alike.superclasses41]; simp only [hZ.alike.declaredIn]; exact hway) (by rw [hfl]; decide) (by simp [Method.isAbstract, hfl, hasFlag, Acc.abstract]) (g := mkF m pc Ls stk) rfl (argsL := [.ref k1, .ref k2]) (rest := rest) (by
      have q : parseMethodDescriptor own_yA.desc = some ⟨[.object "java/lang/Object", .object "java/lang/Object"], some (.object "java/lang/Object")⟩ := by decide +kernel
      have q' := Option.some.inj (q.symm.trans hsigR)
      rw [← q']; rfl) (by rw [show (mkF m pc Ls stk).stack = stk from rfl, hst]; rfl) hd
  -- into the forwarder
  have hT₁ : Z.Warmed39 (T.setVm vm₁).vm := wtrans hZ X₁.warmed
  have hmkT : (T.setVm vm₁).vm.method? ⟨cell.cls, 1⟩ = some methk := by rw [hT₁.alike.method?]; exact hmk
  have hpk : (T.setVm vm₁).plainMethod ⟨cell.cls, 1⟩ := State.plainMethod.of_name (fun k' hk' => by
    obtain ⟨k2, hk2, ek2⟩ := hT₁.alike.2.2 _ _ hkK
    cases hk2.symm.trans hk'
    rw [ek2]; exact hpn)
  obtain ⟨Y₀, hin⟩ := X₁.into (g := mkF m pc Ls rest) rfl hsize hd #[.ref a, .ref k1, .ref k2] (R' := R') hmkT hck hlk hpk hf (by rw [hml]; show 2 * 0 + (rest.map fun v => v.category).sum + (3 + 11) + R'.locals ≤ R.locals; omega) hc hs
  have hE : entryFrame ⟨cell.cls, 1⟩ #[.ref a, .ref k1, .ref k2] 3 = mkF ⟨cell.cls, 1⟩ 0 #[.val (.ref a), .val (.ref k1), .val (.ref k2)] [] := by first | (simp [entryFrame, mkF, argsToLocals, Value.category]; done) | rfl
  rw [hml, hE] at Y₀ hin
  generalize hU : ((T.setVm vm₁).setTop (mkF m pc Ls rest)).pushFrame (.java (mkF ⟨cell.cls, 1⟩ 0 #[.val (.ref a), .val (.ref k1), .val (.ref k2)] [])) = U at Y₀ hin
  have hheapU : U.heap = h := by rw [← hU]; exact E
  generalize hs' : (T.setVm vm₁).calling (mkF m pc Ls rest) ⟨cell.cls, 1⟩ #[.ref a, .ref k1, .ref k2] = s' at Y₀
  have hZ' : Z.Warmed39 s'.vm := by rw [← hs']; exact hT₁
  have D : ∀ {q : Nat} {r : Except DecodeError (Instr × Nat)}, decode own_fcode q = r → decode ck.code q = r := fun q => by rw [hbytes]; exact q
  have G0 : Go p e (.java (mkF m pc Ls rest) :: below) U (mkF ⟨cell.cls, 1⟩ 0 #[.val (.ref a), .val (.ref k1), .val (.ref k2)] []) (U.setTop (mkF ⟨cell.cls, 1⟩ 0 #[.val (.ref a), .val (.ref k1), .val (.ref k2)] [])) := fun t kt => kt
  generalize U.setTop (mkF ⟨cell.cls, 1⟩ 0 #[.val (.ref a), .val (.ref k1), .val (.ref k2)] []) = B0 at G0 hin
  have hls : (#[.val (.ref a), .val (.ref k1), .val (.ref k2)] : Array Slot).size = ck.maxLocals := by rw [hml]; rfl
  have lV : ∀ sig, parseMethodDescriptor own_yV.desc = some sig → ([] : List Value).length = sig.parameters.length := lenOf (show parseMethodDescriptor "()J" = some ⟨[], some .long⟩ by decide +kernel) rfl
  have g1 := own_mkC Y₀ hx hZ' hMK E1 hheapU (jA Y₀ hx G0 (D own_fd0) rfl rfl) (D own_fd1)
  obtain ⟨_, L1, U1, ⟨rfl, M1, e1⟩, Y1, g2⟩ := own_mkV Y₀ hx hZ' hMK wV1 wV2 wI wV4 E1 hM1 g1 hheapU [] rfl lV (D own_fd4) hls 0 rfl ⟨i1, by omega, by rw [z1]; exact Nat.zero_le _, by rw [z2]; exact Nat.zero_le _⟩
  have g3 := own_mkC Y1 hx hZ' hMK E2 e1 (jA Y1 hx g2 (D own_fd7) rfl rfl) (D own_fd8)
  obtain ⟨_, L2, U2, ⟨rfl, M2, e2⟩, Y2, g4⟩ := own_mkV Y1 hx hZ' hMK wV1 wV2 wI wV4 E2 hM2 g3 e1 [.long x1] rfl lV (D own_fd11) hls 2 rfl ⟨i1, by omega, by rw [z1]; exact Nat.zero_le _, by rw [z2]; exact Nat.zero_le _⟩
  obtain ⟨_, L3, U3, ⟨rfl, M3, e3⟩, Y3, g5⟩ := own_mkS (argsL := [.long x1, .long x2]) Y2 hx hZ' hMK (Or.inl ⟨rfl, rfl⟩) wdS hM3 g4 e2 [] rfl (lenOf (show parseMethodDescriptor "(JJ)J" = some ⟨[.long, .long], some .long⟩ by decide +kernel) rfl) (D own_fd14) hls 0 rfl ⟨i2, by omega, by rw [z1, z3]; exact Nat.zero_le _, by rw [z2, z4]; exact Nat.zero_le _⟩
  obtain ⟨_, L4, U4, ⟨rb, rfl, M4, q4⟩, Y4, g6⟩ := own_mkS (argsL := [.long (x1 + x2)]) Y3 hx hZ' hMK (Or.inr ⟨rfl, rfl⟩) wdB hM4 g5 e3 [] rfl (lenOf (show parseMethodDescriptor "(J)Ljava/lang/Long;" = some ⟨[.long], some (.object "java/lang/Long")⟩ by decide +kernel) rfl) (D own_fd17) hls 0 rfl ⟨i3, by omega, by rw [z1, z3, z5]; omega, by rw [z2, z4, z6]; omega⟩
  -- out again
  obtain ⟨fs, hleave, -, hended, hWe, hsame⟩ := Y4.leave (v := some (.ref rb)) (fun q => by rw [hretk] at q; cases q) hlk
  have hfin := g6 _ (retOut Y4 hx (w := .ref rb) hretk rfl (Or.inr (Or.inr (Or.inr (Or.inr ⟨rfl, rfl, rfl⟩)))) (D own_fd20) hleave)
  subst hs'
  obtain ⟨T', X', -, -, ht⟩ := X₁.outOf (g := mkF m pc Ls rest) rfl hd hended hWe hsame
  have hheap' : T'.heap = U4.heap := by
    have q : (U4.setFrames fs).heap = (T'.setTop { mkF m pc Ls rest with pc := pc + 5, stack := (some (Value.ref rb)).toList ++ rest }).heap := congrArg State.heap ht
    exact q.symm
  refine ⟨rb, _, T', by rw [hheap']; exact q4, Fr.app (Fr.app (Fr.app (Fr.app (Fr.nil n0) M1) M2) M3) M4, ?_, fun t kont => g t ?_⟩
  · have q := X'
    rw [z1, z2, z3, z4] at q
    simpa using q
  · refine hstep₁ t fun acts => ?_
    rw [show (Value.ref a :: [Value.ref k1, Value.ref k2]).toArray = #[.ref a, .ref k1, .ref k2] from rfl]
    rw [show ({ mkF m pc Ls stk with stack := rest } : JFrame) = mkF m pc Ls rest from rfl, hin acts]
    refine Steps.trans (Steps.weaken (mid := [.java (mkF m pc Ls rest)]) hfin) ?_
    rw [ht]
    exact kont
end Mk
end Jvm.RoadKit
namespace Jvm.RoadKit
open Sem ClassFile Op Lib Bundle Jvm.Stand Jvm.Free Jvm.LawKit Jvm.Lambda
section Mk
variable {p : Program} {l : Launch} {e : Env} {R : Room} {s : State} {m : MethodId} {args : Array Value} {below : List Frame} {meth : Method} {c : Code} {T : State} {locs : List Loc} {cells slots : Nat} {Z A0 : State} {a0 : Array Value} {h : Heap} {own : String} {index : Nat} {pc : Nat} {Ls : Array Slot} {stk : List Value} {b : Addr}
theorem own_getR (X : Stand p l e R s m args below meth c T locs cells slots) (hx : p.tables.exec = Jvm.exec) (hZ : Z.Warmed39 s.vm) {O n d : String} (hown : s.vm.findClass own = some m.cls) (w : (Cond.fieldRef own index O n d).before a0 Z = true) (eT : T.heap = h) {v : Value} (F : Fld Z h b O n d v) (g : Go p e below T (mkF m pc Ls (.ref b :: stk)) A0) (hd : decode c.code pc = .ok (.getfield index, 3)) : Go p e below T (mkF m (pc + 3) Ls (v :: stk)) A0 := by
  have hT := wtrans hZ X.warmed
  have hownT : T.vm.findClass own = some m.cls := by rw [X.warmed.alike.findClass]; exact hown
  obtain ⟨cc, k, i, f, hf, hready⟩ := Cond.fieldRef_spec (s := Z.setVm T.vm) hownT (Cond.fieldRef_warmed39 hT w)
  obtain ⟨cell, cf, k0, i0, f0, h1, h2, h3, h4, -, -, h7⟩ := F
  obtain ⟨k', hi, -⟩ := State.fieldFound?_setVm (s := Z) hT.alike h2
  cases hf.symm.trans hi
  have hcell : T.heap[b]? = some cell := by rw [eT]; exact h1
  intro t kont
  refine g t ?_
  have hsU : T.topJava?.isSome := X.here.top
  show Steps p.tables e below (T.setTop (mkF m pc Ls (.ref b :: stk))) t
  jvm_step X.here [hx, hd, getfield.wp_ready (e := e) (s := T) (index := index) (c := cc) (a := b) (field := f) (rest := stk) (cell := cell) (v := v) (f := mkF m pc Ls (.ref b :: stk)) hsU hready h3 rfl hcell h4 h7]
  exact kont
theorem own_site (X : Stand p l e R s m args below meth c T locs cells slots) (hx : p.tables.exec = Jvm.exec) (hZ : Z.Warmed39 s.vm) {x : MethodName} {σ : Lambda.Shape} (hnamed : s.methodNamed? x = some m) (w : (Cond.lambdaSite x pc index σ).before a0 Z = true) (hcap : σ.captured = []) (hok : own_fwdOK σ x.cls = true) (hface : (Cond.interfaceMethod own_yA.cls own_yA.cls own_yA.name own_yA.desc).before a0 Z = true) (x1 : own_yA.cls = σ.iface) (x2 : own_yA.name = σ.name) (x3 : own_yA.desc = σ.sam.toString)
    (g : Go p e below T (mkF m pc Ls stk) A0) (hd : decode c.code pc = .ok (.invokedynamic index, 5)) (hsize : Ls.size = c.maxLocals) (W : Nat) (hW : (stk.map fun v => v.category).sum = W) (hR : W + 3072 ≤ R.locals) :
    ∃ a cK, own_MK Z cK ∧ own_SL Z cK ∧ own_Fn Z.heap a cK ∧ Go p e below T (mkF m (pc + 5) Ls (.ref a :: stk)) A0 := by
  obtain ⟨cK, one, hat⟩ := Cond.lambdaSite_spec w
  obtain ⟨mD, kD, cfD, i0, p0, lk, hmD, hkD, -, -, -, hfind, hmade, hcan, hl⟩ := State.lambdaAt?_spec hat
  have hn2 := own_namedT hZ hmD
  cases hnamed.symm.trans hn2
  obtain ⟨kD', hkD', hnameD⟩ := className_of_methodNamed hmD
  cases hkD.symm.trans hkD'
  rcases hl with ⟨a, cell, rfl, -, -, hcell, hcls, hvm, -⟩ | ⟨-, -, hne⟩
  · have hw : e.platform.lambdaLinkWords = 3072 := by rw [X.admits.platform]
    obtain ⟨k', hk', ek⟩ := hZ.alike.2.2 _ _ hkD
    refine ⟨a, cK, own_made hok hkD hnameD hmade, own_sel hmade hcan hface x1 x2 x3, ⟨cell, hcell, hcls, hvm⟩, fun t kont => g t ?_⟩
    exact X.lambdaConstant hx (g := mkF m pc Ls stk) rfl hsize hd hk' (by rw [ek]; exact hfind) (by rw [hw]; show 2 * 0 + (stk.map fun v => v.category).sum + 3072 ≤ R.locals; omega) kont
  · exact absurd hcap hne
theorem own_wide {s t : State} {o : Outcome} {L : List Loc} {k n : Nat} (h : FrameEnd s o t L k n) : ReturnedEndW s o t L k n := by
  obtain ⟨h1, h2, h3⟩ := h
  refine ⟨h1, h2.wide, fun j p hj hp => ?_, h3⟩
  rw [h2.interned_eq] at hp
  exact absurd (Array.getElem?_eq_some_iff.mp hp).1 (Nat.not_lt.mpr hj)
theorem own_Fn.ext {h h' : Heap} {a : Addr} {cK : ClassId} (E : Ext h h') (F : own_Fn h a cK) : own_Fn h' a cK := by
  obtain ⟨c, h1, h2, h3⟩ := F
  exact ⟨c, E.2 _ _ h1, h2, h3⟩
end Mk
end Jvm.RoadKit
namespace Jvm.RoadKit
open Sem ClassFile Op Lib Bundle Jvm.Stand Jvm.Free Jvm.LawKit
theorem own_arvS {s : State} (hf : Fit s) {a : Addr} {cl : Cell} {ty : FieldType} (A : Arr s s.heap a cl ty) {z : Int32} (S : cl.slots.size = z.toNatClampNeg) (hz : ¬ z < 0) (q : cl.slots.size < 2 ^ 31) (dv : Value) : Arv s s.heap a cl.cls ty z cl.slots.toList dv := by
  have H : Has cl cl.slots.toList dv := fun k hk => by
    rw [List.getD_eq_getElem?_getD, Array.getElem?_toList, Array.getElem?_eq_getElem hk]; rfl
  refine ⟨cl, A, rfl, S, hz, H, fun j hj => ?_⟩
  have e1 : (Nat.toInt32 j).toNatClampNeg = j := by simp only [Int32.toNatClampNeg, len_toInt (Nat.lt_trans hj q)]; rfl
  exact elem_fits (j := Nat.toInt32 j) hf A (idx_in hj q) (by rw [e1]; exact H j hj)
theorem own_size {s : State} {args : Array Value} {T : Term} {a : Addr} {cl : Cell} {n : Int32} {k : Nat} (ev : T.eval args s none [] s = some (.ref a)) (hat : s.arrayAt? a = some cl) (hl : (Term.length T).eval args s none [] s = some (.int n)) (hk : n.toInt = k) : cl.slots.size < 2 ^ 31 ∧ cl.slots.size = k := by
  have h31 := Jvm.Free.SBG.length_lt ev hat hl
  obtain ⟨a', cl', ev', hat', hlen⟩ := Term.length_spec hl
  cases ev.symm.trans ev'
  cases hat.symm.trans hat'
  have h2 := congrArg Int32.toInt (Value.int.inj hlen)
  rw [len_toInt h31, hk] at h2
  exact ⟨h31, by omega⟩
theorem own_lcA {s : State} {args : Array Value} {T : Term} (hf : Fit s) (hev : ∀ idx, T.eval args s none idx s = T.eval args s none [] s) (h0 : (Cond.arrayOf T (.object "java/lang/Long")).before args s = true) (h1 : (Cond.eq (.length T) (.int 256)).before args s = true)
    (h2 : (Cond.all T (.and (.exactly (.elem T (.index 0)) "java/lang/Long") (.eq (.field (.elem T (.index 0)) "java/lang/Long" "value" "J") (.op1 .i2l (.sub (.index 0) (.int 128)))))).before args s = true) :
    ∃ (a : Addr) (k : ClassId) (vs : List Value), T.eval args s none [] s = some (.ref a) ∧ Arv s s.heap a k (.object "java/lang/Long") 256 vs .null ∧ ∀ i, i < 256 → ∃ b, vs.getD i .null = .ref b ∧ Exa s s.heap b "java/lang/Long" ∧ Fld s s.heap b "java/lang/Long" "value" "J" (.long (Int64.ofInt ((i : Int) - 128))) := by
  obtain ⟨a, ev⟩ := arr_v (Cond.before_iff.mp h0)
  obtain ⟨cl, A⟩ := Arr.start ev (Cond.before_iff.mp h0)
  have hat : s.arrayAt? a = some cl := Arr.fin (Vm.Alike.refl _) A
  obtain ⟨h31, hsz⟩ := own_size (k := 256) ev hat (own_eqint (Cond.before_iff.mp h1)) rfl
  refine ⟨a, cl.cls, cl.slots.toList, ev, own_arvS hf A (by rw [hsz]; rfl) (by decide) h31 _, fun i hi => ?_⟩
  have e2 := Cond.all_elim ev hat (Cond.before_iff.mp h2) i (by omega)
  obtain ⟨he, hq⟩ := and_e e2
  have hh : (Cond.exactly (.elem T (.index 0)) "java/lang/Long").holds args s none s [i] = true := by simp [Cond.holds, he]
  obtain ⟨b, cb, cell, k, q1, q2, q3, q4, q5, rfl, q7⟩ := Cond.exactly_spec hh
  have eL : (Term.elem T (.index 0)).eval args s none [i] s = cl.slots[i]? := Jvm.Free.SBG.elem_at (ix := .index 0) ((hev [i]).trans ev) hat (by omega) h31 rfl
  rw [q1] at eL
  refine ⟨b, by rw [List.getD_eq_getElem?_getD, Array.getElem?_toList, ← eL]; rfl, ⟨cell, k, q3, q2, q4, q5, q7⟩, ?_⟩
  obtain ⟨x, y, h3, h4, -, k2⟩ := cmp_v (Or.inl hq)
  have eR : (Term.op1 .i2l (.sub (.index 0) (.int 128))).eval args s none [i] s = some (.long (Int32.ofNat i - 128).toInt64) := rfl
  cases h4.symm.trans eR
  obtain ⟨w, rfl⟩ := k2
  have e : w = (Int32.ofNat i - 128).toInt64 := by
    simp only [Cond.value, h3, eR] at hq
    simpa using hq
  subst e
  have eV : (Int32.ofNat i - 128).toInt64 = Int64.ofInt ((i : Int) - 128) := by
    apply Int64.toInt_inj.mp
    have c := c_isub (Int32.ofNat i) 128
    have r := rng32 (Int32.ofNat i - 128)
    have k : (128 : Int32).toInt = 128 := rfl
    rw [Int32.toInt_ofNat_of_lt (show i < 2147483648 by omega)] at c
    rw [Int32.toInt_toInt64, Int64.toInt_ofInt_of_le (by omega) (by omega)]
    omega
  rw [← eV]
  exact Fld.start ((fld_at q1).symm.trans h3)
end Jvm.RoadKit
namespace Jvm.Pilot.@@N@@
open Jvm Jvm.ClassFile Sem Op Lib Jvm.Free Jvm.Stand Jvm.LawKit Jvm.RoadKit Bundle Jvm.Pilot.@@N@@.Jvm.D
abbrev mN0 : MethodName := ⟨"java/util/AbstractMap", "<init>", "()V"⟩
abbrev mN1 : MethodName := ⟨"java/lang/Number", "<init>", "()V"⟩
abbrev mN2 : MethodName := ⟨"java/util/AbstractCollection", "<init>", "()V"⟩
abbrev mN3 : MethodName := ⟨"java/util/AbstractSet", "<init>", "()V"⟩
abbrev mN4 : MethodName := ⟨"java/util/Objects", "requireNonNull", "(Ljava/lang/Object;)Ljava/lang/Object;"⟩
abbrev mN5 : MethodName := ⟨"java/lang/Long", "<init>", "(J)V"⟩
abbrev mN6 : MethodName := ⟨"java/lang/Long", "valueOf", "(J)Ljava/lang/Long;"⟩
abbrev mN7 : MethodName := ⟨"java/lang/Long", "longValue", "()J"⟩
abbrev mN8 : MethodName := ⟨"java/lang/Long", "sum", "(JJ)J"⟩
abbrev mN9 : MethodName := ⟨"java/lang/Long", "compare", "(JJ)I"⟩
abbrev mN10 : MethodName := ⟨"java/lang/Long", "compareTo", "(Ljava/lang/Long;)I"⟩
abbrev mN11 : MethodName := ⟨"java/lang/Long", "compareTo", "(Ljava/lang/Object;)I"⟩
abbrev mN12 : MethodName := ⟨"java/util/TreeMap", "<init>", "()V"⟩
abbrev mN13 : MethodName := ⟨"com/example/fetch_from_near/fetchfromnear/Histogram", "<init>", "()V"⟩
abbrev mN14 : MethodName := ⟨"java/util/TreeMap$Entry", "<init>", "(Ljava/lang/Object;Ljava/lang/Object;Ljava/util/TreeMap$Entry;)V"⟩
abbrev mN15 : MethodName := ⟨"java/util/TreeMap", "compare", "(Ljava/lang/Object;Ljava/lang/Object;)I"⟩
abbrev mN16 : MethodName := ⟨"java/util/TreeMap", "addEntryToEmptyMap", "(Ljava/lang/Object;Ljava/lang/Object;)V"⟩
abbrev mN17 : MethodName := ⟨"java/util/TreeMap", "fixAfterInsertion", "(Ljava/util/TreeMap$Entry;)V"⟩
abbrev mN18 : MethodName := ⟨"java/util/TreeMap", "addEntry", "(Ljava/lang/Object;Ljava/lang/Object;Ljava/util/TreeMap$Entry;Z)V"⟩
abbrev mN19 : MethodName := ⟨"java/util/TreeMap", "mergeValue", "(Ljava/util/TreeMap$Entry;Ljava/lang/Object;Ljava/util/function/BiFunction;)Ljava/lang/Object;"⟩
abbrev mN20 : MethodName := ⟨"java/util/TreeMap", "merge", "(Ljava/lang/Object;Ljava/lang/Object;Ljava/util/function/BiFunction;)Ljava/lang/Object;"⟩
abbrev mN21 : MethodName := ⟨"java/lang/Math", "addExact", "(JJ)J"⟩
abbrev mN22 : MethodName := ⟨"com/example/fetch_from_near/fetchfromnear/Histogram", "add", "(JJ)V"⟩
abbrev mN23 : MethodName := ⟨"com/example/fetch_from_near/fetchfromnear/Histogram", "add", "(J)V"⟩
abbrev mN24 : MethodName := ⟨"java/util/TreeMap$EntrySet", "<init>", "(Ljava/util/TreeMap;)V"⟩
abbrev mN25 : MethodName := ⟨"java/util/TreeMap", "entrySet", "()Ljava/util/Set;"⟩
abbrev mN26 : MethodName := ⟨"java/util/TreeMap", "getFirstEntry", "()Ljava/util/TreeMap$Entry;"⟩
abbrev mN27 : MethodName := ⟨"java/util/TreeMap$PrivateEntryIterator", "<init>", "(Ljava/util/TreeMap;Ljava/util/TreeMap$Entry;)V"⟩
abbrev mN28 : MethodName := ⟨"java/util/TreeMap$EntryIterator", "<init>", "(Ljava/util/TreeMap;Ljava/util/TreeMap$Entry;)V"⟩
abbrev mN29 : MethodName := ⟨"java/util/TreeMap$EntrySet", "iterator", "()Ljava/util/Iterator;"⟩
abbrev mN30 : MethodName := ⟨"java/util/TreeMap$PrivateEntryIterator", "hasNext", "()Z"⟩
abbrev mN31 : MethodName := ⟨"java/util/TreeMap", "successor", "(Ljava/util/TreeMap$Entry;)Ljava/util/TreeMap$Entry;"⟩
abbrev mN32 : MethodName := ⟨"java/util/TreeMap$PrivateEntryIterator", "nextEntry", "()Ljava/util/TreeMap$Entry;"⟩
abbrev mN33 : MethodName := ⟨"java/util/TreeMap$EntryIterator", "next", "()Ljava/util/Map$Entry;"⟩
abbrev mN34 : MethodName := ⟨"java/util/TreeMap$EntryIterator", "next", "()Ljava/lang/Object;"⟩
abbrev mN35 : MethodName := ⟨"java/util/TreeMap$Entry", "getKey", "()Ljava/lang/Object;"⟩
abbrev mN36 : MethodName := ⟨"java/util/TreeMap$Entry", "getValue", "()Ljava/lang/Object;"⟩
abbrev mN37 : MethodName := ⟨"com/example/fetch_from_near/fetchfromnear/Histogram", "addAll", "(Lcom/example/fetch_from_near/fetchfromnear/Histogram;)V"⟩
abbrev mN38 : MethodName := ⟨"com/example/fetch_from_near/fetchfromnear/Histogram", "isEmpty", "()Z"⟩
def D1 : List (Nat × Instr × Nat) := [(0, .aload_n 0, 1), (1, .invokespecial 1, 3), (4, .aload_n 0, 1), (5, .new 7, 3), (8, .dup, 1), (9, .invokespecial 9, 3), (12, .putfield 10, 3), (15, .return_, 1)]
theorem E1 : ∀ x ∈ D1, DK prog_10_method_1_code x.1 x.2.1 x.2.2 := by decide +kernel
def D3 : List (Nat × Instr × Nat) := [(0, .aload_n 0, 1), (1, .invokespecial 1, 3), (4, .aload_n 0, 1), (5, .iconst 0, 1), (6, .putfield 7, 3), (9, .aload_n 0, 1), (10, .iconst 0, 1), (11, .putfield 13, 3), (14, .aload_n 0, 1), (15, .aconst_null, 1), (16, .putfield 16, 3), (19, .return_, 1)]
theorem E3 : ∀ x ∈ D3, DK jdk_2729_method_1_code x.1 x.2.1 x.2.2 := by decide +kernel
def D4 : List (Nat × Instr × Nat) := [(0, .aload_n 0, 1), (1, .invokespecial 1, 3), (4, .return_, 1)]
theorem E4 : ∀ x ∈ D4, DK jdk_71_method_1_code x.1 x.2.1 x.2.2 := by decide +kernel
def D5 : List (Nat × Instr × Nat) := [(0, .aload_n 0, 1), (1, .getfield 29, 3), (4, .lconst 0, 1), (5, .lcmp, 1), (6, .ifCond .ne 7, 3), (9, .iconst 1, 1), (10, .goto 4, 3), (13, .iconst 0, 1), (14, .ireturn, 1)]
theorem E5 : ∀ x ∈ D5, DK prog_10_method_5_code x.1 x.2.1 x.2.2 := by decide +kernel
def D6 : List (Nat × Instr × Nat) := [(0, .lload_n 3, 1), (1, .lconst 1, 1), (2, .lcmp, 1), (3, .ifCond .ge 17, 3), (20, .aload_n 0, 1), (21, .aload_n 0, 1), (22, .getfield 29, 3), (25, .lload_n 3, 1), (26, .invokestatic 33, 3), (29, .putfield 29, 3), (32, .aload_n 0, 1), (33, .getfield 10, 3), (36, .lload_n 1, 1), (37, .invokestatic 39, 3), (40, .lload_n 3, 1), (41, .invokestatic 39, 3), (44, .invokedynamic 45, 5), (49, .invokevirtual 49, 3), (52, .pop, 1), (53, .return_, 1)]
theorem E6 : ∀ x ∈ D6, DK prog_10_method_3_code x.1 x.2.1 x.2.2 := by decide +kernel
def D7 : List (Nat × Instr × Nat) := [(0, .lload_n 0, 1), (1, .lload_n 2, 1), (2, .ladd, 1), (3, .lstore 4, 2), (5, .lload_n 0, 1), (6, .lload 4, 2), (8, .lxor, 1), (9, .lload_n 2, 1), (10, .lload 4, 2), (12, .lxor, 1), (13, .land, 1), (14, .lconst 0, 1), (15, .lcmp, 1), (16, .ifCond .ge 13, 3), (29, .lload 4, 2), (31, .lreturn, 1)]
theorem E7 : ∀ x ∈ D7, DK jdk_29_method_25_code x.1 x.2.1 x.2.2 := by decide +kernel
def D8 : List (Nat × Instr × Nat) := [(0, .sipush 128, 3), (3, .istore_n 2, 1), (4, .lload_n 0, 1), (5, .ldc2_w 230, 3), (8, .lcmp, 1), (9, .ifCond .lt 22, 3), (12, .lload_n 0, 1), (13, .ldc2_w 232, 3), (16, .lcmp, 1), (17, .ifCond .gt 14, 3), (20, .getstatic 234, 3), (23, .lload_n 0, 1), (24, .l2i, 1), (25, .sipush 128, 3), (28, .iadd, 1), (29, .aaload, 1), (30, .areturn, 1), (31, .new 1, 3), (34, .dup, 1), (35, .lload_n 0, 1), (36, .invokespecial 240, 3), (39, .areturn, 1)]
theorem E8 : ∀ x ∈ D8, DK jdk_35_method_24_code x.1 x.2.1 x.2.2 := by decide +kernel
def D9 : List (Nat × Instr × Nat) := [(0, .aload_n 3, 1), (1, .invokestatic 95, 3), (4, .pop, 1), (5, .aload_n 2, 1), (6, .invokestatic 95, 3), (9, .pop, 1), (10, .aload_n 0, 1), (11, .getfield 101, 3), (14, .astore 4, 2), (16, .aload 4, 2), (18, .ifnonnull 11, 3), (21, .aload_n 0, 1), (22, .aload_n 1, 1), (23, .aload_n 2, 1), (24, .invokevirtual 135, 3), (27, .aload_n 2, 1), (28, .areturn, 1), (29, .aload_n 0, 1), (30, .getfield 16, 3), (33, .astore 7, 2), (35, .aload 7, 2), (37, .ifnull 69, 3), (106, .aload_n 1, 1), (107, .invokestatic 95, 3), (110, .pop, 1), (111, .aload_n 1, 1), (112, .checkcast 99, 3), (115, .astore 8, 2), (117, .aload 4, 2), (119, .astore 6, 2), (121, .aload 8, 2), (123, .aload 4, 2), (125, .getfield 105, 3), (128, .invokeinterface 107 2, 5), (133, .istore 5, 2), (135, .iload 5, 2), (137, .ifCond .ge 13, 3), (140, .aload 4, 2), (142, .getfield 111, 3), (145, .astore 4, 2), (147, .goto 27, 3), (150, .iload 5, 2), (152, .ifCond .le 13, 3), (155, .aload 4, 2), (157, .getfield 114, 3), (160, .astore 4, 2), (162, .goto 12, 3), (165, .aload_n 0, 1), (166, .aload 4, 2), (168, .aload_n 2, 1), (169, .aload_n 3, 1), (170, .invokevirtual 151, 3), (173, .areturn, 1), (174, .aload 4, 2), (176, .ifnonnull (-59), 3), (179, .aload_n 0, 1), (180, .aload_n 1, 1), (181, .aload_n 2, 1), (182, .aload 6, 2), (184, .iload 5, 2), (186, .ifCond .ge 7, 3), (189, .iconst 1, 1), (190, .goto 4, 3), (193, .iconst 0, 1), (194, .invokevirtual 139, 3), (197, .aload_n 2, 1), (198, .areturn, 1)]
theorem E9 : ∀ x ∈ D9, DK jdk_2729_method_26_code x.1 x.2.1 x.2.2 := by decide +kernel
def D10 : List (Nat × Instr × Nat) := [(0, .aload_n 0, 1), (1, .ifnonnull 11, 3), (12, .aload_n 0, 1), (13, .areturn, 1)]
theorem E10 : ∀ x ∈ D10, DK jdk_31_method_10_code x.1 x.2.1 x.2.2 := by decide +kernel
def D11 : List (Nat × Instr × Nat) := [(0, .aload_n 0, 1), (1, .aload_n 1, 1), (2, .aload_n 1, 1), (3, .invokevirtual 123, 3), (6, .pop, 1), (7, .aload_n 0, 1), (8, .new 59, 3), (11, .dup, 1), (12, .aload_n 1, 1), (13, .aload_n 2, 1), (14, .aconst_null, 1), (15, .invokespecial 167, 3), (18, .putfield 101, 3), (21, .aload_n 0, 1), (22, .iconst 1, 1), (23, .putfield 7, 3), (26, .aload_n 0, 1), (27, .dup, 1), (28, .getfield 13, 3), (31, .iconst 1, 1), (32, .iadd, 1), (33, .putfield 13, 3), (36, .return_, 1)]
theorem E11 : ∀ x ∈ D11, DK jdk_2729_method_30_code x.1 x.2.1 x.2.2 := by decide +kernel
def D12 : List (Nat × Instr × Nat) := [(0, .aload_n 0, 1), (1, .getfield 16, 3), (4, .ifnonnull 16, 3), (7, .aload_n 1, 1), (8, .checkcast 99, 3), (11, .aload_n 2, 1), (12, .invokeinterface 107 2, 5), (17, .goto 14, 3), (31, .ireturn, 1)]
theorem E12 : ∀ x ∈ D12, DK jdk_2729_method_67_code x.1 x.2.1 x.2.2 := by decide +kernel
def D13 : List (Nat × Instr × Nat) := [(0, .aload_n 0, 1), (1, .aload_n 1, 1), (2, .checkcast 1, 3), (5, .invokevirtual 343, 3), (8, .ireturn, 1)]
theorem E13 : ∀ x ∈ D13, DK jdk_35_method_64_code x.1 x.2.1 x.2.2 := by decide +kernel
def D14 : List (Nat × Instr × Nat) := [(0, .aload_n 0, 1), (1, .getfield 273, 3), (4, .aload_n 1, 1), (5, .getfield 273, 3), (8, .invokestatic 302, 3), (11, .ireturn, 1)]
theorem E14 : ∀ x ∈ D14, DK jdk_35_method_41_code x.1 x.2.1 x.2.2 := by decide +kernel
def D15 : List (Nat × Instr × Nat) := [(0, .lload_n 0, 1), (1, .lload_n 2, 1), (2, .lcmp, 1), (3, .ifCond .ge 7, 3), (6, .iconst (-1), 1), (7, .goto 14, 3), (10, .lload_n 0, 1), (11, .lload_n 2, 1), (12, .lcmp, 1), (13, .ifCond .ne 7, 3), (16, .iconst 0, 1), (17, .goto 4, 3), (20, .iconst 1, 1), (21, .ireturn, 1)]
theorem E15 : ∀ x ∈ D15, DK jdk_35_method_42_code x.1 x.2.1 x.2.2 := by decide +kernel
def D16 : List (Nat × Instr × Nat) := [(0, .aload_n 0, 1), (1, .invokespecial 3, 3), (4, .aload_n 0, 1), (5, .iconst 1, 1), (6, .putfield 9, 3), (9, .aload_n 0, 1), (10, .aload_n 1, 1), (11, .putfield 15, 3), (14, .aload_n 0, 1), (15, .aload_n 2, 1), (16, .putfield 19, 3), (19, .aload_n 0, 1), (20, .aload_n 3, 1), (21, .putfield 22, 3), (24, .return_, 1)]
theorem E16 : ∀ x ∈ D16, DK jdk_2736_method_1_code x.1 x.2.1 x.2.2 := by decide +kernel
def D17 : List (Nat × Instr × Nat) := [(0, .aload_n 0, 1), (1, .invokespecial 270, 3), (4, .aload_n 0, 1), (5, .lload_n 1, 1), (6, .putfield 273, 3), (9, .return_, 1)]
theorem E17 : ∀ x ∈ D17, DK jdk_35_method_26_code x.1 x.2.1 x.2.2 := by decide +kernel
def D18 : List (Nat × Instr × Nat) := [(0, .aload_n 0, 1), (1, .invokespecial 1, 3), (4, .return_, 1)]
theorem E18 : ∀ x ∈ D18, DK jdk_18_method_1_code x.1 x.2.1 x.2.2 := by decide +kernel
def D19 : List (Nat × Instr × Nat) := [(0, .new 59, 3), (3, .dup, 1), (4, .aload_n 1, 1), (5, .aload_n 2, 1), (6, .aload_n 3, 1), (7, .invokespecial 167, 3), (10, .astore 5, 2), (12, .iload 4, 2), (14, .ifCond .eq 12, 3), (17, .aload_n 3, 1), (18, .aload 5, 2), (20, .putfield 111, 3), (23, .goto 9, 3), (26, .aload_n 3, 1), (27, .aload 5, 2), (29, .putfield 114, 3), (32, .aload_n 0, 1), (33, .aload 5, 2), (35, .invokevirtual 170, 3), (38, .aload_n 0, 1), (39, .dup, 1), (40, .getfield 7, 3), (43, .iconst 1, 1), (44, .iadd, 1), (45, .putfield 7, 3), (48, .aload_n 0, 1), (49, .dup, 1), (50, .getfield 13, 3), (53, .iconst 1, 1), (54, .iadd, 1), (55, .putfield 13, 3), (58, .return_, 1)]
theorem E19 : ∀ x ∈ D19, DK jdk_2729_method_29_code x.1 x.2.1 x.2.2 := by decide +kernel
def D20 : List (Nat × Instr × Nat) := [(0, .aload_n 1, 1), (1, .iconst 0, 1), (2, .putfield 290, 3), (5, .aload_n 1, 1), (6, .ifnull 252, 3), (9, .aload_n 1, 1), (10, .aload_n 0, 1), (11, .getfield 101, 3), (14, .if_acmp .eq 244, 3), (17, .aload_n 1, 1), (18, .getfield 124, 3), (21, .getfield 290, 3), (24, .ifCond .ne 234, 3), (258, .aload_n 0, 1), (259, .getfield 101, 3), (262, .iconst 1, 1), (263, .putfield 290, 3), (266, .return_, 1)]
theorem E20 : ∀ x ∈ D20, DK jdk_2729_method_83_code x.1 x.2.1 x.2.2 := by decide +kernel
def D21 : List (Nat × Instr × Nat) := [(0, .aload_n 1, 1), (1, .getfield 10, 3), (4, .invokevirtual 53, 3), (7, .invokeinterface 57 1, 5), (12, .astore_n 2, 1), (13, .aload_n 2, 1), (14, .invokeinterface 63 1, 5), (19, .ifCond .eq 44, 3), (22, .aload_n 2, 1), (23, .invokeinterface 69 1, 5), (28, .checkcast 73, 3), (31, .astore_n 3, 1), (32, .aload_n 0, 1), (33, .aload_n 3, 1), (34, .invokeinterface 75 1, 5), (39, .checkcast 40, 3), (42, .invokevirtual 78, 3), (45, .aload_n 3, 1), (46, .invokeinterface 82 1, 5), (51, .checkcast 40, 3), (54, .invokevirtual 78, 3), (57, .invokevirtual 16, 3), (60, .goto (-47), 3), (63, .return_, 1)]
theorem E21 : ∀ x ∈ D21, DK prog_10_method_4_code x.1 x.2.1 x.2.2 := by decide +kernel
def D22 : List (Nat × Instr × Nat) := [(0, .aload_n 0, 1), (1, .getfield 188, 3), (4, .astore_n 1, 1), (5, .aload_n 1, 1), (6, .ifnull 7, 3), (13, .aload_n 0, 1), (14, .new 242, 3), (17, .dup, 1), (18, .aload_n 0, 1), (19, .invokespecial 244, 3), (22, .dup_x1, 1), (23, .putfield 188, 3), (26, .areturn, 1)]
theorem E22 : ∀ x ∈ D22, DK jdk_2729_method_53_code x.1 x.2.1 x.2.2 := by decide +kernel
def D23 : List (Nat × Instr × Nat) := [(0, .aload_n 0, 1), (1, .aload_n 1, 1), (2, .putfield 1, 3), (5, .aload_n 0, 1), (6, .invokespecial 7, 3), (9, .return_, 1)]
theorem E23 : ∀ x ∈ D23, DK jdk_2738_method_1_code x.1 x.2.1 x.2.2 := by decide +kernel
def D24 : List (Nat × Instr × Nat) := [(0, .aload_n 0, 1), (1, .invokespecial 1, 3), (4, .return_, 1)]
theorem E24 : ∀ x ∈ D24, DK jdk_91_method_1_code x.1 x.2.1 x.2.2 := by decide +kernel
def D25 : List (Nat × Instr × Nat) := [(0, .aload_n 0, 1), (1, .invokespecial 1, 3), (4, .return_, 1)]
theorem E25 : ∀ x ∈ D25, DK jdk_22_method_1_code x.1 x.2.1 x.2.2 := by decide +kernel
def D26 : List (Nat × Instr × Nat) := [(0, .new 13, 3), (3, .dup, 1), (4, .aload_n 0, 1), (5, .getfield 1, 3), (8, .aload_n 0, 1), (9, .getfield 1, 3), (12, .invokevirtual 15, 3), (15, .invokespecial 21, 3), (18, .areturn, 1)]
theorem E26 : ∀ x ∈ D26, DK jdk_2738_method_2_code x.1 x.2.1 x.2.2 := by decide +kernel
def D27 : List (Nat × Instr × Nat) := [(0, .aload_n 0, 1), (1, .getfield 101, 3), (4, .astore_n 1, 1), (5, .aload_n 1, 1), (6, .ifnull 18, 3), (9, .aload_n 1, 1), (10, .getfield 111, 3), (13, .ifnull 11, 3), (24, .aload_n 1, 1), (25, .areturn, 1)]
theorem E27 : ∀ x ∈ D27, DK jdk_2729_method_72_code x.1 x.2.1 x.2.2 := by decide +kernel
def D28 : List (Nat × Instr × Nat) := [(0, .aload_n 0, 1), (1, .aload_n 1, 1), (2, .aload_n 2, 1), (3, .invokespecial 1, 3), (6, .return_, 1)]
theorem E28 : ∀ x ∈ D28, DK jdk_2737_method_1_code x.1 x.2.1 x.2.2 := by decide +kernel
def D29 : List (Nat × Instr × Nat) := [(0, .aload_n 0, 1), (1, .aload_n 1, 1), (2, .putfield 1, 3), (5, .aload_n 0, 1), (6, .invokespecial 7, 3), (9, .aload_n 0, 1), (10, .aload_n 1, 1), (11, .getfield 13, 3), (14, .putfield 19, 3), (17, .aload_n 0, 1), (18, .aconst_null, 1), (19, .putfield 22, 3), (22, .aload_n 0, 1), (23, .aload_n 2, 1), (24, .putfield 26, 3), (27, .return_, 1)]
theorem E29 : ∀ x ∈ D29, DK jdk_2750_method_1_code x.1 x.2.1 x.2.2 := by decide +kernel
def D30 : List (Nat × Instr × Nat) := [(0, .aload_n 0, 1), (1, .getfield 26, 3), (4, .ifnull 7, 3), (7, .iconst 1, 1), (8, .goto 4, 3), (11, .iconst 0, 1), (12, .ireturn, 1)]
theorem E30 : ∀ x ∈ D30, DK jdk_2750_method_2_code x.1 x.2.1 x.2.2 := by decide +kernel
def D31 : List (Nat × Instr × Nat) := [(0, .aload_n 0, 1), (1, .lload_n 1, 1), (2, .lconst 1, 1), (3, .invokevirtual 16, 3), (6, .return_, 1)]
theorem E31 : ∀ x ∈ D31, DK prog_10_method_2_code x.1 x.2.1 x.2.2 := by decide +kernel
def D32 : List (Nat × Instr × Nat) := [(0, .aload_n 0, 1), (1, .invokevirtual 13, 3), (4, .areturn, 1)]
theorem E32 : ∀ x ∈ D32, DK jdk_2737_method_3_code x.1 x.2.1 x.2.2 := by decide +kernel
def D33 : List (Nat × Instr × Nat) := [(0, .aload_n 0, 1), (1, .invokevirtual 7, 3), (4, .areturn, 1)]
theorem E33 : ∀ x ∈ D33, DK jdk_2737_method_2_code x.1 x.2.1 x.2.2 := by decide +kernel
def D34 : List (Nat × Instr × Nat) := [(0, .aload_n 0, 1), (1, .getfield 26, 3), (4, .astore_n 1, 1), (5, .aload_n 1, 1), (6, .ifnonnull 11, 3), (17, .aload_n 0, 1), (18, .getfield 1, 3), (21, .getfield 13, 3), (24, .aload_n 0, 1), (25, .getfield 19, 3), (28, .if_icmp .eq 11, 3), (39, .aload_n 0, 1), (40, .aload_n 1, 1), (41, .invokestatic 35, 3), (44, .putfield 26, 3), (47, .aload_n 0, 1), (48, .aload_n 1, 1), (49, .putfield 22, 3), (52, .aload_n 1, 1), (53, .areturn, 1)]
theorem E34 : ∀ x ∈ D34, DK jdk_2750_method_3_code x.1 x.2.1 x.2.2 := by decide +kernel
def D35 : List (Nat × Instr × Nat) := [(0, .aload_n 0, 1), (1, .ifnonnull 5, 3), (6, .aload_n 0, 1), (7, .getfield 114, 3), (10, .ifnull 25, 3), (35, .aload_n 0, 1), (36, .getfield 124, 3), (39, .astore_n 1, 1), (40, .aload_n 0, 1), (41, .astore_n 2, 1), (42, .aload_n 1, 1), (43, .ifnull 21, 3), (64, .aload_n 1, 1), (65, .areturn, 1)]
theorem E35 : ∀ x ∈ D35, DK jdk_2729_method_74_code x.1 x.2.1 x.2.2 := by decide +kernel
def D36 : List (Nat × Instr × Nat) := [(0, .aload_n 0, 1), (1, .getfield 15, 3), (4, .areturn, 1)]
theorem E36 : ∀ x ∈ D36, DK jdk_2736_method_2_code x.1 x.2.1 x.2.2 := by decide +kernel
def D37 : List (Nat × Instr × Nat) := [(0, .aload_n 0, 1), (1, .getfield 273, 3), (4, .lreturn, 1)]
theorem E37 : ∀ x ∈ D37, DK jdk_35_method_31_code x.1 x.2.1 x.2.2 := by decide +kernel
def D38 : List (Nat × Instr × Nat) := [(0, .aload_n 0, 1), (1, .getfield 19, 3), (4, .areturn, 1)]
theorem E38 : ∀ x ∈ D38, DK jdk_2736_method_3_code x.1 x.2.1 x.2.2 := by decide +kernel
def D39 : List (Nat × Instr × Nat) := [(0, .aload_n 1, 1), (1, .getfield 58, 3), (4, .astore 4, 2), (6, .aload_n 1, 1), (7, .getfield 58, 3), (10, .ifnonnull 9, 3), (19, .aload_n 0, 1), (20, .getfield 13, 3), (23, .istore 6, 2), (25, .aload_n 3, 1), (26, .aload 4, 2), (28, .aload_n 2, 1), (29, .invokeinterface 162 3, 5), (34, .astore 5, 2), (36, .iload 6, 2), (38, .aload_n 0, 1), (39, .getfield 13, 3), (42, .if_icmp .eq 11, 3), (53, .aload 5, 2), (55, .ifnonnull 10, 3), (65, .aload_n 1, 1), (66, .aload 5, 2), (68, .putfield 58, 3), (71, .aload 5, 2), (73, .areturn, 1)]
theorem E39 : ∀ x ∈ D39, DK jdk_2729_method_33_code x.1 x.2.1 x.2.2 := by decide +kernel
def D40 : List (Nat × Instr × Nat) := [(0, .lload_n 0, 1), (1, .lload_n 2, 1), (2, .ladd, 1), (3, .lreturn, 1)]
theorem E40 : ∀ x ∈ D40, DK jdk_35_method_59_code x.1 x.2.1 x.2.2 := by decide +kernel
abbrev HW (a0 : Array Value) (Z : State) : Prop := ∀ d ∈ tables_1, d.before a0 Z = true
variable {l : Launch} {Z : State} {a0 : Array Value}
set_option maxRecDepth 65536
set_option maxHeartbeats 40000000
theorem pn_0 : plainName "java/util/AbstractMap" = true := by first | (simp [plainName, overriddenIn]; done) | decide +kernel
theorem ef_R1 (m : MethodId) (x0 : Addr)  : entryFrame m #[(.ref x0)] 1 = mkF m 0 #[.val (.ref x0)] [] := by first | (simp [entryFrame, mkF, argsToLocals, Value.category]; done) | rfl
theorem rm_ini0 (hw : HW a0 Z) (a1 : Addr) (h0 : Heap) (n0 : Nat) (O0 : Old Z n0 h0)  :
    own_M l mN0 (Jvm.Cond.code mN0 jdk_71_method_1_code 1 none) [] (⟨1, 0, 0, 12⟩ : Room) #[(.ref a1)] Z h0 (fun v h L => v = none ∧ Fr n0 L ∧ h = h0) := by
  refine own_open n0 (plainFor_of_name pn_0) (fun m => ef_R1 m a1 ) ?_
  intro p e s m below meth c s₁ A0 Bd hx hby hml hown hnm hZ hh X0 e0 N0 g0
  have hE := own_hd hby E4
  have g101 := jA X0 hx g0 (hE 0 rfl) rfl rfl
  obtain ⟨T102, X102, e102, st102⟩ := initO X0 hx hZ hown (hw _ (mi 22 rfl)) (hw _ (mi 8 rfl)) (hw _ (mi 9 rfl)) e0 (g := (mkF m 1 #[rv a1] [(.ref a1)])) rfl (by rw [hml]; rfl) rfl (hE 1 rfl) (by decide) (W := 0) (by show 2 * 0 + _ ≤ _; exact Nat.le_of_eq rfl) (by decide)
  have g103 : Go p e below T102 (mkF m 4 #[rv a1] []) A0 := fun t kont => g101 t (st102 t kont)
  refine own_leave X102 Bd (none) (fun _ => rfl) g103 (fun fs hr => X102.returnOut hx Bd.returns (hE 2 rfl) hr) (by decide) (by decide) ?_
  rw [e102]
  exact ⟨rfl, N0, rfl⟩
theorem pn_1 : plainName "java/lang/Number" = true := by first | (simp [plainName, overriddenIn]; done) | decide +kernel
theorem rm_ini1 (hw : HW a0 Z) (a1 : Addr) (h0 : Heap) (n0 : Nat) (O0 : Old Z n0 h0)  :
    own_M l mN1 (Jvm.Cond.code mN1 jdk_18_method_1_code 1 none) [] (⟨1, 0, 0, 12⟩ : Room) #[(.ref a1)] Z h0 (fun v h L => v = none ∧ Fr n0 L ∧ h = h0) := by
  refine own_open n0 (plainFor_of_name pn_1) (fun m => ef_R1 m a1 ) ?_
  intro p e s m below meth c s₁ A0 Bd hx hby hml hown hnm hZ hh X0 e0 N0 g0
  have hE := own_hd hby E18
  have g101 := jA X0 hx g0 (hE 0 rfl) rfl rfl
  obtain ⟨T102, X102, e102, st102⟩ := initO X0 hx hZ hown (hw _ (mi 126 rfl)) (hw _ (mi 8 rfl)) (hw _ (mi 9 rfl)) e0 (g := (mkF m 1 #[rv a1] [(.ref a1)])) rfl (by rw [hml]; rfl) rfl (hE 1 rfl) (by decide) (W := 0) (by show 2 * 0 + _ ≤ _; exact Nat.le_of_eq rfl) (by decide)
  have g103 : Go p e below T102 (mkF m 4 #[rv a1] []) A0 := fun t kont => g101 t (st102 t kont)
  refine own_leave X102 Bd (none) (fun _ => rfl) g103 (fun fs hr => X102.returnOut hx Bd.returns (hE 2 rfl) hr) (by decide) (by decide) ?_
  rw [e102]
  exact ⟨rfl, N0, rfl⟩
theorem pn_2 : plainName "java/util/AbstractCollection" = true := by first | (simp [plainName, overriddenIn]; done) | decide +kernel
theorem rm_ini2 (hw : HW a0 Z) (a1 : Addr) (h0 : Heap) (n0 : Nat) (O0 : Old Z n0 h0)  :
    own_M l mN2 (Jvm.Cond.code mN2 jdk_22_method_1_code 1 none) [] (⟨1, 0, 0, 12⟩ : Room) #[(.ref a1)] Z h0 (fun v h L => v = none ∧ Fr n0 L ∧ h = h0) := by
  refine own_open n0 (plainFor_of_name pn_2) (fun m => ef_R1 m a1 ) ?_
  intro p e s m below meth c s₁ A0 Bd hx hby hml hown hnm hZ hh X0 e0 N0 g0
  have hE := own_hd hby E25
  have g101 := jA X0 hx g0 (hE 0 rfl) rfl rfl
  obtain ⟨T102, X102, e102, st102⟩ := initO X0 hx hZ hown (hw _ (mi 175 rfl)) (hw _ (mi 8 rfl)) (hw _ (mi 9 rfl)) e0 (g := (mkF m 1 #[rv a1] [(.ref a1)])) rfl (by rw [hml]; rfl) rfl (hE 1 rfl) (by decide) (W := 0) (by show 2 * 0 + _ ≤ _; exact Nat.le_of_eq rfl) (by decide)
  have g103 : Go p e below T102 (mkF m 4 #[rv a1] []) A0 := fun t kont => g101 t (st102 t kont)
  refine own_leave X102 Bd (none) (fun _ => rfl) g103 (fun fs hr => X102.returnOut hx Bd.returns (hE 2 rfl) hr) (by decide) (by decide) ?_
  rw [e102]
  exact ⟨rfl, N0, rfl⟩
theorem pd_0 : parseMethodDescriptor "()V" = some ⟨[], none⟩ := by decide +kernel
theorem wd0 (hw : HW a0 Z) : own_wdI a0 Z mN2 jdk_22_method_1_code 1 := ⟨hw _ (mi 170 rfl), hw _ (mi 173 rfl), hw _ (mi 174 rfl), by decide, rfl⟩
theorem pn_3 : plainName "java/util/AbstractSet" = true := by first | (simp [plainName, overriddenIn]; done) | decide +kernel
theorem rm_ini3 (hw : HW a0 Z) (a1 : Addr) (h0 : Heap) (n0 : Nat) (O0 : Old Z n0 h0)  :
    own_M l mN3 (Jvm.Cond.code mN3 jdk_91_method_1_code 1 none) [] (⟨2, 0, 0, 24⟩ : Room) #[(.ref a1)] Z h0 (fun v h L => v = none ∧ Fr n0 L ∧ h = h0) := by
  refine own_open n0 (plainFor_of_name pn_3) (fun m => ef_R1 m a1 ) ?_
  intro p e s m below meth c s₁ A0 Bd hx hby hml hown hnm hZ hh X0 e0 N0 g0
  have hE := own_hd hby E24
  have g101 := jA X0 hx g0 (hE 0 rfl) rfl rfl
  obtain ⟨_, L102, T102, ⟨rfl, M102, e102⟩, X102, st102⟩ := own_callI X0 hx hZ hown (hw _ (mi 169 rfl)) (wd0 hw) (rm_ini2 hw a1 h0 n0 O0 ) g101 e0 [] rfl (lenOf pd_0 rfl) (hE 1 rfl) hml.symm 0 rfl (by decide)
  have N102 := Fr.app N0 M102
  refine own_leave X102 Bd (none) (fun _ => rfl) st102 (fun fs hr => X102.returnOut hx Bd.returns (hE 2 rfl) hr) (by decide) (by decide) ?_
  rw [e102]
  exact ⟨rfl, N102, rfl⟩
theorem pn_4 : plainName "java/util/Objects" = true := by first | (simp [plainName, overriddenIn]; done) | decide +kernel
theorem rm_rnn (hw : HW a0 Z) (a1 : Addr) (h0 : Heap) (n0 : Nat) (O0 : Old Z n0 h0)  :
    own_M l mN4 (Jvm.Cond.code mN4 jdk_31_method_10_code 1 (some (.object "java/lang/Object"))) [] (⟨0, 0, 0, 0⟩ : Room) #[(.ref a1)] Z h0 (fun v h L => v = some (.ref a1) ∧ Fr n0 L ∧ h = h0) := by
  refine own_open n0 (plainFor_of_name pn_4) (fun m => ef_R1 m a1 ) ?_
  intro p e s m below meth c s₁ A0 Bd hx hby hml hown hnm hZ hh X0 e0 N0 g0
  have hE := own_hd hby E10
  have g101 := jA X0 hx (show Go p e below s₁ (mkF m 12 #[rv a1] []) A0 from fun t kt => (jA X0 hx g0 (hE 0 rfl) rfl rfl) t (by refine XS.ifnonnullYes X0.here hx rfl (pc0 := 1) (pc' := 12) rfl (hE 1 rfl) rfl (by decide) (by decide) ?_; exact kt)) (hE 2 rfl) rfl rfl
  refine own_leave X0 Bd (some (.ref a1)) nofun g101 (fun fs hr => retOut X0 hx Bd.returns rfl (Or.inr (Or.inr (Or.inr (Or.inr ⟨rfl, rfl, rfl⟩)))) (hE 3 rfl) hr) (by decide) (by decide) ?_
  rw [e0]
  exact ⟨rfl, N0, rfl⟩
theorem wd1 (hw : HW a0 Z) : own_wdI a0 Z mN1 jdk_18_method_1_code 1 := ⟨hw _ (mi 121 rfl), hw _ (mi 124 rfl), hw _ (mi 125 rfl), by decide, rfl⟩
theorem pn_5 : plainName "java/lang/Long" = true := by first | (simp [plainName, overriddenIn]; done) | decide +kernel
theorem ef_RJ3 (m : MethodId) (x0 : Addr) (x1 : Int64)  : entryFrame m #[(.ref x0), (.long x1)] 3 = mkF m 0 #[.val (.ref x0), .val (.long x1), .second] [] := by first | (simp [entryFrame, mkF, argsToLocals, Value.category]; done) | rfl
theorem rm_lIni (hw : HW a0 Z) (a1 : Addr) (x1 : Int64) (h0 : Heap) (n0 : Nat) (O0 : Old Z n0 h0) (E0_ : Exa Z h0 a1 "java/lang/Long") (F1_ : Fld Z h0 a1 "java/lang/Long" "value" "J" (.long (0 : Int64))) (G2_ : n0 ≤ a1) :
    own_M l mN5 (Jvm.Cond.code mN5 jdk_35_method_26_code 3 none) [] (⟨2, 0, 0, 24⟩ : Room) #[(.ref a1), (.long x1)] Z h0 (fun v h L => v = none ∧ Fr n0 L ∧ Keep h0 h [a1] ∧ (Exa Z h a1 "java/lang/Long") ∧ (Fld Z h a1 "java/lang/Long" "value" "J" (.long x1))) := by
  refine own_open n0 (plainFor_of_name pn_5) (fun m => ef_RJ3 m a1 x1 ) ?_
  intro p e s m below meth c s₁ A0 Bd hx hby hml hown hnm hZ hh X0 e0 N0 g0
  have hE := own_hd hby E17
  have g101 := jA X0 hx g0 (hE 0 rfl) rfl rfl
  obtain ⟨_, L102, T102, ⟨rfl, M102, e102⟩, X102, st102⟩ := own_callI X0 hx hZ hown (hw _ (mi 120 rfl)) (wd1 hw) (rm_ini1 hw a1 h0 n0 O0 ) g101 e0 [] rfl (lenOf pd_0 rfl) (hE 1 rfl) hml.symm 0 rfl (by decide)
  have N102 := Fr.app N0 M102
  have g103 := show Go p e below T102 (mkF m 6 #[rv a1, .val (.long x1), .second] [(.long x1), (.ref a1)]) A0 from fun t kt => (jA X102 hx st102 (hE 2 rfl) rfl rfl) t (by refine XS.lloadN X102.here hx rfl (hE 3 rfl) rfl ?_; exact kt)
  obtain ⟨T104, h104, X104, e104, W104, st104⟩ := putF X102 hx hZ hown (host := "") (Or.inl (hw _ (mi 95 rfl))) Via.refl e102 F1_ E0_ (Or.inr ⟨(hw _ (mi 96 rfl)), rfl, hnm⟩) (hw _ (mi 116 rfl)) (ty := .long) (by decide) rfl rfl (g := (mkF m 6 #[rv a1, .val (.long x1), .second] [(.long x1), (.ref a1)])) rfl rfl (hE 4 rfl)
  have O105 := O0.wr W104 G2_
  have y106 : Fld Z h104 a1 "java/lang/Long" "value" "J" (.long x1) := F1_.same W104
  have N104 := Fr.snoc X104 N102 G2_
  have g107 : Go p e below T104 (mkF m 9 #[rv a1, .val (.long x1), .second] []) A0 := fun t kont => g103 t (st104 t kont)
  have K108 : Keep h0 h104 [a1] := ((Keep.refl h0 [a1]).wr W104 (Or.inl (mi 0 rfl)))
  have y109 := (E0_.wr W104)
  refine own_leave X104 Bd (none) (fun _ => rfl) g107 (fun fs hr => X104.returnOut hx Bd.returns (hE 5 rfl) hr) (by decide) (by decide) ?_
  rw [e104]
  exact ⟨rfl, N104, K108, y109, y106⟩
theorem pd_1 : parseMethodDescriptor "(J)V" = some ⟨[.long], none⟩ := by decide +kernel
theorem wd2 (hw : HW a0 Z) : own_wdI a0 Z mN5 jdk_35_method_26_code 3 := ⟨hw _ (mi 118 rfl), hw _ (mi 49 rfl), hw _ (mi 119 rfl), by decide, rfl⟩
theorem ef_J3 (m : MethodId) (x0 : Int64)  : entryFrame m #[(.long x0)] 3 = mkF m 0 #[.val (.long x0), .second, .unset] [] := by first | (simp [entryFrame, mkF, argsToLocals, Value.category]; done) | rfl
theorem rm_lvo (hw : HW a0 Z) (x1 : Int64) (lc : Addr) (kc : ClassId) (lcs : List Value) (h0 : Heap) (n0 : Nat) (O0 : Old Z n0 h0) (S0_ : Sta Z Z.heap "java/lang/Long$LongCache" "cache" "[Ljava/lang/Long;" (.ref lc)) (ZA1_ : Arv Z Z.heap lc kc (.object "java/lang/Long") (256 : Int32) lcs .null) (hlc : ∀ i, i < 256 → ∃ a, lcs.getD i .null = .ref a ∧ Exa Z Z.heap a "java/lang/Long" ∧ Fld Z Z.heap a "java/lang/Long" "value" "J" (.long (Int64.ofInt ((i : Int) - 128)))) :
    own_M l mN6 (Jvm.Cond.code mN6 jdk_35_method_24_code 3 (some (.object "java/lang/Long"))) [] (⟨3, 1, 1, 39⟩ : Room) #[(.long x1)] Z h0 (fun v h L => ∃ (r : Addr), v = some (.ref r) ∧ Fr n0 L ∧ Keep h0 h [] ∧ (Exa Z h r "java/lang/Long") ∧ (Fld Z h r "java/lang/Long" "value" "J" (.long x1))) := by
  refine own_open n0 (plainFor_of_name pn_5) (fun m => ef_J3 m x1 ) ?_
  intro p e s m below meth c s₁ A0 Bd hx hby hml hown hnm hZ hh X0 e0 N0 g0
  have hE := own_hd hby E8
  by_cases c101 : ¬ (x1 < (-128 : Int64)) ∧ ¬ ((127 : Int64) < x1)
  ·
    obtain ⟨li1, li2, li3⟩ := own_lix c101
    obtain ⟨la, lb1, lb2, lb3⟩ := hlc _ li2
    rw [li3] at lb3
    let lo102 : Array Slot := #[.val (.long x1), .second, iv 128]
    have g103 := jN X0 hx (show Go p e below s₁ (mkF m 17 #[.val (.long x1), .second, iv 128] [(.int (lcmpW x1 (127 : Int64)))]) A0 from fun t kt => (show Go p e below s₁ (mkF m 16 #[.val (.long x1), .second, iv 128] [(.long (127 : Int64)), (.long x1)]) A0 from fun t kt => (show Go p e below s₁ (mkF m 13 #[.val (.long x1), .second, iv 128] [(.long x1)]) A0 from fun t kt => (jN X0 hx (show Go p e below s₁ (mkF m 9 #[.val (.long x1), .second, iv 128] [(.int (lcmpW x1 (-128 : Int64)))]) A0 from fun t kt => (show Go p e below s₁ (mkF m 8 #[.val (.long x1), .second, iv 128] [(.long (-128 : Int64)), (.long x1)]) A0 from fun t kt => (show Go p e below s₁ (mkF m 5 #[.val (.long x1), .second, iv 128] [(.long x1)]) A0 from fun t kt => (jS X0 hx (jp X0 hx g0 (hE 0 rfl) 128 rfl) (hE 1 rfl) rfl (l' := #[.val (.long x1), .second, iv 128]) rfl) t (by refine XS.lloadN X0.here hx rfl (hE 2 rfl) rfl ?_; exact kt)) t (by refine X0.ldc2Long hx hown (mvT hZ (hw _ (mi 51 rfl))) (g := (mkF m 5 lo102 [(.long x1)])) rfl (hE 3 rfl) _ ?_; exact kt)) t (by refine XS.lcmp X0.here hx rfl (hE 4 rfl) rfl ?_; exact kt)) (hE 5 rfl) rfl ((if0 _ _).trans (flt (own_lcnlt c101.1 : ¬ ((lcmpW x1 (-128 : Int64)) < (0 : Int32)))).1)) t (by refine XS.lloadN X0.here hx rfl (hE 6 rfl) rfl ?_; exact kt)) t (by refine X0.ldc2Long hx hown (mvT hZ (hw _ (mi 52 rfl))) (g := (mkF m 13 lo102 [(.long x1)])) rfl (hE 7 rfl) _ ?_; exact kt)) t (by refine XS.lcmp X0.here hx rfl (hE 8 rfl) rfl ?_; exact kt)) (hE 9 rfl) rfl ((if0 _ _).trans (flt (own_lcngt c101.2 : ¬ ((0 : Int32) < (lcmpW x1 (127 : Int64))))).2.2.1)
    have y104 := S0_.ext O0.2
    obtain ⟨T105, X105, e105, g105⟩ := own_getS X0 hx hZ hown (hw _ (mi 53 rfl)) Via.refl e0 y104 g103 (hE 10 rfl)
    have g106 := jP X105 hx (jp X105 hx (show Go p e below T105 (mkF m 25 #[.val (.long x1), .second, iv 128] [(.int (x1.toInt32)), (.ref lc)]) A0 from fun t kt => (show Go p e below T105 (mkF m 24 #[.val (.long x1), .second, iv 128] [(.long x1), (.ref lc)]) A0 from fun t kt => g105 t (by refine XS.lloadN X105.here hx rfl (hE 11 rfl) rfl ?_; exact kt)) t (by refine XS.l2i X105.here hx rfl (hE 12 rfl) rfl ?_; exact kt)) (hE 13 rfl) 128 rfl) (hE 14 rfl) rfl
    have g107 := own_rwS g106 (li1 : ((x1.toInt32) + (128 : Int32)) = (Int32.ofNat (x1.toInt + 128).toNat))
    have y108 := ZA1_.ext O0.2
    have zz109 := y108
    obtain ⟨cl109, Ar109, q109, S109, M109, H109, G109⟩ := zz109
    have in109 : ¬ ((Int32.ofNat (x1.toInt + 128).toNat) < 0 ∨ cl109.slots.size ≤ ((Int32.ofNat (x1.toInt + 128).toNat)).toNatClampNeg) := inb_of S109 ⟨by rw [Int32.lt_iff_toInt_lt, Int32.toInt_ofNat_of_lt (by omega)]; show ¬ _ < (0 : Int); omega, by rw [Int32.lt_iff_toInt_lt, Int32.toInt_ofNat_of_lt (by omega)]; show _ < (256 : Int); omega⟩
    have at109 : cl109.slots[((Int32.ofNat (x1.toInt + 128).toNat)).toNatClampNeg]? = some (.ref la) := Has.at H109 in109 (by rw [show (Int32.ofNat (x1.toInt + 128).toNat).toNatClampNeg = (x1.toInt + 128).toNat by simp only [Int32.toNatClampNeg, Int32.toInt_ofNat_of_lt (show (x1.toInt + 128).toNat < 2147483648 by omega)]; rfl]; exact lb1)
    have g110 : Go p e below T105 (mkF m 30 lo102 [(.ref la)]) A0 := fun t kont => g107 t (X105.aaload hx (j := (Int32.ofNat (x1.toInt + 128).toNat)) (v := (.ref la)) (by rw [e105]; exact Ar109.1) (State.isArrayOf_alike hZ.alike Ar109.2.1) rfl Ar109.2.2 in109 at109 (g := (mkF m 29 lo102 [(.int (Int32.ofNat (x1.toInt + 128).toNat)), (.ref lc)])) rfl rfl (hE 15 rfl) t kont)
    have K111 : Keep h0 h0 [] := (Keep.refl h0 [])
    have y112 := lb2.ext O0.2
    have y113 := lb3.ext O0.2
    refine own_leave X105 Bd (some (.ref la)) nofun g110 (fun fs hr => retOut X105 hx Bd.returns rfl (Or.inr (Or.inr (Or.inr (Or.inr ⟨rfl, rfl, rfl⟩)))) (hE 16 rfl) hr) (by decide) (by decide) ?_
    rw [e105]
    exact ⟨la, rfl, N0, K111, y112, y113⟩
  by_cases c114 : x1 < (-128 : Int64)
  ·
    let lo115 : Array Slot := #[.val (.long x1), .second, iv 128]
    have g116 := jY X0 hx (show Go p e below s₁ (mkF m 9 #[.val (.long x1), .second, iv 128] [(.int (lcmpW x1 (-128 : Int64)))]) A0 from fun t kt => (show Go p e below s₁ (mkF m 8 #[.val (.long x1), .second, iv 128] [(.long (-128 : Int64)), (.long x1)]) A0 from fun t kt => (show Go p e below s₁ (mkF m 5 #[.val (.long x1), .second, iv 128] [(.long x1)]) A0 from fun t kt => (jS X0 hx (jp X0 hx g0 (hE 0 rfl) 128 rfl) (hE 1 rfl) rfl (l' := #[.val (.long x1), .second, iv 128]) rfl) t (by refine XS.lloadN X0.here hx rfl (hE 2 rfl) rfl ?_; exact kt)) t (by refine X0.ldc2Long hx hown (mvT hZ (hw _ (mi 51 rfl))) (g := (mkF m 5 lo115 [(.long x1)])) rfl (hE 3 rfl) _ ?_; exact kt)) t (by refine XS.lcmp X0.here hx rfl (hE 4 rfl) rfl ?_; exact kt)) (hE 5 rfl) rfl ((if0 _ _).trans (tlt (own_lclt c114 : (lcmpW x1 (-128 : Int64)) < (0 : Int32))).1) (pc' := 31) (by decide)
    obtain ⟨T117, h117, X117, e117, E117, A117, D117, -, st117⟩ := newO X0 hx hZ hown (hw _ (mi 89 rfl)) (hw _ (mi 116 rfl)) (hw _ (mi 49 rfl)) e0 (g := (mkF m 31 lo115 [])) rfl (hE 17 rfl) (by decide) (by decide)
    obtain ⟨b117, gb117⟩ : ∃ z, z = h0.size := ⟨_, rfl⟩
    rw [← gb117] at A117 D117 st117
    have O118 := O0.ext E117
    have y119 : Fld Z h117 b117 "java/lang/Long" "value" "J" (.long (0 : Int64)) := D117 (Or.inr (hw _ (mi 96 rfl))) (ty := .long) (by decide)
    have g120 : Go p e below T117 (mkF m 34 lo115 [(.ref b117)]) A0 := fun t kont => g116 t (st117 t kont)
    have g121 := show Go p e below T117 (mkF m 36 #[.val (.long x1), .second, iv 128] [(.long x1), (.ref b117), (.ref b117)]) A0 from fun t kt => (jd X117 hx g120 (hE 18 rfl) rfl rfl) t (by refine XS.lloadN X117.here hx rfl (hE 19 rfl) rfl ?_; exact kt)
    have ge123 : n0 ≤ b117 := Nat.le_trans (own_old_le O0) (Nat.le_of_eq gb117.symm)
    obtain ⟨_, L122, T122, ⟨rfl, M122, K122, y124, y125⟩, X122, st122⟩ := own_callI X117 hx hZ hown (hw _ (mi 117 rfl)) (wd2 hw) (rm_lIni hw b117 x1 h117 n0 O118 A117 y119 ge123) g121 e117 [(.ref b117)] rfl (lenOf pd_1 rfl) (hE 20 rfl) hml.symm 1 rfl (by decide)
    have N122 := Fr.app N0 M122
    have O126 := O118.keep K122 (allS ge123 all0)
    have K127 : Keep h0 T122.heap [] := (((Keep.refl h0 []).ext E117).trans K122 (allS (P := fun x => x ∈ [] ∨ h0.size ≤ x) (Or.inr (Nat.le_of_eq gb117.symm)) all0))
    refine own_leave X122 Bd (some (.ref b117)) nofun st122 (fun fs hr => retOut X122 hx Bd.returns rfl (Or.inr (Or.inr (Or.inr (Or.inr ⟨rfl, rfl, rfl⟩)))) (hE 21 rfl) hr) (by decide) (by decide) ?_
    exact ⟨b117, rfl, N122, K127, y124, y125⟩
  have hhi : (127 : Int64) < x1 := Classical.byContradiction fun q => c101 ⟨c114, q⟩
  let lo128 : Array Slot := #[.val (.long x1), .second, iv 128]
  have g129 := jY X0 hx (show Go p e below s₁ (mkF m 17 #[.val (.long x1), .second, iv 128] [(.int (lcmpW x1 (127 : Int64)))]) A0 from fun t kt => (show Go p e below s₁ (mkF m 16 #[.val (.long x1), .second, iv 128] [(.long (127 : Int64)), (.long x1)]) A0 from fun t kt => (show Go p e below s₁ (mkF m 13 #[.val (.long x1), .second, iv 128] [(.long x1)]) A0 from fun t kt => (jN X0 hx (show Go p e below s₁ (mkF m 9 #[.val (.long x1), .second, iv 128] [(.int (lcmpW x1 (-128 : Int64)))]) A0 from fun t kt => (show Go p e below s₁ (mkF m 8 #[.val (.long x1), .second, iv 128] [(.long (-128 : Int64)), (.long x1)]) A0 from fun t kt => (show Go p e below s₁ (mkF m 5 #[.val (.long x1), .second, iv 128] [(.long x1)]) A0 from fun t kt => (jS X0 hx (jp X0 hx g0 (hE 0 rfl) 128 rfl) (hE 1 rfl) rfl (l' := #[.val (.long x1), .second, iv 128]) rfl) t (by refine XS.lloadN X0.here hx rfl (hE 2 rfl) rfl ?_; exact kt)) t (by refine X0.ldc2Long hx hown (mvT hZ (hw _ (mi 51 rfl))) (g := (mkF m 5 lo128 [(.long x1)])) rfl (hE 3 rfl) _ ?_; exact kt)) t (by refine XS.lcmp X0.here hx rfl (hE 4 rfl) rfl ?_; exact kt)) (hE 5 rfl) rfl ((if0 _ _).trans (flt (own_lcnlt c114 : ¬ ((lcmpW x1 (-128 : Int64)) < (0 : Int32)))).1)) t (by refine XS.lloadN X0.here hx rfl (hE 6 rfl) rfl ?_; exact kt)) t (by refine X0.ldc2Long hx hown (mvT hZ (hw _ (mi 52 rfl))) (g := (mkF m 13 lo128 [(.long x1)])) rfl (hE 7 rfl) _ ?_; exact kt)) t (by refine XS.lcmp X0.here hx rfl (hE 8 rfl) rfl ?_; exact kt)) (hE 9 rfl) rfl ((if0 _ _).trans (tlt (own_lcgt hhi : (0 : Int32) < (lcmpW x1 (127 : Int64)))).2.2.1) (pc' := 31) (by decide)
  obtain ⟨T130, h130, X130, e130, E130, A130, D130, -, st130⟩ := newO X0 hx hZ hown (hw _ (mi 89 rfl)) (hw _ (mi 116 rfl)) (hw _ (mi 49 rfl)) e0 (g := (mkF m 31 lo128 [])) rfl (hE 17 rfl) (by decide) (by decide)
  obtain ⟨b130, gb130⟩ : ∃ z, z = h0.size := ⟨_, rfl⟩
  rw [← gb130] at A130 D130 st130
  have O131 := O0.ext E130
  have y132 : Fld Z h130 b130 "java/lang/Long" "value" "J" (.long (0 : Int64)) := D130 (Or.inr (hw _ (mi 96 rfl))) (ty := .long) (by decide)
  have g133 : Go p e below T130 (mkF m 34 lo128 [(.ref b130)]) A0 := fun t kont => g129 t (st130 t kont)
  have g134 := show Go p e below T130 (mkF m 36 #[.val (.long x1), .second, iv 128] [(.long x1), (.ref b130), (.ref b130)]) A0 from fun t kt => (jd X130 hx g133 (hE 18 rfl) rfl rfl) t (by refine XS.lloadN X130.here hx rfl (hE 19 rfl) rfl ?_; exact kt)
  have ge136 : n0 ≤ b130 := Nat.le_trans (own_old_le O0) (Nat.le_of_eq gb130.symm)
  obtain ⟨_, L135, T135, ⟨rfl, M135, K135, y137, y138⟩, X135, st135⟩ := own_callI X130 hx hZ hown (hw _ (mi 117 rfl)) (wd2 hw) (rm_lIni hw b130 x1 h130 n0 O131 A130 y132 ge136) g134 e130 [(.ref b130)] rfl (lenOf pd_1 rfl) (hE 20 rfl) hml.symm 1 rfl (by decide)
  have N135 := Fr.app N0 M135
  have O139 := O131.keep K135 (allS ge136 all0)
  have K140 : Keep h0 T135.heap [] := (((Keep.refl h0 []).ext E130).trans K135 (allS (P := fun x => x ∈ [] ∨ h0.size ≤ x) (Or.inr (Nat.le_of_eq gb130.symm)) all0))
  refine own_leave X135 Bd (some (.ref b130)) nofun st135 (fun fs hr => retOut X135 hx Bd.returns rfl (Or.inr (Or.inr (Or.inr (Or.inr ⟨rfl, rfl, rfl⟩)))) (hE 21 rfl) hr) (by decide) (by decide) ?_
  exact ⟨b130, rfl, N135, K140, y137, y138⟩
theorem rm_lv (hw : HW a0 Z) (a1 : Addr) (x1 : Int64) (h0 : Heap) (n0 : Nat) (O0 : Old Z n0 h0) (F0_ : Fld Z h0 a1 "java/lang/Long" "value" "J" (.long x1)) :
    own_M l mN7 (Jvm.Cond.code mN7 jdk_35_method_31_code 1 (some .long)) [] (⟨0, 0, 0, 0⟩ : Room) #[(.ref a1)] Z h0 (fun v h L => v = some (.long x1) ∧ Fr n0 L ∧ h = h0) := by
  refine own_open n0 (plainFor_of_name pn_5) (fun m => ef_R1 m a1 ) ?_
  intro p e s m below meth c s₁ A0 Bd hx hby hml hown hnm hZ hh X0 e0 N0 g0
  have hE := own_hd hby E37
  have g101 := jA X0 hx g0 (hE 0 rfl) rfl rfl
  obtain ⟨T102, X102, e102, g102⟩ := own_getF X0 hx hZ hown (hw _ (mi 95 rfl)) Via.refl e0 F0_ g101 (hE 1 rfl)
  refine own_leave X102 Bd (some (.long x1)) nofun g102 (fun fs hr => retOut X102 hx Bd.returns rfl (Or.inr (Or.inl ⟨rfl, rfl, _, rfl⟩)) (hE 2 rfl) hr) (by decide) (by decide) ?_
  rw [e102]
  exact ⟨rfl, N0, rfl⟩
theorem ef_JJ4 (m : MethodId) (x0 : Int64) (x1 : Int64)  : entryFrame m #[(.long x0), (.long x1)] 4 = mkF m 0 #[.val (.long x0), .second, .val (.long x1), .second] [] := by first | (simp [entryFrame, mkF, argsToLocals, Value.category]; done) | rfl
theorem rm_lsum (hw : HW a0 Z) (x1 x2 : Int64) (h0 : Heap) (n0 : Nat) (O0 : Old Z n0 h0)  :
    own_M l mN8 (Jvm.Cond.code mN8 jdk_35_method_59_code 4 (some .long)) [] (⟨0, 0, 0, 0⟩ : Room) #[(.long x1), (.long x2)] Z h0 (fun v h L => v = some (.long (x1 + x2)) ∧ Fr n0 L ∧ h = h0) := by
  refine own_open n0 (plainFor_of_name pn_5) (fun m => ef_JJ4 m x1 x2 ) ?_
  intro p e s m below meth c s₁ A0 Bd hx hby hml hown hnm hZ hh X0 e0 N0 g0
  have hE := own_hd hby E40
  have g101 := show Go p e below s₁ (mkF m 3 #[.val (.long x1), .second, .val (.long x2), .second] [(.long (x1 + x2))]) A0 from fun t kt => (show Go p e below s₁ (mkF m 2 #[.val (.long x1), .second, .val (.long x2), .second] [(.long x2), (.long x1)]) A0 from fun t kt => (show Go p e below s₁ (mkF m 1 #[.val (.long x1), .second, .val (.long x2), .second] [(.long x1)]) A0 from fun t kt => g0 t (by refine XS.lloadN X0.here hx rfl (hE 0 rfl) rfl ?_; exact kt)) t (by refine XS.lloadN X0.here hx rfl (hE 1 rfl) rfl ?_; exact kt)) t (by refine XS.ladd X0.here hx rfl (hE 2 rfl) rfl ?_; exact kt)
  refine own_leave X0 Bd (some (.long (x1 + x2))) nofun g101 (fun fs hr => retOut X0 hx Bd.returns rfl (Or.inr (Or.inl ⟨rfl, rfl, _, rfl⟩)) (hE 3 rfl) hr) (by decide) (by decide) ?_
  rw [e0]
  exact ⟨rfl, N0, rfl⟩
theorem rm_lcp (hw : HW a0 Z) (x1 x2 : Int64) (h0 : Heap) (n0 : Nat) (O0 : Old Z n0 h0)  :
    own_M l mN9 (Jvm.Cond.code mN9 jdk_35_method_42_code 4 (some .int)) [] (⟨0, 0, 0, 0⟩ : Room) #[(.long x1), (.long x2)] Z h0 (fun v h L => v = some (.int (own_cmp x1 x2)) ∧ Fr n0 L ∧ h = h0) := by
  refine own_open n0 (plainFor_of_name pn_5) (fun m => ef_JJ4 m x1 x2 ) ?_
  intro p e s m below meth c s₁ A0 Bd hx hby hml hown hnm hZ hh X0 e0 N0 g0
  have hE := own_hd hby E15
  by_cases c101 : x1 < x2
  ·
    have g102 := jg X0 hx (jc X0 hx (jN X0 hx (show Go p e below s₁ (mkF m 3 #[.val (.long x1), .second, .val (.long x2), .second] [(.int (lcmpW x1 x2))]) A0 from fun t kt => (show Go p e below s₁ (mkF m 2 #[.val (.long x1), .second, .val (.long x2), .second] [(.long x2), (.long x1)]) A0 from fun t kt => (show Go p e below s₁ (mkF m 1 #[.val (.long x1), .second, .val (.long x2), .second] [(.long x1)]) A0 from fun t kt => g0 t (by refine XS.lloadN X0.here hx rfl (hE 0 rfl) rfl ?_; exact kt)) t (by refine XS.lloadN X0.here hx rfl (hE 1 rfl) rfl ?_; exact kt)) t (by refine XS.lcmp X0.here hx rfl (hE 2 rfl) rfl ?_; exact kt)) (hE 3 rfl) rfl ((if0 _ _).trans (tlt (own_lclt c101 : (lcmpW x1 x2) < (0 : Int32))).2.1)) (hE 4 rfl) (-1) rfl) (hE 5 rfl) (pc' := 21) (by decide)
    refine own_leave X0 Bd (some (.int (-1 : Int32))) nofun g102 (fun fs hr => retI X0 hx Bd.returns (hE 13 rfl) hr) (by decide) (by decide) ?_
    rw [e0]
    exact ⟨congrArg (fun z => some (Value.int z)) (own_cmpL c101).symm, N0, rfl⟩
  by_cases c103 : x1 = x2
  ·
    have g104 := jg X0 hx (jc X0 hx (jN X0 hx (show Go p e below s₁ (mkF m 13 #[.val (.long x1), .second, .val (.long x2), .second] [(.int (lcmpW x1 x2))]) A0 from fun t kt => (show Go p e below s₁ (mkF m 12 #[.val (.long x1), .second, .val (.long x2), .second] [(.long x2), (.long x1)]) A0 from fun t kt => (show Go p e below s₁ (mkF m 11 #[.val (.long x1), .second, .val (.long x2), .second] [(.long x1)]) A0 from fun t kt => (jY X0 hx (show Go p e below s₁ (mkF m 3 #[.val (.long x1), .second, .val (.long x2), .second] [(.int (lcmpW x1 x2))]) A0 from fun t kt => (show Go p e below s₁ (mkF m 2 #[.val (.long x1), .second, .val (.long x2), .second] [(.long x2), (.long x1)]) A0 from fun t kt => (show Go p e below s₁ (mkF m 1 #[.val (.long x1), .second, .val (.long x2), .second] [(.long x1)]) A0 from fun t kt => g0 t (by refine XS.lloadN X0.here hx rfl (hE 0 rfl) rfl ?_; exact kt)) t (by refine XS.lloadN X0.here hx rfl (hE 1 rfl) rfl ?_; exact kt)) t (by refine XS.lcmp X0.here hx rfl (hE 2 rfl) rfl ?_; exact kt)) (hE 3 rfl) rfl ((if0 _ _).trans (flt (own_lcnlt c101 : ¬ ((lcmpW x1 x2) < (0 : Int32)))).2.1) (pc' := 10) (by decide)) t (by refine XS.lloadN X0.here hx rfl (hE 6 rfl) rfl ?_; exact kt)) t (by refine XS.lloadN X0.here hx rfl (hE 7 rfl) rfl ?_; exact kt)) t (by refine XS.lcmp X0.here hx rfl (hE 8 rfl) rfl ?_; exact kt)) (hE 9 rfl) rfl ((if0 _ _).trans (teq (own_lceq c103 : (lcmpW x1 x2) = (0 : Int32))).2)) (hE 10 rfl) 0 rfl) (hE 11 rfl) (pc' := 21) (by decide)
    refine own_leave X0 Bd (some (.int 0)) nofun g104 (fun fs hr => retI X0 hx Bd.returns (hE 13 rfl) hr) (by decide) (by decide) ?_
    rw [e0]
    exact ⟨congrArg (fun z => some (Value.int z)) (own_cmpE c103).symm, N0, rfl⟩
  have g105 := jc X0 hx (jY X0 hx (show Go p e below s₁ (mkF m 13 #[.val (.long x1), .second, .val (.long x2), .second] [(.int (lcmpW x1 x2))]) A0 from fun t kt => (show Go p e below s₁ (mkF m 12 #[.val (.long x1), .second, .val (.long x2), .second] [(.long x2), (.long x1)]) A0 from fun t kt => (show Go p e below s₁ (mkF m 11 #[.val (.long x1), .second, .val (.long x2), .second] [(.long x1)]) A0 from fun t kt => (jY X0 hx (show Go p e below s₁ (mkF m 3 #[.val (.long x1), .second, .val (.long x2), .second] [(.int (lcmpW x1 x2))]) A0 from fun t kt => (show Go p e below s₁ (mkF m 2 #[.val (.long x1), .second, .val (.long x2), .second] [(.long x2), (.long x1)]) A0 from fun t kt => (show Go p e below s₁ (mkF m 1 #[.val (.long x1), .second, .val (.long x2), .second] [(.long x1)]) A0 from fun t kt => g0 t (by refine XS.lloadN X0.here hx rfl (hE 0 rfl) rfl ?_; exact kt)) t (by refine XS.lloadN X0.here hx rfl (hE 1 rfl) rfl ?_; exact kt)) t (by refine XS.lcmp X0.here hx rfl (hE 2 rfl) rfl ?_; exact kt)) (hE 3 rfl) rfl ((if0 _ _).trans (flt (own_lcnlt c101 : ¬ ((lcmpW x1 x2) < (0 : Int32)))).2.1) (pc' := 10) (by decide)) t (by refine XS.lloadN X0.here hx rfl (hE 6 rfl) rfl ?_; exact kt)) t (by refine XS.lloadN X0.here hx rfl (hE 7 rfl) rfl ?_; exact kt)) t (by refine XS.lcmp X0.here hx rfl (hE 8 rfl) rfl ?_; exact kt)) (hE 9 rfl) rfl ((if0 _ _).trans (feq (own_lcne c103 : ¬ ((lcmpW x1 x2) = (0 : Int32)))).2) (pc' := 20) (by decide)) (hE 12 rfl) 1 rfl
  refine own_leave X0 Bd (some (.int 1)) nofun g105 (fun fs hr => retI X0 hx Bd.returns (hE 13 rfl) hr) (by decide) (by decide) ?_
  rw [e0]
  exact ⟨congrArg (fun z => some (Value.int z)) (own_cmpG (own_gt64 c101 c103)).symm, N0, rfl⟩
theorem pd_2 : parseMethodDescriptor "(JJ)I" = some ⟨[.long, .long], some .int⟩ := by decide +kernel
theorem wd3 (hw : HW a0 Z) : own_wdS a0 Z mN9 jdk_35_method_42_code 4 (some .int) := ⟨hw _ (mi 98 rfl), hw _ (mi 49 rfl), hw _ (mi 99 rfl), by decide⟩
theorem ef_RR2 (m : MethodId) (x0 : Addr) (x1 : Addr)  : entryFrame m #[(.ref x0), (.ref x1)] 2 = mkF m 0 #[.val (.ref x0), .val (.ref x1)] [] := by first | (simp [entryFrame, mkF, argsToLocals, Value.category]; done) | rfl
theorem rm_lct (hw : HW a0 Z) (a1 a2 : Addr) (x1 x2 : Int64) (h0 : Heap) (n0 : Nat) (O0 : Old Z n0 h0) (E0_ : Exa Z h0 a1 "java/lang/Long") (F1_ : Fld Z h0 a1 "java/lang/Long" "value" "J" (.long x1)) (E2_ : Exa Z h0 a2 "java/lang/Long") (F3_ : Fld Z h0 a2 "java/lang/Long" "value" "J" (.long x2)) :
    own_M l mN10 (Jvm.Cond.code mN10 jdk_35_method_41_code 2 (some .int)) [] (⟨1, 0, 0, 15⟩ : Room) #[(.ref a1), (.ref a2)] Z h0 (fun v h L => v = some (.int (own_cmp x1 x2)) ∧ Fr n0 L ∧ h = h0) := by
  refine own_open n0 (plainFor_of_name pn_5) (fun m => ef_RR2 m a1 a2 ) ?_
  intro p e s m below meth c s₁ A0 Bd hx hby hml hown hnm hZ hh X0 e0 N0 g0
  have hE := own_hd hby E14
  have g101 := jA X0 hx g0 (hE 0 rfl) rfl rfl
  obtain ⟨T102, X102, e102, g102⟩ := own_getF X0 hx hZ hown (hw _ (mi 95 rfl)) Via.refl e0 F1_ g101 (hE 1 rfl)
  have g103 := jA X102 hx g102 (hE 2 rfl) rfl rfl
  obtain ⟨T104, X104, e104, g104⟩ := own_getF X102 hx hZ hown (hw _ (mi 95 rfl)) Via.refl e102 F3_ g103 (hE 3 rfl)
  obtain ⟨_, L105, T105, ⟨rfl, M105, e105⟩, X105, st105⟩ := own_callS X104 hx hZ hown (hw _ (mi 97 rfl)) (wd3 hw) (rm_lcp hw x1 x2 h0 n0 O0 ) g104 e104 [] rfl (lenOf pd_2 rfl) (hE 4 rfl) hml.symm 0 rfl (by decide)
  have N105 := Fr.app N0 M105
  refine own_leave X105 Bd (some (.int (own_cmp x1 x2))) nofun st105 (fun fs hr => retI X105 hx Bd.returns (hE 5 rfl) hr) (by decide) (by decide) ?_
  rw [e105]
  exact ⟨rfl, N105, rfl⟩
theorem pd_3 : parseMethodDescriptor "(Ljava/lang/Long;)I" = some ⟨[(.object "java/lang/Long")], some .int⟩ := by decide +kernel
theorem wd4 (hw : HW a0 Z) : own_wdV a0 Z "java/lang/Long" mN10 mN10 jdk_35_method_41_code 2 (some .int) := ⟨hw _ (mi 91 rfl), hw _ (mi 93 rfl), hw _ (mi 92 rfl), hw _ (mi 49 rfl), hw _ (mi 94 rfl), by decide⟩
theorem rm_lco (hw : HW a0 Z) (a1 a2 : Addr) (x1 x2 : Int64) (h0 : Heap) (n0 : Nat) (O0 : Old Z n0 h0) (E0_ : Exa Z h0 a1 "java/lang/Long") (F1_ : Fld Z h0 a1 "java/lang/Long" "value" "J" (.long x1)) (E2_ : Exa Z h0 a2 "java/lang/Long") (F3_ : Fld Z h0 a2 "java/lang/Long" "value" "J" (.long x2)) :
    own_M l mN11 (Jvm.Cond.code mN11 jdk_35_method_64_code 2 (some .int)) [] (⟨2, 0, 0, 28⟩ : Room) #[(.ref a1), (.ref a2)] Z h0 (fun v h L => v = some (.int (own_cmp x1 x2)) ∧ Fr n0 L ∧ h = h0) := by
  refine own_open n0 (plainFor_of_name pn_5) (fun m => ef_RR2 m a1 a2 ) ?_
  intro p e s m below meth c s₁ A0 Bd hx hby hml hown hnm hZ hh X0 e0 N0 g0
  have hE := own_hd hby E13
  have g101 := jA X0 hx (jA X0 hx g0 (hE 0 rfl) rfl rfl) (hE 1 rfl) rfl rfl
  obtain ⟨T102, X102, e102, st102⟩ := castY X0 hx hZ hown (hw _ (mi 89 rfl)) e0 (Ins.self E2_) (g := (mkF m 2 #[rv a1, rv a2] [(.ref a2), (.ref a1)])) rfl rfl (hE 2 rfl)
  have g103 : Go p e below T102 (mkF m 5 #[rv a1, rv a2] [(.ref a2), (.ref a1)]) A0 := fun t kont => g101 t (st102 t kont)
  obtain ⟨_, L104, T104, ⟨rfl, M104, e104⟩, X104, st104⟩ := own_callV X102 hx hZ hown (hw _ (mi 90 rfl)) (wd4 hw) (notFace_of_selects (args := #[]) (mvT hZ (hw _ (mi 93 rfl)))) E0_ (rm_lct hw a1 a2 x1 x2 h0 n0 O0 E0_ F1_ E2_ F3_) g103 e102 [] rfl (lenOf pd_3 rfl) (hE 3 rfl) hml.symm 0 rfl (by decide)
  have N104 := Fr.app N0 M104
  refine own_leave X104 Bd (some (.int (own_cmp x1 x2))) nofun st104 (fun fs hr => retI X104 hx Bd.returns (hE 4 rfl) hr) (by decide) (by decide) ?_
  rw [e104]
  exact ⟨rfl, N104, rfl⟩
theorem wd5 (hw : HW a0 Z) : own_wdI a0 Z mN0 jdk_71_method_1_code 1 := ⟨hw _ (mi 17 rfl), hw _ (mi 20 rfl), hw _ (mi 21 rfl), by decide, rfl⟩
theorem pn_6 : plainName "java/util/TreeMap" = true := by first | (simp [plainName, overriddenIn]; done) | decide +kernel
theorem rm_tIni (hw : HW a0 Z) (t1 : Addr) (h0 : Heap) (n0 : Nat) (O0 : Old Z n0 h0) (E0_ : Exa Z h0 t1 "java/util/TreeMap") (F1_ : Fld Z h0 t1 "java/util/TreeMap" "comparator" "Ljava/util/Comparator;" .null) (F2_ : Fld Z h0 t1 "java/util/TreeMap" "root" "Ljava/util/TreeMap$Entry;" .null) (F3_ : Fld Z h0 t1 "java/util/TreeMap" "size" "I" (.int 0)) (F4_ : Fld Z h0 t1 "java/util/TreeMap" "modCount" "I" (.int 0)) (F5_ : Fld Z h0 t1 "java/util/TreeMap" "entrySet" "Ljava/util/TreeMap$EntrySet;" .null) (G6_ : n0 ≤ t1) :
    own_M l mN12 (Jvm.Cond.code mN12 jdk_2729_method_1_code 1 none) [] (⟨2, 0, 0, 24⟩ : Room) #[(.ref t1)] Z h0 (fun v h L => v = none ∧ Fr n0 L ∧ Keep h0 h [t1] ∧ (Exa Z h t1 "java/util/TreeMap") ∧ (Fld Z h t1 "java/util/TreeMap" "comparator" "Ljava/util/Comparator;" .null) ∧ (Fld Z h t1 "java/util/TreeMap" "root" "Ljava/util/TreeMap$Entry;" .null) ∧ (Fld Z h t1 "java/util/TreeMap" "size" "I" (.int 0)) ∧ (Fld Z h t1 "java/util/TreeMap" "modCount" "I" (.int 0)) ∧ (Fld Z h t1 "java/util/TreeMap" "entrySet" "Ljava/util/TreeMap$EntrySet;" .null)) := by
  refine own_open n0 (plainFor_of_name pn_6) (fun m => ef_R1 m t1 ) ?_
  intro p e s m below meth c s₁ A0 Bd hx hby hml hown hnm hZ hh X0 e0 N0 g0
  have hE := own_hd hby E3
  have g101 := jA X0 hx g0 (hE 0 rfl) rfl rfl
  obtain ⟨_, L102, T102, ⟨rfl, M102, e102⟩, X102, st102⟩ := own_callI X0 hx hZ hown (hw _ (mi 16 rfl)) (wd5 hw) (rm_ini0 hw t1 h0 n0 O0 ) g101 e0 [] rfl (lenOf pd_0 rfl) (hE 1 rfl) hml.symm 0 rfl (by decide)
  have N102 := Fr.app N0 M102
  have g103 := jc X102 hx (jA X102 hx st102 (hE 2 rfl) rfl rfl) (hE 3 rfl) 0 rfl
  obtain ⟨T104, h104, X104, e104, W104, st104⟩ := putF X102 hx hZ hown (host := "") (Or.inl (hw _ (mi 23 rfl))) Via.refl e102 F3_ E0_ (Or.inl (hw _ (mi 24 rfl))) (hw _ (mi 11 rfl)) (ty := .int) (by decide) rfl rfl (g := (mkF m 6 #[rv t1] [(.int 0), (.ref t1)])) rfl rfl (hE 4 rfl)
  have O105 := O0.wr W104 G6_
  have y106 : Fld Z h104 t1 "java/util/TreeMap" "size" "I" (.int 0) := F3_.same W104
  have N104 := Fr.snoc X104 N102 G6_
  have g107 : Go p e below T104 (mkF m 9 #[rv t1] []) A0 := fun t kont => g103 t (st104 t kont)
  have g108 := jc X104 hx (jA X104 hx g107 (hE 5 rfl) rfl rfl) (hE 6 rfl) 0 rfl
  have y109 := (E0_.wr W104)
  have y110 := (F4_.other W104 (Or.inr (slot_ne (Or.inl (hw _ (mi 26 rfl))) (Or.inl (hw _ (mi 24 rfl))) (by decide) (t := .int) (t' := .int) (by decide) (by decide))))
  obtain ⟨T111, h111, X111, e111, W111, st111⟩ := putF X104 hx hZ hown (host := "") (Or.inl (hw _ (mi 25 rfl))) Via.refl e104 y110 y109 (Or.inl (hw _ (mi 26 rfl))) (hw _ (mi 11 rfl)) (ty := .int) (by decide) rfl rfl (g := (mkF m 11 #[rv t1] [(.int 0), (.ref t1)])) rfl rfl (hE 7 rfl)
  have O112 := O105.wr W111 G6_
  have y113 : Fld Z h111 t1 "java/util/TreeMap" "modCount" "I" (.int 0) := y110.same W111
  have N111 := Fr.snoc X111 N104 G6_
  have g114 : Go p e below T111 (mkF m 14 #[rv t1] []) A0 := fun t kont => g108 t (st111 t kont)
  have g115 := show Go p e below T111 (mkF m 16 #[rv t1] [.null, (.ref t1)]) A0 from fun t kt => (jA X111 hx g114 (hE 8 rfl) rfl rfl) t (by refine XS.aconstNull X111.here hx rfl (hE 9 rfl) ?_; exact kt)
  have y116 := (y109.wr W111)
  have y117 := ((F1_.other W104 (Or.inr (slot_ne (Or.inr (hw _ (mi 28 rfl))) (Or.inl (hw _ (mi 24 rfl))) (by decide) (t := (.object "java/util/Comparator")) (t' := .int) (by decide) (by decide)))).other W111 (Or.inr (slot_ne (Or.inr (hw _ (mi 28 rfl))) (Or.inl (hw _ (mi 26 rfl))) (by decide) (t := (.object "java/util/Comparator")) (t' := .int) (by decide) (by decide))))
  obtain ⟨T118, h118, X118, e118, W118, st118⟩ := putF X111 hx hZ hown (host := "") (Or.inl (hw _ (mi 27 rfl))) Via.refl e111 y117 y116 (Or.inr ⟨(hw _ (mi 28 rfl)), rfl, hnm⟩) (hw _ (mi 11 rfl)) (ty := (.object "java/util/Comparator")) (by decide) rfl rfl (g := (mkF m 16 #[rv t1] [.null, (.ref t1)])) rfl rfl (hE 10 rfl)
  have O119 := O112.wr W118 G6_
  have y120 : Fld Z h118 t1 "java/util/TreeMap" "comparator" "Ljava/util/Comparator;" .null := y117.same W118
  have N118 := Fr.snoc X118 N111 G6_
  have g121 : Go p e below T118 (mkF m 19 #[rv t1] []) A0 := fun t kont => g115 t (st118 t kont)
  have K122 : Keep h0 h118 [t1] := ((((Keep.refl h0 [t1]).wr W104 (Or.inl (mi 0 rfl))).wr W111 (Or.inl (mi 0 rfl))).wr W118 (Or.inl (mi 0 rfl)))
  have y123 := (y116.wr W118)
  have y124 := (((F2_.other W104 (Or.inr (slot_ne (Or.inl (hw _ (mi 68 rfl))) (Or.inl (hw _ (mi 24 rfl))) (by decide) (t := (.object "java/util/TreeMap$Entry")) (t' := .int) (by decide) (by decide)))).other W111 (Or.inr (slot_ne (Or.inl (hw _ (mi 68 rfl))) (Or.inl (hw _ (mi 26 rfl))) (by decide) (t := (.object "java/util/TreeMap$Entry")) (t' := .int) (by decide) (by decide)))).other W118 (Or.inr (slot_ne (Or.inl (hw _ (mi 68 rfl))) (Or.inr (hw _ (mi 28 rfl))) (by decide) (t := (.object "java/util/TreeMap$Entry")) (t' := (.object "java/util/Comparator")) (by decide) (by decide))))
  have y125 := ((y106.other W111 (Or.inr (slot_ne (Or.inl (hw _ (mi 24 rfl))) (Or.inl (hw _ (mi 26 rfl))) (by decide) (t := .int) (t' := .int) (by decide) (by decide)))).other W118 (Or.inr (slot_ne (Or.inl (hw _ (mi 24 rfl))) (Or.inr (hw _ (mi 28 rfl))) (by decide) (t := .int) (t' := (.object "java/util/Comparator")) (by decide) (by decide))))
  have y126 := (y113.other W118 (Or.inr (slot_ne (Or.inl (hw _ (mi 26 rfl))) (Or.inr (hw _ (mi 28 rfl))) (by decide) (t := .int) (t' := (.object "java/util/Comparator")) (by decide) (by decide))))
  have y127 := (((F5_.other W104 (Or.inr (slot_ne (Or.inl (hw _ (mi 153 rfl))) (Or.inl (hw _ (mi 24 rfl))) (by decide) (t := (.object "java/util/TreeMap$EntrySet")) (t' := .int) (by decide) (by decide)))).other W111 (Or.inr (slot_ne (Or.inl (hw _ (mi 153 rfl))) (Or.inl (hw _ (mi 26 rfl))) (by decide) (t := (.object "java/util/TreeMap$EntrySet")) (t' := .int) (by decide) (by decide)))).other W118 (Or.inr (slot_ne (Or.inl (hw _ (mi 153 rfl))) (Or.inr (hw _ (mi 28 rfl))) (by decide) (t := (.object "java/util/TreeMap$EntrySet")) (t' := (.object "java/util/Comparator")) (by decide) (by decide))))
  refine own_leave X118 Bd (none) (fun _ => rfl) g121 (fun fs hr => X118.returnOut hx Bd.returns (hE 11 rfl) hr) (by decide) (by decide) ?_
  rw [e118]
  exact ⟨rfl, N118, K122, y123, y120, y124, y125, y126, y127⟩
theorem wd6 (hw : HW a0 Z) : own_wdI a0 Z mN12 jdk_2729_method_1_code 1 := ⟨hw _ (mi 14 rfl), hw _ (mi 12 rfl), hw _ (mi 15 rfl), by decide, rfl⟩
theorem pn_7 : plainName "com/example/fetch_from_near/fetchfromnear/Histogram" = true := by first | (simp [plainName, overriddenIn]; done) | decide +kernel
theorem rm_hIni (hw : HW a0 Z) (h1 : Addr) (h0 : Heap) (n0 : Nat) (O0 : Old Z n0 h0) (E0_ : Exa Z h0 h1 "com/example/fetch_from_near/fetchfromnear/Histogram") (F1_ : Fld Z h0 h1 "com/example/fetch_from_near/fetchfromnear/Histogram" "counts" "Ljava/util/TreeMap;" .null) (F2_ : Fld Z h0 h1 "com/example/fetch_from_near/fetchfromnear/Histogram" "total" "J" (.long (0 : Int64))) (G3_ : n0 ≤ h1) :
    own_M l mN13 (Jvm.Cond.code mN13 prog_10_method_1_code 1 none) [] (⟨3, 1, 9, 38⟩ : Room) #[(.ref h1)] Z h0 (fun v h L => ∃ (tm : Addr), v = none ∧ Fr n0 L ∧ Keep h0 h [h1] ∧ h0.size ≤ tm ∧ (Fld Z h h1 "com/example/fetch_from_near/fetchfromnear/Histogram" "counts" "Ljava/util/TreeMap;" (.ref tm)) ∧ (Fld Z h h1 "com/example/fetch_from_near/fetchfromnear/Histogram" "total" "J" (.long (0 : Int64))) ∧ (Exa Z h tm "java/util/TreeMap") ∧ (Fld Z h tm "java/util/TreeMap" "comparator" "Ljava/util/Comparator;" .null) ∧ (Fld Z h tm "java/util/TreeMap" "root" "Ljava/util/TreeMap$Entry;" .null) ∧ (Fld Z h tm "java/util/TreeMap" "size" "I" (.int 0)) ∧ (Fld Z h tm "java/util/TreeMap" "modCount" "I" (.int 0)) ∧ (Fld Z h tm "java/util/TreeMap" "entrySet" "Ljava/util/TreeMap$EntrySet;" .null)) := by
  refine own_open n0 (plainFor_of_name pn_7) (fun m => ef_R1 m h1 ) ?_
  intro p e s m below meth c s₁ A0 Bd hx hby hml hown hnm hZ hh X0 e0 N0 g0
  have hE := own_hd hby E1
  have g101 := jA X0 hx g0 (hE 0 rfl) rfl rfl
  obtain ⟨T102, X102, e102, st102⟩ := initO X0 hx hZ hown (hw _ (mi 7 rfl)) (hw _ (mi 8 rfl)) (hw _ (mi 9 rfl)) e0 (g := (mkF m 1 #[rv h1] [(.ref h1)])) rfl (by rw [hml]; rfl) rfl (hE 1 rfl) (by decide) (W := 0) (by show 2 * 0 + _ ≤ _; exact Nat.le_of_eq rfl) (by decide)
  have g103 : Go p e below T102 (mkF m 4 #[rv h1] []) A0 := fun t kont => g101 t (st102 t kont)
  have g104 := jA X102 hx g103 (hE 2 rfl) rfl rfl
  obtain ⟨T105, h105, X105, e105, E105, A105, D105, -, st105⟩ := newO X102 hx hZ hown (hw _ (mi 10 rfl)) (hw _ (mi 11 rfl)) (hw _ (mi 12 rfl)) e102 (g := (mkF m 5 #[rv h1] [(.ref h1)])) rfl (hE 3 rfl) (by decide) (by decide)
  obtain ⟨b105, gb105⟩ : ∃ z, z = h0.size := ⟨_, rfl⟩
  rw [← gb105] at A105 D105 st105
  have O106 := O0.ext E105
  have y107 : Fld Z h105 b105 "java/util/TreeMap" "size" "I" (.int 0) := D105 (Or.inl (hw _ (mi 24 rfl))) (ty := .int) (by decide)
  have y108 : Fld Z h105 b105 "java/util/TreeMap" "modCount" "I" (.int 0) := D105 (Or.inl (hw _ (mi 26 rfl))) (ty := .int) (by decide)
  have y109 : Fld Z h105 b105 "java/util/TreeMap" "comparator" "Ljava/util/Comparator;" .null := D105 (Or.inr (hw _ (mi 28 rfl))) (ty := (.object "java/util/Comparator")) (by decide)
  have y110 : Fld Z h105 b105 "java/util/TreeMap" "root" "Ljava/util/TreeMap$Entry;" .null := D105 (Or.inl (hw _ (mi 68 rfl))) (ty := (.object "java/util/TreeMap$Entry")) (by decide)
  have y111 : Fld Z h105 b105 "java/util/TreeMap" "entrySet" "Ljava/util/TreeMap$EntrySet;" .null := D105 (Or.inl (hw _ (mi 153 rfl))) (ty := (.object "java/util/TreeMap$EntrySet")) (by decide)
  have g112 : Go p e below T105 (mkF m 8 #[rv h1] [(.ref b105), (.ref h1)]) A0 := fun t kont => g104 t (st105 t kont)
  have g113 := jd X105 hx g112 (hE 4 rfl) rfl rfl
  have ge115 : n0 ≤ b105 := Nat.le_trans (own_old_le O0) (Nat.le_of_eq gb105.symm)
  obtain ⟨_, L114, T114, ⟨rfl, M114, K114, y116, y117, y118, y119, y120, y121⟩, X114, st114⟩ := own_callI X105 hx hZ hown (hw _ (mi 13 rfl)) (wd6 hw) (rm_tIni hw b105 h105 n0 O106 A105 y109 y110 y107 y108 y111 ge115) g113 e105 [(.ref b105), (.ref h1)] rfl (lenOf pd_0 rfl) (hE 5 rfl) hml.symm 2 rfl (by decide)
  have N114 := Fr.app N0 M114
  have O122 := O106.keep K114 (allS ge115 all0)
  have y123 := ((E0_.ext E105).keep K114)
  have y124 := ((F1_.ext E105).keep K114 (ninS (Nat.ne_of_lt (Nat.lt_of_lt_of_le E0_.lt (Nat.le_of_eq gb105.symm))) nin0))
  obtain ⟨T125, h125, X125, e125, W125, st125⟩ := putF X114 hx hZ hown (host := "") (Or.inl (hw _ (mi 29 rfl))) Via.refl rfl y124 y123 (Or.inr ⟨(hw _ (mi 30 rfl)), rfl, hnm⟩) (hw _ (mi 2 rfl)) (ty := (.object "java/util/TreeMap")) (by decide) rfl rfl (g := (mkF m 12 #[rv h1] [(.ref b105), (.ref h1)])) rfl rfl (hE 6 rfl)
  have O126 := O122.wr W125 G3_
  have y127 : Fld Z h125 h1 "com/example/fetch_from_near/fetchfromnear/Histogram" "counts" "Ljava/util/TreeMap;" (.ref b105) := y124.same W125
  have N125 := Fr.snoc X125 N114 G3_
  have g128 : Go p e below T125 (mkF m 15 #[rv h1] []) A0 := fun t kont => st114 t (st125 t kont)
  have K129 : Keep h0 h125 [h1] := ((((Keep.refl h0 [h1]).ext E105).trans K114 (allS (P := fun x => x ∈ [h1] ∨ h0.size ≤ x) (Or.inr (Nat.le_of_eq gb105.symm)) all0)).wr W125 (Or.inl (mi 0 rfl)))
  have y130 := (((F2_.ext E105).keep K114 (ninS (Nat.ne_of_lt (Nat.lt_of_lt_of_le E0_.lt (Nat.le_of_eq gb105.symm))) nin0)).other W125 (Or.inr (slot_ne (Or.inl (hw _ (mi 37 rfl))) (Or.inr (hw _ (mi 30 rfl))) (by decide) (t := .long) (t' := (.object "java/util/TreeMap")) (by decide) (by decide))))
  have y131 := (y116.wr W125)
  have y132 := (y117.other W125 (Or.inl (Ne.symm (Nat.ne_of_lt (Nat.lt_of_lt_of_le E0_.lt (Nat.le_of_eq gb105.symm))))))
  have y133 := (y118.other W125 (Or.inl (Ne.symm (Nat.ne_of_lt (Nat.lt_of_lt_of_le E0_.lt (Nat.le_of_eq gb105.symm))))))
  have y134 := (y119.other W125 (Or.inl (Ne.symm (Nat.ne_of_lt (Nat.lt_of_lt_of_le E0_.lt (Nat.le_of_eq gb105.symm))))))
  have y135 := (y120.other W125 (Or.inl (Ne.symm (Nat.ne_of_lt (Nat.lt_of_lt_of_le E0_.lt (Nat.le_of_eq gb105.symm))))))
  have y136 := (y121.other W125 (Or.inl (Ne.symm (Nat.ne_of_lt (Nat.lt_of_lt_of_le E0_.lt (Nat.le_of_eq gb105.symm))))))
  refine own_leave X125 Bd (none) (fun _ => rfl) g128 (fun fs hr => X125.returnOut hx Bd.returns (hE 7 rfl) hr) (by decide) (by decide) ?_
  rw [e125]
  exact ⟨b105, rfl, N125, K129, (Nat.le_of_eq gb105.symm), y127, y130, y131, y132, y133, y134, y135, y136⟩
theorem pn_8 : plainName "java/util/TreeMap$Entry" = true := by first | (simp [plainName, overriddenIn]; done) | decide +kernel
theorem ef_RRRV4 (m : MethodId) (x0 : Addr) (x1 : Addr) (x2 : Addr) (x3 : Value) (h3 : x3.isRef = true) : entryFrame m #[(.ref x0), (.ref x1), (.ref x2), x3] 4 = mkF m 0 #[.val (.ref x0), .val (.ref x1), .val (.ref x2), .val x3] [] := by (rcases ref_cases h3 with rfl | ⟨_, rfl⟩) <;> first | (simp [entryFrame, mkF, argsToLocals, Value.category]; done) | rfl
theorem rm_eIni (hw : HW a0 Z) (e1 k1 v1 : Addr) (p1 : Value) (h0 : Heap) (n0 : Nat) (O0 : Old Z n0 h0) (hp1 : p1.isRef = true) (E1_ : Exa Z h0 e1 "java/util/TreeMap$Entry") (F2_ : Fld Z h0 e1 "java/util/TreeMap$Entry" "color" "Z" (.int 0)) (F3_ : Fld Z h0 e1 "java/util/TreeMap$Entry" "key" "Ljava/lang/Object;" .null) (F4_ : Fld Z h0 e1 "java/util/TreeMap$Entry" "value" "Ljava/lang/Object;" .null) (F5_ : Fld Z h0 e1 "java/util/TreeMap$Entry" "parent" "Ljava/util/TreeMap$Entry;" .null) (F6_ : Fld Z h0 e1 "java/util/TreeMap$Entry" "left" "Ljava/util/TreeMap$Entry;" .null) (F7_ : Fld Z h0 e1 "java/util/TreeMap$Entry" "right" "Ljava/util/TreeMap$Entry;" .null) (G8_ : n0 ≤ e1) :
    own_M l mN14 (Jvm.Cond.code mN14 jdk_2736_method_1_code 4 none) [] (⟨1, 0, 0, 12⟩ : Room) #[(.ref e1), (.ref k1), (.ref v1), p1] Z h0 (fun v h L => v = none ∧ Fr n0 L ∧ Keep h0 h [e1] ∧ (Fld Z h e1 "java/util/TreeMap$Entry" "left" "Ljava/util/TreeMap$Entry;" .null) ∧ (Fld Z h e1 "java/util/TreeMap$Entry" "right" "Ljava/util/TreeMap$Entry;" .null) ∧ (Fld Z h e1 "java/util/TreeMap$Entry" "color" "Z" (.int 1)) ∧ (Fld Z h e1 "java/util/TreeMap$Entry" "key" "Ljava/lang/Object;" (.ref k1)) ∧ (Fld Z h e1 "java/util/TreeMap$Entry" "value" "Ljava/lang/Object;" (.ref v1)) ∧ (Fld Z h e1 "java/util/TreeMap$Entry" "parent" "Ljava/util/TreeMap$Entry;" p1) ∧ (Exa Z h e1 "java/util/TreeMap$Entry")) := by
  refine own_open n0 (plainFor_of_name pn_8) (fun m => ef_RRRV4 m e1 k1 v1 p1 (hp1)) ?_
  intro p e s m below meth c s₁ A0 Bd hx hby hml hown hnm hZ hh X0 e0 N0 g0
  have hE := own_hd hby E16
  have g101 := jA X0 hx g0 (hE 0 rfl) rfl rfl
  obtain ⟨T102, X102, e102, st102⟩ := initO X0 hx hZ hown (hw _ (mi 107 rfl)) (hw _ (mi 8 rfl)) (hw _ (mi 9 rfl)) e0 (g := (mkF m 1 #[rv e1, rv k1, rv v1, .val p1] [(.ref e1)])) rfl (by rw [hml]; rfl) rfl (hE 1 rfl) (by decide) (W := 0) (by show 2 * 0 + _ ≤ _; exact Nat.le_of_eq rfl) (by decide)
  have g103 : Go p e below T102 (mkF m 4 #[rv e1, rv k1, rv v1, .val p1] []) A0 := fun t kont => g101 t (st102 t kont)
  have g104 := jc X102 hx (jA X102 hx g103 (hE 2 rfl) rfl rfl) (hE 3 rfl) 1 rfl
  obtain ⟨T105, h105, X105, e105, W105, st105⟩ := putFN X102 hx hZ hown (hw _ (mi 108 rfl)) Via.refl e102 F2_ E1_ (Or.inl (hw _ (mi 109 rfl))) (hw _ (mi 101 rfl)) (ty := .boolean) (v := (.int 1)) (v' := (.int 1)) (by decide) (own_nw_boolean (by decide : nar .boolean (1 : Int32) = (1 : Int32))) (own_ft_boolean (by decide : nar .boolean (1 : Int32) = (1 : Int32))) (g := (mkF m 6 #[rv e1, rv k1, rv v1, .val p1] [(.int 1), (.ref e1)])) rfl rfl (hE 4 rfl)
  have O106 := O0.wr W105 G8_
  have y107 : Fld Z h105 e1 "java/util/TreeMap$Entry" "color" "Z" (.int 1) := F2_.same W105
  have N105 := Fr.snoc X105 N0 G8_
  have g108 : Go p e below T105 (mkF m 9 #[rv e1, rv k1, rv v1, .val p1] []) A0 := fun t kont => g104 t (st105 t kont)
  have g109 := jA X105 hx (jA X105 hx g108 (hE 5 rfl) rfl rfl) (hE 6 rfl) rfl rfl
  have y110 := (E1_.wr W105)
  have y111 := (F3_.other W105 (Or.inr (slot_ne (Or.inl (hw _ (mi 111 rfl))) (Or.inl (hw _ (mi 109 rfl))) (by decide) (t := (.object "java/lang/Object")) (t' := .boolean) (by decide) (by decide))))
  obtain ⟨T112, h112, X112, e112, W112, st112⟩ := putF X105 hx hZ hown (host := "") (Or.inl (hw _ (mi 110 rfl))) Via.refl e105 y111 y110 (Or.inl (hw _ (mi 111 rfl))) (hw _ (mi 101 rfl)) (ty := (.object "java/lang/Object")) (by decide) rfl rfl (g := (mkF m 11 #[rv e1, rv k1, rv v1, .val p1] [(.ref k1), (.ref e1)])) rfl rfl (hE 7 rfl)
  have O113 := O106.wr W112 G8_
  have y114 : Fld Z h112 e1 "java/util/TreeMap$Entry" "key" "Ljava/lang/Object;" (.ref k1) := y111.same W112
  have N112 := Fr.snoc X112 N105 G8_
  have g115 : Go p e below T112 (mkF m 14 #[rv e1, rv k1, rv v1, .val p1] []) A0 := fun t kont => g109 t (st112 t kont)
  have g116 := jA X112 hx (jA X112 hx g115 (hE 8 rfl) rfl rfl) (hE 9 rfl) rfl rfl
  have y117 := (y110.wr W112)
  have y118 := ((F4_.other W105 (Or.inr (slot_ne (Or.inl (hw _ (mi 113 rfl))) (Or.inl (hw _ (mi 109 rfl))) (by decide) (t := (.object "java/lang/Object")) (t' := .boolean) (by decide) (by decide)))).other W112 (Or.inr (slot_ne (Or.inl (hw _ (mi 113 rfl))) (Or.inl (hw _ (mi 111 rfl))) (by decide) (t := (.object "java/lang/Object")) (t' := (.object "java/lang/Object")) (by decide) (by decide))))
  obtain ⟨T119, h119, X119, e119, W119, st119⟩ := putF X112 hx hZ hown (host := "") (Or.inl (hw _ (mi 112 rfl))) Via.refl e112 y118 y117 (Or.inl (hw _ (mi 113 rfl))) (hw _ (mi 101 rfl)) (ty := (.object "java/lang/Object")) (by decide) rfl rfl (g := (mkF m 16 #[rv e1, rv k1, rv v1, .val p1] [(.ref v1), (.ref e1)])) rfl rfl (hE 10 rfl)
  have O120 := O113.wr W119 G8_
  have y121 : Fld Z h119 e1 "java/util/TreeMap$Entry" "value" "Ljava/lang/Object;" (.ref v1) := y118.same W119
  have N119 := Fr.snoc X119 N112 G8_
  have g122 : Go p e below T119 (mkF m 19 #[rv e1, rv k1, rv v1, .val p1] []) A0 := fun t kont => g116 t (st119 t kont)
  have g123 := jA X119 hx (jA X119 hx g122 (hE 11 rfl) rfl rfl) (hE 12 rfl) rfl (hp1)
  have y124 := (y117.wr W119)
  have y125 := (((F5_.other W105 (Or.inr (slot_ne (Or.inl (hw _ (mi 115 rfl))) (Or.inl (hw _ (mi 109 rfl))) (by decide) (t := (.object "java/util/TreeMap$Entry")) (t' := .boolean) (by decide) (by decide)))).other W112 (Or.inr (slot_ne (Or.inl (hw _ (mi 115 rfl))) (Or.inl (hw _ (mi 111 rfl))) (by decide) (t := (.object "java/util/TreeMap$Entry")) (t' := (.object "java/lang/Object")) (by decide) (by decide)))).other W119 (Or.inr (slot_ne (Or.inl (hw _ (mi 115 rfl))) (Or.inl (hw _ (mi 113 rfl))) (by decide) (t := (.object "java/util/TreeMap$Entry")) (t' := (.object "java/lang/Object")) (by decide) (by decide))))
  obtain ⟨T126, h126, X126, e126, W126, st126⟩ := putF X119 hx hZ hown (host := "") (Or.inl (hw _ (mi 114 rfl))) Via.refl e119 y125 y124 (Or.inl (hw _ (mi 115 rfl))) (hw _ (mi 101 rfl)) (ty := (.object "java/util/TreeMap$Entry")) (by decide) (own_retA _ (hp1) _ rfl) (own_fitA _ (hp1) _ rfl) (g := (mkF m 21 #[rv e1, rv k1, rv v1, .val p1] [p1, (.ref e1)])) rfl rfl (hE 13 rfl)
  have O127 := O120.wr W126 G8_
  have y128 : Fld Z h126 e1 "java/util/TreeMap$Entry" "parent" "Ljava/util/TreeMap$Entry;" p1 := y125.same W126
  have N126 := Fr.snoc X126 N119 G8_
  have g129 : Go p e below T126 (mkF m 24 #[rv e1, rv k1, rv v1, .val p1] []) A0 := fun t kont => g123 t (st126 t kont)
  have K130 : Keep h0 h126 [e1] := (((((Keep.refl h0 [e1]).wr W105 (Or.inl (mi 0 rfl))).wr W112 (Or.inl (mi 0 rfl))).wr W119 (Or.inl (mi 0 rfl))).wr W126 (Or.inl (mi 0 rfl)))
  have y131 := ((((F6_.other W105 (Or.inr (slot_ne (Or.inl (hw _ (mi 129 rfl))) (Or.inl (hw _ (mi 109 rfl))) (by decide) (t := (.object "java/util/TreeMap$Entry")) (t' := .boolean) (by decide) (by decide)))).other W112 (Or.inr (slot_ne (Or.inl (hw _ (mi 129 rfl))) (Or.inl (hw _ (mi 111 rfl))) (by decide) (t := (.object "java/util/TreeMap$Entry")) (t' := (.object "java/lang/Object")) (by decide) (by decide)))).other W119 (Or.inr (slot_ne (Or.inl (hw _ (mi 129 rfl))) (Or.inl (hw _ (mi 113 rfl))) (by decide) (t := (.object "java/util/TreeMap$Entry")) (t' := (.object "java/lang/Object")) (by decide) (by decide)))).other W126 (Or.inr (slot_ne (Or.inl (hw _ (mi 129 rfl))) (Or.inl (hw _ (mi 115 rfl))) (by decide) (t := (.object "java/util/TreeMap$Entry")) (t' := (.object "java/util/TreeMap$Entry")) (by decide) (by decide))))
  have y132 := ((((F7_.other W105 (Or.inr (slot_ne (Or.inl (hw _ (mi 251 rfl))) (Or.inl (hw _ (mi 109 rfl))) (by decide) (t := (.object "java/util/TreeMap$Entry")) (t' := .boolean) (by decide) (by decide)))).other W112 (Or.inr (slot_ne (Or.inl (hw _ (mi 251 rfl))) (Or.inl (hw _ (mi 111 rfl))) (by decide) (t := (.object "java/util/TreeMap$Entry")) (t' := (.object "java/lang/Object")) (by decide) (by decide)))).other W119 (Or.inr (slot_ne (Or.inl (hw _ (mi 251 rfl))) (Or.inl (hw _ (mi 113 rfl))) (by decide) (t := (.object "java/util/TreeMap$Entry")) (t' := (.object "java/lang/Object")) (by decide) (by decide)))).other W126 (Or.inr (slot_ne (Or.inl (hw _ (mi 251 rfl))) (Or.inl (hw _ (mi 115 rfl))) (by decide) (t := (.object "java/util/TreeMap$Entry")) (t' := (.object "java/util/TreeMap$Entry")) (by decide) (by decide))))
  have y133 := (((y107.other W112 (Or.inr (slot_ne (Or.inl (hw _ (mi 109 rfl))) (Or.inl (hw _ (mi 111 rfl))) (by decide) (t := .boolean) (t' := (.object "java/lang/Object")) (by decide) (by decide)))).other W119 (Or.inr (slot_ne (Or.inl (hw _ (mi 109 rfl))) (Or.inl (hw _ (mi 113 rfl))) (by decide) (t := .boolean) (t' := (.object "java/lang/Object")) (by decide) (by decide)))).other W126 (Or.inr (slot_ne (Or.inl (hw _ (mi 109 rfl))) (Or.inl (hw _ (mi 115 rfl))) (by decide) (t := .boolean) (t' := (.object "java/util/TreeMap$Entry")) (by decide) (by decide))))
  have y134 := ((y114.other W119 (Or.inr (slot_ne (Or.inl (hw _ (mi 111 rfl))) (Or.inl (hw _ (mi 113 rfl))) (by decide) (t := (.object "java/lang/Object")) (t' := (.object "java/lang/Object")) (by decide) (by decide)))).other W126 (Or.inr (slot_ne (Or.inl (hw _ (mi 111 rfl))) (Or.inl (hw _ (mi 115 rfl))) (by decide) (t := (.object "java/lang/Object")) (t' := (.object "java/util/TreeMap$Entry")) (by decide) (by decide))))
  have y135 := (y121.other W126 (Or.inr (slot_ne (Or.inl (hw _ (mi 113 rfl))) (Or.inl (hw _ (mi 115 rfl))) (by decide) (t := (.object "java/lang/Object")) (t' := (.object "java/util/TreeMap$Entry")) (by decide) (by decide))))
  have y136 := (y124.wr W126)
  refine own_leave X126 Bd (none) (fun _ => rfl) g129 (fun fs hr => X126.returnOut hx Bd.returns (hE 14 rfl) hr) (by decide) (by decide) ?_
  rw [e126]
  exact ⟨rfl, N126, K130, y131, y132, y133, y134, y135, y128, y136⟩
theorem pd_4 : parseMethodDescriptor "(Ljava/lang/Object;)I" = some ⟨[(.object "java/lang/Object")], some .int⟩ := by decide +kernel
theorem ef_RRR3 (m : MethodId) (x0 : Addr) (x1 : Addr) (x2 : Addr)  : entryFrame m #[(.ref x0), (.ref x1), (.ref x2)] 3 = mkF m 0 #[.val (.ref x0), .val (.ref x1), .val (.ref x2)] [] := by first | (simp [entryFrame, mkF, argsToLocals, Value.category]; done) | rfl
theorem rm_tcmp (hw : HW a0 Z) (t1 a1 a2 : Addr) (x1 x2 : Int64) (h0 : Heap) (n0 : Nat) (O0 : Old Z n0 h0) (E0_ : Exa Z h0 t1 "java/util/TreeMap") (F1_ : Fld Z h0 t1 "java/util/TreeMap" "comparator" "Ljava/util/Comparator;" .null) (E2_ : Exa Z h0 a1 "java/lang/Long") (F3_ : Fld Z h0 a1 "java/lang/Long" "value" "J" (.long x1)) (E4_ : Exa Z h0 a2 "java/lang/Long") (F5_ : Fld Z h0 a2 "java/lang/Long" "value" "J" (.long x2)) :
    own_M l mN15 (Jvm.Cond.code mN15 jdk_2729_method_67_code 3 (some .int)) [] (⟨3, 0, 0, 41⟩ : Room) #[(.ref t1), (.ref a1), (.ref a2)] Z h0 (fun v h L => v = some (.int (own_cmp x1 x2)) ∧ Fr n0 L ∧ h = h0) := by
  refine own_open n0 (plainFor_of_name pn_6) (fun m => ef_RRR3 m t1 a1 a2 ) ?_
  intro p e s m below meth c s₁ A0 Bd hx hby hml hown hnm hZ hh X0 e0 N0 g0
  have hE := own_hd hby E12
  have g101 := jA X0 hx g0 (hE 0 rfl) rfl rfl
  obtain ⟨T102, X102, e102, g102⟩ := own_getF X0 hx hZ hown (hw _ (mi 27 rfl)) Via.refl e0 F1_ g101 (hE 1 rfl)
  have g103 := jA X102 hx (show Go p e below T102 (mkF m 7 #[rv t1, rv a1, rv a2] []) A0 from fun t kt => g102 t (by refine XS.ifnonnullNo X102.here hx rfl (hE 2 rfl) rfl ?_; exact kt)) (hE 3 rfl) rfl rfl
  obtain ⟨T104, X104, e104, st104⟩ := castY X102 hx hZ hown (hw _ (mi 79 rfl)) e102 (Ins.of_exa E2_ (hw _ (mi 80 rfl))) (g := (mkF m 8 #[rv t1, rv a1, rv a2] [(.ref a1)])) rfl rfl (hE 4 rfl)
  have g105 : Go p e below T104 (mkF m 11 #[rv t1, rv a1, rv a2] [(.ref a1)]) A0 := fun t kont => g103 t (st104 t kont)
  have g106 := jA X104 hx g105 (hE 5 rfl) rfl rfl
  obtain ⟨_, L107, T107, ⟨rfl, M107, e107⟩, X107, st107⟩ := own_callF X104 hx hZ hown (hw _ (mi 81 rfl)) (hw _ (mi 82 rfl)) (mvT hZ (hw _ (mi 83 rfl))) (hw _ (mi 84 rfl)) (hw _ (mi 85 rfl)) (hw _ (mi 86 rfl)) (hw _ (mi 87 rfl)) (hw _ (mi 80 rfl)) (hw _ (mi 49 rfl)) (hw _ (mi 88 rfl)) (by decide) E2_ (rm_lco hw a1 a2 x1 x2 h0 n0 O0 E2_ F3_ E4_ F5_) g106 e104 [] rfl (lenOf pd_4 rfl) (hE 6 rfl) hml.symm 0 rfl (by decide)
  have N107 := Fr.app N0 M107
  have g108 := jg X107 hx st107 (hE 7 rfl) (pc' := 31) (by decide)
  refine own_leave X107 Bd (some (.int (own_cmp x1 x2))) nofun g108 (fun fs hr => retI X107 hx Bd.returns (hE 8 rfl) hr) (by decide) (by decide) ?_
  rw [e107]
  exact ⟨rfl, N107, rfl⟩
theorem pd_5 : parseMethodDescriptor "(Ljava/lang/Object;Ljava/lang/Object;)I" = some ⟨[(.object "java/lang/Object"), (.object "java/lang/Object")], some .int⟩ := by decide +kernel
theorem wd7 (hw : HW a0 Z) : own_wdV a0 Z "java/util/TreeMap" mN15 mN15 jdk_2729_method_67_code 3 (some .int) := ⟨hw _ (mi 75 rfl), hw _ (mi 77 rfl), hw _ (mi 76 rfl), hw _ (mi 12 rfl), hw _ (mi 78 rfl), by decide⟩
theorem pd_6 : parseMethodDescriptor "(Ljava/lang/Object;Ljava/lang/Object;Ljava/util/TreeMap$Entry;)V" = some ⟨[(.object "java/lang/Object"), (.object "java/lang/Object"), (.object "java/util/TreeMap$Entry")], none⟩ := by decide +kernel
theorem wd8 (hw : HW a0 Z) : own_wdI a0 Z mN14 jdk_2736_method_1_code 4 := ⟨hw _ (mi 104 rfl), hw _ (mi 102 rfl), hw _ (mi 106 rfl), by decide, rfl⟩
theorem rm_aem (hw : HW a0 Z) (t1 k1 v1 : Addr) (x1 : Int64) (sz mc : Int32) (h0 : Heap) (n0 : Nat) (O0 : Old Z n0 h0) (E0_ : Exa Z h0 t1 "java/util/TreeMap") (F1_ : Fld Z h0 t1 "java/util/TreeMap" "comparator" "Ljava/util/Comparator;" .null) (F2_ : Fld Z h0 t1 "java/util/TreeMap" "root" "Ljava/util/TreeMap$Entry;" .null) (F3_ : Fld Z h0 t1 "java/util/TreeMap" "size" "I" (.int sz)) (F4_ : Fld Z h0 t1 "java/util/TreeMap" "modCount" "I" (.int mc)) (F5_ : Fld Z h0 t1 "java/util/TreeMap" "entrySet" "Ljava/util/TreeMap$EntrySet;" .null) (E6_ : Exa Z h0 k1 "java/lang/Long") (F7_ : Fld Z h0 k1 "java/lang/Long" "value" "J" (.long x1)) (G8_ : n0 ≤ t1) :
    own_M l mN16 (Jvm.Cond.code mN16 jdk_2729_method_30_code 3 none) [] (⟨4, 1, 6, 55⟩ : Room) #[(.ref t1), (.ref k1), (.ref v1)] Z h0 (fun v h L => ∃ (e1 : Addr), v = none ∧ Fr n0 L ∧ Keep h0 h [t1] ∧ h0.size ≤ e1 ∧ (Exa Z h t1 "java/util/TreeMap") ∧ (Fld Z h t1 "java/util/TreeMap" "comparator" "Ljava/util/Comparator;" .null) ∧ (Fld Z h t1 "java/util/TreeMap" "root" "Ljava/util/TreeMap$Entry;" (.ref e1)) ∧ (Fld Z h t1 "java/util/TreeMap" "size" "I" (.int 1)) ∧ (Fld Z h t1 "java/util/TreeMap" "modCount" "I" (.int (mc + (1 : Int32)))) ∧ (Fld Z h t1 "java/util/TreeMap" "entrySet" "Ljava/util/TreeMap$EntrySet;" .null) ∧ (Exa Z h e1 "java/util/TreeMap$Entry") ∧ (Fld Z h e1 "java/util/TreeMap$Entry" "key" "Ljava/lang/Object;" (.ref k1)) ∧ (Fld Z h e1 "java/util/TreeMap$Entry" "value" "Ljava/lang/Object;" (.ref v1)) ∧ (Fld Z h e1 "java/util/TreeMap$Entry" "left" "Ljava/util/TreeMap$Entry;" .null) ∧ (Fld Z h e1 "java/util/TreeMap$Entry" "right" "Ljava/util/TreeMap$Entry;" .null) ∧ (Fld Z h e1 "java/util/TreeMap$Entry" "parent" "Ljava/util/TreeMap$Entry;" .null) ∧ (Fld Z h e1 "java/util/TreeMap$Entry" "color" "Z" (.int 1))) := by
  refine own_open n0 (plainFor_of_name pn_6) (fun m => ef_RRR3 m t1 k1 v1 ) ?_
  intro p e s m below meth c s₁ A0 Bd hx hby hml hown hnm hZ hh X0 e0 N0 g0
  have hE := own_hd hby E11
  have g101 := jA X0 hx (jA X0 hx (jA X0 hx g0 (hE 0 rfl) rfl rfl) (hE 1 rfl) rfl rfl) (hE 2 rfl) rfl rfl
  obtain ⟨_, L102, T102, ⟨rfl, M102, e102⟩, X102, st102⟩ := own_callV X0 hx hZ hown (hw _ (mi 74 rfl)) (wd7 hw) (notFace_of_selects (args := #[]) (mvT hZ (hw _ (mi 77 rfl)))) E0_ (rm_tcmp hw t1 k1 k1 x1 x1 h0 n0 O0 E0_ F1_ E6_ F7_ E6_ F7_) g101 e0 [] rfl (lenOf pd_5 rfl) (hE 3 rfl) hml.symm 0 rfl (by decide)
  have N102 := Fr.app N0 M102
  have g103 := jA X102 hx (jo X102 hx st102 (hE 4 rfl) rfl rfl) (hE 5 rfl) rfl rfl
  obtain ⟨T104, h104, X104, e104, E104, A104, D104, -, st104⟩ := newO X102 hx hZ hown (hw _ (mi 100 rfl)) (hw _ (mi 101 rfl)) (hw _ (mi 102 rfl)) e102 (g := (mkF m 8 #[rv t1, rv k1, rv v1] [(.ref t1)])) rfl (hE 6 rfl) (by decide) (by decide)
  obtain ⟨b104, gb104⟩ : ∃ z, z = h0.size := ⟨_, rfl⟩
  rw [← gb104] at A104 D104 st104
  have O105 := O0.ext E104
  have y106 : Fld Z h104 b104 "java/util/TreeMap$Entry" "color" "Z" (.int 0) := D104 (Or.inl (hw _ (mi 109 rfl))) (ty := .boolean) (by decide)
  have y107 : Fld Z h104 b104 "java/util/TreeMap$Entry" "key" "Ljava/lang/Object;" .null := D104 (Or.inl (hw _ (mi 111 rfl))) (ty := (.object "java/lang/Object")) (by decide)
  have y108 : Fld Z h104 b104 "java/util/TreeMap$Entry" "value" "Ljava/lang/Object;" .null := D104 (Or.inl (hw _ (mi 113 rfl))) (ty := (.object "java/lang/Object")) (by decide)
  have y109 : Fld Z h104 b104 "java/util/TreeMap$Entry" "parent" "Ljava/util/TreeMap$Entry;" .null := D104 (Or.inl (hw _ (mi 115 rfl))) (ty := (.object "java/util/TreeMap$Entry")) (by decide)
  have y110 : Fld Z h104 b104 "java/util/TreeMap$Entry" "left" "Ljava/util/TreeMap$Entry;" .null := D104 (Or.inl (hw _ (mi 129 rfl))) (ty := (.object "java/util/TreeMap$Entry")) (by decide)
  have y111 : Fld Z h104 b104 "java/util/TreeMap$Entry" "right" "Ljava/util/TreeMap$Entry;" .null := D104 (Or.inl (hw _ (mi 251 rfl))) (ty := (.object "java/util/TreeMap$Entry")) (by decide)
  have g112 : Go p e below T104 (mkF m 11 #[rv t1, rv k1, rv v1] [(.ref b104), (.ref t1)]) A0 := fun t kont => g103 t (st104 t kont)
  have g113 := show Go p e below T104 (mkF m 15 #[rv t1, rv k1, rv v1] [.null, (.ref v1), (.ref k1), (.ref b104), (.ref b104), (.ref t1)]) A0 from fun t kt => (jA X104 hx (jA X104 hx (jd X104 hx g112 (hE 7 rfl) rfl rfl) (hE 8 rfl) rfl rfl) (hE 9 rfl) rfl rfl) t (by refine XS.aconstNull X104.here hx rfl (hE 10 rfl) ?_; exact kt)
  have ge115 : n0 ≤ b104 := Nat.le_trans (own_old_le O0) (Nat.le_of_eq gb104.symm)
  obtain ⟨_, L114, T114, ⟨rfl, M114, K114, y116, y117, y118, y119, y120, y121, y122⟩, X114, st114⟩ := own_callI X104 hx hZ hown (hw _ (mi 103 rfl)) (wd8 hw) (rm_eIni hw b104 k1 v1 .null h104 n0 O105 (rfl) A104 y106 y107 y108 y109 y110 y111 ge115) g113 e104 [(.ref b104), (.ref t1)] rfl (lenOf pd_6 rfl) (hE 11 rfl) hml.symm 2 rfl (by decide)
  have N114 := Fr.app N102 M114
  have O123 := O105.keep K114 (allS ge115 all0)
  have y124 := ((E0_.ext E104).keep K114)
  have y125 := ((F2_.ext E104).keep K114 (ninS (Nat.ne_of_lt (Nat.lt_of_lt_of_le E0_.lt (Nat.le_of_eq gb104.symm))) nin0))
  obtain ⟨T126, h126, X126, e126, W126, st126⟩ := putF X114 hx hZ hown (host := "") (Or.inl (hw _ (mi 67 rfl))) Via.refl rfl y125 y124 (Or.inl (hw _ (mi 68 rfl))) (hw _ (mi 11 rfl)) (ty := (.object "java/util/TreeMap$Entry")) (by decide) rfl rfl (g := (mkF m 18 #[rv t1, rv k1, rv v1] [(.ref b104), (.ref t1)])) rfl rfl (hE 12 rfl)
  have O127 := O123.wr W126 G8_
  have y128 : Fld Z h126 t1 "java/util/TreeMap" "root" "Ljava/util/TreeMap$Entry;" (.ref b104) := y125.same W126
  have N126 := Fr.snoc X126 N114 G8_
  have g129 : Go p e below T126 (mkF m 21 #[rv t1, rv k1, rv v1] []) A0 := fun t kont => st114 t (st126 t kont)
  have g130 := jc X126 hx (jA X126 hx g129 (hE 13 rfl) rfl rfl) (hE 14 rfl) 1 rfl
  have y131 := (y124.wr W126)
  have y132 := (((F3_.ext E104).keep K114 (ninS (Nat.ne_of_lt (Nat.lt_of_lt_of_le E0_.lt (Nat.le_of_eq gb104.symm))) nin0)).other W126 (Or.inr (slot_ne (Or.inl (hw _ (mi 24 rfl))) (Or.inl (hw _ (mi 68 rfl))) (by decide) (t := .int) (t' := (.object "java/util/TreeMap$Entry")) (by decide) (by decide))))
  obtain ⟨T133, h133, X133, e133, W133, st133⟩ := putF X126 hx hZ hown (host := "") (Or.inl (hw _ (mi 23 rfl))) Via.refl e126 y132 y131 (Or.inl (hw _ (mi 24 rfl))) (hw _ (mi 11 rfl)) (ty := .int) (by decide) rfl rfl (g := (mkF m 23 #[rv t1, rv k1, rv v1] [(.int 1), (.ref t1)])) rfl rfl (hE 15 rfl)
  have O134 := O127.wr W133 G8_
  have y135 : Fld Z h133 t1 "java/util/TreeMap" "size" "I" (.int 1) := y132.same W133
  have N133 := Fr.snoc X133 N126 G8_
  have g136 : Go p e below T133 (mkF m 26 #[rv t1, rv k1, rv v1] []) A0 := fun t kont => g130 t (st133 t kont)
  have g137 := jd X133 hx (jA X133 hx g136 (hE 16 rfl) rfl rfl) (hE 17 rfl) rfl rfl
  have y138 := ((((F4_.ext E104).keep K114 (ninS (Nat.ne_of_lt (Nat.lt_of_lt_of_le E0_.lt (Nat.le_of_eq gb104.symm))) nin0)).other W126 (Or.inr (slot_ne (Or.inl (hw _ (mi 26 rfl))) (Or.inl (hw _ (mi 68 rfl))) (by decide) (t := .int) (t' := (.object "java/util/TreeMap$Entry")) (by decide) (by decide)))).other W133 (Or.inr (slot_ne (Or.inl (hw _ (mi 26 rfl))) (Or.inl (hw _ (mi 24 rfl))) (by decide) (t := .int) (t' := .int) (by decide) (by decide))))
  obtain ⟨T139, X139, e139, g139⟩ := own_getF X133 hx hZ hown (hw _ (mi 25 rfl)) Via.refl e133 y138 g137 (hE 18 rfl)
  have g140 := jP X139 hx (jc X139 hx g139 (hE 19 rfl) 1 rfl) (hE 20 rfl) rfl
  have y141 := (y131.wr W133)
  obtain ⟨T142, h142, X142, e142, W142, st142⟩ := putF X139 hx hZ hown (host := "") (Or.inl (hw _ (mi 25 rfl))) Via.refl e139 y138 y141 (Or.inl (hw _ (mi 26 rfl))) (hw _ (mi 11 rfl)) (ty := .int) (by decide) rfl rfl (g := (mkF m 33 #[rv t1, rv k1, rv v1] [(.int (mc + (1 : Int32))), (.ref t1)])) rfl rfl (hE 21 rfl)
  have O143 := O134.wr W142 G8_
  have y144 : Fld Z h142 t1 "java/util/TreeMap" "modCount" "I" (.int (mc + (1 : Int32))) := y138.same W142
  have N142 := Fr.snoc X142 N133 G8_
  have g145 : Go p e below T142 (mkF m 36 #[rv t1, rv k1, rv v1] []) A0 := fun t kont => g140 t (st142 t kont)
  have K146 : Keep h0 h142 [t1] := ((((((Keep.refl h0 [t1]).ext E104).trans K114 (allS (P := fun x => x ∈ [t1] ∨ h0.size ≤ x) (Or.inr (Nat.le_of_eq gb104.symm)) all0)).wr W126 (Or.inl (mi 0 rfl))).wr W133 (Or.inl (mi 0 rfl))).wr W142 (Or.inl (mi 0 rfl)))
  have y147 := (y141.wr W142)
  have y148 := (((((F1_.ext E104).keep K114 (ninS (Nat.ne_of_lt (Nat.lt_of_lt_of_le E0_.lt (Nat.le_of_eq gb104.symm))) nin0)).other W126 (Or.inr (slot_ne (Or.inr (hw _ (mi 28 rfl))) (Or.inl (hw _ (mi 68 rfl))) (by decide) (t := (.object "java/util/Comparator")) (t' := (.object "java/util/TreeMap$Entry")) (by decide) (by decide)))).other W133 (Or.inr (slot_ne (Or.inr (hw _ (mi 28 rfl))) (Or.inl (hw _ (mi 24 rfl))) (by decide) (t := (.object "java/util/Comparator")) (t' := .int) (by decide) (by decide)))).other W142 (Or.inr (slot_ne (Or.inr (hw _ (mi 28 rfl))) (Or.inl (hw _ (mi 26 rfl))) (by decide) (t := (.object "java/util/Comparator")) (t' := .int) (by decide) (by decide))))
  have y149 := ((y128.other W133 (Or.inr (slot_ne (Or.inl (hw _ (mi 68 rfl))) (Or.inl (hw _ (mi 24 rfl))) (by decide) (t := (.object "java/util/TreeMap$Entry")) (t' := .int) (by decide) (by decide)))).other W142 (Or.inr (slot_ne (Or.inl (hw _ (mi 68 rfl))) (Or.inl (hw _ (mi 26 rfl))) (by decide) (t := (.object "java/util/TreeMap$Entry")) (t' := .int) (by decide) (by decide))))
  have y150 := (y135.other W142 (Or.inr (slot_ne (Or.inl (hw _ (mi 24 rfl))) (Or.inl (hw _ (mi 26 rfl))) (by decide) (t := .int) (t' := .int) (by decide) (by decide))))
  have y151 := (((((F5_.ext E104).keep K114 (ninS (Nat.ne_of_lt (Nat.lt_of_lt_of_le E0_.lt (Nat.le_of_eq gb104.symm))) nin0)).other W126 (Or.inr (slot_ne (Or.inl (hw _ (mi 153 rfl))) (Or.inl (hw _ (mi 68 rfl))) (by decide) (t := (.object "java/util/TreeMap$EntrySet")) (t' := (.object "java/util/TreeMap$Entry")) (by decide) (by decide)))).other W133 (Or.inr (slot_ne (Or.inl (hw _ (mi 153 rfl))) (Or.inl (hw _ (mi 24 rfl))) (by decide) (t := (.object "java/util/TreeMap$EntrySet")) (t' := .int) (by decide) (by decide)))).other W142 (Or.inr (slot_ne (Or.inl (hw _ (mi 153 rfl))) (Or.inl (hw _ (mi 26 rfl))) (by decide) (t := (.object "java/util/TreeMap$EntrySet")) (t' := .int) (by decide) (by decide))))
  have y152 := (((y122.wr W126).wr W133).wr W142)
  have y153 := (((y119.other W126 (Or.inl (Ne.symm (Nat.ne_of_lt (Nat.lt_of_lt_of_le E0_.lt (Nat.le_of_eq gb104.symm)))))).other W133 (Or.inl (Ne.symm (Nat.ne_of_lt (Nat.lt_of_lt_of_le E0_.lt (Nat.le_of_eq gb104.symm)))))).other W142 (Or.inl (Ne.symm (Nat.ne_of_lt (Nat.lt_of_lt_of_le E0_.lt (Nat.le_of_eq gb104.symm))))))
  have y154 := (((y120.other W126 (Or.inl (Ne.symm (Nat.ne_of_lt (Nat.lt_of_lt_of_le E0_.lt (Nat.le_of_eq gb104.symm)))))).other W133 (Or.inl (Ne.symm (Nat.ne_of_lt (Nat.lt_of_lt_of_le E0_.lt (Nat.le_of_eq gb104.symm)))))).other W142 (Or.inl (Ne.symm (Nat.ne_of_lt (Nat.lt_of_lt_of_le E0_.lt (Nat.le_of_eq gb104.symm))))))
  have y155 := (((y116.other W126 (Or.inl (Ne.symm (Nat.ne_of_lt (Nat.lt_of_lt_of_le E0_.lt (Nat.le_of_eq gb104.symm)))))).other W133 (Or.inl (Ne.symm (Nat.ne_of_lt (Nat.lt_of_lt_of_le E0_.lt (Nat.le_of_eq gb104.symm)))))).other W142 (Or.inl (Ne.symm (Nat.ne_of_lt (Nat.lt_of_lt_of_le E0_.lt (Nat.le_of_eq gb104.symm))))))
  have y156 := (((y117.other W126 (Or.inl (Ne.symm (Nat.ne_of_lt (Nat.lt_of_lt_of_le E0_.lt (Nat.le_of_eq gb104.symm)))))).other W133 (Or.inl (Ne.symm (Nat.ne_of_lt (Nat.lt_of_lt_of_le E0_.lt (Nat.le_of_eq gb104.symm)))))).other W142 (Or.inl (Ne.symm (Nat.ne_of_lt (Nat.lt_of_lt_of_le E0_.lt (Nat.le_of_eq gb104.symm))))))
  have y157 := (((y121.other W126 (Or.inl (Ne.symm (Nat.ne_of_lt (Nat.lt_of_lt_of_le E0_.lt (Nat.le_of_eq gb104.symm)))))).other W133 (Or.inl (Ne.symm (Nat.ne_of_lt (Nat.lt_of_lt_of_le E0_.lt (Nat.le_of_eq gb104.symm)))))).other W142 (Or.inl (Ne.symm (Nat.ne_of_lt (Nat.lt_of_lt_of_le E0_.lt (Nat.le_of_eq gb104.symm))))))
  have y158 := (((y118.other W126 (Or.inl (Ne.symm (Nat.ne_of_lt (Nat.lt_of_lt_of_le E0_.lt (Nat.le_of_eq gb104.symm)))))).other W133 (Or.inl (Ne.symm (Nat.ne_of_lt (Nat.lt_of_lt_of_le E0_.lt (Nat.le_of_eq gb104.symm)))))).other W142 (Or.inl (Ne.symm (Nat.ne_of_lt (Nat.lt_of_lt_of_le E0_.lt (Nat.le_of_eq gb104.symm))))))
  refine own_leave X142 Bd (none) (fun _ => rfl) g145 (fun fs hr => X142.returnOut hx Bd.returns (hE 22 rfl) hr) (by decide) (by decide) ?_
  rw [e142]
  exact ⟨b104, rfl, N142, K146, (Nat.le_of_eq gb104.symm), y147, y148, y149, y150, y144, y151, y152, y153, y154, y155, y156, y157, y158⟩
theorem ef_RR3 (m : MethodId) (x0 : Addr) (x1 : Addr)  : entryFrame m #[(.ref x0), (.ref x1)] 3 = mkF m 0 #[.val (.ref x0), .val (.ref x1), .unset] [] := by first | (simp [entryFrame, mkF, argsToLocals, Value.category]; done) | rfl
theorem rm_fixL (hw : HW a0 Z) (t1 e1 k1 v1 : Addr) (sz mc : Int32) (e2 k2 v2 : Addr) (h0 : Heap) (n0 : Nat) (O0 : Old Z n0 h0) (E0_ : Exa Z h0 t1 "java/util/TreeMap") (F1_ : Fld Z h0 t1 "java/util/TreeMap" "comparator" "Ljava/util/Comparator;" .null) (F2_ : Fld Z h0 t1 "java/util/TreeMap" "root" "Ljava/util/TreeMap$Entry;" (.ref e1)) (F3_ : Fld Z h0 t1 "java/util/TreeMap" "size" "I" (.int sz)) (F4_ : Fld Z h0 t1 "java/util/TreeMap" "modCount" "I" (.int mc)) (F5_ : Fld Z h0 t1 "java/util/TreeMap" "entrySet" "Ljava/util/TreeMap$EntrySet;" .null) (E6_ : Exa Z h0 e1 "java/util/TreeMap$Entry") (F7_ : Fld Z h0 e1 "java/util/TreeMap$Entry" "key" "Ljava/lang/Object;" (.ref k1)) (F8_ : Fld Z h0 e1 "java/util/TreeMap$Entry" "value" "Ljava/lang/Object;" (.ref v1)) (F9_ : Fld Z h0 e1 "java/util/TreeMap$Entry" "left" "Ljava/util/TreeMap$Entry;" (.ref e2)) (F10_ : Fld Z h0 e1 "java/util/TreeMap$Entry" "right" "Ljava/util/TreeMap$Entry;" .null) (F11_ : Fld Z h0 e1 "java/util/TreeMap$Entry" "parent" "Ljava/util/TreeMap$Entry;" .null) (F12_ : Fld Z h0 e1 "java/util/TreeMap$Entry" "color" "Z" (.int 1)) (E13_ : Exa Z h0 e2 "java/util/TreeMap$Entry") (F14_ : Fld Z h0 e2 "java/util/TreeMap$Entry" "key" "Ljava/lang/Object;" (.ref k2)) (F15_ : Fld Z h0 e2 "java/util/TreeMap$Entry" "value" "Ljava/lang/Object;" (.ref v2)) (F16_ : Fld Z h0 e2 "java/util/TreeMap$Entry" "left" "Ljava/util/TreeMap$Entry;" .null) (F17_ : Fld Z h0 e2 "java/util/TreeMap$Entry" "right" "Ljava/util/TreeMap$Entry;" .null) (F18_ : Fld Z h0 e2 "java/util/TreeMap$Entry" "parent" "Ljava/util/TreeMap$Entry;" (.ref e1)) (F19_ : Fld Z h0 e2 "java/util/TreeMap$Entry" "color" "Z" (.int 1)) (G20_ : n0 ≤ e1) (G21_ : n0 ≤ e2) (NE22_ : ¬ (e1 = e2)) :
    own_M l mN17 (Jvm.Cond.code mN17 jdk_2729_method_83_code 3 none) [] (⟨0, 0, 0, 0⟩ : Room) #[(.ref t1), (.ref e2)] Z h0 (fun v h L => v = none ∧ Fr n0 L ∧ Keep h0 h [e1, e2] ∧ (Exa Z h e1 "java/util/TreeMap$Entry") ∧ (Fld Z h e1 "java/util/TreeMap$Entry" "key" "Ljava/lang/Object;" (.ref k1)) ∧ (Fld Z h e1 "java/util/TreeMap$Entry" "value" "Ljava/lang/Object;" (.ref v1)) ∧ (Fld Z h e1 "java/util/TreeMap$Entry" "left" "Ljava/util/TreeMap$Entry;" (.ref e2)) ∧ (Fld Z h e1 "java/util/TreeMap$Entry" "right" "Ljava/util/TreeMap$Entry;" .null) ∧ (Fld Z h e1 "java/util/TreeMap$Entry" "parent" "Ljava/util/TreeMap$Entry;" .null) ∧ (Fld Z h e1 "java/util/TreeMap$Entry" "color" "Z" (.int 1)) ∧ (Exa Z h e2 "java/util/TreeMap$Entry") ∧ (Fld Z h e2 "java/util/TreeMap$Entry" "key" "Ljava/lang/Object;" (.ref k2)) ∧ (Fld Z h e2 "java/util/TreeMap$Entry" "value" "Ljava/lang/Object;" (.ref v2)) ∧ (Fld Z h e2 "java/util/TreeMap$Entry" "left" "Ljava/util/TreeMap$Entry;" .null) ∧ (Fld Z h e2 "java/util/TreeMap$Entry" "right" "Ljava/util/TreeMap$Entry;" .null) ∧ (Fld Z h e2 "java/util/TreeMap$Entry" "parent" "Ljava/util/TreeMap$Entry;" (.ref e1)) ∧ (Fld Z h e2 "java/util/TreeMap$Entry" "color" "Z" (.int 0))) := by
  refine own_open n0 (plainFor_of_name pn_6) (fun m => ef_RR3 m t1 e2 ) ?_
  intro p e s m below meth c s₁ A0 Bd hx hby hml hown hnm hZ hh X0 e0 N0 g0
  have hE := own_hd hby E20
  have g101 := jc X0 hx (jA X0 hx g0 (hE 0 rfl) rfl rfl) (hE 1 rfl) 0 rfl
  obtain ⟨T102, h102, X102, e102, W102, st102⟩ := putFN X0 hx hZ hown (hw _ (mi 140 rfl)) Via.refl e0 F19_ E13_ (Or.inl (hw _ (mi 109 rfl))) (hw _ (mi 101 rfl)) (ty := .boolean) (v := (.int 0)) (v' := (.int 0)) (by decide) (own_nw_boolean (by decide : nar .boolean (0 : Int32) = (0 : Int32))) (own_ft_boolean (by decide : nar .boolean (0 : Int32) = (0 : Int32))) (g := (mkF m 2 #[rv t1, rv e2, .unset] [(.int 0), (.ref e2)])) rfl rfl (hE 2 rfl)
  have O103 := O0.wr W102 G21_
  have y104 : Fld Z h102 e2 "java/util/TreeMap$Entry" "color" "Z" (.int 0) := F19_.same W102
  have N102 := Fr.snoc X102 N0 G21_
  have g105 : Go p e below T102 (mkF m 5 #[rv t1, rv e2, .unset] []) A0 := fun t kont => g101 t (st102 t kont)
  have g106 := jA X102 hx (jA X102 hx (show Go p e below T102 (mkF m 9 #[rv t1, rv e2, .unset] []) A0 from fun t kt => (jA X102 hx g105 (hE 3 rfl) rfl rfl) t (by refine XS.ifnullNo X102.here hx rfl (hE 4 rfl) rfl ?_; exact kt)) (hE 5 rfl) rfl rfl) (hE 6 rfl) rfl rfl
  have y107 := (E0_.wr W102)
  have y108 := (E13_.wr W102)
  have y109 := (F2_.other W102 (Or.inl (ne_exa y107 y108 (by decide))))
  obtain ⟨T110, X110, e110, g110⟩ := own_getF X102 hx hZ hown (hw _ (mi 67 rfl)) Via.refl e102 y109 g106 (hE 7 rfl)
  have g111 := jA X110 hx (show Go p e below T110 (mkF m 17 #[rv t1, rv e2, .unset] []) A0 from fun t kt => g110 t (by refine Jvm.RoadKit.acmp (g := (mkF m 14 #[rv t1, rv e2, .unset] [(.ref e1), (.ref e2)])) X110 hx rfl rfl rfl (pc0 := 14) (pc' := 17) (same := false) rfl (hE 8 rfl) rfl (decide_eq_false fun q => (Ne.symm NE22_) (Value.ref.inj q)) (by decide) (by decide) ?_; exact kt)) (hE 9 rfl) rfl rfl
  have y112 := (F18_.other W102 (Or.inr (slot_ne (Or.inl (hw _ (mi 115 rfl))) (Or.inl (hw _ (mi 109 rfl))) (by decide) (t := (.object "java/util/TreeMap$Entry")) (t' := .boolean) (by decide) (by decide))))
  obtain ⟨T113, X113, e113, g113⟩ := own_getF X110 hx hZ hown (hw _ (mi 141 rfl)) Via.refl e110 y112 g111 (hE 10 rfl)
  have y114 := (F12_.other W102 (Or.inl NE22_))
  obtain ⟨T115, X115, e115, g115⟩ := own_getF X113 hx hZ hown (hw _ (mi 140 rfl)) Via.refl e113 y114 g113 (hE 11 rfl)
  have g116 := jA X115 hx (jY X115 hx g115 (hE 12 rfl) rfl (by decide) (pc' := 258) (by decide)) (hE 13 rfl) rfl rfl
  obtain ⟨T117, X117, e117, g117⟩ := own_getF X115 hx hZ hown (hw _ (mi 67 rfl)) Via.refl e115 y109 g116 (hE 14 rfl)
  have g118 := jc X117 hx g117 (hE 15 rfl) 1 rfl
  have y119 := (E6_.wr W102)
  obtain ⟨T120, h120, X120, e120, W120, st120⟩ := putFN X117 hx hZ hown (hw _ (mi 140 rfl)) Via.refl e117 y114 y119 (Or.inl (hw _ (mi 109 rfl))) (hw _ (mi 101 rfl)) (ty := .boolean) (v := (.int 1)) (v' := (.int 1)) (by decide) (own_nw_boolean (by decide : nar .boolean (1 : Int32) = (1 : Int32))) (own_ft_boolean (by decide : nar .boolean (1 : Int32) = (1 : Int32))) (g := (mkF m 263 #[rv t1, rv e2, .unset] [(.int 1), (.ref e1)])) rfl rfl (hE 16 rfl)
  have O121 := O103.wr W120 G20_
  have y122 : Fld Z h120 e1 "java/util/TreeMap$Entry" "color" "Z" (.int 1) := y114.same W120
  have N120 := Fr.snoc X120 N102 G20_
  have g123 : Go p e below T120 (mkF m 266 #[rv t1, rv e2, .unset] []) A0 := fun t kont => g118 t (st120 t kont)
  have K124 : Keep h0 h120 [e1, e2] := (((Keep.refl h0 [e1, e2]).wr W102 (Or.inl (mi 1 rfl))).wr W120 (Or.inl (mi 0 rfl)))
  have y125 := (y119.wr W120)
  have y126 := ((F7_.other W102 (Or.inl NE22_)).other W120 (Or.inr (slot_ne (Or.inl (hw _ (mi 111 rfl))) (Or.inl (hw _ (mi 109 rfl))) (by decide) (t := (.object "java/lang/Object")) (t' := .boolean) (by decide) (by decide))))
  have y127 := ((F8_.other W102 (Or.inl NE22_)).other W120 (Or.inr (slot_ne (Or.inl (hw _ (mi 113 rfl))) (Or.inl (hw _ (mi 109 rfl))) (by decide) (t := (.object "java/lang/Object")) (t' := .boolean) (by decide) (by decide))))
  have y128 := ((F9_.other W102 (Or.inl NE22_)).other W120 (Or.inr (slot_ne (Or.inl (hw _ (mi 129 rfl))) (Or.inl (hw _ (mi 109 rfl))) (by decide) (t := (.object "java/util/TreeMap$Entry")) (t' := .boolean) (by decide) (by decide))))
  have y129 := ((F10_.other W102 (Or.inl NE22_)).other W120 (Or.inr (slot_ne (Or.inl (hw _ (mi 251 rfl))) (Or.inl (hw _ (mi 109 rfl))) (by decide) (t := (.object "java/util/TreeMap$Entry")) (t' := .boolean) (by decide) (by decide))))
  have y130 := ((F11_.other W102 (Or.inl NE22_)).other W120 (Or.inr (slot_ne (Or.inl (hw _ (mi 115 rfl))) (Or.inl (hw _ (mi 109 rfl))) (by decide) (t := (.object "java/util/TreeMap$Entry")) (t' := .boolean) (by decide) (by decide))))
  have y131 := (y108.wr W120)
  have y132 := ((F14_.other W102 (Or.inr (slot_ne (Or.inl (hw _ (mi 111 rfl))) (Or.inl (hw _ (mi 109 rfl))) (by decide) (t := (.object "java/lang/Object")) (t' := .boolean) (by decide) (by decide)))).other W120 (Or.inl (Ne.symm NE22_)))
  have y133 := ((F15_.other W102 (Or.inr (slot_ne (Or.inl (hw _ (mi 113 rfl))) (Or.inl (hw _ (mi 109 rfl))) (by decide) (t := (.object "java/lang/Object")) (t' := .boolean) (by decide) (by decide)))).other W120 (Or.inl (Ne.symm NE22_)))
  have y134 := ((F16_.other W102 (Or.inr (slot_ne (Or.inl (hw _ (mi 129 rfl))) (Or.inl (hw _ (mi 109 rfl))) (by decide) (t := (.object "java/util/TreeMap$Entry")) (t' := .boolean) (by decide) (by decide)))).other W120 (Or.inl (Ne.symm NE22_)))
  have y135 := ((F17_.other W102 (Or.inr (slot_ne (Or.inl (hw _ (mi 251 rfl))) (Or.inl (hw _ (mi 109 rfl))) (by decide) (t := (.object "java/util/TreeMap$Entry")) (t' := .boolean) (by decide) (by decide)))).other W120 (Or.inl (Ne.symm NE22_)))
  have y136 := (y112.other W120 (Or.inl (Ne.symm NE22_)))
  have y137 := (y104.other W120 (Or.inl (Ne.symm NE22_)))
  refine own_leave X120 Bd (none) (fun _ => rfl) g123 (fun fs hr => X120.returnOut hx Bd.returns (hE 17 rfl) hr) (by decide) (by decide) ?_
  rw [e120]
  exact ⟨rfl, N120, K124, y125, y126, y127, y128, y129, y130, y122, y131, y132, y133, y134, y135, y136, y137⟩
theorem pd_7 : parseMethodDescriptor "(Ljava/util/TreeMap$Entry;)V" = some ⟨[(.object "java/util/TreeMap$Entry")], none⟩ := by decide +kernel
theorem wd9 (hw : HW a0 Z) : own_wdP a0 Z mN17 jdk_2729_method_83_code 3 none := ⟨hw _ (mi 136 rfl), (hw _ (mi 138 rfl)), hw _ (mi 137 rfl), hw _ (mi 12 rfl), hw _ (mi 139 rfl), by decide⟩
theorem ef_RRRRI6 (m : MethodId) (x0 : Addr) (x1 : Addr) (x2 : Addr) (x3 : Addr) (x4 : Int32)  : entryFrame m #[(.ref x0), (.ref x1), (.ref x2), (.ref x3), (.int x4)] 6 = mkF m 0 #[.val (.ref x0), .val (.ref x1), .val (.ref x2), .val (.ref x3), .val (.int x4), .unset] [] := by first | (simp [entryFrame, mkF, argsToLocals, Value.category]; done) | rfl
theorem rm_adeL (hw : HW a0 Z) (t1 e1 k1 v1 : Addr) (sz mc : Int32) (k2 v2 : Addr) (h0 : Heap) (n0 : Nat) (O0 : Old Z n0 h0) (E0_ : Exa Z h0 t1 "java/util/TreeMap") (F1_ : Fld Z h0 t1 "java/util/TreeMap" "comparator" "Ljava/util/Comparator;" .null) (F2_ : Fld Z h0 t1 "java/util/TreeMap" "root" "Ljava/util/TreeMap$Entry;" (.ref e1)) (F3_ : Fld Z h0 t1 "java/util/TreeMap" "size" "I" (.int sz)) (F4_ : Fld Z h0 t1 "java/util/TreeMap" "modCount" "I" (.int mc)) (F5_ : Fld Z h0 t1 "java/util/TreeMap" "entrySet" "Ljava/util/TreeMap$EntrySet;" .null) (E6_ : Exa Z h0 e1 "java/util/TreeMap$Entry") (F7_ : Fld Z h0 e1 "java/util/TreeMap$Entry" "key" "Ljava/lang/Object;" (.ref k1)) (F8_ : Fld Z h0 e1 "java/util/TreeMap$Entry" "value" "Ljava/lang/Object;" (.ref v1)) (F9_ : Fld Z h0 e1 "java/util/TreeMap$Entry" "left" "Ljava/util/TreeMap$Entry;" .null) (F10_ : Fld Z h0 e1 "java/util/TreeMap$Entry" "right" "Ljava/util/TreeMap$Entry;" .null) (F11_ : Fld Z h0 e1 "java/util/TreeMap$Entry" "parent" "Ljava/util/TreeMap$Entry;" .null) (F12_ : Fld Z h0 e1 "java/util/TreeMap$Entry" "color" "Z" (.int 1)) (G13_ : n0 ≤ e1) (G14_ : n0 ≤ t1) :
    own_M l mN18 (Jvm.Cond.code mN18 jdk_2729_method_29_code 6 none) [] (⟨2, 1, 6, 28⟩ : Room) #[(.ref t1), (.ref k2), (.ref v2), (.ref e1), (.int 1)] Z h0 (fun v h L => ∃ (e2 : Addr), v = none ∧ Fr n0 L ∧ Keep h0 h [t1, e1] ∧ h0.size ≤ e2 ∧ (Exa Z h t1 "java/util/TreeMap") ∧ (Fld Z h t1 "java/util/TreeMap" "comparator" "Ljava/util/Comparator;" .null) ∧ (Fld Z h t1 "java/util/TreeMap" "root" "Ljava/util/TreeMap$Entry;" (.ref e1)) ∧ (Fld Z h t1 "java/util/TreeMap" "size" "I" (.int (sz + (1 : Int32)))) ∧ (Fld Z h t1 "java/util/TreeMap" "modCount" "I" (.int (mc + (1 : Int32)))) ∧ (Fld Z h t1 "java/util/TreeMap" "entrySet" "Ljava/util/TreeMap$EntrySet;" .null) ∧ (Exa Z h e1 "java/util/TreeMap$Entry") ∧ (Fld Z h e1 "java/util/TreeMap$Entry" "key" "Ljava/lang/Object;" (.ref k1)) ∧ (Fld Z h e1 "java/util/TreeMap$Entry" "value" "Ljava/lang/Object;" (.ref v1)) ∧ (Fld Z h e1 "java/util/TreeMap$Entry" "left" "Ljava/util/TreeMap$Entry;" (.ref e2)) ∧ (Fld Z h e1 "java/util/TreeMap$Entry" "right" "Ljava/util/TreeMap$Entry;" .null) ∧ (Fld Z h e1 "java/util/TreeMap$Entry" "parent" "Ljava/util/TreeMap$Entry;" .null) ∧ (Fld Z h e1 "java/util/TreeMap$Entry" "color" "Z" (.int 1)) ∧ (Exa Z h e2 "java/util/TreeMap$Entry") ∧ (Fld Z h e2 "java/util/TreeMap$Entry" "key" "Ljava/lang/Object;" (.ref k2)) ∧ (Fld Z h e2 "java/util/TreeMap$Entry" "value" "Ljava/lang/Object;" (.ref v2)) ∧ (Fld Z h e2 "java/util/TreeMap$Entry" "left" "Ljava/util/TreeMap$Entry;" .null) ∧ (Fld Z h e2 "java/util/TreeMap$Entry" "right" "Ljava/util/TreeMap$Entry;" .null) ∧ (Fld Z h e2 "java/util/TreeMap$Entry" "parent" "Ljava/util/TreeMap$Entry;" (.ref e1)) ∧ (Fld Z h e2 "java/util/TreeMap$Entry" "color" "Z" (.int 0))) := by
  refine own_open n0 (plainFor_of_name pn_6) (fun m => ef_RRRRI6 m t1 k2 v2 e1 (1 : Int32) ) ?_
  intro p e s m below meth c s₁ A0 Bd hx hby hml hown hnm hZ hh X0 e0 N0 g0
  have hE := own_hd hby E19
  let lo102 : Array Slot := #[rv t1, rv k2, rv v2, rv e1, iv 1, .unset]
  obtain ⟨T101, h101, X101, e101, E101, A101, D101, -, st101⟩ := newO X0 hx hZ hown (hw _ (mi 100 rfl)) (hw _ (mi 101 rfl)) (hw _ (mi 102 rfl)) e0 (g := (mkF m 0 lo102 [])) rfl (hE 0 rfl) (by decide) (by decide)
  obtain ⟨b101, gb101⟩ : ∃ z, z = h0.size := ⟨_, rfl⟩
  rw [← gb101] at A101 D101 st101
  have O103 := O0.ext E101
  have y104 : Fld Z h101 b101 "java/util/TreeMap$Entry" "color" "Z" (.int 0) := D101 (Or.inl (hw _ (mi 109 rfl))) (ty := .boolean) (by decide)
  have y105 : Fld Z h101 b101 "java/util/TreeMap$Entry" "key" "Ljava/lang/Object;" .null := D101 (Or.inl (hw _ (mi 111 rfl))) (ty := (.object "java/lang/Object")) (by decide)
  have y106 : Fld Z h101 b101 "java/util/TreeMap$Entry" "value" "Ljava/lang/Object;" .null := D101 (Or.inl (hw _ (mi 113 rfl))) (ty := (.object "java/lang/Object")) (by decide)
  have y107 : Fld Z h101 b101 "java/util/TreeMap$Entry" "parent" "Ljava/util/TreeMap$Entry;" .null := D101 (Or.inl (hw _ (mi 115 rfl))) (ty := (.object "java/util/TreeMap$Entry")) (by decide)
  have y108 : Fld Z h101 b101 "java/util/TreeMap$Entry" "left" "Ljava/util/TreeMap$Entry;" .null := D101 (Or.inl (hw _ (mi 129 rfl))) (ty := (.object "java/util/TreeMap$Entry")) (by decide)
  have y109 : Fld Z h101 b101 "java/util/TreeMap$Entry" "right" "Ljava/util/TreeMap$Entry;" .null := D101 (Or.inl (hw _ (mi 251 rfl))) (ty := (.object "java/util/TreeMap$Entry")) (by decide)
  have g110 : Go p e below T101 (mkF m 3 lo102 [(.ref b101)]) A0 := fun t kont => g0 t (st101 t kont)
  have g111 := jA X101 hx (jA X101 hx (jA X101 hx (jd X101 hx g110 (hE 1 rfl) rfl rfl) (hE 2 rfl) rfl rfl) (hE 3 rfl) rfl rfl) (hE 4 rfl) rfl rfl
  have ge113 : n0 ≤ b101 := Nat.le_trans (own_old_le O0) (Nat.le_of_eq gb101.symm)
  obtain ⟨_, L112, T112, ⟨rfl, M112, K112, y114, y115, y116, y117, y118, y119, y120⟩, X112, st112⟩ := own_callI X101 hx hZ hown (hw _ (mi 103 rfl)) (wd8 hw) (rm_eIni hw b101 k2 v2 (.ref e1) h101 n0 O103 (rfl) A101 y104 y105 y106 y107 y108 y109 ge113) g111 e101 [(.ref b101)] rfl (lenOf pd_6 rfl) (hE 5 rfl) hml.symm 1 rfl (by decide)
  have N112 := Fr.app N0 M112
  have O121 := O103.keep K112 (allS ge113 all0)
  have g122 := ja X112 hx (jA X112 hx (jN X112 hx (ji X112 hx (jt X112 hx st112 (hE 6 rfl) rfl rfl (l' := #[rv t1, rv k2, rv v2, rv e1, iv 1, rv b101]) rfl) (hE 7 rfl) rfl) (hE 8 rfl) rfl (by decide)) (hE 9 rfl) rfl rfl) (hE 10 rfl) rfl rfl
  have y123 := ((E6_.ext E101).keep K112)
  have y124 := ((F9_.ext E101).keep K112 (ninS (Nat.ne_of_lt (Nat.lt_of_lt_of_le E6_.lt (Nat.le_of_eq gb101.symm))) nin0))
  let lo126 : Array Slot := #[rv t1, rv k2, rv v2, rv e1, iv 1, rv b101]
  obtain ⟨T125, h125, X125, e125, W125, st125⟩ := putF X112 hx hZ hown (host := "") (Or.inl (hw _ (mi 128 rfl))) Via.refl rfl y124 y123 (Or.inl (hw _ (mi 129 rfl))) (hw _ (mi 101 rfl)) (ty := (.object "java/util/TreeMap$Entry")) (by decide) rfl rfl (g := (mkF m 20 lo126 [(.ref b101), (.ref e1)])) rfl rfl (hE 11 rfl)
  have O127 := O121.wr W125 G13_
  have y128 : Fld Z h125 e1 "java/util/TreeMap$Entry" "left" "Ljava/util/TreeMap$Entry;" (.ref b101) := y124.same W125
  have N125 := Fr.snoc X125 N112 G13_
  have g129 : Go p e below T125 (mkF m 23 lo126 []) A0 := fun t kont => g122 t (st125 t kont)
  have g130 := ja X125 hx (jA X125 hx (jg X125 hx g129 (hE 12 rfl) (pc' := 32) (by decide)) (hE 16 rfl) rfl rfl) (hE 17 rfl) rfl rfl
  have y132 := (((E0_.ext E101).keep K112).wr W125)
  have y133 := (y123.wr W125)
  have y134 := (((F1_.ext E101).keep K112 (ninS (Nat.ne_of_lt (Nat.lt_of_lt_of_le E0_.lt (Nat.le_of_eq gb101.symm))) nin0)).other W125 (Or.inl (ne_exa y132 y133 (by decide))))
  have y135 := (((F2_.ext E101).keep K112 (ninS (Nat.ne_of_lt (Nat.lt_of_lt_of_le E0_.lt (Nat.le_of_eq gb101.symm))) nin0)).other W125 (Or.inl (ne_exa y132 y133 (by decide))))
  have y136 := (((F3_.ext E101).keep K112 (ninS (Nat.ne_of_lt (Nat.lt_of_lt_of_le E0_.lt (Nat.le_of_eq gb101.symm))) nin0)).other W125 (Or.inl (ne_exa y132 y133 (by decide))))
  have y137 := (((F4_.ext E101).keep K112 (ninS (Nat.ne_of_lt (Nat.lt_of_lt_of_le E0_.lt (Nat.le_of_eq gb101.symm))) nin0)).other W125 (Or.inl (ne_exa y132 y133 (by decide))))
  have y138 := (((F5_.ext E101).keep K112 (ninS (Nat.ne_of_lt (Nat.lt_of_lt_of_le E0_.lt (Nat.le_of_eq gb101.symm))) nin0)).other W125 (Or.inl (ne_exa y132 y133 (by decide))))
  have y139 := (((F7_.ext E101).keep K112 (ninS (Nat.ne_of_lt (Nat.lt_of_lt_of_le E6_.lt (Nat.le_of_eq gb101.symm))) nin0)).other W125 (Or.inr (slot_ne (Or.inl (hw _ (mi 111 rfl))) (Or.inl (hw _ (mi 129 rfl))) (by decide) (t := (.object "java/lang/Object")) (t' := (.object "java/util/TreeMap$Entry")) (by decide) (by decide))))
  have y140 := (((F8_.ext E101).keep K112 (ninS (Nat.ne_of_lt (Nat.lt_of_lt_of_le E6_.lt (Nat.le_of_eq gb101.symm))) nin0)).other W125 (Or.inr (slot_ne (Or.inl (hw _ (mi 113 rfl))) (Or.inl (hw _ (mi 129 rfl))) (by decide) (t := (.object "java/lang/Object")) (t' := (.object "java/util/TreeMap$Entry")) (by decide) (by decide))))
  have y141 := (((F10_.ext E101).keep K112 (ninS (Nat.ne_of_lt (Nat.lt_of_lt_of_le E6_.lt (Nat.le_of_eq gb101.symm))) nin0)).other W125 (Or.inr (slot_ne (Or.inl (hw _ (mi 251 rfl))) (Or.inl (hw _ (mi 129 rfl))) (by decide) (t := (.object "java/util/TreeMap$Entry")) (t' := (.object "java/util/TreeMap$Entry")) (by decide) (by decide))))
  have y142 := (((F11_.ext E101).keep K112 (ninS (Nat.ne_of_lt (Nat.lt_of_lt_of_le E6_.lt (Nat.le_of_eq gb101.symm))) nin0)).other W125 (Or.inr (slot_ne (Or.inl (hw _ (mi 115 rfl))) (Or.inl (hw _ (mi 129 rfl))) (by decide) (t := (.object "java/util/TreeMap$Entry")) (t' := (.object "java/util/TreeMap$Entry")) (by decide) (by decide))))
  have y143 := (((F12_.ext E101).keep K112 (ninS (Nat.ne_of_lt (Nat.lt_of_lt_of_le E6_.lt (Nat.le_of_eq gb101.symm))) nin0)).other W125 (Or.inr (slot_ne (Or.inl (hw _ (mi 109 rfl))) (Or.inl (hw _ (mi 129 rfl))) (by decide) (t := .boolean) (t' := (.object "java/util/TreeMap$Entry")) (by decide) (by decide))))
  have y144 := (y120.wr W125)
  have y145 := (y117.other W125 (Or.inl (Ne.symm (Nat.ne_of_lt (Nat.lt_of_lt_of_le E6_.lt (Nat.le_of_eq gb101.symm))))))
  have y146 := (y118.other W125 (Or.inl (Ne.symm (Nat.ne_of_lt (Nat.lt_of_lt_of_le E6_.lt (Nat.le_of_eq gb101.symm))))))
  have y147 := (y114.other W125 (Or.inl (Ne.symm (Nat.ne_of_lt (Nat.lt_of_lt_of_le E6_.lt (Nat.le_of_eq gb101.symm))))))
  have y148 := (y115.other W125 (Or.inl (Ne.symm (Nat.ne_of_lt (Nat.lt_of_lt_of_le E6_.lt (Nat.le_of_eq gb101.symm))))))
  have y149 := (y119.other W125 (Or.inl (Ne.symm (Nat.ne_of_lt (Nat.lt_of_lt_of_le E6_.lt (Nat.le_of_eq gb101.symm))))))
  have y150 := (y116.other W125 (Or.inl (Ne.symm (Nat.ne_of_lt (Nat.lt_of_lt_of_le E6_.lt (Nat.le_of_eq gb101.symm))))))
  obtain ⟨_, L131, T131, ⟨rfl, M131, K131, y151, y152, y153, y154, y155, y156, y157, y158, y159, y160, y161, y162, y163, y164⟩, X131, st131⟩ := own_callP X125 hx hZ hown (hw _ (mi 135 rfl)) (wd9 hw) y132 (rm_fixL hw t1 e1 k1 v1 sz mc b101 k2 v2 h125 n0 O127 y132 y134 y135 y136 y137 y138 y133 y139 y140 y128 y141 y142 y143 y144 y145 y146 y147 y148 y149 y150 G13_ ge113 (Nat.ne_of_lt (Nat.lt_of_lt_of_le E6_.lt (Nat.le_of_eq gb101.symm)))) g130 e125 [] rfl (lenOf pd_7 rfl) (hE 18 rfl) hml.symm 0 rfl (by decide)
  have N131 := Fr.app N125 M131
  have O165 := O127.keep K131 (allS G13_ (allS ge113 all0))
  have g166 := jd X131 hx (jA X131 hx st131 (hE 19 rfl) rfl rfl) (hE 20 rfl) rfl rfl
  have y167 := (y132.keep K131)
  have y168 := (y136.keep K131 (ninS (ne_exa y167 y151 (by decide)) (ninS (Nat.ne_of_lt (Nat.lt_of_lt_of_le E0_.lt (Nat.le_of_eq gb101.symm))) nin0)))
  obtain ⟨T169, X169, e169, g169⟩ := own_getF X131 hx hZ hown (hw _ (mi 23 rfl)) Via.refl rfl y168 g166 (hE 21 rfl)
  have g170 := jP X169 hx (jc X169 hx g169 (hE 22 rfl) 1 rfl) (hE 23 rfl) rfl
  obtain ⟨T171, h171, X171, e171, W171, st171⟩ := putF X169 hx hZ hown (host := "") (Or.inl (hw _ (mi 23 rfl))) Via.refl e169 y168 y167 (Or.inl (hw _ (mi 24 rfl))) (hw _ (mi 11 rfl)) (ty := .int) (by decide) rfl rfl (g := (mkF m 45 lo126 [(.int (sz + (1 : Int32))), (.ref t1)])) rfl rfl (hE 24 rfl)
  have O172 := O165.wr W171 G14_
  have y173 : Fld Z h171 t1 "java/util/TreeMap" "size" "I" (.int (sz + (1 : Int32))) := y168.same W171
  have N171 := Fr.snoc X171 N131 G14_
  have g174 : Go p e below T171 (mkF m 48 lo126 []) A0 := fun t kont => g170 t (st171 t kont)
  have g175 := jd X171 hx (jA X171 hx g174 (hE 25 rfl) rfl rfl) (hE 26 rfl) rfl rfl
  have y176 := (y167.wr W171)
  have y177 := (y151.wr W171)
  have y178 := ((y137.keep K131 (ninS (ne_exa y176 y177 (by decide)) (ninS (Nat.ne_of_lt (Nat.lt_of_lt_of_le E0_.lt (Nat.le_of_eq gb101.symm))) nin0))).other W171 (Or.inr (slot_ne (Or.inl (hw _ (mi 26 rfl))) (Or.inl (hw _ (mi 24 rfl))) (by decide) (t := .int) (t' := .int) (by decide) (by decide))))
  obtain ⟨T179, X179, e179, g179⟩ := own_getF X171 hx hZ hown (hw _ (mi 25 rfl)) Via.refl e171 y178 g175 (hE 27 rfl)
  have g180 := jP X179 hx (jc X179 hx g179 (hE 28 rfl) 1 rfl) (hE 29 rfl) rfl
  obtain ⟨T181, h181, X181, e181, W181, st181⟩ := putF X179 hx hZ hown (host := "") (Or.inl (hw _ (mi 25 rfl))) Via.refl e179 y178 y176 (Or.inl (hw _ (mi 26 rfl))) (hw _ (mi 11 rfl)) (ty := .int) (by decide) rfl rfl (g := (mkF m 55 lo126 [(.int (mc + (1 : Int32))), (.ref t1)])) rfl rfl (hE 30 rfl)
  have O182 := O172.wr W181 G14_
  have y183 : Fld Z h181 t1 "java/util/TreeMap" "modCount" "I" (.int (mc + (1 : Int32))) := y178.same W181
  have N181 := Fr.snoc X181 N171 G14_
  have g184 : Go p e below T181 (mkF m 58 lo126 []) A0 := fun t kont => g180 t (st181 t kont)
  have K185 : Keep h0 h181 [t1, e1] := (((((((Keep.refl h0 [t1, e1]).ext E101).trans K112 (allS (P := fun x => x ∈ [t1, e1] ∨ h0.size ≤ x) (Or.inr (Nat.le_of_eq gb101.symm)) all0)).wr W125 (Or.inl (mi 1 rfl))).trans K131 (allS (P := fun x => x ∈ [t1, e1] ∨ h0.size ≤ x) (Or.inl (mi 1 rfl)) (allS (P := fun x => x ∈ [t1, e1] ∨ h0.size ≤ x) (Or.inr (Nat.le_of_eq gb101.symm)) all0))).wr W171 (Or.inl (mi 0 rfl))).wr W181 (Or.inl (mi 0 rfl)))
  have y186 := (y176.wr W181)
  have y187 := (y177.wr W181)
  have y188 := (((y134.keep K131 (ninS (ne_exa y186 y187 (by decide)) (ninS (Nat.ne_of_lt (Nat.lt_of_lt_of_le E0_.lt (Nat.le_of_eq gb101.symm))) nin0))).other W171 (Or.inr (slot_ne (Or.inr (hw _ (mi 28 rfl))) (Or.inl (hw _ (mi 24 rfl))) (by decide) (t := (.object "java/util/Comparator")) (t' := .int) (by decide) (by decide)))).other W181 (Or.inr (slot_ne (Or.inr (hw _ (mi 28 rfl))) (Or.inl (hw _ (mi 26 rfl))) (by decide) (t := (.object "java/util/Comparator")) (t' := .int) (by decide) (by decide))))
  have y189 := (((y135.keep K131 (ninS (ne_exa y186 y187 (by decide)) (ninS (Nat.ne_of_lt (Nat.lt_of_lt_of_le E0_.lt (Nat.le_of_eq gb101.symm))) nin0))).other W171 (Or.inr (slot_ne (Or.inl (hw _ (mi 68 rfl))) (Or.inl (hw _ (mi 24 rfl))) (by decide) (t := (.object "java/util/TreeMap$Entry")) (t' := .int) (by decide) (by decide)))).other W181 (Or.inr (slot_ne (Or.inl (hw _ (mi 68 rfl))) (Or.inl (hw _ (mi 26 rfl))) (by decide) (t := (.object "java/util/TreeMap$Entry")) (t' := .int) (by decide) (by decide))))
  have y190 := (y173.other W181 (Or.inr (slot_ne (Or.inl (hw _ (mi 24 rfl))) (Or.inl (hw _ (mi 26 rfl))) (by decide) (t := .int) (t' := .int) (by decide) (by decide))))
  have y191 := (((y138.keep K131 (ninS (ne_exa y186 y187 (by decide)) (ninS (Nat.ne_of_lt (Nat.lt_of_lt_of_le E0_.lt (Nat.le_of_eq gb101.symm))) nin0))).other W171 (Or.inr (slot_ne (Or.inl (hw _ (mi 153 rfl))) (Or.inl (hw _ (mi 24 rfl))) (by decide) (t := (.object "java/util/TreeMap$EntrySet")) (t' := .int) (by decide) (by decide)))).other W181 (Or.inr (slot_ne (Or.inl (hw _ (mi 153 rfl))) (Or.inl (hw _ (mi 26 rfl))) (by decide) (t := (.object "java/util/TreeMap$EntrySet")) (t' := .int) (by decide) (by decide))))
  have y192 := ((y152.other W171 (Or.inl (ne_exa y187 y186 (by decide)))).other W181 (Or.inl (ne_exa y187 y186 (by decide))))
  have y193 := ((y153.other W171 (Or.inl (ne_exa y187 y186 (by decide)))).other W181 (Or.inl (ne_exa y187 y186 (by decide))))
  have y194 := ((y154.other W171 (Or.inl (ne_exa y187 y186 (by decide)))).other W181 (Or.inl (ne_exa y187 y186 (by decide))))
  have y195 := ((y155.other W171 (Or.inl (ne_exa y187 y186 (by decide)))).other W181 (Or.inl (ne_exa y187 y186 (by decide))))
  have y196 := ((y156.other W171 (Or.inl (ne_exa y187 y186 (by decide)))).other W181 (Or.inl (ne_exa y187 y186 (by decide))))
  have y197 := ((y157.other W171 (Or.inl (ne_exa y187 y186 (by decide)))).other W181 (Or.inl (ne_exa y187 y186 (by decide))))
  have y198 := ((y158.wr W171).wr W181)
  have y199 := ((y159.other W171 (Or.inl (Ne.symm (Nat.ne_of_lt (Nat.lt_of_lt_of_le E0_.lt (Nat.le_of_eq gb101.symm)))))).other W181 (Or.inl (Ne.symm (Nat.ne_of_lt (Nat.lt_of_lt_of_le E0_.lt (Nat.le_of_eq gb101.symm))))))
  have y200 := ((y160.other W171 (Or.inl (Ne.symm (Nat.ne_of_lt (Nat.lt_of_lt_of_le E0_.lt (Nat.le_of_eq gb101.symm)))))).other W181 (Or.inl (Ne.symm (Nat.ne_of_lt (Nat.lt_of_lt_of_le E0_.lt (Nat.le_of_eq gb101.symm))))))
  have y201 := ((y161.other W171 (Or.inl (Ne.symm (Nat.ne_of_lt (Nat.lt_of_lt_of_le E0_.lt (Nat.le_of_eq gb101.symm)))))).other W181 (Or.inl (Ne.symm (Nat.ne_of_lt (Nat.lt_of_lt_of_le E0_.lt (Nat.le_of_eq gb101.symm))))))
  have y202 := ((y162.other W171 (Or.inl (Ne.symm (Nat.ne_of_lt (Nat.lt_of_lt_of_le E0_.lt (Nat.le_of_eq gb101.symm)))))).other W181 (Or.inl (Ne.symm (Nat.ne_of_lt (Nat.lt_of_lt_of_le E0_.lt (Nat.le_of_eq gb101.symm))))))
  have y203 := ((y163.other W171 (Or.inl (Ne.symm (Nat.ne_of_lt (Nat.lt_of_lt_of_le E0_.lt (Nat.le_of_eq gb101.symm)))))).other W181 (Or.inl (Ne.symm (Nat.ne_of_lt (Nat.lt_of_lt_of_le E0_.lt (Nat.le_of_eq gb101.symm))))))
  have y204 := ((y164.other W171 (Or.inl (Ne.symm (Nat.ne_of_lt (Nat.lt_of_lt_of_le E0_.lt (Nat.le_of_eq gb101.symm)))))).other W181 (Or.inl (Ne.symm (Nat.ne_of_lt (Nat.lt_of_lt_of_le E0_.lt (Nat.le_of_eq gb101.symm))))))
  refine own_leave X181 Bd (none) (fun _ => rfl) g184 (fun fs hr => X181.returnOut hx Bd.returns (hE 31 rfl) hr) (by decide) (by decide) ?_
  rw [e181]
  exact ⟨b101, rfl, N181, K185, (Nat.le_of_eq gb101.symm), y186, y188, y189, y190, y183, y191, y187, y192, y193, y194, y195, y196, y197, y198, y199, y200, y201, y202, y203, y204⟩
theorem rm_fixR (hw : HW a0 Z) (t1 e1 k1 v1 : Addr) (sz mc : Int32) (e2 k2 v2 : Addr) (h0 : Heap) (n0 : Nat) (O0 : Old Z n0 h0) (E0_ : Exa Z h0 t1 "java/util/TreeMap") (F1_ : Fld Z h0 t1 "java/util/TreeMap" "comparator" "Ljava/util/Comparator;" .null) (F2_ : Fld Z h0 t1 "java/util/TreeMap" "root" "Ljava/util/TreeMap$Entry;" (.ref e1)) (F3_ : Fld Z h0 t1 "java/util/TreeMap" "size" "I" (.int sz)) (F4_ : Fld Z h0 t1 "java/util/TreeMap" "modCount" "I" (.int mc)) (F5_ : Fld Z h0 t1 "java/util/TreeMap" "entrySet" "Ljava/util/TreeMap$EntrySet;" .null) (E6_ : Exa Z h0 e1 "java/util/TreeMap$Entry") (F7_ : Fld Z h0 e1 "java/util/TreeMap$Entry" "key" "Ljava/lang/Object;" (.ref k1)) (F8_ : Fld Z h0 e1 "java/util/TreeMap$Entry" "value" "Ljava/lang/Object;" (.ref v1)) (F9_ : Fld Z h0 e1 "java/util/TreeMap$Entry" "left" "Ljava/util/TreeMap$Entry;" .null) (F10_ : Fld Z h0 e1 "java/util/TreeMap$Entry" "right" "Ljava/util/TreeMap$Entry;" (.ref e2)) (F11_ : Fld Z h0 e1 "java/util/TreeMap$Entry" "parent" "Ljava/util/TreeMap$Entry;" .null) (F12_ : Fld Z h0 e1 "java/util/TreeMap$Entry" "color" "Z" (.int 1)) (E13_ : Exa Z h0 e2 "java/util/TreeMap$Entry") (F14_ : Fld Z h0 e2 "java/util/TreeMap$Entry" "key" "Ljava/lang/Object;" (.ref k2)) (F15_ : Fld Z h0 e2 "java/util/TreeMap$Entry" "value" "Ljava/lang/Object;" (.ref v2)) (F16_ : Fld Z h0 e2 "java/util/TreeMap$Entry" "left" "Ljava/util/TreeMap$Entry;" .null) (F17_ : Fld Z h0 e2 "java/util/TreeMap$Entry" "right" "Ljava/util/TreeMap$Entry;" .null) (F18_ : Fld Z h0 e2 "java/util/TreeMap$Entry" "parent" "Ljava/util/TreeMap$Entry;" (.ref e1)) (F19_ : Fld Z h0 e2 "java/util/TreeMap$Entry" "color" "Z" (.int 1)) (G20_ : n0 ≤ e1) (G21_ : n0 ≤ e2) (NE22_ : ¬ (e1 = e2)) :
    own_M l mN17 (Jvm.Cond.code mN17 jdk_2729_method_83_code 3 none) [] (⟨0, 0, 0, 0⟩ : Room) #[(.ref t1), (.ref e2)] Z h0 (fun v h L => v = none ∧ Fr n0 L ∧ Keep h0 h [e1, e2] ∧ (Exa Z h e1 "java/util/TreeMap$Entry") ∧ (Fld Z h e1 "java/util/TreeMap$Entry" "key" "Ljava/lang/Object;" (.ref k1)) ∧ (Fld Z h e1 "java/util/TreeMap$Entry" "value" "Ljava/lang/Object;" (.ref v1)) ∧ (Fld Z h e1 "java/util/TreeMap$Entry" "left" "Ljava/util/TreeMap$Entry;" .null) ∧ (Fld Z h e1 "java/util/TreeMap$Entry" "right" "Ljava/util/TreeMap$Entry;" (.ref e2)) ∧ (Fld Z h e1 "java/util/TreeMap$Entry" "parent" "Ljava/util/TreeMap$Entry;" .null) ∧ (Fld Z h e1 "java/util/TreeMap$Entry" "color" "Z" (.int 1)) ∧ (Exa Z h e2 "java/util/TreeMap$Entry") ∧ (Fld Z h e2 "java/util/TreeMap$Entry" "key" "Ljava/lang/Object;" (.ref k2)) ∧ (Fld Z h e2 "java/util/TreeMap$Entry" "value" "Ljava/lang/Object;" (.ref v2)) ∧ (Fld Z h e2 "java/util/TreeMap$Entry" "left" "Ljava/util/TreeMap$Entry;" .null) ∧ (Fld Z h e2 "java/util/TreeMap$Entry" "right" "Ljava/util/TreeMap$Entry;" .null) ∧ (Fld Z h e2 "java/util/TreeMap$Entry" "parent" "Ljava/util/TreeMap$Entry;" (.ref e1)) ∧ (Fld Z h e2 "java/util/TreeMap$Entry" "color" "Z" (.int 0))) := by
  refine own_open n0 (plainFor_of_name pn_6) (fun m => ef_RR3 m t1 e2 ) ?_
  intro p e s m below meth c s₁ A0 Bd hx hby hml hown hnm hZ hh X0 e0 N0 g0
  have hE := own_hd hby E20
  have g101 := jc X0 hx (jA X0 hx g0 (hE 0 rfl) rfl rfl) (hE 1 rfl) 0 rfl
  obtain ⟨T102, h102, X102, e102, W102, st102⟩ := putFN X0 hx hZ hown (hw _ (mi 140 rfl)) Via.refl e0 F19_ E13_ (Or.inl (hw _ (mi 109 rfl))) (hw _ (mi 101 rfl)) (ty := .boolean) (v := (.int 0)) (v' := (.int 0)) (by decide) (own_nw_boolean (by decide : nar .boolean (0 : Int32) = (0 : Int32))) (own_ft_boolean (by decide : nar .boolean (0 : Int32) = (0 : Int32))) (g := (mkF m 2 #[rv t1, rv e2, .unset] [(.int 0), (.ref e2)])) rfl rfl (hE 2 rfl)
  have O103 := O0.wr W102 G21_
  have y104 : Fld Z h102 e2 "java/util/TreeMap$Entry" "color" "Z" (.int 0) := F19_.same W102
  have N102 := Fr.snoc X102 N0 G21_
  have g105 : Go p e below T102 (mkF m 5 #[rv t1, rv e2, .unset] []) A0 := fun t kont => g101 t (st102 t kont)
  have g106 := jA X102 hx (jA X102 hx (show Go p e below T102 (mkF m 9 #[rv t1, rv e2, .unset] []) A0 from fun t kt => (jA X102 hx g105 (hE 3 rfl) rfl rfl) t (by refine XS.ifnullNo X102.here hx rfl (hE 4 rfl) rfl ?_; exact kt)) (hE 5 rfl) rfl rfl) (hE 6 rfl) rfl rfl
  have y107 := (E0_.wr W102)
  have y108 := (E13_.wr W102)
  have y109 := (F2_.other W102 (Or.inl (ne_exa y107 y108 (by decide))))
  obtain ⟨T110, X110, e110, g110⟩ := own_getF X102 hx hZ hown (hw _ (mi 67 rfl)) Via.refl e102 y109 g106 (hE 7 rfl)
  have g111 := jA X110 hx (show Go p e below T110 (mkF m 17 #[rv t1, rv e2, .unset] []) A0 from fun t kt => g110 t (by refine Jvm.RoadKit.acmp (g := (mkF m 14 #[rv t1, rv e2, .unset] [(.ref e1), (.ref e2)])) X110 hx rfl rfl rfl (pc0 := 14) (pc' := 17) (same := false) rfl (hE 8 rfl) rfl (decide_eq_false fun q => (Ne.symm NE22_) (Value.ref.inj q)) (by decide) (by decide) ?_; exact kt)) (hE 9 rfl) rfl rfl
  have y112 := (F18_.other W102 (Or.inr (slot_ne (Or.inl (hw _ (mi 115 rfl))) (Or.inl (hw _ (mi 109 rfl))) (by decide) (t := (.object "java/util/TreeMap$Entry")) (t' := .boolean) (by decide) (by decide))))
  obtain ⟨T113, X113, e113, g113⟩ := own_getF X110 hx hZ hown (hw _ (mi 141 rfl)) Via.refl e110 y112 g111 (hE 10 rfl)
  have y114 := (F12_.other W102 (Or.inl NE22_))
  obtain ⟨T115, X115, e115, g115⟩ := own_getF X113 hx hZ hown (hw _ (mi 140 rfl)) Via.refl e113 y114 g113 (hE 11 rfl)
  have g116 := jA X115 hx (jY X115 hx g115 (hE 12 rfl) rfl (by decide) (pc' := 258) (by decide)) (hE 13 rfl) rfl rfl
  obtain ⟨T117, X117, e117, g117⟩ := own_getF X115 hx hZ hown (hw _ (mi 67 rfl)) Via.refl e115 y109 g116 (hE 14 rfl)
  have g118 := jc X117 hx g117 (hE 15 rfl) 1 rfl
  have y119 := (E6_.wr W102)
  obtain ⟨T120, h120, X120, e120, W120, st120⟩ := putFN X117 hx hZ hown (hw _ (mi 140 rfl)) Via.refl e117 y114 y119 (Or.inl (hw _ (mi 109 rfl))) (hw _ (mi 101 rfl)) (ty := .boolean) (v := (.int 1)) (v' := (.int 1)) (by decide) (own_nw_boolean (by decide : nar .boolean (1 : Int32) = (1 : Int32))) (own_ft_boolean (by decide : nar .boolean (1 : Int32) = (1 : Int32))) (g := (mkF m 263 #[rv t1, rv e2, .unset] [(.int 1), (.ref e1)])) rfl rfl (hE 16 rfl)
  have O121 := O103.wr W120 G20_
  have y122 : Fld Z h120 e1 "java/util/TreeMap$Entry" "color" "Z" (.int 1) := y114.same W120
  have N120 := Fr.snoc X120 N102 G20_
  have g123 : Go p e below T120 (mkF m 266 #[rv t1, rv e2, .unset] []) A0 := fun t kont => g118 t (st120 t kont)
  have K124 : Keep h0 h120 [e1, e2] := (((Keep.refl h0 [e1, e2]).wr W102 (Or.inl (mi 1 rfl))).wr W120 (Or.inl (mi 0 rfl)))
  have y125 := (y119.wr W120)
  have y126 := ((F7_.other W102 (Or.inl NE22_)).other W120 (Or.inr (slot_ne (Or.inl (hw _ (mi 111 rfl))) (Or.inl (hw _ (mi 109 rfl))) (by decide) (t := (.object "java/lang/Object")) (t' := .boolean) (by decide) (by decide))))
  have y127 := ((F8_.other W102 (Or.inl NE22_)).other W120 (Or.inr (slot_ne (Or.inl (hw _ (mi 113 rfl))) (Or.inl (hw _ (mi 109 rfl))) (by decide) (t := (.object "java/lang/Object")) (t' := .boolean) (by decide) (by decide))))
  have y128 := ((F9_.other W102 (Or.inl NE22_)).other W120 (Or.inr (slot_ne (Or.inl (hw _ (mi 129 rfl))) (Or.inl (hw _ (mi 109 rfl))) (by decide) (t := (.object "java/util/TreeMap$Entry")) (t' := .boolean) (by decide) (by decide))))
  have y129 := ((F10_.other W102 (Or.inl NE22_)).other W120 (Or.inr (slot_ne (Or.inl (hw _ (mi 251 rfl))) (Or.inl (hw _ (mi 109 rfl))) (by decide) (t := (.object "java/util/TreeMap$Entry")) (t' := .boolean) (by decide) (by decide))))
  have y130 := ((F11_.other W102 (Or.inl NE22_)).other W120 (Or.inr (slot_ne (Or.inl (hw _ (mi 115 rfl))) (Or.inl (hw _ (mi 109 rfl))) (by decide) (t := (.object "java/util/TreeMap$Entry")) (t' := .boolean) (by decide) (by decide))))
  have y131 := (y108.wr W120)
  have y132 := ((F14_.other W102 (Or.inr (slot_ne (Or.inl (hw _ (mi 111 rfl))) (Or.inl (hw _ (mi 109 rfl))) (by decide) (t := (.object "java/lang/Object")) (t' := .boolean) (by decide) (by decide)))).other W120 (Or.inl (Ne.symm NE22_)))
  have y133 := ((F15_.other W102 (Or.inr (slot_ne (Or.inl (hw _ (mi 113 rfl))) (Or.inl (hw _ (mi 109 rfl))) (by decide) (t := (.object "java/lang/Object")) (t' := .boolean) (by decide) (by decide)))).other W120 (Or.inl (Ne.symm NE22_)))
  have y134 := ((F16_.other W102 (Or.inr (slot_ne (Or.inl (hw _ (mi 129 rfl))) (Or.inl (hw _ (mi 109 rfl))) (by decide) (t := (.object "java/util/TreeMap$Entry")) (t' := .boolean) (by decide) (by decide)))).other W120 (Or.inl (Ne.symm NE22_)))
  have y135 := ((F17_.other W102 (Or.inr (slot_ne (Or.inl (hw _ (mi 251 rfl))) (Or.inl (hw _ (mi 109 rfl))) (by decide) (t := (.object "java/util/TreeMap$Entry")) (t' := .boolean) (by decide) (by decide)))).other W120 (Or.inl (Ne.symm NE22_)))
  have y136 := (y112.other W120 (Or.inl (Ne.symm NE22_)))
  have y137 := (y104.other W120 (Or.inl (Ne.symm NE22_)))
  refine own_leave X120 Bd (none) (fun _ => rfl) g123 (fun fs hr => X120.returnOut hx Bd.returns (hE 17 rfl) hr) (by decide) (by decide) ?_
  rw [e120]
  exact ⟨rfl, N120, K124, y125, y126, y127, y128, y129, y130, y122, y131, y132, y133, y134, y135, y136, y137⟩
theorem rm_adeR (hw : HW a0 Z) (t1 e1 k1 v1 : Addr) (sz mc : Int32) (k2 v2 : Addr) (h0 : Heap) (n0 : Nat) (O0 : Old Z n0 h0) (E0_ : Exa Z h0 t1 "java/util/TreeMap") (F1_ : Fld Z h0 t1 "java/util/TreeMap" "comparator" "Ljava/util/Comparator;" .null) (F2_ : Fld Z h0 t1 "java/util/TreeMap" "root" "Ljava/util/TreeMap$Entry;" (.ref e1)) (F3_ : Fld Z h0 t1 "java/util/TreeMap" "size" "I" (.int sz)) (F4_ : Fld Z h0 t1 "java/util/TreeMap" "modCount" "I" (.int mc)) (F5_ : Fld Z h0 t1 "java/util/TreeMap" "entrySet" "Ljava/util/TreeMap$EntrySet;" .null) (E6_ : Exa Z h0 e1 "java/util/TreeMap$Entry") (F7_ : Fld Z h0 e1 "java/util/TreeMap$Entry" "key" "Ljava/lang/Object;" (.ref k1)) (F8_ : Fld Z h0 e1 "java/util/TreeMap$Entry" "value" "Ljava/lang/Object;" (.ref v1)) (F9_ : Fld Z h0 e1 "java/util/TreeMap$Entry" "left" "Ljava/util/TreeMap$Entry;" .null) (F10_ : Fld Z h0 e1 "java/util/TreeMap$Entry" "right" "Ljava/util/TreeMap$Entry;" .null) (F11_ : Fld Z h0 e1 "java/util/TreeMap$Entry" "parent" "Ljava/util/TreeMap$Entry;" .null) (F12_ : Fld Z h0 e1 "java/util/TreeMap$Entry" "color" "Z" (.int 1)) (G13_ : n0 ≤ e1) (G14_ : n0 ≤ t1) :
    own_M l mN18 (Jvm.Cond.code mN18 jdk_2729_method_29_code 6 none) [] (⟨2, 1, 6, 28⟩ : Room) #[(.ref t1), (.ref k2), (.ref v2), (.ref e1), (.int 0)] Z h0 (fun v h L => ∃ (e2 : Addr), v = none ∧ Fr n0 L ∧ Keep h0 h [t1, e1] ∧ h0.size ≤ e2 ∧ (Exa Z h t1 "java/util/TreeMap") ∧ (Fld Z h t1 "java/util/TreeMap" "comparator" "Ljava/util/Comparator;" .null) ∧ (Fld Z h t1 "java/util/TreeMap" "root" "Ljava/util/TreeMap$Entry;" (.ref e1)) ∧ (Fld Z h t1 "java/util/TreeMap" "size" "I" (.int (sz + (1 : Int32)))) ∧ (Fld Z h t1 "java/util/TreeMap" "modCount" "I" (.int (mc + (1 : Int32)))) ∧ (Fld Z h t1 "java/util/TreeMap" "entrySet" "Ljava/util/TreeMap$EntrySet;" .null) ∧ (Exa Z h e1 "java/util/TreeMap$Entry") ∧ (Fld Z h e1 "java/util/TreeMap$Entry" "key" "Ljava/lang/Object;" (.ref k1)) ∧ (Fld Z h e1 "java/util/TreeMap$Entry" "value" "Ljava/lang/Object;" (.ref v1)) ∧ (Fld Z h e1 "java/util/TreeMap$Entry" "left" "Ljava/util/TreeMap$Entry;" .null) ∧ (Fld Z h e1 "java/util/TreeMap$Entry" "right" "Ljava/util/TreeMap$Entry;" (.ref e2)) ∧ (Fld Z h e1 "java/util/TreeMap$Entry" "parent" "Ljava/util/TreeMap$Entry;" .null) ∧ (Fld Z h e1 "java/util/TreeMap$Entry" "color" "Z" (.int 1)) ∧ (Exa Z h e2 "java/util/TreeMap$Entry") ∧ (Fld Z h e2 "java/util/TreeMap$Entry" "key" "Ljava/lang/Object;" (.ref k2)) ∧ (Fld Z h e2 "java/util/TreeMap$Entry" "value" "Ljava/lang/Object;" (.ref v2)) ∧ (Fld Z h e2 "java/util/TreeMap$Entry" "left" "Ljava/util/TreeMap$Entry;" .null) ∧ (Fld Z h e2 "java/util/TreeMap$Entry" "right" "Ljava/util/TreeMap$Entry;" .null) ∧ (Fld Z h e2 "java/util/TreeMap$Entry" "parent" "Ljava/util/TreeMap$Entry;" (.ref e1)) ∧ (Fld Z h e2 "java/util/TreeMap$Entry" "color" "Z" (.int 0))) := by
  refine own_open n0 (plainFor_of_name pn_6) (fun m => ef_RRRRI6 m t1 k2 v2 e1 (0 : Int32) ) ?_
  intro p e s m below meth c s₁ A0 Bd hx hby hml hown hnm hZ hh X0 e0 N0 g0
  have hE := own_hd hby E19
  let lo102 : Array Slot := #[rv t1, rv k2, rv v2, rv e1, iv 0, .unset]
  obtain ⟨T101, h101, X101, e101, E101, A101, D101, -, st101⟩ := newO X0 hx hZ hown (hw _ (mi 100 rfl)) (hw _ (mi 101 rfl)) (hw _ (mi 102 rfl)) e0 (g := (mkF m 0 lo102 [])) rfl (hE 0 rfl) (by decide) (by decide)
  obtain ⟨b101, gb101⟩ : ∃ z, z = h0.size := ⟨_, rfl⟩
  rw [← gb101] at A101 D101 st101
  have O103 := O0.ext E101
  have y104 : Fld Z h101 b101 "java/util/TreeMap$Entry" "color" "Z" (.int 0) := D101 (Or.inl (hw _ (mi 109 rfl))) (ty := .boolean) (by decide)
  have y105 : Fld Z h101 b101 "java/util/TreeMap$Entry" "key" "Ljava/lang/Object;" .null := D101 (Or.inl (hw _ (mi 111 rfl))) (ty := (.object "java/lang/Object")) (by decide)
  have y106 : Fld Z h101 b101 "java/util/TreeMap$Entry" "value" "Ljava/lang/Object;" .null := D101 (Or.inl (hw _ (mi 113 rfl))) (ty := (.object "java/lang/Object")) (by decide)
  have y107 : Fld Z h101 b101 "java/util/TreeMap$Entry" "parent" "Ljava/util/TreeMap$Entry;" .null := D101 (Or.inl (hw _ (mi 115 rfl))) (ty := (.object "java/util/TreeMap$Entry")) (by decide)
  have y108 : Fld Z h101 b101 "java/util/TreeMap$Entry" "left" "Ljava/util/TreeMap$Entry;" .null := D101 (Or.inl (hw _ (mi 129 rfl))) (ty := (.object "java/util/TreeMap$Entry")) (by decide)
  have y109 : Fld Z h101 b101 "java/util/TreeMap$Entry" "right" "Ljava/util/TreeMap$Entry;" .null := D101 (Or.inl (hw _ (mi 251 rfl))) (ty := (.object "java/util/TreeMap$Entry")) (by decide)
  have g110 : Go p e below T101 (mkF m 3 lo102 [(.ref b101)]) A0 := fun t kont => g0 t (st101 t kont)
  have g111 := jA X101 hx (jA X101 hx (jA X101 hx (jd X101 hx g110 (hE 1 rfl) rfl rfl) (hE 2 rfl) rfl rfl) (hE 3 rfl) rfl rfl) (hE 4 rfl) rfl rfl
  have ge113 : n0 ≤ b101 := Nat.le_trans (own_old_le O0) (Nat.le_of_eq gb101.symm)
  obtain ⟨_, L112, T112, ⟨rfl, M112, K112, y114, y115, y116, y117, y118, y119, y120⟩, X112, st112⟩ := own_callI X101 hx hZ hown (hw _ (mi 103 rfl)) (wd8 hw) (rm_eIni hw b101 k2 v2 (.ref e1) h101 n0 O103 (rfl) A101 y104 y105 y106 y107 y108 y109 ge113) g111 e101 [(.ref b101)] rfl (lenOf pd_6 rfl) (hE 5 rfl) hml.symm 1 rfl (by decide)
  have N112 := Fr.app N0 M112
  have O121 := O103.keep K112 (allS ge113 all0)
  have g122 := ja X112 hx (jA X112 hx (jY X112 hx (ji X112 hx (jt X112 hx st112 (hE 6 rfl) rfl rfl (l' := #[rv t1, rv k2, rv v2, rv e1, iv 0, rv b101]) rfl) (hE 7 rfl) rfl) (hE 8 rfl) rfl (by decide) (pc' := 26) (by decide)) (hE 13 rfl) rfl rfl) (hE 14 rfl) rfl rfl
  have y123 := ((E6_.ext E101).keep K112)
  have y124 := ((F10_.ext E101).keep K112 (ninS (Nat.ne_of_lt (Nat.lt_of_lt_of_le E6_.lt (Nat.le_of_eq gb101.symm))) nin0))
  let lo126 : Array Slot := #[rv t1, rv k2, rv v2, rv e1, iv 0, rv b101]
  obtain ⟨T125, h125, X125, e125, W125, st125⟩ := putF X112 hx hZ hown (host := "") (Or.inl (hw _ (mi 250 rfl))) Via.refl rfl y124 y123 (Or.inl (hw _ (mi 251 rfl))) (hw _ (mi 101 rfl)) (ty := (.object "java/util/TreeMap$Entry")) (by decide) rfl rfl (g := (mkF m 29 lo126 [(.ref b101), (.ref e1)])) rfl rfl (hE 15 rfl)
  have O127 := O121.wr W125 G13_
  have y128 : Fld Z h125 e1 "java/util/TreeMap$Entry" "right" "Ljava/util/TreeMap$Entry;" (.ref b101) := y124.same W125
  have N125 := Fr.snoc X125 N112 G13_
  have g129 : Go p e below T125 (mkF m 32 lo126 []) A0 := fun t kont => g122 t (st125 t kont)
  have g130 := ja X125 hx (jA X125 hx g129 (hE 16 rfl) rfl rfl) (hE 17 rfl) rfl rfl
  have y132 := (((E0_.ext E101).keep K112).wr W125)
  have y133 := (y123.wr W125)
  have y134 := (((F1_.ext E101).keep K112 (ninS (Nat.ne_of_lt (Nat.lt_of_lt_of_le E0_.lt (Nat.le_of_eq gb101.symm))) nin0)).other W125 (Or.inl (ne_exa y132 y133 (by decide))))
  have y135 := (((F2_.ext E101).keep K112 (ninS (Nat.ne_of_lt (Nat.lt_of_lt_of_le E0_.lt (Nat.le_of_eq gb101.symm))) nin0)).other W125 (Or.inl (ne_exa y132 y133 (by decide))))
  have y136 := (((F3_.ext E101).keep K112 (ninS (Nat.ne_of_lt (Nat.lt_of_lt_of_le E0_.lt (Nat.le_of_eq gb101.symm))) nin0)).other W125 (Or.inl (ne_exa y132 y133 (by decide))))
  have y137 := (((F4_.ext E101).keep K112 (ninS (Nat.ne_of_lt (Nat.lt_of_lt_of_le E0_.lt (Nat.le_of_eq gb101.symm))) nin0)).other W125 (Or.inl (ne_exa y132 y133 (by decide))))
  have y138 := (((F5_.ext E101).keep K112 (ninS (Nat.ne_of_lt (Nat.lt_of_lt_of_le E0_.lt (Nat.le_of_eq gb101.symm))) nin0)).other W125 (Or.inl (ne_exa y132 y133 (by decide))))
  have y139 := (((F7_.ext E101).keep K112 (ninS (Nat.ne_of_lt (Nat.lt_of_lt_of_le E6_.lt (Nat.le_of_eq gb101.symm))) nin0)).other W125 (Or.inr (slot_ne (Or.inl (hw _ (mi 111 rfl))) (Or.inl (hw _ (mi 251 rfl))) (by decide) (t := (.object "java/lang/Object")) (t' := (.object "java/util/TreeMap$Entry")) (by decide) (by decide))))
  have y140 := (((F8_.ext E101).keep K112 (ninS (Nat.ne_of_lt (Nat.lt_of_lt_of_le E6_.lt (Nat.le_of_eq gb101.symm))) nin0)).other W125 (Or.inr (slot_ne (Or.inl (hw _ (mi 113 rfl))) (Or.inl (hw _ (mi 251 rfl))) (by decide) (t := (.object "java/lang/Object")) (t' := (.object "java/util/TreeMap$Entry")) (by decide) (by decide))))
  have y141 := (((F9_.ext E101).keep K112 (ninS (Nat.ne_of_lt (Nat.lt_of_lt_of_le E6_.lt (Nat.le_of_eq gb101.symm))) nin0)).other W125 (Or.inr (slot_ne (Or.inl (hw _ (mi 129 rfl))) (Or.inl (hw _ (mi 251 rfl))) (by decide) (t := (.object "java/util/TreeMap$Entry")) (t' := (.object "java/util/TreeMap$Entry")) (by decide) (by decide))))
  have y142 := (((F11_.ext E101).keep K112 (ninS (Nat.ne_of_lt (Nat.lt_of_lt_of_le E6_.lt (Nat.le_of_eq gb101.symm))) nin0)).other W125 (Or.inr (slot_ne (Or.inl (hw _ (mi 115 rfl))) (Or.inl (hw _ (mi 251 rfl))) (by decide) (t := (.object "java/util/TreeMap$Entry")) (t' := (.object "java/util/TreeMap$Entry")) (by decide) (by decide))))
  have y143 := (((F12_.ext E101).keep K112 (ninS (Nat.ne_of_lt (Nat.lt_of_lt_of_le E6_.lt (Nat.le_of_eq gb101.symm))) nin0)).other W125 (Or.inr (slot_ne (Or.inl (hw _ (mi 109 rfl))) (Or.inl (hw _ (mi 251 rfl))) (by decide) (t := .boolean) (t' := (.object "java/util/TreeMap$Entry")) (by decide) (by decide))))
  have y144 := (y120.wr W125)
  have y145 := (y117.other W125 (Or.inl (Ne.symm (Nat.ne_of_lt (Nat.lt_of_lt_of_le E6_.lt (Nat.le_of_eq gb101.symm))))))
  have y146 := (y118.other W125 (Or.inl (Ne.symm (Nat.ne_of_lt (Nat.lt_of_lt_of_le E6_.lt (Nat.le_of_eq gb101.symm))))))
  have y147 := (y114.other W125 (Or.inl (Ne.symm (Nat.ne_of_lt (Nat.lt_of_lt_of_le E6_.lt (Nat.le_of_eq gb101.symm))))))
  have y148 := (y115.other W125 (Or.inl (Ne.symm (Nat.ne_of_lt (Nat.lt_of_lt_of_le E6_.lt (Nat.le_of_eq gb101.symm))))))
  have y149 := (y119.other W125 (Or.inl (Ne.symm (Nat.ne_of_lt (Nat.lt_of_lt_of_le E6_.lt (Nat.le_of_eq gb101.symm))))))
  have y150 := (y116.other W125 (Or.inl (Ne.symm (Nat.ne_of_lt (Nat.lt_of_lt_of_le E6_.lt (Nat.le_of_eq gb101.symm))))))
  obtain ⟨_, L131, T131, ⟨rfl, M131, K131, y151, y152, y153, y154, y155, y156, y157, y158, y159, y160, y161, y162, y163, y164⟩, X131, st131⟩ := own_callP X125 hx hZ hown (hw _ (mi 135 rfl)) (wd9 hw) y132 (rm_fixR hw t1 e1 k1 v1 sz mc b101 k2 v2 h125 n0 O127 y132 y134 y135 y136 y137 y138 y133 y139 y140 y141 y128 y142 y143 y144 y145 y146 y147 y148 y149 y150 G13_ ge113 (Nat.ne_of_lt (Nat.lt_of_lt_of_le E6_.lt (Nat.le_of_eq gb101.symm)))) g130 e125 [] rfl (lenOf pd_7 rfl) (hE 18 rfl) hml.symm 0 rfl (by decide)
  have N131 := Fr.app N125 M131
  have O165 := O127.keep K131 (allS G13_ (allS ge113 all0))
  have g166 := jd X131 hx (jA X131 hx st131 (hE 19 rfl) rfl rfl) (hE 20 rfl) rfl rfl
  have y167 := (y132.keep K131)
  have y168 := (y136.keep K131 (ninS (ne_exa y167 y151 (by decide)) (ninS (Nat.ne_of_lt (Nat.lt_of_lt_of_le E0_.lt (Nat.le_of_eq gb101.symm))) nin0)))
  obtain ⟨T169, X169, e169, g169⟩ := own_getF X131 hx hZ hown (hw _ (mi 23 rfl)) Via.refl rfl y168 g166 (hE 21 rfl)
  have g170 := jP X169 hx (jc X169 hx g169 (hE 22 rfl) 1 rfl) (hE 23 rfl) rfl
  obtain ⟨T171, h171, X171, e171, W171, st171⟩ := putF X169 hx hZ hown (host := "") (Or.inl (hw _ (mi 23 rfl))) Via.refl e169 y168 y167 (Or.inl (hw _ (mi 24 rfl))) (hw _ (mi 11 rfl)) (ty := .int) (by decide) rfl rfl (g := (mkF m 45 lo126 [(.int (sz + (1 : Int32))), (.ref t1)])) rfl rfl (hE 24 rfl)
  have O172 := O165.wr W171 G14_
  have y173 : Fld Z h171 t1 "java/util/TreeMap" "size" "I" (.int (sz + (1 : Int32))) := y168.same W171
  have N171 := Fr.snoc X171 N131 G14_
  have g174 : Go p e below T171 (mkF m 48 lo126 []) A0 := fun t kont => g170 t (st171 t kont)
  have g175 := jd X171 hx (jA X171 hx g174 (hE 25 rfl) rfl rfl) (hE 26 rfl) rfl rfl
  have y176 := (y167.wr W171)
  have y177 := (y151.wr W171)
  have y178 := ((y137.keep K131 (ninS (ne_exa y176 y177 (by decide)) (ninS (Nat.ne_of_lt (Nat.lt_of_lt_of_le E0_.lt (Nat.le_of_eq gb101.symm))) nin0))).other W171 (Or.inr (slot_ne (Or.inl (hw _ (mi 26 rfl))) (Or.inl (hw _ (mi 24 rfl))) (by decide) (t := .int) (t' := .int) (by decide) (by decide))))
  obtain ⟨T179, X179, e179, g179⟩ := own_getF X171 hx hZ hown (hw _ (mi 25 rfl)) Via.refl e171 y178 g175 (hE 27 rfl)
  have g180 := jP X179 hx (jc X179 hx g179 (hE 28 rfl) 1 rfl) (hE 29 rfl) rfl
  obtain ⟨T181, h181, X181, e181, W181, st181⟩ := putF X179 hx hZ hown (host := "") (Or.inl (hw _ (mi 25 rfl))) Via.refl e179 y178 y176 (Or.inl (hw _ (mi 26 rfl))) (hw _ (mi 11 rfl)) (ty := .int) (by decide) rfl rfl (g := (mkF m 55 lo126 [(.int (mc + (1 : Int32))), (.ref t1)])) rfl rfl (hE 30 rfl)
  have O182 := O172.wr W181 G14_
  have y183 : Fld Z h181 t1 "java/util/TreeMap" "modCount" "I" (.int (mc + (1 : Int32))) := y178.same W181
  have N181 := Fr.snoc X181 N171 G14_
  have g184 : Go p e below T181 (mkF m 58 lo126 []) A0 := fun t kont => g180 t (st181 t kont)
  have K185 : Keep h0 h181 [t1, e1] := (((((((Keep.refl h0 [t1, e1]).ext E101).trans K112 (allS (P := fun x => x ∈ [t1, e1] ∨ h0.size ≤ x) (Or.inr (Nat.le_of_eq gb101.symm)) all0)).wr W125 (Or.inl (mi 1 rfl))).trans K131 (allS (P := fun x => x ∈ [t1, e1] ∨ h0.size ≤ x) (Or.inl (mi 1 rfl)) (allS (P := fun x => x ∈ [t1, e1] ∨ h0.size ≤ x) (Or.inr (Nat.le_of_eq gb101.symm)) all0))).wr W171 (Or.inl (mi 0 rfl))).wr W181 (Or.inl (mi 0 rfl)))
  have y186 := (y176.wr W181)
  have y187 := (y177.wr W181)
  have y188 := (((y134.keep K131 (ninS (ne_exa y186 y187 (by decide)) (ninS (Nat.ne_of_lt (Nat.lt_of_lt_of_le E0_.lt (Nat.le_of_eq gb101.symm))) nin0))).other W171 (Or.inr (slot_ne (Or.inr (hw _ (mi 28 rfl))) (Or.inl (hw _ (mi 24 rfl))) (by decide) (t := (.object "java/util/Comparator")) (t' := .int) (by decide) (by decide)))).other W181 (Or.inr (slot_ne (Or.inr (hw _ (mi 28 rfl))) (Or.inl (hw _ (mi 26 rfl))) (by decide) (t := (.object "java/util/Comparator")) (t' := .int) (by decide) (by decide))))
  have y189 := (((y135.keep K131 (ninS (ne_exa y186 y187 (by decide)) (ninS (Nat.ne_of_lt (Nat.lt_of_lt_of_le E0_.lt (Nat.le_of_eq gb101.symm))) nin0))).other W171 (Or.inr (slot_ne (Or.inl (hw _ (mi 68 rfl))) (Or.inl (hw _ (mi 24 rfl))) (by decide) (t := (.object "java/util/TreeMap$Entry")) (t' := .int) (by decide) (by decide)))).other W181 (Or.inr (slot_ne (Or.inl (hw _ (mi 68 rfl))) (Or.inl (hw _ (mi 26 rfl))) (by decide) (t := (.object "java/util/TreeMap$Entry")) (t' := .int) (by decide) (by decide))))
  have y190 := (y173.other W181 (Or.inr (slot_ne (Or.inl (hw _ (mi 24 rfl))) (Or.inl (hw _ (mi 26 rfl))) (by decide) (t := .int) (t' := .int) (by decide) (by decide))))
  have y191 := (((y138.keep K131 (ninS (ne_exa y186 y187 (by decide)) (ninS (Nat.ne_of_lt (Nat.lt_of_lt_of_le E0_.lt (Nat.le_of_eq gb101.symm))) nin0))).other W171 (Or.inr (slot_ne (Or.inl (hw _ (mi 153 rfl))) (Or.inl (hw _ (mi 24 rfl))) (by decide) (t := (.object "java/util/TreeMap$EntrySet")) (t' := .int) (by decide) (by decide)))).other W181 (Or.inr (slot_ne (Or.inl (hw _ (mi 153 rfl))) (Or.inl (hw _ (mi 26 rfl))) (by decide) (t := (.object "java/util/TreeMap$EntrySet")) (t' := .int) (by decide) (by decide))))
  have y192 := ((y152.other W171 (Or.inl (ne_exa y187 y186 (by decide)))).other W181 (Or.inl (ne_exa y187 y186 (by decide))))
  have y193 := ((y153.other W171 (Or.inl (ne_exa y187 y186 (by decide)))).other W181 (Or.inl (ne_exa y187 y186 (by decide))))
  have y194 := ((y154.other W171 (Or.inl (ne_exa y187 y186 (by decide)))).other W181 (Or.inl (ne_exa y187 y186 (by decide))))
  have y195 := ((y155.other W171 (Or.inl (ne_exa y187 y186 (by decide)))).other W181 (Or.inl (ne_exa y187 y186 (by decide))))
  have y196 := ((y156.other W171 (Or.inl (ne_exa y187 y186 (by decide)))).other W181 (Or.inl (ne_exa y187 y186 (by decide))))
  have y197 := ((y157.other W171 (Or.inl (ne_exa y187 y186 (by decide)))).other W181 (Or.inl (ne_exa y187 y186 (by decide))))
  have y198 := ((y158.wr W171).wr W181)
  have y199 := ((y159.other W171 (Or.inl (Ne.symm (Nat.ne_of_lt (Nat.lt_of_lt_of_le E0_.lt (Nat.le_of_eq gb101.symm)))))).other W181 (Or.inl (Ne.symm (Nat.ne_of_lt (Nat.lt_of_lt_of_le E0_.lt (Nat.le_of_eq gb101.symm))))))
  have y200 := ((y160.other W171 (Or.inl (Ne.symm (Nat.ne_of_lt (Nat.lt_of_lt_of_le E0_.lt (Nat.le_of_eq gb101.symm)))))).other W181 (Or.inl (Ne.symm (Nat.ne_of_lt (Nat.lt_of_lt_of_le E0_.lt (Nat.le_of_eq gb101.symm))))))
  have y201 := ((y161.other W171 (Or.inl (Ne.symm (Nat.ne_of_lt (Nat.lt_of_lt_of_le E0_.lt (Nat.le_of_eq gb101.symm)))))).other W181 (Or.inl (Ne.symm (Nat.ne_of_lt (Nat.lt_of_lt_of_le E0_.lt (Nat.le_of_eq gb101.symm))))))
  have y202 := ((y162.other W171 (Or.inl (Ne.symm (Nat.ne_of_lt (Nat.lt_of_lt_of_le E0_.lt (Nat.le_of_eq gb101.symm)))))).other W181 (Or.inl (Ne.symm (Nat.ne_of_lt (Nat.lt_of_lt_of_le E0_.lt (Nat.le_of_eq gb101.symm))))))
  have y203 := ((y163.other W171 (Or.inl (Ne.symm (Nat.ne_of_lt (Nat.lt_of_lt_of_le E0_.lt (Nat.le_of_eq gb101.symm)))))).other W181 (Or.inl (Ne.symm (Nat.ne_of_lt (Nat.lt_of_lt_of_le E0_.lt (Nat.le_of_eq gb101.symm))))))
  have y204 := ((y164.other W171 (Or.inl (Ne.symm (Nat.ne_of_lt (Nat.lt_of_lt_of_le E0_.lt (Nat.le_of_eq gb101.symm)))))).other W181 (Or.inl (Ne.symm (Nat.ne_of_lt (Nat.lt_of_lt_of_le E0_.lt (Nat.le_of_eq gb101.symm))))))
  refine own_leave X181 Bd (none) (fun _ => rfl) g184 (fun fs hr => X181.returnOut hx Bd.returns (hE 31 rfl) hr) (by decide) (by decide) ?_
  rw [e181]
  exact ⟨b101, rfl, N181, K185, (Nat.le_of_eq gb101.symm), y186, y188, y189, y190, y183, y191, y187, y192, y193, y194, y195, y196, y197, y198, y199, y200, y201, y202, y203, y204⟩
theorem ef_RRRR7 (m : MethodId) (x0 : Addr) (x1 : Addr) (x2 : Addr) (x3 : Addr)  : entryFrame m #[(.ref x0), (.ref x1), (.ref x2), (.ref x3)] 7 = mkF m 0 #[.val (.ref x0), .val (.ref x1), .val (.ref x2), .val (.ref x3), .unset, .unset, .unset] [] := by first | (simp [entryFrame, mkF, argsToLocals, Value.category]; done) | rfl
theorem rm_mv (hw : HW a0 Z) (t1 e1 k1 v1 v2 : Addr) (x1 x2 : Int64) (mc : Int32) (lf rt pr : Value) (col : Int32) (fn : Addr) (cK : ClassId) (lc : Addr) (kc : ClassId) (lcs : List Value) (h0 : Heap) (n0 : Nat) (O0 : Old Z n0 h0) (E0_ : Exa Z h0 t1 "java/util/TreeMap") (F1_ : Fld Z h0 t1 "java/util/TreeMap" "modCount" "I" (.int mc)) (E2_ : Exa Z h0 e1 "java/util/TreeMap$Entry") (F3_ : Fld Z h0 e1 "java/util/TreeMap$Entry" "key" "Ljava/lang/Object;" (.ref k1)) (F4_ : Fld Z h0 e1 "java/util/TreeMap$Entry" "value" "Ljava/lang/Object;" (.ref v1)) (F5_ : Fld Z h0 e1 "java/util/TreeMap$Entry" "left" "Ljava/util/TreeMap$Entry;" lf) (F6_ : Fld Z h0 e1 "java/util/TreeMap$Entry" "right" "Ljava/util/TreeMap$Entry;" rt) (F7_ : Fld Z h0 e1 "java/util/TreeMap$Entry" "parent" "Ljava/util/TreeMap$Entry;" pr) (F8_ : Fld Z h0 e1 "java/util/TreeMap$Entry" "color" "Z" (.int col)) (G9_ : n0 ≤ e1) (E10_ : Exa Z h0 v1 "java/lang/Long") (F11_ : Fld Z h0 v1 "java/lang/Long" "value" "J" (.long x1)) (E12_ : Exa Z h0 v2 "java/lang/Long") (F13_ : Fld Z h0 v2 "java/lang/Long" "value" "J" (.long x2)) (hMK : own_MK Z cK) (hSL : own_SL Z cK) (hFn : own_Fn Z.heap fn cK) (S17_ : Sta Z Z.heap "java/lang/Long$LongCache" "cache" "[Ljava/lang/Long;" (.ref lc)) (ZA18_ : Arv Z Z.heap lc kc (.object "java/lang/Long") (256 : Int32) lcs .null) (hlc : ∀ i, i < 256 → ∃ a, lcs.getD i .null = .ref a ∧ Exa Z Z.heap a "java/lang/Long" ∧ Fld Z Z.heap a "java/lang/Long" "value" "J" (.long (Int64.ofInt ((i : Int) - 128)))) (hlf : lf.isRef = true) (hrt : rt.isRef = true) (hpr : pr.isRef = true) :
    own_M l mN19 (Jvm.Cond.code mN19 jdk_2729_method_33_code 7 (some (.object "java/lang/Object"))) [] (⟨5, 1, 1, 67⟩ : Room) #[(.ref t1), (.ref e1), (.ref v2), (.ref fn)] Z h0 (fun v h L => ∃ (r : Addr), v = some (.ref r) ∧ Fr n0 L ∧ Keep h0 h [e1] ∧ (Exa Z h e1 "java/util/TreeMap$Entry") ∧ (Fld Z h e1 "java/util/TreeMap$Entry" "key" "Ljava/lang/Object;" (.ref k1)) ∧ (Fld Z h e1 "java/util/TreeMap$Entry" "value" "Ljava/lang/Object;" (.ref r)) ∧ (Fld Z h e1 "java/util/TreeMap$Entry" "left" "Ljava/util/TreeMap$Entry;" lf) ∧ (Fld Z h e1 "java/util/TreeMap$Entry" "right" "Ljava/util/TreeMap$Entry;" rt) ∧ (Fld Z h e1 "java/util/TreeMap$Entry" "parent" "Ljava/util/TreeMap$Entry;" pr) ∧ (Fld Z h e1 "java/util/TreeMap$Entry" "color" "Z" (.int col)) ∧ (Exa Z h r "java/lang/Long") ∧ (Fld Z h r "java/lang/Long" "value" "J" (.long (x1 + x2)))) := by
  refine own_open n0 (plainFor_of_name pn_6) (fun m => ef_RRRR7 m t1 e1 v2 fn ) ?_
  intro p e s m below meth c s₁ A0 Bd hx hby hml hown hnm hZ hh X0 e0 N0 g0
  have hE := own_hd hby E39
  have g101 := jA X0 hx g0 (hE 0 rfl) rfl rfl
  obtain ⟨T102, X102, e102, g102⟩ := own_getF X0 hx hZ hown (hw _ (mi 281 rfl)) Via.refl e0 F4_ g101 (hE 1 rfl)
  have g103 := jA X102 hx (jt X102 hx g102 (hE 2 rfl) rfl rfl (l' := #[rv t1, rv e1, rv v2, rv fn, rv v1, .unset, .unset]) rfl) (hE 3 rfl) rfl rfl
  obtain ⟨T104, X104, e104, g104⟩ := own_getF X102 hx hZ hown (hw _ (mi 281 rfl)) Via.refl e102 F4_ g103 (hE 4 rfl)
  have g105 := jA X104 hx (show Go p e below T104 (mkF m 19 #[rv t1, rv e1, rv v2, rv fn, rv v1, .unset, .unset] []) A0 from fun t kt => g104 t (by refine XS.ifnonnullYes X104.here hx rfl (pc0 := 10) (pc' := 19) rfl (hE 5 rfl) rfl (by decide) (by decide) ?_; exact kt)) (hE 6 rfl) rfl rfl
  obtain ⟨T106, X106, e106, g106⟩ := own_getF X104 hx hZ hown (hw _ (mi 25 rfl)) Via.refl e104 F1_ g105 (hE 7 rfl)
  have g107 := jA X106 hx (ja X106 hx (jA X106 hx (js X106 hx g106 (hE 8 rfl) rfl (l' := #[rv t1, rv e1, rv v2, rv fn, rv v1, .unset, iv mc]) rfl) (hE 9 rfl) rfl rfl) (hE 10 rfl) rfl rfl) (hE 11 rfl) rfl rfl
  obtain ⟨r108, L108, T108, ⟨K108, yE108, yF108⟩, M108, X108, st108⟩ := own_lam (R' := ⟨4, 1, 1, 53⟩) X106 hx hZ hown (hw _ (mi 282 rfl)) (hw _ (mi 283 rfl)) (hw _ (mi 284 rfl)) hMK hSL (own_Fn.ext O0.2 hFn) E10_ E12_ (hw _ (mi 266 rfl)) (hw _ (mi 265 rfl)) (hw _ (mi 49 rfl)) (hw _ (mi 267 rfl)) ⟨hw _ (mi 285 rfl), hw _ (mi 49 rfl), hw _ (mi 286 rfl), by decide⟩ ⟨hw _ (mi 48 rfl), hw _ (mi 49 rfl), hw _ (mi 50 rfl), by decide⟩ (rm_lv hw v1 x1 h0 n0 O0 F11_) (rm_lv hw v2 x2 h0 n0 O0 F13_) (rm_lsum hw x1 x2 h0 n0 O0 ) (rm_lvo hw (x1 + x2) lc kc lcs h0 n0 O0 S17_ ZA18_ hlc) g107 e106 [] rfl (hE 12 rfl) hml.symm 0 rfl ⟨rfl, rfl, rfl, rfl, rfl, rfl⟩ (by decide) (by decide)
  have N108 := Fr.app N0 M108
  have O109 := O0.keep K108 all0
  have g110 := jA X108 hx (ji X108 hx (jt X108 hx st108 (hE 13 rfl) rfl rfl (l' := #[rv t1, rv e1, rv v2, rv fn, rv v1, rv r108, iv mc]) rfl) (hE 14 rfl) rfl) (hE 15 rfl) rfl rfl
  have y111 := (F1_.keep K108 nin0)
  obtain ⟨T112, X112, e112, g112⟩ := own_getF X108 hx hZ hown (hw _ (mi 25 rfl)) Via.refl rfl y111 g110 (hE 16 rfl)
  have g113 := ja X112 hx (jA X112 hx (show Go p e below T112 (mkF m 65 #[rv t1, rv e1, rv v2, rv fn, rv v1, rv r108, iv mc] []) A0 from fun t kt => (ja X112 hx (jy X112 hx g112 (hE 17 rfl) rfl (teq (rfl : mc = mc)).1 (pc' := 53) (by decide)) (hE 18 rfl) rfl rfl) t (by refine XS.ifnonnullYes X112.here hx rfl (pc0 := 55) (pc' := 65) rfl (hE 19 rfl) rfl (by decide) (by decide) ?_; exact kt)) (hE 20 rfl) rfl rfl) (hE 21 rfl) rfl rfl
  have y114 := (E2_.keep K108)
  have y115 := (F4_.keep K108 nin0)
  let lo117 : Array Slot := #[rv t1, rv e1, rv v2, rv fn, rv v1, rv r108, iv mc]
  obtain ⟨T116, h116, X116, e116, W116, st116⟩ := putF X112 hx hZ hown (host := "") (Or.inl (hw _ (mi 281 rfl))) Via.refl e112 y115 y114 (Or.inl (hw _ (mi 113 rfl))) (hw _ (mi 101 rfl)) (ty := (.object "java/lang/Object")) (by decide) rfl rfl (g := (mkF m 68 lo117 [(.ref r108), (.ref e1)])) rfl rfl (hE 22 rfl)
  have O118 := O109.wr W116 G9_
  have y119 : Fld Z h116 e1 "java/util/TreeMap$Entry" "value" "Ljava/lang/Object;" (.ref r108) := y115.same W116
  have N116 := Fr.snoc X116 N108 G9_
  have g120 : Go p e below T116 (mkF m 71 lo117 []) A0 := fun t kont => g113 t (st116 t kont)
  have g121 := ja X116 hx g120 (hE 23 rfl) rfl rfl
  have K122 : Keep h0 h116 [e1] := (((Keep.refl h0 [e1]).trans K108 (fun x hx => nomatch hx)).wr W116 (Or.inl (mi 0 rfl)))
  have y123 := (y114.wr W116)
  have y124 := ((F3_.keep K108 nin0).other W116 (Or.inr (slot_ne (Or.inl (hw _ (mi 111 rfl))) (Or.inl (hw _ (mi 113 rfl))) (by decide) (t := (.object "java/lang/Object")) (t' := (.object "java/lang/Object")) (by decide) (by decide))))
  have y125 := ((F5_.keep K108 nin0).other W116 (Or.inr (slot_ne (Or.inl (hw _ (mi 129 rfl))) (Or.inl (hw _ (mi 113 rfl))) (by decide) (t := (.object "java/util/TreeMap$Entry")) (t' := (.object "java/lang/Object")) (by decide) (by decide))))
  have y126 := ((F6_.keep K108 nin0).other W116 (Or.inr (slot_ne (Or.inl (hw _ (mi 251 rfl))) (Or.inl (hw _ (mi 113 rfl))) (by decide) (t := (.object "java/util/TreeMap$Entry")) (t' := (.object "java/lang/Object")) (by decide) (by decide))))
  have y127 := ((F7_.keep K108 nin0).other W116 (Or.inr (slot_ne (Or.inl (hw _ (mi 115 rfl))) (Or.inl (hw _ (mi 113 rfl))) (by decide) (t := (.object "java/util/TreeMap$Entry")) (t' := (.object "java/lang/Object")) (by decide) (by decide))))
  have y128 := ((F8_.keep K108 nin0).other W116 (Or.inr (slot_ne (Or.inl (hw _ (mi 109 rfl))) (Or.inl (hw _ (mi 113 rfl))) (by decide) (t := .boolean) (t' := (.object "java/lang/Object")) (by decide) (by decide))))
  have y129 := (yE108.wr W116)
  have y130 := (yF108.other W116 (Or.inl (ne_exa y129 y123 (by decide))))
  refine own_leave X116 Bd (some (.ref r108)) nofun g121 (fun fs hr => retOut X116 hx Bd.returns rfl (Or.inr (Or.inr (Or.inr (Or.inr ⟨rfl, rfl, rfl⟩)))) (hE 24 rfl) hr) (by decide) (by decide) ?_
  rw [e116]
  exact ⟨r108, rfl, N116, K122, y123, y124, y119, y125, y126, y127, y128, y129, y130⟩
theorem pd_8 : parseMethodDescriptor "(Ljava/lang/Object;)Ljava/lang/Object;" = some ⟨[(.object "java/lang/Object")], some (.object "java/lang/Object")⟩ := by decide +kernel
theorem wd10 (hw : HW a0 Z) : own_wdS a0 Z mN4 jdk_31_method_10_code 1 (some (.object "java/lang/Object")) := ⟨hw _ (mi 64 rfl), hw _ (mi 65 rfl), hw _ (mi 66 rfl), by decide⟩
theorem pd_9 : parseMethodDescriptor "(Ljava/lang/Object;Ljava/lang/Object;)V" = some ⟨[(.object "java/lang/Object"), (.object "java/lang/Object")], none⟩ := by decide +kernel
theorem wd11 (hw : HW a0 Z) : own_wdP a0 Z mN16 jdk_2729_method_30_code 3 none := ⟨hw _ (mi 70 rfl), (hw _ (mi 72 rfl)), hw _ (mi 71 rfl), hw _ (mi 12 rfl), hw _ (mi 73 rfl), by decide⟩
theorem ef_RRRR9 (m : MethodId) (x0 : Addr) (x1 : Addr) (x2 : Addr) (x3 : Addr)  : entryFrame m #[(.ref x0), (.ref x1), (.ref x2), (.ref x3)] 9 = mkF m 0 #[.val (.ref x0), .val (.ref x1), .val (.ref x2), .val (.ref x3), .unset, .unset, .unset, .unset, .unset] [] := by first | (simp [entryFrame, mkF, argsToLocals, Value.category]; done) | rfl
theorem rm_mer0 (hw : HW a0 Z) (t1 : Addr) (sz mc : Int32) (ka va : Addr) (xk xv : Int64) (fn : Addr) (cK : ClassId) (lc : Addr) (kc : ClassId) (lcs : List Value) (h0 : Heap) (n0 : Nat) (O0 : Old Z n0 h0) (E0_ : Exa Z h0 t1 "java/util/TreeMap") (F1_ : Fld Z h0 t1 "java/util/TreeMap" "comparator" "Ljava/util/Comparator;" .null) (F2_ : Fld Z h0 t1 "java/util/TreeMap" "root" "Ljava/util/TreeMap$Entry;" .null) (F3_ : Fld Z h0 t1 "java/util/TreeMap" "size" "I" (.int sz)) (F4_ : Fld Z h0 t1 "java/util/TreeMap" "modCount" "I" (.int mc)) (F5_ : Fld Z h0 t1 "java/util/TreeMap" "entrySet" "Ljava/util/TreeMap$EntrySet;" .null) (E6_ : Exa Z h0 ka "java/lang/Long") (F7_ : Fld Z h0 ka "java/lang/Long" "value" "J" (.long xk)) (E8_ : Exa Z h0 va "java/lang/Long") (F9_ : Fld Z h0 va "java/lang/Long" "value" "J" (.long xv)) (G10_ : n0 ≤ t1) (hMK : own_MK Z cK) (hSL : own_SL Z cK) (hFn : own_Fn Z.heap fn cK) (S14_ : Sta Z Z.heap "java/lang/Long$LongCache" "cache" "[Ljava/lang/Long;" (.ref lc)) (ZA15_ : Arv Z Z.heap lc kc (.object "java/lang/Long") (256 : Int32) lcs .null) (hlc : ∀ i, i < 256 → ∃ a, lcs.getD i .null = .ref a ∧ Exa Z Z.heap a "java/lang/Long" ∧ Fld Z Z.heap a "java/lang/Long" "value" "J" (.long (Int64.ofInt ((i : Int) - 128)))) :
    own_M l mN20 (Jvm.Cond.code mN20 jdk_2729_method_26_code 9 (some (.object "java/lang/Object"))) [] (⟨5, 1, 6, 69⟩ : Room) #[(.ref t1), (.ref ka), (.ref va), (.ref fn)] Z h0 (fun v h L => ∃ (e1 : Addr), v = some (.ref va) ∧ Fr n0 L ∧ Keep h0 h [t1] ∧ h0.size ≤ e1 ∧ (Exa Z h t1 "java/util/TreeMap") ∧ (Fld Z h t1 "java/util/TreeMap" "comparator" "Ljava/util/Comparator;" .null) ∧ (Fld Z h t1 "java/util/TreeMap" "root" "Ljava/util/TreeMap$Entry;" (.ref e1)) ∧ (Fld Z h t1 "java/util/TreeMap" "size" "I" (.int 1)) ∧ (Fld Z h t1 "java/util/TreeMap" "modCount" "I" (.int (mc + (1 : Int32)))) ∧ (Fld Z h t1 "java/util/TreeMap" "entrySet" "Ljava/util/TreeMap$EntrySet;" .null) ∧ (Exa Z h e1 "java/util/TreeMap$Entry") ∧ (Fld Z h e1 "java/util/TreeMap$Entry" "key" "Ljava/lang/Object;" (.ref ka)) ∧ (Fld Z h e1 "java/util/TreeMap$Entry" "value" "Ljava/lang/Object;" (.ref va)) ∧ (Fld Z h e1 "java/util/TreeMap$Entry" "left" "Ljava/util/TreeMap$Entry;" .null) ∧ (Fld Z h e1 "java/util/TreeMap$Entry" "right" "Ljava/util/TreeMap$Entry;" .null) ∧ (Fld Z h e1 "java/util/TreeMap$Entry" "parent" "Ljava/util/TreeMap$Entry;" .null) ∧ (Fld Z h e1 "java/util/TreeMap$Entry" "color" "Z" (.int 1))) := by
  refine own_open n0 (plainFor_of_name pn_6) (fun m => ef_RRRR9 m t1 ka va fn ) ?_
  intro p e s m below meth c s₁ A0 Bd hx hby hml hown hnm hZ hh X0 e0 N0 g0
  have hE := own_hd hby E9
  have g101 := jA X0 hx g0 (hE 0 rfl) rfl rfl
  obtain ⟨_, L102, T102, ⟨rfl, M102, e102⟩, X102, st102⟩ := own_callS X0 hx hZ hown (hw _ (mi 63 rfl)) (wd10 hw) (rm_rnn hw fn h0 n0 O0 ) g101 e0 [] rfl (lenOf pd_8 rfl) (hE 1 rfl) hml.symm 0 rfl (by decide)
  have N102 := Fr.app N0 M102
  have g103 := jA X102 hx (jo X102 hx st102 (hE 2 rfl) rfl rfl) (hE 3 rfl) rfl rfl
  obtain ⟨_, L104, T104, ⟨rfl, M104, e104⟩, X104, st104⟩ := own_callS X102 hx hZ hown (hw _ (mi 63 rfl)) (wd10 hw) (rm_rnn hw va h0 n0 O0 ) g103 e102 [] rfl (lenOf pd_8 rfl) (hE 4 rfl) hml.symm 0 rfl (by decide)
  have N104 := Fr.app N102 M104
  have g105 := jA X104 hx (jo X104 hx st104 (hE 5 rfl) rfl rfl) (hE 6 rfl) rfl rfl
  obtain ⟨T106, X106, e106, g106⟩ := own_getF X104 hx hZ hown (hw _ (mi 67 rfl)) Via.refl e104 F2_ g105 (hE 7 rfl)
  have g107 := jA X106 hx (jA X106 hx (jA X106 hx (show Go p e below T106 (mkF m 21 #[rv t1, rv ka, rv va, rv fn, .val .null, .unset, .unset, .unset, .unset] []) A0 from fun t kt => (ja X106 hx (jt X106 hx g106 (hE 8 rfl) rfl rfl (l' := #[rv t1, rv ka, rv va, rv fn, .val .null, .unset, .unset, .unset, .unset]) rfl) (hE 9 rfl) rfl rfl) t (by refine XS.ifnonnullNo X106.here hx rfl (hE 10 rfl) rfl ?_; exact kt)) (hE 11 rfl) rfl rfl) (hE 12 rfl) rfl rfl) (hE 13 rfl) rfl rfl
  obtain ⟨_, L108, T108, ⟨r109, rfl, M108, K108, y110, y111, y112, y113, y114, y115, y116, y117, y118, y119, y120, y121, y122, y123⟩, X108, st108⟩ := own_callP X106 hx hZ hown (hw _ (mi 69 rfl)) (wd11 hw) E0_ (rm_aem hw t1 ka va xk sz mc h0 n0 O0 E0_ F1_ F2_ F3_ F4_ F5_ E6_ F7_ G10_) g107 e106 [] rfl (lenOf pd_9 rfl) (hE 14 rfl) hml.symm 0 rfl (by decide)
  have N108 := Fr.app N104 M108
  have O124 := O0.keep K108 (allS G10_ all0)
  have g125 := jA X108 hx st108 (hE 15 rfl) rfl rfl
  have K126 : Keep h0 T108.heap [t1] := ((Keep.refl h0 [t1]).trans K108 (allS (P := fun x => x ∈ [t1] ∨ h0.size ≤ x) (Or.inl (mi 0 rfl)) all0))
  refine own_leave X108 Bd (some (.ref va)) nofun g125 (fun fs hr => retOut X108 hx Bd.returns rfl (Or.inr (Or.inr (Or.inr (Or.inr ⟨rfl, rfl, rfl⟩)))) (hE 16 rfl) hr) (by decide) (by decide) ?_
  exact ⟨r109, rfl, N108, K126, y110, y111, y112, y113, y114, y115, y116, y117, y118, y119, y120, y121, y122, y123⟩
theorem pd_10 : parseMethodDescriptor "(Ljava/lang/Object;Ljava/lang/Object;Ljava/util/TreeMap$Entry;Z)V" = some ⟨[(.object "java/lang/Object"), (.object "java/lang/Object"), (.object "java/util/TreeMap$Entry"), .boolean], none⟩ := by decide +kernel
theorem wd12 (hw : HW a0 Z) : own_wdP a0 Z mN18 jdk_2729_method_29_code 6 none := ⟨hw _ (mi 131 rfl), (hw _ (mi 133 rfl)), hw _ (mi 132 rfl), hw _ (mi 12 rfl), hw _ (mi 134 rfl), by decide⟩
theorem rm_mer1L (hw : HW a0 Z) (t1 e1 k1 v1 : Addr) (sz mc : Int32) (x1 : Int64) (ka va : Addr) (xk xv : Int64) (fn : Addr) (cK : ClassId) (lc : Addr) (kc : ClassId) (lcs : List Value) (h0 : Heap) (n0 : Nat) (O0 : Old Z n0 h0) (E0_ : Exa Z h0 t1 "java/util/TreeMap") (F1_ : Fld Z h0 t1 "java/util/TreeMap" "comparator" "Ljava/util/Comparator;" .null) (F2_ : Fld Z h0 t1 "java/util/TreeMap" "root" "Ljava/util/TreeMap$Entry;" (.ref e1)) (F3_ : Fld Z h0 t1 "java/util/TreeMap" "size" "I" (.int sz)) (F4_ : Fld Z h0 t1 "java/util/TreeMap" "modCount" "I" (.int mc)) (F5_ : Fld Z h0 t1 "java/util/TreeMap" "entrySet" "Ljava/util/TreeMap$EntrySet;" .null) (E6_ : Exa Z h0 e1 "java/util/TreeMap$Entry") (F7_ : Fld Z h0 e1 "java/util/TreeMap$Entry" "key" "Ljava/lang/Object;" (.ref k1)) (F8_ : Fld Z h0 e1 "java/util/TreeMap$Entry" "value" "Ljava/lang/Object;" (.ref v1)) (F9_ : Fld Z h0 e1 "java/util/TreeMap$Entry" "left" "Ljava/util/TreeMap$Entry;" .null) (F10_ : Fld Z h0 e1 "java/util/TreeMap$Entry" "right" "Ljava/util/TreeMap$Entry;" .null) (F11_ : Fld Z h0 e1 "java/util/TreeMap$Entry" "parent" "Ljava/util/TreeMap$Entry;" .null) (F12_ : Fld Z h0 e1 "java/util/TreeMap$Entry" "color" "Z" (.int 1)) (E13_ : Exa Z h0 k1 "java/lang/Long") (F14_ : Fld Z h0 k1 "java/lang/Long" "value" "J" (.long x1)) (E15_ : Exa Z h0 ka "java/lang/Long") (F16_ : Fld Z h0 ka "java/lang/Long" "value" "J" (.long xk)) (E17_ : Exa Z h0 va "java/lang/Long") (F18_ : Fld Z h0 va "java/lang/Long" "value" "J" (.long xv)) (G19_ : n0 ≤ t1) (G20_ : n0 ≤ e1) (hMK : own_MK Z cK) (hSL : own_SL Z cK) (hFn : own_Fn Z.heap fn cK) (S24_ : Sta Z Z.heap "java/lang/Long$LongCache" "cache" "[Ljava/lang/Long;" (.ref lc)) (ZA25_ : Arv Z Z.heap lc kc (.object "java/lang/Long") (256 : Int32) lcs .null) (hlc : ∀ i, i < 256 → ∃ a, lcs.getD i .null = .ref a ∧ Exa Z Z.heap a "java/lang/Long" ∧ Fld Z Z.heap a "java/lang/Long" "value" "J" (.long (Int64.ofInt ((i : Int) - 128)))) (hlt : xk < x1) :
    own_M l mN20 (Jvm.Cond.code mN20 jdk_2729_method_26_code 9 (some (.object "java/lang/Object"))) [] (⟨3, 1, 6, 45⟩ : Room) #[(.ref t1), (.ref ka), (.ref va), (.ref fn)] Z h0 (fun v h L => ∃ (e2 : Addr), v = some (.ref va) ∧ Fr n0 L ∧ Keep h0 h [t1, e1] ∧ h0.size ≤ e2 ∧ (Exa Z h t1 "java/util/TreeMap") ∧ (Fld Z h t1 "java/util/TreeMap" "comparator" "Ljava/util/Comparator;" .null) ∧ (Fld Z h t1 "java/util/TreeMap" "root" "Ljava/util/TreeMap$Entry;" (.ref e1)) ∧ (Fld Z h t1 "java/util/TreeMap" "size" "I" (.int (sz + (1 : Int32)))) ∧ (Fld Z h t1 "java/util/TreeMap" "modCount" "I" (.int (mc + (1 : Int32)))) ∧ (Fld Z h t1 "java/util/TreeMap" "entrySet" "Ljava/util/TreeMap$EntrySet;" .null) ∧ (Exa Z h e1 "java/util/TreeMap$Entry") ∧ (Fld Z h e1 "java/util/TreeMap$Entry" "key" "Ljava/lang/Object;" (.ref k1)) ∧ (Fld Z h e1 "java/util/TreeMap$Entry" "value" "Ljava/lang/Object;" (.ref v1)) ∧ (Fld Z h e1 "java/util/TreeMap$Entry" "left" "Ljava/util/TreeMap$Entry;" (.ref e2)) ∧ (Fld Z h e1 "java/util/TreeMap$Entry" "right" "Ljava/util/TreeMap$Entry;" .null) ∧ (Fld Z h e1 "java/util/TreeMap$Entry" "parent" "Ljava/util/TreeMap$Entry;" .null) ∧ (Fld Z h e1 "java/util/TreeMap$Entry" "color" "Z" (.int 1)) ∧ (Exa Z h e2 "java/util/TreeMap$Entry") ∧ (Fld Z h e2 "java/util/TreeMap$Entry" "key" "Ljava/lang/Object;" (.ref ka)) ∧ (Fld Z h e2 "java/util/TreeMap$Entry" "value" "Ljava/lang/Object;" (.ref va)) ∧ (Fld Z h e2 "java/util/TreeMap$Entry" "left" "Ljava/util/TreeMap$Entry;" .null) ∧ (Fld Z h e2 "java/util/TreeMap$Entry" "right" "Ljava/util/TreeMap$Entry;" .null) ∧ (Fld Z h e2 "java/util/TreeMap$Entry" "parent" "Ljava/util/TreeMap$Entry;" (.ref e1)) ∧ (Fld Z h e2 "java/util/TreeMap$Entry" "color" "Z" (.int 0))) := by
  refine own_open n0 (plainFor_of_name pn_6) (fun m => ef_RRRR9 m t1 ka va fn ) ?_
  intro p e s m below meth c s₁ A0 Bd hx hby hml hown hnm hZ hh X0 e0 N0 g0
  have hE := own_hd hby E9
  have g101 := jA X0 hx g0 (hE 0 rfl) rfl rfl
  obtain ⟨_, L102, T102, ⟨rfl, M102, e102⟩, X102, st102⟩ := own_callS X0 hx hZ hown (hw _ (mi 63 rfl)) (wd10 hw) (rm_rnn hw fn h0 n0 O0 ) g101 e0 [] rfl (lenOf pd_8 rfl) (hE 1 rfl) hml.symm 0 rfl (by decide)
  have N102 := Fr.app N0 M102
  have g103 := jA X102 hx (jo X102 hx st102 (hE 2 rfl) rfl rfl) (hE 3 rfl) rfl rfl
  obtain ⟨_, L104, T104, ⟨rfl, M104, e104⟩, X104, st104⟩ := own_callS X102 hx hZ hown (hw _ (mi 63 rfl)) (wd10 hw) (rm_rnn hw va h0 n0 O0 ) g103 e102 [] rfl (lenOf pd_8 rfl) (hE 4 rfl) hml.symm 0 rfl (by decide)
  have N104 := Fr.app N102 M104
  have g105 := jA X104 hx (jo X104 hx st104 (hE 5 rfl) rfl rfl) (hE 6 rfl) rfl rfl
  obtain ⟨T106, X106, e106, g106⟩ := own_getF X104 hx hZ hown (hw _ (mi 67 rfl)) Via.refl e104 F2_ g105 (hE 7 rfl)
  have g107 := jA X106 hx (show Go p e below T106 (mkF m 29 #[rv t1, rv ka, rv va, rv fn, rv e1, .unset, .unset, .unset, .unset] []) A0 from fun t kt => (ja X106 hx (jt X106 hx g106 (hE 8 rfl) rfl rfl (l' := #[rv t1, rv ka, rv va, rv fn, rv e1, .unset, .unset, .unset, .unset]) rfl) (hE 9 rfl) rfl rfl) t (by refine XS.ifnonnullYes X106.here hx rfl (pc0 := 18) (pc' := 29) rfl (hE 10 rfl) rfl (by decide) (by decide) ?_; exact kt)) (hE 17 rfl) rfl rfl
  obtain ⟨T108, X108, e108, g108⟩ := own_getF X106 hx hZ hown (hw _ (mi 27 rfl)) Via.refl e106 F1_ g107 (hE 18 rfl)
  have g109 := jA X108 hx (show Go p e below T108 (mkF m 106 #[rv t1, rv ka, rv va, rv fn, rv e1, .unset, .unset, .val .null, .unset] []) A0 from fun t kt => (ja X108 hx (jt X108 hx g108 (hE 19 rfl) rfl rfl (l' := #[rv t1, rv ka, rv va, rv fn, rv e1, .unset, .unset, .val .null, .unset]) rfl) (hE 20 rfl) rfl rfl) t (by refine XS.ifnullYes X108.here hx rfl (pc0 := 37) (pc' := 106) rfl (hE 21 rfl) rfl (by decide) (by decide) ?_; exact kt)) (hE 22 rfl) rfl rfl
  obtain ⟨_, L110, T110, ⟨rfl, M110, e110⟩, X110, st110⟩ := own_callS X108 hx hZ hown (hw _ (mi 63 rfl)) (wd10 hw) (rm_rnn hw ka h0 n0 O0 ) g109 e108 [] rfl (lenOf pd_8 rfl) (hE 23 rfl) hml.symm 0 rfl (by decide)
  have N110 := Fr.app N104 M110
  have g111 := jA X110 hx (jo X110 hx st110 (hE 24 rfl) rfl rfl) (hE 25 rfl) rfl rfl
  let lo113 : Array Slot := #[rv t1, rv ka, rv va, rv fn, rv e1, .unset, .unset, .val .null, .unset]
  obtain ⟨T112, X112, e112, st112⟩ := castY X110 hx hZ hown (hw _ (mi 79 rfl)) e110 (Ins.of_exa E15_ (hw _ (mi 80 rfl))) (g := (mkF m 112 lo113 [(.ref ka)])) rfl rfl (hE 26 rfl)
  have g114 : Go p e below T112 (mkF m 115 lo113 [(.ref ka)]) A0 := fun t kont => g111 t (st112 t kont)
  have g115 := ja X112 hx (ja X112 hx (jt X112 hx (ja X112 hx (jt X112 hx g114 (hE 27 rfl) rfl rfl (l' := #[rv t1, rv ka, rv va, rv fn, rv e1, .unset, .unset, .val .null, rv ka]) rfl) (hE 28 rfl) rfl rfl) (hE 29 rfl) rfl rfl (l' := #[rv t1, rv ka, rv va, rv fn, rv e1, .unset, rv e1, .val .null, rv ka]) rfl) (hE 30 rfl) rfl rfl) (hE 31 rfl) rfl rfl
  obtain ⟨T116, X116, e116, g116⟩ := own_getF X112 hx hZ hown (hw _ (mi 127 rfl)) Via.refl e112 F7_ g115 (hE 32 rfl)
  obtain ⟨_, L117, T117, ⟨rfl, M117, e117⟩, X117, st117⟩ := own_callF X116 hx hZ hown (hw _ (mi 81 rfl)) (hw _ (mi 82 rfl)) (mvT hZ (hw _ (mi 83 rfl))) (hw _ (mi 84 rfl)) (hw _ (mi 85 rfl)) (hw _ (mi 86 rfl)) (hw _ (mi 87 rfl)) (hw _ (mi 80 rfl)) (hw _ (mi 49 rfl)) (hw _ (mi 88 rfl)) (by decide) E15_ (rm_lco hw ka k1 xk x1 h0 n0 O0 E15_ F16_ E13_ F14_) g116 e116 [] rfl (lenOf pd_4 rfl) (hE 33 rfl) hml.symm 0 rfl (by decide)
  have N117 := Fr.app N110 M117
  have g118 := own_rwS st117 (own_cmpL hlt : (own_cmp xk x1) = (-1 : Int32))
  have g119 := ja X117 hx (jN X117 hx (ji X117 hx (js X117 hx g118 (hE 34 rfl) rfl (l' := #[rv t1, rv ka, rv va, rv fn, rv e1, iv (-1 : Int32), rv e1, .val .null, rv ka]) rfl) (hE 35 rfl) rfl) (hE 36 rfl) rfl (by decide)) (hE 37 rfl) rfl rfl
  obtain ⟨T120, X120, e120, g120⟩ := own_getF X117 hx hZ hown (hw _ (mi 128 rfl)) Via.refl e117 F9_ g119 (hE 38 rfl)
  have g121 := jg X120 hx (jc X120 hx (jN X120 hx (ji X120 hx (ja X120 hx (jA X120 hx (jA X120 hx (jA X120 hx (show Go p e below T120 (mkF m 179 #[rv t1, rv ka, rv va, rv fn, .val .null, iv (-1 : Int32), rv e1, .val .null, rv ka] []) A0 from fun t kt => (ja X120 hx (jg X120 hx (jt X120 hx g120 (hE 39 rfl) rfl rfl (l' := #[rv t1, rv ka, rv va, rv fn, .val .null, iv (-1 : Int32), rv e1, .val .null, rv ka]) rfl) (hE 40 rfl) (pc' := 174) (by decide)) (hE 53 rfl) rfl rfl) t (by refine XS.ifnonnullNo X120.here hx rfl (hE 54 rfl) rfl ?_; exact kt)) (hE 55 rfl) rfl rfl) (hE 56 rfl) rfl rfl) (hE 57 rfl) rfl rfl) (hE 58 rfl) rfl rfl) (hE 59 rfl) rfl) (hE 60 rfl) rfl (by decide)) (hE 61 rfl) 1 rfl) (hE 62 rfl) (pc' := 194) (by decide)
  obtain ⟨_, L122, T122, ⟨r123, rfl, M122, K122, y124, y125, y126, y127, y128, y129, y130, y131, y132, y133, y134, y135, y136, y137, y138, y139, y140, y141, y142, y143, y144⟩, X122, st122⟩ := own_callP X120 hx hZ hown (hw _ (mi 130 rfl)) (wd12 hw) E0_ (rm_adeL hw t1 e1 k1 v1 sz mc ka va h0 n0 O0 E0_ F1_ F2_ F3_ F4_ F5_ E6_ F7_ F8_ F9_ F10_ F11_ F12_ G20_ G19_) g121 e120 [] rfl (lenOf pd_10 rfl) (hE 64 rfl) hml.symm 0 rfl (by decide)
  have N122 := Fr.app N117 M122
  have O145 := O0.keep K122 (allS G19_ (allS G20_ all0))
  have g146 := jA X122 hx st122 (hE 65 rfl) rfl rfl
  have K147 : Keep h0 T122.heap [t1, e1] := ((Keep.refl h0 [t1, e1]).trans K122 (allS (P := fun x => x ∈ [t1, e1] ∨ h0.size ≤ x) (Or.inl (mi 0 rfl)) (allS (P := fun x => x ∈ [t1, e1] ∨ h0.size ≤ x) (Or.inl (mi 1 rfl)) all0)))
  refine own_leave X122 Bd (some (.ref va)) nofun g146 (fun fs hr => retOut X122 hx Bd.returns rfl (Or.inr (Or.inr (Or.inr (Or.inr ⟨rfl, rfl, rfl⟩)))) (hE 66 rfl) hr) (by decide) (by decide) ?_
  exact ⟨r123, rfl, N122, K147, y124, y125, y126, y127, y128, y129, y130, y131, y132, y133, y134, y135, y136, y137, y138, y139, y140, y141, y142, y143, y144⟩
theorem rm_mer1R (hw : HW a0 Z) (t1 e1 k1 v1 : Addr) (sz mc : Int32) (x1 : Int64) (ka va : Addr) (xk xv : Int64) (fn : Addr) (cK : ClassId) (lc : Addr) (kc : ClassId) (lcs : List Value) (h0 : Heap) (n0 : Nat) (O0 : Old Z n0 h0) (E0_ : Exa Z h0 t1 "java/util/TreeMap") (F1_ : Fld Z h0 t1 "java/util/TreeMap" "comparator" "Ljava/util/Comparator;" .null) (F2_ : Fld Z h0 t1 "java/util/TreeMap" "root" "Ljava/util/TreeMap$Entry;" (.ref e1)) (F3_ : Fld Z h0 t1 "java/util/TreeMap" "size" "I" (.int sz)) (F4_ : Fld Z h0 t1 "java/util/TreeMap" "modCount" "I" (.int mc)) (F5_ : Fld Z h0 t1 "java/util/TreeMap" "entrySet" "Ljava/util/TreeMap$EntrySet;" .null) (E6_ : Exa Z h0 e1 "java/util/TreeMap$Entry") (F7_ : Fld Z h0 e1 "java/util/TreeMap$Entry" "key" "Ljava/lang/Object;" (.ref k1)) (F8_ : Fld Z h0 e1 "java/util/TreeMap$Entry" "value" "Ljava/lang/Object;" (.ref v1)) (F9_ : Fld Z h0 e1 "java/util/TreeMap$Entry" "left" "Ljava/util/TreeMap$Entry;" .null) (F10_ : Fld Z h0 e1 "java/util/TreeMap$Entry" "right" "Ljava/util/TreeMap$Entry;" .null) (F11_ : Fld Z h0 e1 "java/util/TreeMap$Entry" "parent" "Ljava/util/TreeMap$Entry;" .null) (F12_ : Fld Z h0 e1 "java/util/TreeMap$Entry" "color" "Z" (.int 1)) (E13_ : Exa Z h0 k1 "java/lang/Long") (F14_ : Fld Z h0 k1 "java/lang/Long" "value" "J" (.long x1)) (E15_ : Exa Z h0 ka "java/lang/Long") (F16_ : Fld Z h0 ka "java/lang/Long" "value" "J" (.long xk)) (E17_ : Exa Z h0 va "java/lang/Long") (F18_ : Fld Z h0 va "java/lang/Long" "value" "J" (.long xv)) (G19_ : n0 ≤ t1) (G20_ : n0 ≤ e1) (hMK : own_MK Z cK) (hSL : own_SL Z cK) (hFn : own_Fn Z.heap fn cK) (S24_ : Sta Z Z.heap "java/lang/Long$LongCache" "cache" "[Ljava/lang/Long;" (.ref lc)) (ZA25_ : Arv Z Z.heap lc kc (.object "java/lang/Long") (256 : Int32) lcs .null) (hlc : ∀ i, i < 256 → ∃ a, lcs.getD i .null = .ref a ∧ Exa Z Z.heap a "java/lang/Long" ∧ Fld Z Z.heap a "java/lang/Long" "value" "J" (.long (Int64.ofInt ((i : Int) - 128)))) (hlt : x1 < xk) :
    own_M l mN20 (Jvm.Cond.code mN20 jdk_2729_method_26_code 9 (some (.object "java/lang/Object"))) [] (⟨3, 1, 6, 45⟩ : Room) #[(.ref t1), (.ref ka), (.ref va), (.ref fn)] Z h0 (fun v h L => ∃ (e2 : Addr), v = some (.ref va) ∧ Fr n0 L ∧ Keep h0 h [t1, e1] ∧ h0.size ≤ e2 ∧ (Exa Z h t1 "java/util/TreeMap") ∧ (Fld Z h t1 "java/util/TreeMap" "comparator" "Ljava/util/Comparator;" .null) ∧ (Fld Z h t1 "java/util/TreeMap" "root" "Ljava/util/TreeMap$Entry;" (.ref e1)) ∧ (Fld Z h t1 "java/util/TreeMap" "size" "I" (.int (sz + (1 : Int32)))) ∧ (Fld Z h t1 "java/util/TreeMap" "modCount" "I" (.int (mc + (1 : Int32)))) ∧ (Fld Z h t1 "java/util/TreeMap" "entrySet" "Ljava/util/TreeMap$EntrySet;" .null) ∧ (Exa Z h e1 "java/util/TreeMap$Entry") ∧ (Fld Z h e1 "java/util/TreeMap$Entry" "key" "Ljava/lang/Object;" (.ref k1)) ∧ (Fld Z h e1 "java/util/TreeMap$Entry" "value" "Ljava/lang/Object;" (.ref v1)) ∧ (Fld Z h e1 "java/util/TreeMap$Entry" "left" "Ljava/util/TreeMap$Entry;" .null) ∧ (Fld Z h e1 "java/util/TreeMap$Entry" "right" "Ljava/util/TreeMap$Entry;" (.ref e2)) ∧ (Fld Z h e1 "java/util/TreeMap$Entry" "parent" "Ljava/util/TreeMap$Entry;" .null) ∧ (Fld Z h e1 "java/util/TreeMap$Entry" "color" "Z" (.int 1)) ∧ (Exa Z h e2 "java/util/TreeMap$Entry") ∧ (Fld Z h e2 "java/util/TreeMap$Entry" "key" "Ljava/lang/Object;" (.ref ka)) ∧ (Fld Z h e2 "java/util/TreeMap$Entry" "value" "Ljava/lang/Object;" (.ref va)) ∧ (Fld Z h e2 "java/util/TreeMap$Entry" "left" "Ljava/util/TreeMap$Entry;" .null) ∧ (Fld Z h e2 "java/util/TreeMap$Entry" "right" "Ljava/util/TreeMap$Entry;" .null) ∧ (Fld Z h e2 "java/util/TreeMap$Entry" "parent" "Ljava/util/TreeMap$Entry;" (.ref e1)) ∧ (Fld Z h e2 "java/util/TreeMap$Entry" "color" "Z" (.int 0))) := by
  refine own_open n0 (plainFor_of_name pn_6) (fun m => ef_RRRR9 m t1 ka va fn ) ?_
  intro p e s m below meth c s₁ A0 Bd hx hby hml hown hnm hZ hh X0 e0 N0 g0
  have hE := own_hd hby E9
  have g101 := jA X0 hx g0 (hE 0 rfl) rfl rfl
  obtain ⟨_, L102, T102, ⟨rfl, M102, e102⟩, X102, st102⟩ := own_callS X0 hx hZ hown (hw _ (mi 63 rfl)) (wd10 hw) (rm_rnn hw fn h0 n0 O0 ) g101 e0 [] rfl (lenOf pd_8 rfl) (hE 1 rfl) hml.symm 0 rfl (by decide)
  have N102 := Fr.app N0 M102
  have g103 := jA X102 hx (jo X102 hx st102 (hE 2 rfl) rfl rfl) (hE 3 rfl) rfl rfl
  obtain ⟨_, L104, T104, ⟨rfl, M104, e104⟩, X104, st104⟩ := own_callS X102 hx hZ hown (hw _ (mi 63 rfl)) (wd10 hw) (rm_rnn hw va h0 n0 O0 ) g103 e102 [] rfl (lenOf pd_8 rfl) (hE 4 rfl) hml.symm 0 rfl (by decide)
  have N104 := Fr.app N102 M104
  have g105 := jA X104 hx (jo X104 hx st104 (hE 5 rfl) rfl rfl) (hE 6 rfl) rfl rfl
  obtain ⟨T106, X106, e106, g106⟩ := own_getF X104 hx hZ hown (hw _ (mi 67 rfl)) Via.refl e104 F2_ g105 (hE 7 rfl)
  have g107 := jA X106 hx (show Go p e below T106 (mkF m 29 #[rv t1, rv ka, rv va, rv fn, rv e1, .unset, .unset, .unset, .unset] []) A0 from fun t kt => (ja X106 hx (jt X106 hx g106 (hE 8 rfl) rfl rfl (l' := #[rv t1, rv ka, rv va, rv fn, rv e1, .unset, .unset, .unset, .unset]) rfl) (hE 9 rfl) rfl rfl) t (by refine XS.ifnonnullYes X106.here hx rfl (pc0 := 18) (pc' := 29) rfl (hE 10 rfl) rfl (by decide) (by decide) ?_; exact kt)) (hE 17 rfl) rfl rfl
  obtain ⟨T108, X108, e108, g108⟩ := own_getF X106 hx hZ hown (hw _ (mi 27 rfl)) Via.refl e106 F1_ g107 (hE 18 rfl)
  have g109 := jA X108 hx (show Go p e below T108 (mkF m 106 #[rv t1, rv ka, rv va, rv fn, rv e1, .unset, .unset, .val .null, .unset] []) A0 from fun t kt => (ja X108 hx (jt X108 hx g108 (hE 19 rfl) rfl rfl (l' := #[rv t1, rv ka, rv va, rv fn, rv e1, .unset, .unset, .val .null, .unset]) rfl) (hE 20 rfl) rfl rfl) t (by refine XS.ifnullYes X108.here hx rfl (pc0 := 37) (pc' := 106) rfl (hE 21 rfl) rfl (by decide) (by decide) ?_; exact kt)) (hE 22 rfl) rfl rfl
  obtain ⟨_, L110, T110, ⟨rfl, M110, e110⟩, X110, st110⟩ := own_callS X108 hx hZ hown (hw _ (mi 63 rfl)) (wd10 hw) (rm_rnn hw ka h0 n0 O0 ) g109 e108 [] rfl (lenOf pd_8 rfl) (hE 23 rfl) hml.symm 0 rfl (by decide)
  have N110 := Fr.app N104 M110
  have g111 := jA X110 hx (jo X110 hx st110 (hE 24 rfl) rfl rfl) (hE 25 rfl) rfl rfl
  let lo113 : Array Slot := #[rv t1, rv ka, rv va, rv fn, rv e1, .unset, .unset, .val .null, .unset]
  obtain ⟨T112, X112, e112, st112⟩ := castY X110 hx hZ hown (hw _ (mi 79 rfl)) e110 (Ins.of_exa E15_ (hw _ (mi 80 rfl))) (g := (mkF m 112 lo113 [(.ref ka)])) rfl rfl (hE 26 rfl)
  have g114 : Go p e below T112 (mkF m 115 lo113 [(.ref ka)]) A0 := fun t kont => g111 t (st112 t kont)
  have g115 := ja X112 hx (ja X112 hx (jt X112 hx (ja X112 hx (jt X112 hx g114 (hE 27 rfl) rfl rfl (l' := #[rv t1, rv ka, rv va, rv fn, rv e1, .unset, .unset, .val .null, rv ka]) rfl) (hE 28 rfl) rfl rfl) (hE 29 rfl) rfl rfl (l' := #[rv t1, rv ka, rv va, rv fn, rv e1, .unset, rv e1, .val .null, rv ka]) rfl) (hE 30 rfl) rfl rfl) (hE 31 rfl) rfl rfl
  obtain ⟨T116, X116, e116, g116⟩ := own_getF X112 hx hZ hown (hw _ (mi 127 rfl)) Via.refl e112 F7_ g115 (hE 32 rfl)
  obtain ⟨_, L117, T117, ⟨rfl, M117, e117⟩, X117, st117⟩ := own_callF X116 hx hZ hown (hw _ (mi 81 rfl)) (hw _ (mi 82 rfl)) (mvT hZ (hw _ (mi 83 rfl))) (hw _ (mi 84 rfl)) (hw _ (mi 85 rfl)) (hw _ (mi 86 rfl)) (hw _ (mi 87 rfl)) (hw _ (mi 80 rfl)) (hw _ (mi 49 rfl)) (hw _ (mi 88 rfl)) (by decide) E15_ (rm_lco hw ka k1 xk x1 h0 n0 O0 E15_ F16_ E13_ F14_) g116 e116 [] rfl (lenOf pd_4 rfl) (hE 33 rfl) hml.symm 0 rfl (by decide)
  have N117 := Fr.app N110 M117
  have g118 := own_rwS st117 (own_cmpG hlt : (own_cmp xk x1) = (1 : Int32))
  have g119 := ja X117 hx (jN X117 hx (ji X117 hx (jY X117 hx (ji X117 hx (js X117 hx g118 (hE 34 rfl) rfl (l' := #[rv t1, rv ka, rv va, rv fn, rv e1, iv 1, rv e1, .val .null, rv ka]) rfl) (hE 35 rfl) rfl) (hE 36 rfl) rfl (by decide) (pc' := 150) (by decide)) (hE 41 rfl) rfl) (hE 42 rfl) rfl (by decide)) (hE 43 rfl) rfl rfl
  obtain ⟨T120, X120, e120, g120⟩ := own_getF X117 hx hZ hown (hw _ (mi 250 rfl)) Via.refl e117 F10_ g119 (hE 44 rfl)
  have g121 := jc X120 hx (jY X120 hx (ji X120 hx (ja X120 hx (jA X120 hx (jA X120 hx (jA X120 hx (show Go p e below T120 (mkF m 179 #[rv t1, rv ka, rv va, rv fn, .val .null, iv 1, rv e1, .val .null, rv ka] []) A0 from fun t kt => (ja X120 hx (jg X120 hx (jt X120 hx g120 (hE 45 rfl) rfl rfl (l' := #[rv t1, rv ka, rv va, rv fn, .val .null, iv 1, rv e1, .val .null, rv ka]) rfl) (hE 46 rfl) (pc' := 174) (by decide)) (hE 53 rfl) rfl rfl) t (by refine XS.ifnonnullNo X120.here hx rfl (hE 54 rfl) rfl ?_; exact kt)) (hE 55 rfl) rfl rfl) (hE 56 rfl) rfl rfl) (hE 57 rfl) rfl rfl) (hE 58 rfl) rfl rfl) (hE 59 rfl) rfl) (hE 60 rfl) rfl (by decide) (pc' := 193) (by decide)) (hE 63 rfl) 0 rfl
  obtain ⟨_, L122, T122, ⟨r123, rfl, M122, K122, y124, y125, y126, y127, y128, y129, y130, y131, y132, y133, y134, y135, y136, y137, y138, y139, y140, y141, y142, y143, y144⟩, X122, st122⟩ := own_callP X120 hx hZ hown (hw _ (mi 130 rfl)) (wd12 hw) E0_ (rm_adeR hw t1 e1 k1 v1 sz mc ka va h0 n0 O0 E0_ F1_ F2_ F3_ F4_ F5_ E6_ F7_ F8_ F9_ F10_ F11_ F12_ G20_ G19_) g121 e120 [] rfl (lenOf pd_10 rfl) (hE 64 rfl) hml.symm 0 rfl (by decide)
  have N122 := Fr.app N117 M122
  have O145 := O0.keep K122 (allS G19_ (allS G20_ all0))
  have g146 := jA X122 hx st122 (hE 65 rfl) rfl rfl
  have K147 : Keep h0 T122.heap [t1, e1] := ((Keep.refl h0 [t1, e1]).trans K122 (allS (P := fun x => x ∈ [t1, e1] ∨ h0.size ≤ x) (Or.inl (mi 0 rfl)) (allS (P := fun x => x ∈ [t1, e1] ∨ h0.size ≤ x) (Or.inl (mi 1 rfl)) all0)))
  refine own_leave X122 Bd (some (.ref va)) nofun g146 (fun fs hr => retOut X122 hx Bd.returns rfl (Or.inr (Or.inr (Or.inr (Or.inr ⟨rfl, rfl, rfl⟩)))) (hE 66 rfl) hr) (by decide) (by decide) ?_
  exact ⟨r123, rfl, N122, K147, y124, y125, y126, y127, y128, y129, y130, y131, y132, y133, y134, y135, y136, y137, y138, y139, y140, y141, y142, y143, y144⟩
theorem pd_11 : parseMethodDescriptor "(Ljava/util/TreeMap$Entry;Ljava/lang/Object;Ljava/util/function/BiFunction;)Ljava/lang/Object;" = some ⟨[(.object "java/util/TreeMap$Entry"), (.object "java/lang/Object"), (.object "java/util/function/BiFunction")], some (.object "java/lang/Object")⟩ := by decide +kernel
theorem wd13 (hw : HW a0 Z) : own_wdP a0 Z mN19 jdk_2729_method_33_code 7 (some (.object "java/lang/Object")) := ⟨hw _ (mi 277 rfl), (hw _ (mi 279 rfl)), hw _ (mi 278 rfl), hw _ (mi 12 rfl), hw _ (mi 280 rfl), by decide⟩
theorem rm_mer1E (hw : HW a0 Z) (t1 e1 k1 v1 : Addr) (sz mc : Int32) (x1 : Int64) (ka va : Addr) (xk xv : Int64) (fn : Addr) (cK : ClassId) (lc : Addr) (kc : ClassId) (lcs : List Value) (y1 : Int64) (h0 : Heap) (n0 : Nat) (O0 : Old Z n0 h0) (E0_ : Exa Z h0 t1 "java/util/TreeMap") (F1_ : Fld Z h0 t1 "java/util/TreeMap" "comparator" "Ljava/util/Comparator;" .null) (F2_ : Fld Z h0 t1 "java/util/TreeMap" "root" "Ljava/util/TreeMap$Entry;" (.ref e1)) (F3_ : Fld Z h0 t1 "java/util/TreeMap" "size" "I" (.int sz)) (F4_ : Fld Z h0 t1 "java/util/TreeMap" "modCount" "I" (.int mc)) (F5_ : Fld Z h0 t1 "java/util/TreeMap" "entrySet" "Ljava/util/TreeMap$EntrySet;" .null) (E6_ : Exa Z h0 e1 "java/util/TreeMap$Entry") (F7_ : Fld Z h0 e1 "java/util/TreeMap$Entry" "key" "Ljava/lang/Object;" (.ref k1)) (F8_ : Fld Z h0 e1 "java/util/TreeMap$Entry" "value" "Ljava/lang/Object;" (.ref v1)) (F9_ : Fld Z h0 e1 "java/util/TreeMap$Entry" "left" "Ljava/util/TreeMap$Entry;" .null) (F10_ : Fld Z h0 e1 "java/util/TreeMap$Entry" "right" "Ljava/util/TreeMap$Entry;" .null) (F11_ : Fld Z h0 e1 "java/util/TreeMap$Entry" "parent" "Ljava/util/TreeMap$Entry;" .null) (F12_ : Fld Z h0 e1 "java/util/TreeMap$Entry" "color" "Z" (.int 1)) (E13_ : Exa Z h0 k1 "java/lang/Long") (F14_ : Fld Z h0 k1 "java/lang/Long" "value" "J" (.long x1)) (E15_ : Exa Z h0 ka "java/lang/Long") (F16_ : Fld Z h0 ka "java/lang/Long" "value" "J" (.long xk)) (E17_ : Exa Z h0 va "java/lang/Long") (F18_ : Fld Z h0 va "java/lang/Long" "value" "J" (.long xv)) (G19_ : n0 ≤ t1) (G20_ : n0 ≤ e1) (hMK : own_MK Z cK) (hSL : own_SL Z cK) (hFn : own_Fn Z.heap fn cK) (S24_ : Sta Z Z.heap "java/lang/Long$LongCache" "cache" "[Ljava/lang/Long;" (.ref lc)) (ZA25_ : Arv Z Z.heap lc kc (.object "java/lang/Long") (256 : Int32) lcs .null) (hlc : ∀ i, i < 256 → ∃ a, lcs.getD i .null = .ref a ∧ Exa Z Z.heap a "java/lang/Long" ∧ Fld Z Z.heap a "java/lang/Long" "value" "J" (.long (Int64.ofInt ((i : Int) - 128)))) (E27_ : Exa Z h0 v1 "java/lang/Long") (F28_ : Fld Z h0 v1 "java/lang/Long" "value" "J" (.long y1)) (heq : xk = x1) :
    own_M l mN20 (Jvm.Cond.code mN20 jdk_2729_method_26_code 9 (some (.object "java/lang/Object"))) [] (⟨6, 1, 1, 85⟩ : Room) #[(.ref t1), (.ref ka), (.ref va), (.ref fn)] Z h0 (fun v h L => ∃ (r : Addr), v = some (.ref r) ∧ Fr n0 L ∧ Keep h0 h [e1] ∧ (Exa Z h e1 "java/util/TreeMap$Entry") ∧ (Fld Z h e1 "java/util/TreeMap$Entry" "key" "Ljava/lang/Object;" (.ref k1)) ∧ (Fld Z h e1 "java/util/TreeMap$Entry" "value" "Ljava/lang/Object;" (.ref r)) ∧ (Fld Z h e1 "java/util/TreeMap$Entry" "left" "Ljava/util/TreeMap$Entry;" .null) ∧ (Fld Z h e1 "java/util/TreeMap$Entry" "right" "Ljava/util/TreeMap$Entry;" .null) ∧ (Fld Z h e1 "java/util/TreeMap$Entry" "parent" "Ljava/util/TreeMap$Entry;" .null) ∧ (Fld Z h e1 "java/util/TreeMap$Entry" "color" "Z" (.int 1)) ∧ (Exa Z h r "java/lang/Long") ∧ (Fld Z h r "java/lang/Long" "value" "J" (.long (y1 + xv)))) := by
  refine own_open n0 (plainFor_of_name pn_6) (fun m => ef_RRRR9 m t1 ka va fn ) ?_
  intro p e s m below meth c s₁ A0 Bd hx hby hml hown hnm hZ hh X0 e0 N0 g0
  have hE := own_hd hby E9
  have g101 := jA X0 hx g0 (hE 0 rfl) rfl rfl
  obtain ⟨_, L102, T102, ⟨rfl, M102, e102⟩, X102, st102⟩ := own_callS X0 hx hZ hown (hw _ (mi 63 rfl)) (wd10 hw) (rm_rnn hw fn h0 n0 O0 ) g101 e0 [] rfl (lenOf pd_8 rfl) (hE 1 rfl) hml.symm 0 rfl (by decide)
  have N102 := Fr.app N0 M102
  have g103 := jA X102 hx (jo X102 hx st102 (hE 2 rfl) rfl rfl) (hE 3 rfl) rfl rfl
  obtain ⟨_, L104, T104, ⟨rfl, M104, e104⟩, X104, st104⟩ := own_callS X102 hx hZ hown (hw _ (mi 63 rfl)) (wd10 hw) (rm_rnn hw va h0 n0 O0 ) g103 e102 [] rfl (lenOf pd_8 rfl) (hE 4 rfl) hml.symm 0 rfl (by decide)
  have N104 := Fr.app N102 M104
  have g105 := jA X104 hx (jo X104 hx st104 (hE 5 rfl) rfl rfl) (hE 6 rfl) rfl rfl
  obtain ⟨T106, X106, e106, g106⟩ := own_getF X104 hx hZ hown (hw _ (mi 67 rfl)) Via.refl e104 F2_ g105 (hE 7 rfl)
  have g107 := jA X106 hx (show Go p e below T106 (mkF m 29 #[rv t1, rv ka, rv va, rv fn, rv e1, .unset, .unset, .unset, .unset] []) A0 from fun t kt => (ja X106 hx (jt X106 hx g106 (hE 8 rfl) rfl rfl (l' := #[rv t1, rv ka, rv va, rv fn, rv e1, .unset, .unset, .unset, .unset]) rfl) (hE 9 rfl) rfl rfl) t (by refine XS.ifnonnullYes X106.here hx rfl (pc0 := 18) (pc' := 29) rfl (hE 10 rfl) rfl (by decide) (by decide) ?_; exact kt)) (hE 17 rfl) rfl rfl
  obtain ⟨T108, X108, e108, g108⟩ := own_getF X106 hx hZ hown (hw _ (mi 27 rfl)) Via.refl e106 F1_ g107 (hE 18 rfl)
  have g109 := jA X108 hx (show Go p e below T108 (mkF m 106 #[rv t1, rv ka, rv va, rv fn, rv e1, .unset, .unset, .val .null, .unset] []) A0 from fun t kt => (ja X108 hx (jt X108 hx g108 (hE 19 rfl) rfl rfl (l' := #[rv t1, rv ka, rv va, rv fn, rv e1, .unset, .unset, .val .null, .unset]) rfl) (hE 20 rfl) rfl rfl) t (by refine XS.ifnullYes X108.here hx rfl (pc0 := 37) (pc' := 106) rfl (hE 21 rfl) rfl (by decide) (by decide) ?_; exact kt)) (hE 22 rfl) rfl rfl
  obtain ⟨_, L110, T110, ⟨rfl, M110, e110⟩, X110, st110⟩ := own_callS X108 hx hZ hown (hw _ (mi 63 rfl)) (wd10 hw) (rm_rnn hw ka h0 n0 O0 ) g109 e108 [] rfl (lenOf pd_8 rfl) (hE 23 rfl) hml.symm 0 rfl (by decide)
  have N110 := Fr.app N104 M110
  have g111 := jA X110 hx (jo X110 hx st110 (hE 24 rfl) rfl rfl) (hE 25 rfl) rfl rfl
  let lo113 : Array Slot := #[rv t1, rv ka, rv va, rv fn, rv e1, .unset, .unset, .val .null, .unset]
  obtain ⟨T112, X112, e112, st112⟩ := castY X110 hx hZ hown (hw _ (mi 79 rfl)) e110 (Ins.of_exa E15_ (hw _ (mi 80 rfl))) (g := (mkF m 112 lo113 [(.ref ka)])) rfl rfl (hE 26 rfl)
  have g114 : Go p e below T112 (mkF m 115 lo113 [(.ref ka)]) A0 := fun t kont => g111 t (st112 t kont)
  have g115 := ja X112 hx (ja X112 hx (jt X112 hx (ja X112 hx (jt X112 hx g114 (hE 27 rfl) rfl rfl (l' := #[rv t1, rv ka, rv va, rv fn, rv e1, .unset, .unset, .val .null, rv ka]) rfl) (hE 28 rfl) rfl rfl) (hE 29 rfl) rfl rfl (l' := #[rv t1, rv ka, rv va, rv fn, rv e1, .unset, rv e1, .val .null, rv ka]) rfl) (hE 30 rfl) rfl rfl) (hE 31 rfl) rfl rfl
  obtain ⟨T116, X116, e116, g116⟩ := own_getF X112 hx hZ hown (hw _ (mi 127 rfl)) Via.refl e112 F7_ g115 (hE 32 rfl)
  obtain ⟨_, L117, T117, ⟨rfl, M117, e117⟩, X117, st117⟩ := own_callF X116 hx hZ hown (hw _ (mi 81 rfl)) (hw _ (mi 82 rfl)) (mvT hZ (hw _ (mi 83 rfl))) (hw _ (mi 84 rfl)) (hw _ (mi 85 rfl)) (hw _ (mi 86 rfl)) (hw _ (mi 87 rfl)) (hw _ (mi 80 rfl)) (hw _ (mi 49 rfl)) (hw _ (mi 88 rfl)) (by decide) E15_ (rm_lco hw ka k1 xk x1 h0 n0 O0 E15_ F16_ E13_ F14_) g116 e116 [] rfl (lenOf pd_4 rfl) (hE 33 rfl) hml.symm 0 rfl (by decide)
  have N117 := Fr.app N110 M117
  have g118 := own_rwS st117 (own_cmpE heq : (own_cmp xk x1) = (0 : Int32))
  have g119 := jA X117 hx (jA X117 hx (ja X117 hx (jA X117 hx (jY X117 hx (ji X117 hx (jY X117 hx (ji X117 hx (js X117 hx g118 (hE 34 rfl) rfl (l' := #[rv t1, rv ka, rv va, rv fn, rv e1, iv 0, rv e1, .val .null, rv ka]) rfl) (hE 35 rfl) rfl) (hE 36 rfl) rfl (by decide) (pc' := 150) (by decide)) (hE 41 rfl) rfl) (hE 42 rfl) rfl (by decide) (pc' := 165) (by decide)) (hE 47 rfl) rfl rfl) (hE 48 rfl) rfl rfl) (hE 49 rfl) rfl rfl) (hE 50 rfl) rfl rfl
  obtain ⟨_, L120, T120, ⟨r121, rfl, M120, K120, y122, y123, y124, y125, y126, y127, y128, y129, y130⟩, X120, st120⟩ := own_callP X117 hx hZ hown (hw _ (mi 276 rfl)) (wd13 hw) E0_ (rm_mv hw t1 e1 k1 v1 va y1 xv mc .null .null .null (1 : Int32) fn cK lc kc lcs h0 n0 O0 E0_ F4_ E6_ F7_ F8_ F9_ F10_ F11_ F12_ G20_ E27_ F28_ E17_ F18_ hMK hSL hFn S24_ ZA25_ hlc (rfl) (rfl) (rfl)) g119 e117 [] rfl (lenOf pd_11 rfl) (hE 51 rfl) hml.symm 0 rfl (by decide)
  have N120 := Fr.app N117 M120
  have O131 := O0.keep K120 (allS G20_ all0)
  have K132 : Keep h0 T120.heap [e1] := ((Keep.refl h0 [e1]).trans K120 (allS (P := fun x => x ∈ [e1] ∨ h0.size ≤ x) (Or.inl (mi 0 rfl)) all0))
  refine own_leave X120 Bd (some (.ref r121)) nofun st120 (fun fs hr => retOut X120 hx Bd.returns rfl (Or.inr (Or.inr (Or.inr (Or.inr ⟨rfl, rfl, rfl⟩)))) (hE 52 rfl) hr) (by decide) (by decide) ?_
  exact ⟨r121, rfl, N120, K132, y122, y123, y124, y125, y126, y127, y128, y129, y130⟩
theorem rm_mer2L (hw : HW a0 Z) (t1 e1 k1 v1 : Addr) (sz mc : Int32) (x1 : Int64) (ka va : Addr) (xk xv : Int64) (fn : Addr) (cK : ClassId) (lc : Addr) (kc : ClassId) (lcs : List Value) (e2 k2 v2 : Addr) (x2 y2 : Int64) (h0 : Heap) (n0 : Nat) (O0 : Old Z n0 h0) (E0_ : Exa Z h0 t1 "java/util/TreeMap") (F1_ : Fld Z h0 t1 "java/util/TreeMap" "comparator" "Ljava/util/Comparator;" .null) (F2_ : Fld Z h0 t1 "java/util/TreeMap" "root" "Ljava/util/TreeMap$Entry;" (.ref e1)) (F3_ : Fld Z h0 t1 "java/util/TreeMap" "size" "I" (.int sz)) (F4_ : Fld Z h0 t1 "java/util/TreeMap" "modCount" "I" (.int mc)) (F5_ : Fld Z h0 t1 "java/util/TreeMap" "entrySet" "Ljava/util/TreeMap$EntrySet;" .null) (E6_ : Exa Z h0 e1 "java/util/TreeMap$Entry") (F7_ : Fld Z h0 e1 "java/util/TreeMap$Entry" "key" "Ljava/lang/Object;" (.ref k1)) (F8_ : Fld Z h0 e1 "java/util/TreeMap$Entry" "value" "Ljava/lang/Object;" (.ref v1)) (F9_ : Fld Z h0 e1 "java/util/TreeMap$Entry" "left" "Ljava/util/TreeMap$Entry;" (.ref e2)) (F10_ : Fld Z h0 e1 "java/util/TreeMap$Entry" "right" "Ljava/util/TreeMap$Entry;" .null) (F11_ : Fld Z h0 e1 "java/util/TreeMap$Entry" "parent" "Ljava/util/TreeMap$Entry;" .null) (F12_ : Fld Z h0 e1 "java/util/TreeMap$Entry" "color" "Z" (.int 1)) (E13_ : Exa Z h0 e2 "java/util/TreeMap$Entry") (F14_ : Fld Z h0 e2 "java/util/TreeMap$Entry" "key" "Ljava/lang/Object;" (.ref k2)) (F15_ : Fld Z h0 e2 "java/util/TreeMap$Entry" "value" "Ljava/lang/Object;" (.ref v2)) (F16_ : Fld Z h0 e2 "java/util/TreeMap$Entry" "left" "Ljava/util/TreeMap$Entry;" .null) (F17_ : Fld Z h0 e2 "java/util/TreeMap$Entry" "right" "Ljava/util/TreeMap$Entry;" .null) (F18_ : Fld Z h0 e2 "java/util/TreeMap$Entry" "parent" "Ljava/util/TreeMap$Entry;" (.ref e1)) (F19_ : Fld Z h0 e2 "java/util/TreeMap$Entry" "color" "Z" (.int 0)) (E20_ : Exa Z h0 k1 "java/lang/Long") (F21_ : Fld Z h0 k1 "java/lang/Long" "value" "J" (.long x1)) (E22_ : Exa Z h0 k2 "java/lang/Long") (F23_ : Fld Z h0 k2 "java/lang/Long" "value" "J" (.long x2)) (E24_ : Exa Z h0 v2 "java/lang/Long") (F25_ : Fld Z h0 v2 "java/lang/Long" "value" "J" (.long y2)) (E26_ : Exa Z h0 ka "java/lang/Long") (F27_ : Fld Z h0 ka "java/lang/Long" "value" "J" (.long xk)) (E28_ : Exa Z h0 va "java/lang/Long") (F29_ : Fld Z h0 va "java/lang/Long" "value" "J" (.long xv)) (G30_ : n0 ≤ t1) (G31_ : n0 ≤ e1) (G32_ : n0 ≤ e2) (NE33_ : ¬ (e1 = e2)) (hMK : own_MK Z cK) (hSL : own_SL Z cK) (hFn : own_Fn Z.heap fn cK) (S37_ : Sta Z Z.heap "java/lang/Long$LongCache" "cache" "[Ljava/lang/Long;" (.ref lc)) (ZA38_ : Arv Z Z.heap lc kc (.object "java/lang/Long") (256 : Int32) lcs .null) (hlc : ∀ i, i < 256 → ∃ a, lcs.getD i .null = .ref a ∧ Exa Z Z.heap a "java/lang/Long" ∧ Fld Z Z.heap a "java/lang/Long" "value" "J" (.long (Int64.ofInt ((i : Int) - 128)))) (hlt : xk < x1) (heq : xk = x2) :
    own_M l mN20 (Jvm.Cond.code mN20 jdk_2729_method_26_code 9 (some (.object "java/lang/Object"))) [] (⟨6, 1, 1, 85⟩ : Room) #[(.ref t1), (.ref ka), (.ref va), (.ref fn)] Z h0 (fun v h L => ∃ (r : Addr), v = some (.ref r) ∧ Fr n0 L ∧ Keep h0 h [e2] ∧ (Exa Z h e2 "java/util/TreeMap$Entry") ∧ (Fld Z h e2 "java/util/TreeMap$Entry" "key" "Ljava/lang/Object;" (.ref k2)) ∧ (Fld Z h e2 "java/util/TreeMap$Entry" "value" "Ljava/lang/Object;" (.ref r)) ∧ (Fld Z h e2 "java/util/TreeMap$Entry" "left" "Ljava/util/TreeMap$Entry;" .null) ∧ (Fld Z h e2 "java/util/TreeMap$Entry" "right" "Ljava/util/TreeMap$Entry;" .null) ∧ (Fld Z h e2 "java/util/TreeMap$Entry" "parent" "Ljava/util/TreeMap$Entry;" (.ref e1)) ∧ (Fld Z h e2 "java/util/TreeMap$Entry" "color" "Z" (.int 0)) ∧ (Exa Z h r "java/lang/Long") ∧ (Fld Z h r "java/lang/Long" "value" "J" (.long (y2 + xv)))) := by
  refine own_open n0 (plainFor_of_name pn_6) (fun m => ef_RRRR9 m t1 ka va fn ) ?_
  intro p e s m below meth c s₁ A0 Bd hx hby hml hown hnm hZ hh X0 e0 N0 g0
  have hE := own_hd hby E9
  have g101 := jA X0 hx g0 (hE 0 rfl) rfl rfl
  obtain ⟨_, L102, T102, ⟨rfl, M102, e102⟩, X102, st102⟩ := own_callS X0 hx hZ hown (hw _ (mi 63 rfl)) (wd10 hw) (rm_rnn hw fn h0 n0 O0 ) g101 e0 [] rfl (lenOf pd_8 rfl) (hE 1 rfl) hml.symm 0 rfl (by decide)
  have N102 := Fr.app N0 M102
  have g103 := jA X102 hx (jo X102 hx st102 (hE 2 rfl) rfl rfl) (hE 3 rfl) rfl rfl
  obtain ⟨_, L104, T104, ⟨rfl, M104, e104⟩, X104, st104⟩ := own_callS X102 hx hZ hown (hw _ (mi 63 rfl)) (wd10 hw) (rm_rnn hw va h0 n0 O0 ) g103 e102 [] rfl (lenOf pd_8 rfl) (hE 4 rfl) hml.symm 0 rfl (by decide)
  have N104 := Fr.app N102 M104
  have g105 := jA X104 hx (jo X104 hx st104 (hE 5 rfl) rfl rfl) (hE 6 rfl) rfl rfl
  obtain ⟨T106, X106, e106, g106⟩ := own_getF X104 hx hZ hown (hw _ (mi 67 rfl)) Via.refl e104 F2_ g105 (hE 7 rfl)
  have g107 := jA X106 hx (show Go p e below T106 (mkF m 29 #[rv t1, rv ka, rv va, rv fn, rv e1, .unset, .unset, .unset, .unset] []) A0 from fun t kt => (ja X106 hx (jt X106 hx g106 (hE 8 rfl) rfl rfl (l' := #[rv t1, rv ka, rv va, rv fn, rv e1, .unset, .unset, .unset, .unset]) rfl) (hE 9 rfl) rfl rfl) t (by refine XS.ifnonnullYes X106.here hx rfl (pc0 := 18) (pc' := 29) rfl (hE 10 rfl) rfl (by decide) (by decide) ?_; exact kt)) (hE 17 rfl) rfl rfl
  obtain ⟨T108, X108, e108, g108⟩ := own_getF X106 hx hZ hown (hw _ (mi 27 rfl)) Via.refl e106 F1_ g107 (hE 18 rfl)
  have g109 := jA X108 hx (show Go p e below T108 (mkF m 106 #[rv t1, rv ka, rv va, rv fn, rv e1, .unset, .unset, .val .null, .unset] []) A0 from fun t kt => (ja X108 hx (jt X108 hx g108 (hE 19 rfl) rfl rfl (l' := #[rv t1, rv ka, rv va, rv fn, rv e1, .unset, .unset, .val .null, .unset]) rfl) (hE 20 rfl) rfl rfl) t (by refine XS.ifnullYes X108.here hx rfl (pc0 := 37) (pc' := 106) rfl (hE 21 rfl) rfl (by decide) (by decide) ?_; exact kt)) (hE 22 rfl) rfl rfl
  obtain ⟨_, L110, T110, ⟨rfl, M110, e110⟩, X110, st110⟩ := own_callS X108 hx hZ hown (hw _ (mi 63 rfl)) (wd10 hw) (rm_rnn hw ka h0 n0 O0 ) g109 e108 [] rfl (lenOf pd_8 rfl) (hE 23 rfl) hml.symm 0 rfl (by decide)
  have N110 := Fr.app N104 M110
  have g111 := jA X110 hx (jo X110 hx st110 (hE 24 rfl) rfl rfl) (hE 25 rfl) rfl rfl
  let lo113 : Array Slot := #[rv t1, rv ka, rv va, rv fn, rv e1, .unset, .unset, .val .null, .unset]
  obtain ⟨T112, X112, e112, st112⟩ := castY X110 hx hZ hown (hw _ (mi 79 rfl)) e110 (Ins.of_exa E26_ (hw _ (mi 80 rfl))) (g := (mkF m 112 lo113 [(.ref ka)])) rfl rfl (hE 26 rfl)
  have g114 : Go p e below T112 (mkF m 115 lo113 [(.ref ka)]) A0 := fun t kont => g111 t (st112 t kont)
  have g115 := ja X112 hx (ja X112 hx (jt X112 hx (ja X112 hx (jt X112 hx g114 (hE 27 rfl) rfl rfl (l' := #[rv t1, rv ka, rv va, rv fn, rv e1, .unset, .unset, .val .null, rv ka]) rfl) (hE 28 rfl) rfl rfl) (hE 29 rfl) rfl rfl (l' := #[rv t1, rv ka, rv va, rv fn, rv e1, .unset, rv e1, .val .null, rv ka]) rfl) (hE 30 rfl) rfl rfl) (hE 31 rfl) rfl rfl
  obtain ⟨T116, X116, e116, g116⟩ := own_getF X112 hx hZ hown (hw _ (mi 127 rfl)) Via.refl e112 F7_ g115 (hE 32 rfl)
  obtain ⟨_, L117, T117, ⟨rfl, M117, e117⟩, X117, st117⟩ := own_callF X116 hx hZ hown (hw _ (mi 81 rfl)) (hw _ (mi 82 rfl)) (mvT hZ (hw _ (mi 83 rfl))) (hw _ (mi 84 rfl)) (hw _ (mi 85 rfl)) (hw _ (mi 86 rfl)) (hw _ (mi 87 rfl)) (hw _ (mi 80 rfl)) (hw _ (mi 49 rfl)) (hw _ (mi 88 rfl)) (by decide) E26_ (rm_lco hw ka k1 xk x1 h0 n0 O0 E26_ F27_ E20_ F21_) g116 e116 [] rfl (lenOf pd_4 rfl) (hE 33 rfl) hml.symm 0 rfl (by decide)
  have N117 := Fr.app N110 M117
  have g118 := own_rwS st117 (own_cmpL hlt : (own_cmp xk x1) = (-1 : Int32))
  have g119 := ja X117 hx (jN X117 hx (ji X117 hx (js X117 hx g118 (hE 34 rfl) rfl (l' := #[rv t1, rv ka, rv va, rv fn, rv e1, iv (-1 : Int32), rv e1, .val .null, rv ka]) rfl) (hE 35 rfl) rfl) (hE 36 rfl) rfl (by decide)) (hE 37 rfl) rfl rfl
  obtain ⟨T120, X120, e120, g120⟩ := own_getF X117 hx hZ hown (hw _ (mi 128 rfl)) Via.refl e117 F9_ g119 (hE 38 rfl)
  have g121 := ja X120 hx (ja X120 hx (jt X120 hx (ja X120 hx (show Go p e below T120 (mkF m 117 #[rv t1, rv ka, rv va, rv fn, rv e2, iv (-1 : Int32), rv e1, .val .null, rv ka] []) A0 from fun t kt => (ja X120 hx (jg X120 hx (jt X120 hx g120 (hE 39 rfl) rfl rfl (l' := #[rv t1, rv ka, rv va, rv fn, rv e2, iv (-1 : Int32), rv e1, .val .null, rv ka]) rfl) (hE 40 rfl) (pc' := 174) (by decide)) (hE 53 rfl) rfl rfl) t (by refine XS.ifnonnullYes X120.here hx rfl (pc0 := 176) (pc' := 117) rfl (hE 54 rfl) rfl (by decide) (by decide) ?_; exact kt)) (hE 28 rfl) rfl rfl) (hE 29 rfl) rfl rfl (l' := #[rv t1, rv ka, rv va, rv fn, rv e2, iv (-1 : Int32), rv e2, .val .null, rv ka]) rfl) (hE 30 rfl) rfl rfl) (hE 31 rfl) rfl rfl
  obtain ⟨T122, X122, e122, g122⟩ := own_getF X120 hx hZ hown (hw _ (mi 127 rfl)) Via.refl e120 F14_ g121 (hE 32 rfl)
  obtain ⟨_, L123, T123, ⟨rfl, M123, e123⟩, X123, st123⟩ := own_callF X122 hx hZ hown (hw _ (mi 81 rfl)) (hw _ (mi 82 rfl)) (mvT hZ (hw _ (mi 83 rfl))) (hw _ (mi 84 rfl)) (hw _ (mi 85 rfl)) (hw _ (mi 86 rfl)) (hw _ (mi 87 rfl)) (hw _ (mi 80 rfl)) (hw _ (mi 49 rfl)) (hw _ (mi 88 rfl)) (by decide) E26_ (rm_lco hw ka k2 xk x2 h0 n0 O0 E26_ F27_ E22_ F23_) g122 e122 [] rfl (lenOf pd_4 rfl) (hE 33 rfl) hml.symm 0 rfl (by decide)
  have N123 := Fr.app N117 M123
  have g124 := own_rwS st123 (own_cmpE heq : (own_cmp xk x2) = (0 : Int32))
  have g125 := jA X123 hx (jA X123 hx (ja X123 hx (jA X123 hx (jY X123 hx (ji X123 hx (jY X123 hx (ji X123 hx (js X123 hx g124 (hE 34 rfl) rfl (l' := #[rv t1, rv ka, rv va, rv fn, rv e2, iv 0, rv e2, .val .null, rv ka]) rfl) (hE 35 rfl) rfl) (hE 36 rfl) rfl (by decide) (pc' := 150) (by decide)) (hE 41 rfl) rfl) (hE 42 rfl) rfl (by decide) (pc' := 165) (by decide)) (hE 47 rfl) rfl rfl) (hE 48 rfl) rfl rfl) (hE 49 rfl) rfl rfl) (hE 50 rfl) rfl rfl
  obtain ⟨_, L126, T126, ⟨r127, rfl, M126, K126, y128, y129, y130, y131, y132, y133, y134, y135, y136⟩, X126, st126⟩ := own_callP X123 hx hZ hown (hw _ (mi 276 rfl)) (wd13 hw) E0_ (rm_mv hw t1 e2 k2 v2 va y2 xv mc .null .null (.ref e1) (0 : Int32) fn cK lc kc lcs h0 n0 O0 E0_ F4_ E13_ F14_ F15_ F16_ F17_ F18_ F19_ G32_ E24_ F25_ E28_ F29_ hMK hSL hFn S37_ ZA38_ hlc (rfl) (rfl) (rfl)) g125 e123 [] rfl (lenOf pd_11 rfl) (hE 51 rfl) hml.symm 0 rfl (by decide)
  have N126 := Fr.app N123 M126
  have O137 := O0.keep K126 (allS G32_ all0)
  have K138 : Keep h0 T126.heap [e2] := ((Keep.refl h0 [e2]).trans K126 (allS (P := fun x => x ∈ [e2] ∨ h0.size ≤ x) (Or.inl (mi 0 rfl)) all0))
  refine own_leave X126 Bd (some (.ref r127)) nofun st126 (fun fs hr => retOut X126 hx Bd.returns rfl (Or.inr (Or.inr (Or.inr (Or.inr ⟨rfl, rfl, rfl⟩)))) (hE 52 rfl) hr) (by decide) (by decide) ?_
  exact ⟨r127, rfl, N126, K138, y128, y129, y130, y131, y132, y133, y134, y135, y136⟩
theorem rm_mer2R (hw : HW a0 Z) (t1 e1 k1 v1 : Addr) (sz mc : Int32) (x1 : Int64) (ka va : Addr) (xk xv : Int64) (fn : Addr) (cK : ClassId) (lc : Addr) (kc : ClassId) (lcs : List Value) (e2 k2 v2 : Addr) (x2 y2 : Int64) (h0 : Heap) (n0 : Nat) (O0 : Old Z n0 h0) (E0_ : Exa Z h0 t1 "java/util/TreeMap") (F1_ : Fld Z h0 t1 "java/util/TreeMap" "comparator" "Ljava/util/Comparator;" .null) (F2_ : Fld Z h0 t1 "java/util/TreeMap" "root" "Ljava/util/TreeMap$Entry;" (.ref e1)) (F3_ : Fld Z h0 t1 "java/util/TreeMap" "size" "I" (.int sz)) (F4_ : Fld Z h0 t1 "java/util/TreeMap" "modCount" "I" (.int mc)) (F5_ : Fld Z h0 t1 "java/util/TreeMap" "entrySet" "Ljava/util/TreeMap$EntrySet;" .null) (E6_ : Exa Z h0 e1 "java/util/TreeMap$Entry") (F7_ : Fld Z h0 e1 "java/util/TreeMap$Entry" "key" "Ljava/lang/Object;" (.ref k1)) (F8_ : Fld Z h0 e1 "java/util/TreeMap$Entry" "value" "Ljava/lang/Object;" (.ref v1)) (F9_ : Fld Z h0 e1 "java/util/TreeMap$Entry" "left" "Ljava/util/TreeMap$Entry;" .null) (F10_ : Fld Z h0 e1 "java/util/TreeMap$Entry" "right" "Ljava/util/TreeMap$Entry;" (.ref e2)) (F11_ : Fld Z h0 e1 "java/util/TreeMap$Entry" "parent" "Ljava/util/TreeMap$Entry;" .null) (F12_ : Fld Z h0 e1 "java/util/TreeMap$Entry" "color" "Z" (.int 1)) (E13_ : Exa Z h0 e2 "java/util/TreeMap$Entry") (F14_ : Fld Z h0 e2 "java/util/TreeMap$Entry" "key" "Ljava/lang/Object;" (.ref k2)) (F15_ : Fld Z h0 e2 "java/util/TreeMap$Entry" "value" "Ljava/lang/Object;" (.ref v2)) (F16_ : Fld Z h0 e2 "java/util/TreeMap$Entry" "left" "Ljava/util/TreeMap$Entry;" .null) (F17_ : Fld Z h0 e2 "java/util/TreeMap$Entry" "right" "Ljava/util/TreeMap$Entry;" .null) (F18_ : Fld Z h0 e2 "java/util/TreeMap$Entry" "parent" "Ljava/util/TreeMap$Entry;" (.ref e1)) (F19_ : Fld Z h0 e2 "java/util/TreeMap$Entry" "color" "Z" (.int 0)) (E20_ : Exa Z h0 k1 "java/lang/Long") (F21_ : Fld Z h0 k1 "java/lang/Long" "value" "J" (.long x1)) (E22_ : Exa Z h0 k2 "java/lang/Long") (F23_ : Fld Z h0 k2 "java/lang/Long" "value" "J" (.long x2)) (E24_ : Exa Z h0 v2 "java/lang/Long") (F25_ : Fld Z h0 v2 "java/lang/Long" "value" "J" (.long y2)) (E26_ : Exa Z h0 ka "java/lang/Long") (F27_ : Fld Z h0 ka "java/lang/Long" "value" "J" (.long xk)) (E28_ : Exa Z h0 va "java/lang/Long") (F29_ : Fld Z h0 va "java/lang/Long" "value" "J" (.long xv)) (G30_ : n0 ≤ t1) (G31_ : n0 ≤ e1) (G32_ : n0 ≤ e2) (NE33_ : ¬ (e1 = e2)) (hMK : own_MK Z cK) (hSL : own_SL Z cK) (hFn : own_Fn Z.heap fn cK) (S37_ : Sta Z Z.heap "java/lang/Long$LongCache" "cache" "[Ljava/lang/Long;" (.ref lc)) (ZA38_ : Arv Z Z.heap lc kc (.object "java/lang/Long") (256 : Int32) lcs .null) (hlc : ∀ i, i < 256 → ∃ a, lcs.getD i .null = .ref a ∧ Exa Z Z.heap a "java/lang/Long" ∧ Fld Z Z.heap a "java/lang/Long" "value" "J" (.long (Int64.ofInt ((i : Int) - 128)))) (hlt : x1 < xk) (heq : xk = x2) :
    own_M l mN20 (Jvm.Cond.code mN20 jdk_2729_method_26_code 9 (some (.object "java/lang/Object"))) [] (⟨6, 1, 1, 85⟩ : Room) #[(.ref t1), (.ref ka), (.ref va), (.ref fn)] Z h0 (fun v h L => ∃ (r : Addr), v = some (.ref r) ∧ Fr n0 L ∧ Keep h0 h [e2] ∧ (Exa Z h e2 "java/util/TreeMap$Entry") ∧ (Fld Z h e2 "java/util/TreeMap$Entry" "key" "Ljava/lang/Object;" (.ref k2)) ∧ (Fld Z h e2 "java/util/TreeMap$Entry" "value" "Ljava/lang/Object;" (.ref r)) ∧ (Fld Z h e2 "java/util/TreeMap$Entry" "left" "Ljava/util/TreeMap$Entry;" .null) ∧ (Fld Z h e2 "java/util/TreeMap$Entry" "right" "Ljava/util/TreeMap$Entry;" .null) ∧ (Fld Z h e2 "java/util/TreeMap$Entry" "parent" "Ljava/util/TreeMap$Entry;" (.ref e1)) ∧ (Fld Z h e2 "java/util/TreeMap$Entry" "color" "Z" (.int 0)) ∧ (Exa Z h r "java/lang/Long") ∧ (Fld Z h r "java/lang/Long" "value" "J" (.long (y2 + xv)))) := by
  refine own_open n0 (plainFor_of_name pn_6) (fun m => ef_RRRR9 m t1 ka va fn ) ?_
  intro p e s m below meth c s₁ A0 Bd hx hby hml hown hnm hZ hh X0 e0 N0 g0
  have hE := own_hd hby E9
  have g101 := jA X0 hx g0 (hE 0 rfl) rfl rfl
  obtain ⟨_, L102, T102, ⟨rfl, M102, e102⟩, X102, st102⟩ := own_callS X0 hx hZ hown (hw _ (mi 63 rfl)) (wd10 hw) (rm_rnn hw fn h0 n0 O0 ) g101 e0 [] rfl (lenOf pd_8 rfl) (hE 1 rfl) hml.symm 0 rfl (by decide)
  have N102 := Fr.app N0 M102
  have g103 := jA X102 hx (jo X102 hx st102 (hE 2 rfl) rfl rfl) (hE 3 rfl) rfl rfl
  obtain ⟨_, L104, T104, ⟨rfl, M104, e104⟩, X104, st104⟩ := own_callS X102 hx hZ hown (hw _ (mi 63 rfl)) (wd10 hw) (rm_rnn hw va h0 n0 O0 ) g103 e102 [] rfl (lenOf pd_8 rfl) (hE 4 rfl) hml.symm 0 rfl (by decide)
  have N104 := Fr.app N102 M104
  have g105 := jA X104 hx (jo X104 hx st104 (hE 5 rfl) rfl rfl) (hE 6 rfl) rfl rfl
  obtain ⟨T106, X106, e106, g106⟩ := own_getF X104 hx hZ hown (hw _ (mi 67 rfl)) Via.refl e104 F2_ g105 (hE 7 rfl)
  have g107 := jA X106 hx (show Go p e below T106 (mkF m 29 #[rv t1, rv ka, rv va, rv fn, rv e1, .unset, .unset, .unset, .unset] []) A0 from fun t kt => (ja X106 hx (jt X106 hx g106 (hE 8 rfl) rfl rfl (l' := #[rv t1, rv ka, rv va, rv fn, rv e1, .unset, .unset, .unset, .unset]) rfl) (hE 9 rfl) rfl rfl) t (by refine XS.ifnonnullYes X106.here hx rfl (pc0 := 18) (pc' := 29) rfl (hE 10 rfl) rfl (by decide) (by decide) ?_; exact kt)) (hE 17 rfl) rfl rfl
  obtain ⟨T108, X108, e108, g108⟩ := own_getF X106 hx hZ hown (hw _ (mi 27 rfl)) Via.refl e106 F1_ g107 (hE 18 rfl)
  have g109 := jA X108 hx (show Go p e below T108 (mkF m 106 #[rv t1, rv ka, rv va, rv fn, rv e1, .unset, .unset, .val .null, .unset] []) A0 from fun t kt => (ja X108 hx (jt X108 hx g108 (hE 19 rfl) rfl rfl (l' := #[rv t1, rv ka, rv va, rv fn, rv e1, .unset, .unset, .val .null, .unset]) rfl) (hE 20 rfl) rfl rfl) t (by refine XS.ifnullYes X108.here hx rfl (pc0 := 37) (pc' := 106) rfl (hE 21 rfl) rfl (by decide) (by decide) ?_; exact kt)) (hE 22 rfl) rfl rfl
  obtain ⟨_, L110, T110, ⟨rfl, M110, e110⟩, X110, st110⟩ := own_callS X108 hx hZ hown (hw _ (mi 63 rfl)) (wd10 hw) (rm_rnn hw ka h0 n0 O0 ) g109 e108 [] rfl (lenOf pd_8 rfl) (hE 23 rfl) hml.symm 0 rfl (by decide)
  have N110 := Fr.app N104 M110
  have g111 := jA X110 hx (jo X110 hx st110 (hE 24 rfl) rfl rfl) (hE 25 rfl) rfl rfl
  let lo113 : Array Slot := #[rv t1, rv ka, rv va, rv fn, rv e1, .unset, .unset, .val .null, .unset]
  obtain ⟨T112, X112, e112, st112⟩ := castY X110 hx hZ hown (hw _ (mi 79 rfl)) e110 (Ins.of_exa E26_ (hw _ (mi 80 rfl))) (g := (mkF m 112 lo113 [(.ref ka)])) rfl rfl (hE 26 rfl)
  have g114 : Go p e below T112 (mkF m 115 lo113 [(.ref ka)]) A0 := fun t kont => g111 t (st112 t kont)
  have g115 := ja X112 hx (ja X112 hx (jt X112 hx (ja X112 hx (jt X112 hx g114 (hE 27 rfl) rfl rfl (l' := #[rv t1, rv ka, rv va, rv fn, rv e1, .unset, .unset, .val .null, rv ka]) rfl) (hE 28 rfl) rfl rfl) (hE 29 rfl) rfl rfl (l' := #[rv t1, rv ka, rv va, rv fn, rv e1, .unset, rv e1, .val .null, rv ka]) rfl) (hE 30 rfl) rfl rfl) (hE 31 rfl) rfl rfl
  obtain ⟨T116, X116, e116, g116⟩ := own_getF X112 hx hZ hown (hw _ (mi 127 rfl)) Via.refl e112 F7_ g115 (hE 32 rfl)
  obtain ⟨_, L117, T117, ⟨rfl, M117, e117⟩, X117, st117⟩ := own_callF X116 hx hZ hown (hw _ (mi 81 rfl)) (hw _ (mi 82 rfl)) (mvT hZ (hw _ (mi 83 rfl))) (hw _ (mi 84 rfl)) (hw _ (mi 85 rfl)) (hw _ (mi 86 rfl)) (hw _ (mi 87 rfl)) (hw _ (mi 80 rfl)) (hw _ (mi 49 rfl)) (hw _ (mi 88 rfl)) (by decide) E26_ (rm_lco hw ka k1 xk x1 h0 n0 O0 E26_ F27_ E20_ F21_) g116 e116 [] rfl (lenOf pd_4 rfl) (hE 33 rfl) hml.symm 0 rfl (by decide)
  have N117 := Fr.app N110 M117
  have g118 := own_rwS st117 (own_cmpG hlt : (own_cmp xk x1) = (1 : Int32))
  have g119 := ja X117 hx (jN X117 hx (ji X117 hx (jY X117 hx (ji X117 hx (js X117 hx g118 (hE 34 rfl) rfl (l' := #[rv t1, rv ka, rv va, rv fn, rv e1, iv 1, rv e1, .val .null, rv ka]) rfl) (hE 35 rfl) rfl) (hE 36 rfl) rfl (by decide) (pc' := 150) (by decide)) (hE 41 rfl) rfl) (hE 42 rfl) rfl (by decide)) (hE 43 rfl) rfl rfl
  obtain ⟨T120, X120, e120, g120⟩ := own_getF X117 hx hZ hown (hw _ (mi 250 rfl)) Via.refl e117 F10_ g119 (hE 44 rfl)
  have g121 := ja X120 hx (ja X120 hx (jt X120 hx (ja X120 hx (show Go p e below T120 (mkF m 117 #[rv t1, rv ka, rv va, rv fn, rv e2, iv 1, rv e1, .val .null, rv ka] []) A0 from fun t kt => (ja X120 hx (jg X120 hx (jt X120 hx g120 (hE 45 rfl) rfl rfl (l' := #[rv t1, rv ka, rv va, rv fn, rv e2, iv 1, rv e1, .val .null, rv ka]) rfl) (hE 46 rfl) (pc' := 174) (by decide)) (hE 53 rfl) rfl rfl) t (by refine XS.ifnonnullYes X120.here hx rfl (pc0 := 176) (pc' := 117) rfl (hE 54 rfl) rfl (by decide) (by decide) ?_; exact kt)) (hE 28 rfl) rfl rfl) (hE 29 rfl) rfl rfl (l' := #[rv t1, rv ka, rv va, rv fn, rv e2, iv 1, rv e2, .val .null, rv ka]) rfl) (hE 30 rfl) rfl rfl) (hE 31 rfl) rfl rfl
  obtain ⟨T122, X122, e122, g122⟩ := own_getF X120 hx hZ hown (hw _ (mi 127 rfl)) Via.refl e120 F14_ g121 (hE 32 rfl)
  obtain ⟨_, L123, T123, ⟨rfl, M123, e123⟩, X123, st123⟩ := own_callF X122 hx hZ hown (hw _ (mi 81 rfl)) (hw _ (mi 82 rfl)) (mvT hZ (hw _ (mi 83 rfl))) (hw _ (mi 84 rfl)) (hw _ (mi 85 rfl)) (hw _ (mi 86 rfl)) (hw _ (mi 87 rfl)) (hw _ (mi 80 rfl)) (hw _ (mi 49 rfl)) (hw _ (mi 88 rfl)) (by decide) E26_ (rm_lco hw ka k2 xk x2 h0 n0 O0 E26_ F27_ E22_ F23_) g122 e122 [] rfl (lenOf pd_4 rfl) (hE 33 rfl) hml.symm 0 rfl (by decide)
  have N123 := Fr.app N117 M123
  have g124 := own_rwS st123 (own_cmpE heq : (own_cmp xk x2) = (0 : Int32))
  have g125 := jA X123 hx (jA X123 hx (ja X123 hx (jA X123 hx (jY X123 hx (ji X123 hx (jY X123 hx (ji X123 hx (js X123 hx g124 (hE 34 rfl) rfl (l' := #[rv t1, rv ka, rv va, rv fn, rv e2, iv 0, rv e2, .val .null, rv ka]) rfl) (hE 35 rfl) rfl) (hE 36 rfl) rfl (by decide) (pc' := 150) (by decide)) (hE 41 rfl) rfl) (hE 42 rfl) rfl (by decide) (pc' := 165) (by decide)) (hE 47 rfl) rfl rfl) (hE 48 rfl) rfl rfl) (hE 49 rfl) rfl rfl) (hE 50 rfl) rfl rfl
  obtain ⟨_, L126, T126, ⟨r127, rfl, M126, K126, y128, y129, y130, y131, y132, y133, y134, y135, y136⟩, X126, st126⟩ := own_callP X123 hx hZ hown (hw _ (mi 276 rfl)) (wd13 hw) E0_ (rm_mv hw t1 e2 k2 v2 va y2 xv mc .null .null (.ref e1) (0 : Int32) fn cK lc kc lcs h0 n0 O0 E0_ F4_ E13_ F14_ F15_ F16_ F17_ F18_ F19_ G32_ E24_ F25_ E28_ F29_ hMK hSL hFn S37_ ZA38_ hlc (rfl) (rfl) (rfl)) g125 e123 [] rfl (lenOf pd_11 rfl) (hE 51 rfl) hml.symm 0 rfl (by decide)
  have N126 := Fr.app N123 M126
  have O137 := O0.keep K126 (allS G32_ all0)
  have K138 : Keep h0 T126.heap [e2] := ((Keep.refl h0 [e2]).trans K126 (allS (P := fun x => x ∈ [e2] ∨ h0.size ≤ x) (Or.inl (mi 0 rfl)) all0))
  refine own_leave X126 Bd (some (.ref r127)) nofun st126 (fun fs hr => retOut X126 hx Bd.returns rfl (Or.inr (Or.inr (Or.inr (Or.inr ⟨rfl, rfl, rfl⟩)))) (hE 52 rfl) hr) (by decide) (by decide) ?_
  exact ⟨r127, rfl, N126, K138, y128, y129, y130, y131, y132, y133, y134, y135, y136⟩
theorem pf_7 : plainFor mN21 = true := by decide +kernel
theorem ef_JJ6 (m : MethodId) (x0 : Int64) (x1 : Int64)  : entryFrame m #[(.long x0), (.long x1)] 6 = mkF m 0 #[.val (.long x0), .second, .val (.long x1), .second, .unset, .unset] [] := by first | (simp [entryFrame, mkF, argsToLocals, Value.category]; done) | rfl
theorem rm_adx (hw : HW a0 Z) (x1 x2 : Int64) (h0 : Heap) (n0 : Nat) (O0 : Old Z n0 h0) (hx0 : ¬ (x1 < (0 : Int64))) (hy0 : ¬ (x2 < (0 : Int64))) (hs0 : ¬ ((x1 + x2) < (0 : Int64))) :
    own_M l mN21 (Jvm.Cond.code mN21 jdk_29_method_25_code 6 (some .long)) [] (⟨0, 0, 0, 0⟩ : Room) #[(.long x1), (.long x2)] Z h0 (fun v h L => v = some (.long (x1 + x2)) ∧ Fr n0 L ∧ h = h0) := by
  refine own_open n0 pf_7 (fun m => ef_JJ6 m x1 x2 ) ?_
  intro p e s m below meth c s₁ A0 Bd hx hby hml hown hnm hZ hh X0 e0 N0 g0
  have hE := own_hd hby E7
  have g101 := show Go p e below s₁ (mkF m 31 #[.val (.long x1), .second, .val (.long x2), .second, .val (.long (x1 + x2)), .second] [(.long (x1 + x2))]) A0 from fun t kt => (jY X0 hx (show Go p e below s₁ (mkF m 16 #[.val (.long x1), .second, .val (.long x2), .second, .val (.long (x1 + x2)), .second] [(.int (lcmpW ((x1 ^^^ (x1 + x2)) &&& (x2 ^^^ (x1 + x2))) (0 : Int64)))]) A0 from fun t kt => (show Go p e below s₁ (mkF m 15 #[.val (.long x1), .second, .val (.long x2), .second, .val (.long (x1 + x2)), .second] [(.long (0 : Int64)), (.long ((x1 ^^^ (x1 + x2)) &&& (x2 ^^^ (x1 + x2))))]) A0 from fun t kt => (show Go p e below s₁ (mkF m 14 #[.val (.long x1), .second, .val (.long x2), .second, .val (.long (x1 + x2)), .second] [(.long ((x1 ^^^ (x1 + x2)) &&& (x2 ^^^ (x1 + x2))))]) A0 from fun t kt => (show Go p e below s₁ (mkF m 13 #[.val (.long x1), .second, .val (.long x2), .second, .val (.long (x1 + x2)), .second] [(.long (x2 ^^^ (x1 + x2))), (.long (x1 ^^^ (x1 + x2)))]) A0 from fun t kt => (show Go p e below s₁ (mkF m 12 #[.val (.long x1), .second, .val (.long x2), .second, .val (.long (x1 + x2)), .second] [(.long (x1 + x2)), (.long x2), (.long (x1 ^^^ (x1 + x2)))]) A0 from fun t kt => (show Go p e below s₁ (mkF m 10 #[.val (.long x1), .second, .val (.long x2), .second, .val (.long (x1 + x2)), .second] [(.long x2), (.long (x1 ^^^ (x1 + x2)))]) A0 from fun t kt => (show Go p e below s₁ (mkF m 9 #[.val (.long x1), .second, .val (.long x2), .second, .val (.long (x1 + x2)), .second] [(.long (x1 ^^^ (x1 + x2)))]) A0 from fun t kt => (show Go p e below s₁ (mkF m 8 #[.val (.long x1), .second, .val (.long x2), .second, .val (.long (x1 + x2)), .second] [(.long (x1 + x2)), (.long x1)]) A0 from fun t kt => (show Go p e below s₁ (mkF m 6 #[.val (.long x1), .second, .val (.long x2), .second, .val (.long (x1 + x2)), .second] [(.long x1)]) A0 from fun t kt => (show Go p e below s₁ (mkF m 5 #[.val (.long x1), .second, .val (.long x2), .second, .val (.long (x1 + x2)), .second] []) A0 from fun t kt => (show Go p e below s₁ (mkF m 3 #[.val (.long x1), .second, .val (.long x2), .second, .unset, .unset] [(.long (x1 + x2))]) A0 from fun t kt => (show Go p e below s₁ (mkF m 2 #[.val (.long x1), .second, .val (.long x2), .second, .unset, .unset] [(.long x2), (.long x1)]) A0 from fun t kt => (show Go p e below s₁ (mkF m 1 #[.val (.long x1), .second, .val (.long x2), .second, .unset, .unset] [(.long x1)]) A0 from fun t kt => g0 t (by refine XS.lloadN X0.here hx rfl (hE 0 rfl) rfl ?_; exact kt)) t (by refine XS.lloadN X0.here hx rfl (hE 1 rfl) rfl ?_; exact kt)) t (by refine XS.ladd X0.here hx rfl (hE 2 rfl) rfl ?_; exact kt)) t (by refine XS.lstore X0.here hx rfl (hE 3 rfl) rfl (l' := #[.val (.long x1), .second, .val (.long x2), .second, .val (.long (x1 + x2)), .second]) rfl ?_; exact kt)) t (by refine XS.lloadN X0.here hx rfl (hE 4 rfl) rfl ?_; exact kt)) t (by refine XS.lload X0.here hx rfl (hE 5 rfl) rfl ?_; exact kt)) t (by refine XS.lxor X0.here hx rfl (hE 6 rfl) rfl ?_; exact kt)) t (by refine XS.lloadN X0.here hx rfl (hE 7 rfl) rfl ?_; exact kt)) t (by refine XS.lload X0.here hx rfl (hE 8 rfl) rfl ?_; exact kt)) t (by refine XS.lxor X0.here hx rfl (hE 9 rfl) rfl ?_; exact kt)) t (by refine XS.land X0.here hx rfl (hE 10 rfl) rfl ?_; exact kt)) t (by refine XS.lconst X0.here hx rfl (hE 11 rfl) ?_; exact kt)) t (by refine XS.lcmp X0.here hx rfl (hE 12 rfl) rfl ?_; exact kt)) (hE 13 rfl) rfl ((if0 _ _).trans (flt (own_adx hx0 hy0 hs0 : ¬ ((lcmpW ((x1 ^^^ (x1 + x2)) &&& (x2 ^^^ (x1 + x2))) (0 : Int64)) < (0 : Int32)))).2.1) (pc' := 29) (by decide)) t (by refine XS.lload X0.here hx rfl (hE 14 rfl) rfl ?_; exact kt)
  refine own_leave X0 Bd (some (.long (x1 + x2))) nofun g101 (fun fs hr => retOut X0 hx Bd.returns rfl (Or.inr (Or.inl ⟨rfl, rfl, _, rfl⟩)) (hE 15 rfl) hr) (by decide) (by decide) ?_
  rw [e0]
  exact ⟨rfl, N0, rfl⟩
theorem pd_12 : parseMethodDescriptor "(JJ)J" = some ⟨[.long, .long], some .long⟩ := by decide +kernel
theorem wd14 (hw : HW a0 Z) : own_wdS a0 Z mN21 jdk_29_method_25_code 6 (some .long) := ⟨hw _ (mi 44 rfl), hw _ (mi 45 rfl), hw _ (mi 46 rfl), by decide⟩
theorem pd_13 : parseMethodDescriptor "(J)Ljava/lang/Long;" = some ⟨[.long], some (.object "java/lang/Long")⟩ := by decide +kernel
theorem wd15 (hw : HW a0 Z) : own_wdS a0 Z mN6 jdk_35_method_24_code 3 (some (.object "java/lang/Long")) := ⟨hw _ (mi 48 rfl), hw _ (mi 49 rfl), hw _ (mi 50 rfl), by decide⟩
theorem pd_14 : parseMethodDescriptor "(Ljava/lang/Object;Ljava/lang/Object;Ljava/util/function/BiFunction;)Ljava/lang/Object;" = some ⟨[(.object "java/lang/Object"), (.object "java/lang/Object"), (.object "java/util/function/BiFunction")], some (.object "java/lang/Object")⟩ := by decide +kernel
theorem wd16 (hw : HW a0 Z) : own_wdV a0 Z "java/util/TreeMap" mN20 mN20 jdk_2729_method_26_code 9 (some (.object "java/lang/Object")) := ⟨hw _ (mi 59 rfl), hw _ (mi 61 rfl), hw _ (mi 60 rfl), hw _ (mi 12 rfl), hw _ (mi 62 rfl), by decide⟩
theorem ef_RJJ5 (m : MethodId) (x0 : Addr) (x1 : Int64) (x2 : Int64)  : entryFrame m #[(.ref x0), (.long x1), (.long x2)] 5 = mkF m 0 #[.val (.ref x0), .val (.long x1), .second, .val (.long x2), .second] [] := by first | (simp [entryFrame, mkF, argsToLocals, Value.category]; done) | rfl
theorem rm_ad0 (hw : HW a0 Z) (h1 t1 : Addr) (tt : Int64) (sz mc : Int32) (xk xv : Int64) (lc : Addr) (kc : ClassId) (lcs : List Value) (h0 : Heap) (n0 : Nat) (O0 : Old Z n0 h0) (E0_ : Exa Z h0 h1 "com/example/fetch_from_near/fetchfromnear/Histogram") (F1_ : Fld Z h0 h1 "com/example/fetch_from_near/fetchfromnear/Histogram" "counts" "Ljava/util/TreeMap;" (.ref t1)) (F2_ : Fld Z h0 h1 "com/example/fetch_from_near/fetchfromnear/Histogram" "total" "J" (.long tt)) (G3_ : n0 ≤ h1) (G4_ : n0 ≤ t1) (hc1 : ¬ (xv < (1 : Int64))) (ht0 : ¬ (tt < (0 : Int64))) (hs0 : ¬ ((tt + xv) < (0 : Int64))) (S8_ : Sta Z Z.heap "java/lang/Long$LongCache" "cache" "[Ljava/lang/Long;" (.ref lc)) (ZA9_ : Arv Z Z.heap lc kc (.object "java/lang/Long") (256 : Int32) lcs .null) (hlc : ∀ i, i < 256 → ∃ a, lcs.getD i .null = .ref a ∧ Exa Z Z.heap a "java/lang/Long" ∧ Fld Z Z.heap a "java/lang/Long" "value" "J" (.long (Int64.ofInt ((i : Int) - 128)))) (E11_ : Exa Z h0 t1 "java/util/TreeMap") (F12_ : Fld Z h0 t1 "java/util/TreeMap" "comparator" "Ljava/util/Comparator;" .null) (F13_ : Fld Z h0 t1 "java/util/TreeMap" "root" "Ljava/util/TreeMap$Entry;" .null) (F14_ : Fld Z h0 t1 "java/util/TreeMap" "size" "I" (.int sz)) (F15_ : Fld Z h0 t1 "java/util/TreeMap" "modCount" "I" (.int mc)) (F16_ : Fld Z h0 t1 "java/util/TreeMap" "entrySet" "Ljava/util/TreeMap$EntrySet;" .null) :
    own_M l mN22 (Jvm.Cond.code mN22 prog_10_method_3_code 5 none) [] (⟨6, 3, 8, 3075⟩ : Room) #[(.ref h1), (.long xk), (.long xv)] Z h0 (fun v h L => ∃ (e1 : Addr), ∃ (ka : Addr), ∃ (va : Addr), v = none ∧ Fr n0 L ∧ Keep h0 h [h1, t1] ∧ (Exa Z h h1 "com/example/fetch_from_near/fetchfromnear/Histogram") ∧ (Fld Z h h1 "com/example/fetch_from_near/fetchfromnear/Histogram" "counts" "Ljava/util/TreeMap;" (.ref t1)) ∧ (Fld Z h h1 "com/example/fetch_from_near/fetchfromnear/Histogram" "total" "J" (.long (tt + xv))) ∧ h0.size ≤ e1 ∧ (Exa Z h t1 "java/util/TreeMap") ∧ (Fld Z h t1 "java/util/TreeMap" "comparator" "Ljava/util/Comparator;" .null) ∧ (Fld Z h t1 "java/util/TreeMap" "root" "Ljava/util/TreeMap$Entry;" (.ref e1)) ∧ (Fld Z h t1 "java/util/TreeMap" "size" "I" (.int 1)) ∧ (Fld Z h t1 "java/util/TreeMap" "modCount" "I" (.int (mc + (1 : Int32)))) ∧ (Fld Z h t1 "java/util/TreeMap" "entrySet" "Ljava/util/TreeMap$EntrySet;" .null) ∧ (Exa Z h e1 "java/util/TreeMap$Entry") ∧ (Fld Z h e1 "java/util/TreeMap$Entry" "key" "Ljava/lang/Object;" (.ref ka)) ∧ (Fld Z h e1 "java/util/TreeMap$Entry" "value" "Ljava/lang/Object;" (.ref va)) ∧ (Fld Z h e1 "java/util/TreeMap$Entry" "left" "Ljava/util/TreeMap$Entry;" .null) ∧ (Fld Z h e1 "java/util/TreeMap$Entry" "right" "Ljava/util/TreeMap$Entry;" .null) ∧ (Fld Z h e1 "java/util/TreeMap$Entry" "parent" "Ljava/util/TreeMap$Entry;" .null) ∧ (Fld Z h e1 "java/util/TreeMap$Entry" "color" "Z" (.int 1)) ∧ (Exa Z h ka "java/lang/Long") ∧ (Fld Z h ka "java/lang/Long" "value" "J" (.long xk)) ∧ (Exa Z h va "java/lang/Long") ∧ (Fld Z h va "java/lang/Long" "value" "J" (.long xv))) := by
  refine own_open n0 (plainFor_of_name pn_7) (fun m => ef_RJJ5 m h1 xk xv ) ?_
  intro p e s m below meth c s₁ A0 Bd hx hby hml hown hnm hZ hh X0 e0 N0 g0
  have hE := own_hd hby E6
  have g101 := jA X0 hx (jA X0 hx (jY X0 hx (show Go p e below s₁ (mkF m 3 #[rv h1, .val (.long xk), .second, .val (.long xv), .second] [(.int (lcmpW xv (1 : Int64)))]) A0 from fun t kt => (show Go p e below s₁ (mkF m 2 #[rv h1, .val (.long xk), .second, .val (.long xv), .second] [(.long (1 : Int64)), (.long xv)]) A0 from fun t kt => (show Go p e below s₁ (mkF m 1 #[rv h1, .val (.long xk), .second, .val (.long xv), .second] [(.long xv)]) A0 from fun t kt => g0 t (by refine XS.lloadN X0.here hx rfl (hE 0 rfl) rfl ?_; exact kt)) t (by refine XS.lconst X0.here hx rfl (hE 1 rfl) ?_; exact kt)) t (by refine XS.lcmp X0.here hx rfl (hE 2 rfl) rfl ?_; exact kt)) (hE 3 rfl) rfl ((if0 _ _).trans (flt (own_lcnlt hc1 : ¬ ((lcmpW xv (1 : Int64)) < (0 : Int32)))).2.1) (pc' := 20) (by decide)) (hE 4 rfl) rfl rfl) (hE 5 rfl) rfl rfl
  obtain ⟨T102, X102, e102, g102⟩ := own_getF X0 hx hZ hown (hw _ (mi 36 rfl)) Via.refl e0 F2_ g101 (hE 6 rfl)
  have g103 := show Go p e below T102 (mkF m 26 #[rv h1, .val (.long xk), .second, .val (.long xv), .second] [(.long xv), (.long tt), (.ref h1)]) A0 from fun t kt => g102 t (by refine XS.lloadN X102.here hx rfl (hE 7 rfl) rfl ?_; exact kt)
  obtain ⟨_, L104, T104, ⟨rfl, M104, e104⟩, X104, st104⟩ := own_callS X102 hx hZ hown (hw _ (mi 43 rfl)) (wd14 hw) (rm_adx hw tt xv h0 n0 O0 (ht0) (own_ge1 hc1) (hs0)) g103 e102 [(.ref h1)] rfl (lenOf pd_12 rfl) (hE 8 rfl) hml.symm 1 rfl (by decide)
  have N104 := Fr.app N0 M104
  let lo106 : Array Slot := #[rv h1, .val (.long xk), .second, .val (.long xv), .second]
  obtain ⟨T105, h105, X105, e105, W105, st105⟩ := putF X104 hx hZ hown (host := "") (Or.inl (hw _ (mi 36 rfl))) Via.refl e104 F2_ E0_ (Or.inl (hw _ (mi 37 rfl))) (hw _ (mi 2 rfl)) (ty := .long) (by decide) rfl rfl (g := (mkF m 29 lo106 [(.long (tt + xv)), (.ref h1)])) rfl rfl (hE 9 rfl)
  have O107 := O0.wr W105 G3_
  have y108 : Fld Z h105 h1 "com/example/fetch_from_near/fetchfromnear/Histogram" "total" "J" (.long (tt + xv)) := F2_.same W105
  have N105 := Fr.snoc X105 N104 G3_
  have g109 : Go p e below T105 (mkF m 32 lo106 []) A0 := fun t kont => st104 t (st105 t kont)
  have g110 := jA X105 hx g109 (hE 10 rfl) rfl rfl
  have y111 := (F1_.other W105 (Or.inr (slot_ne (Or.inr (hw _ (mi 30 rfl))) (Or.inl (hw _ (mi 37 rfl))) (by decide) (t := (.object "java/util/TreeMap")) (t' := .long) (by decide) (by decide))))
  obtain ⟨T112, X112, e112, g112⟩ := own_getF X105 hx hZ hown (hw _ (mi 29 rfl)) Via.refl e105 y111 g110 (hE 11 rfl)
  have g113 := show Go p e below T112 (mkF m 37 #[rv h1, .val (.long xk), .second, .val (.long xv), .second] [(.long xk), (.ref t1)]) A0 from fun t kt => g112 t (by refine XS.lloadN X112.here hx rfl (hE 12 rfl) rfl ?_; exact kt)
  obtain ⟨_, L114, T114, ⟨r115, rfl, M114, K114, y116, y117⟩, X114, st114⟩ := own_callS X112 hx hZ hown (hw _ (mi 47 rfl)) (wd15 hw) (rm_lvo hw xk lc kc lcs h105 n0 O107 S8_ ZA9_ hlc) g113 e112 [(.ref t1)] rfl (lenOf pd_13 rfl) (hE 13 rfl) hml.symm 1 rfl (by decide)
  have N114 := Fr.app N105 M114
  have O118 := O107.keep K114 all0
  have g119 := show Go p e below T114 (mkF m 41 #[rv h1, .val (.long xk), .second, .val (.long xv), .second] [(.long xv), (.ref r115), (.ref t1)]) A0 from fun t kt => st114 t (by refine XS.lloadN X114.here hx rfl (hE 14 rfl) rfl ?_; exact kt)
  obtain ⟨_, L120, T120, ⟨r121, rfl, M120, K120, y122, y123⟩, X120, st120⟩ := own_callS X114 hx hZ hown (hw _ (mi 47 rfl)) (wd15 hw) (rm_lvo hw xv lc kc lcs T114.heap n0 O118 S8_ ZA9_ hlc) g119 rfl [(.ref r115), (.ref t1)] rfl (lenOf pd_13 rfl) (hE 15 rfl) hml.symm 2 rfl (by decide)
  have N120 := Fr.app N114 M120
  have O124 := O118.keep K120 all0
  obtain ⟨a125, cK125, MK125, SL125, Fn125, g125⟩ := own_site X120 hx hZ Bd.named (hw _ (mi 55 rfl)) rfl (by decide +kernel) (hw _ (mi 284 rfl)) rfl rfl (by decide +kernel) st120 (hE 16 rfl) hml.symm 3 rfl (by decide)
  have y127 := (((E11_.wr W105).keep K114).keep K120)
  have y128 := (((E0_.wr W105).keep K114).keep K120)
  have y129 := (((F12_.other W105 (Or.inl (ne_exa y127 y128 (by decide)))).keep K114 nin0).keep K120 nin0)
  have y130 := (((F13_.other W105 (Or.inl (ne_exa y127 y128 (by decide)))).keep K114 nin0).keep K120 nin0)
  have y131 := (((F14_.other W105 (Or.inl (ne_exa y127 y128 (by decide)))).keep K114 nin0).keep K120 nin0)
  have y132 := (((F15_.other W105 (Or.inl (ne_exa y127 y128 (by decide)))).keep K114 nin0).keep K120 nin0)
  have y133 := (((F16_.other W105 (Or.inl (ne_exa y127 y128 (by decide)))).keep K114 nin0).keep K120 nin0)
  have y134 := (y116.keep K120)
  have y135 := (y117.keep K120 nin0)
  obtain ⟨_, L126, T126, ⟨r136, rfl, M126, K126, y137, y138, y139, y140, y141, y142, y143, y144, y145, y146, y147, y148, y149, y150⟩, X126, st126⟩ := own_callV X120 hx hZ hown (hw _ (mi 58 rfl)) (wd16 hw) (notFace_of_selects (args := #[]) (mvT hZ (hw _ (mi 61 rfl)))) y127 (rm_mer0 hw t1 sz mc r115 r121 xk xv a125 cK125 lc kc lcs T120.heap n0 O124 y127 y129 y130 y131 y132 y133 y134 y135 y122 y123 G4_ MK125 SL125 Fn125 S8_ ZA9_ hlc) g125 rfl [] rfl (lenOf pd_14 rfl) (hE 17 rfl) hml.symm 0 rfl (by decide)
  have N126 := Fr.app N120 M126
  have O151 := O124.keep K126 (allS G4_ all0)
  have g152 := jo X126 hx st126 (hE 18 rfl) rfl rfl
  have K153 : Keep h0 T126.heap [h1, t1] := (((((Keep.refl h0 [h1, t1]).wr W105 (Or.inl (mi 0 rfl))).trans K114 (fun x hx => nomatch hx)).trans K120 (fun x hx => nomatch hx)).trans K126 (allS (P := fun x => x ∈ [h1, t1] ∨ h0.size ≤ x) (Or.inl (mi 1 rfl)) all0))
  have y154 := (y128.keep K126)
  have y155 := (((y111.keep K114 nin0).keep K120 nin0).keep K126 (ninS (ne_exa y154 y138 (by decide)) nin0))
  have y156 := (((y108.keep K114 nin0).keep K120 nin0).keep K126 (ninS (ne_exa y154 y138 (by decide)) nin0))
  have y157 := (y134.keep K126)
  have y158 := (y135.keep K126 (ninS (ne_exa y157 y138 (by decide)) nin0))
  have y159 := (y122.keep K126)
  have y160 := (y123.keep K126 (ninS (ne_exa y159 y138 (by decide)) nin0))
  refine own_leave X126 Bd (none) (fun _ => rfl) g152 (fun fs hr => X126.returnOut hx Bd.returns (hE 19 rfl) hr) (by decide) (by decide) ?_
  exact ⟨r136, r115, r121, rfl, N126, K153, y154, y155, y156, (Nat.le_trans (Nat.le_trans (Nat.le_trans (Keep.of_wr W105).1 K114.1) K120.1) y137), y138, y139, y140, y141, y142, y143, y144, y145, y146, y147, y148, y149, y150, y157, y158, y159, y160⟩
theorem rm_ad1L (hw : HW a0 Z) (h1 t1 : Addr) (tt : Int64) (sz mc : Int32) (xk xv : Int64) (lc : Addr) (kc : ClassId) (lcs : List Value) (e1 k1 v1 : Addr) (x1 y1 : Int64) (h0 : Heap) (n0 : Nat) (O0 : Old Z n0 h0) (E0_ : Exa Z h0 h1 "com/example/fetch_from_near/fetchfromnear/Histogram") (F1_ : Fld Z h0 h1 "com/example/fetch_from_near/fetchfromnear/Histogram" "counts" "Ljava/util/TreeMap;" (.ref t1)) (F2_ : Fld Z h0 h1 "com/example/fetch_from_near/fetchfromnear/Histogram" "total" "J" (.long tt)) (G3_ : n0 ≤ h1) (G4_ : n0 ≤ t1) (hc1 : ¬ (xv < (1 : Int64))) (ht0 : ¬ (tt < (0 : Int64))) (hs0 : ¬ ((tt + xv) < (0 : Int64))) (S8_ : Sta Z Z.heap "java/lang/Long$LongCache" "cache" "[Ljava/lang/Long;" (.ref lc)) (ZA9_ : Arv Z Z.heap lc kc (.object "java/lang/Long") (256 : Int32) lcs .null) (hlc : ∀ i, i < 256 → ∃ a, lcs.getD i .null = .ref a ∧ Exa Z Z.heap a "java/lang/Long" ∧ Fld Z Z.heap a "java/lang/Long" "value" "J" (.long (Int64.ofInt ((i : Int) - 128)))) (E11_ : Exa Z h0 t1 "java/util/TreeMap") (F12_ : Fld Z h0 t1 "java/util/TreeMap" "comparator" "Ljava/util/Comparator;" .null) (F13_ : Fld Z h0 t1 "java/util/TreeMap" "root" "Ljava/util/TreeMap$Entry;" (.ref e1)) (F14_ : Fld Z h0 t1 "java/util/TreeMap" "size" "I" (.int sz)) (F15_ : Fld Z h0 t1 "java/util/TreeMap" "modCount" "I" (.int mc)) (F16_ : Fld Z h0 t1 "java/util/TreeMap" "entrySet" "Ljava/util/TreeMap$EntrySet;" .null) (E17_ : Exa Z h0 e1 "java/util/TreeMap$Entry") (F18_ : Fld Z h0 e1 "java/util/TreeMap$Entry" "key" "Ljava/lang/Object;" (.ref k1)) (F19_ : Fld Z h0 e1 "java/util/TreeMap$Entry" "value" "Ljava/lang/Object;" (.ref v1)) (F20_ : Fld Z h0 e1 "java/util/TreeMap$Entry" "left" "Ljava/util/TreeMap$Entry;" .null) (F21_ : Fld Z h0 e1 "java/util/TreeMap$Entry" "right" "Ljava/util/TreeMap$Entry;" .null) (F22_ : Fld Z h0 e1 "java/util/TreeMap$Entry" "parent" "Ljava/util/TreeMap$Entry;" .null) (F23_ : Fld Z h0 e1 "java/util/TreeMap$Entry" "color" "Z" (.int 1)) (E24_ : Exa Z h0 k1 "java/lang/Long") (F25_ : Fld Z h0 k1 "java/lang/Long" "value" "J" (.long x1)) (E26_ : Exa Z h0 v1 "java/lang/Long") (F27_ : Fld Z h0 v1 "java/lang/Long" "value" "J" (.long y1)) (G28_ : n0 ≤ e1) (hlt : xk < x1) :
    own_M l mN22 (Jvm.Cond.code mN22 prog_10_method_3_code 5 none) [] (⟨4, 3, 8, 3075⟩ : Room) #[(.ref h1), (.long xk), (.long xv)] Z h0 (fun v h L => ∃ (e2 : Addr), ∃ (ka : Addr), ∃ (va : Addr), v = none ∧ Fr n0 L ∧ Keep h0 h [h1, t1, e1] ∧ (Exa Z h h1 "com/example/fetch_from_near/fetchfromnear/Histogram") ∧ (Fld Z h h1 "com/example/fetch_from_near/fetchfromnear/Histogram" "counts" "Ljava/util/TreeMap;" (.ref t1)) ∧ (Fld Z h h1 "com/example/fetch_from_near/fetchfromnear/Histogram" "total" "J" (.long (tt + xv))) ∧ h0.size ≤ e2 ∧ (Exa Z h t1 "java/util/TreeMap") ∧ (Fld Z h t1 "java/util/TreeMap" "comparator" "Ljava/util/Comparator;" .null) ∧ (Fld Z h t1 "java/util/TreeMap" "root" "Ljava/util/TreeMap$Entry;" (.ref e1)) ∧ (Fld Z h t1 "java/util/TreeMap" "size" "I" (.int (sz + (1 : Int32)))) ∧ (Fld Z h t1 "java/util/TreeMap" "modCount" "I" (.int (mc + (1 : Int32)))) ∧ (Fld Z h t1 "java/util/TreeMap" "entrySet" "Ljava/util/TreeMap$EntrySet;" .null) ∧ (Exa Z h e1 "java/util/TreeMap$Entry") ∧ (Fld Z h e1 "java/util/TreeMap$Entry" "key" "Ljava/lang/Object;" (.ref k1)) ∧ (Fld Z h e1 "java/util/TreeMap$Entry" "value" "Ljava/lang/Object;" (.ref v1)) ∧ (Fld Z h e1 "java/util/TreeMap$Entry" "left" "Ljava/util/TreeMap$Entry;" (.ref e2)) ∧ (Fld Z h e1 "java/util/TreeMap$Entry" "right" "Ljava/util/TreeMap$Entry;" .null) ∧ (Fld Z h e1 "java/util/TreeMap$Entry" "parent" "Ljava/util/TreeMap$Entry;" .null) ∧ (Fld Z h e1 "java/util/TreeMap$Entry" "color" "Z" (.int 1)) ∧ (Exa Z h e2 "java/util/TreeMap$Entry") ∧ (Fld Z h e2 "java/util/TreeMap$Entry" "key" "Ljava/lang/Object;" (.ref ka)) ∧ (Fld Z h e2 "java/util/TreeMap$Entry" "value" "Ljava/lang/Object;" (.ref va)) ∧ (Fld Z h e2 "java/util/TreeMap$Entry" "left" "Ljava/util/TreeMap$Entry;" .null) ∧ (Fld Z h e2 "java/util/TreeMap$Entry" "right" "Ljava/util/TreeMap$Entry;" .null) ∧ (Fld Z h e2 "java/util/TreeMap$Entry" "parent" "Ljava/util/TreeMap$Entry;" (.ref e1)) ∧ (Fld Z h e2 "java/util/TreeMap$Entry" "color" "Z" (.int 0)) ∧ (Exa Z h ka "java/lang/Long") ∧ (Fld Z h ka "java/lang/Long" "value" "J" (.long xk)) ∧ (Exa Z h va "java/lang/Long") ∧ (Fld Z h va "java/lang/Long" "value" "J" (.long xv))) := by
  refine own_open n0 (plainFor_of_name pn_7) (fun m => ef_RJJ5 m h1 xk xv ) ?_
  intro p e s m below meth c s₁ A0 Bd hx hby hml hown hnm hZ hh X0 e0 N0 g0
  have hE := own_hd hby E6
  have g101 := jA X0 hx (jA X0 hx (jY X0 hx (show Go p e below s₁ (mkF m 3 #[rv h1, .val (.long xk), .second, .val (.long xv), .second] [(.int (lcmpW xv (1 : Int64)))]) A0 from fun t kt => (show Go p e below s₁ (mkF m 2 #[rv h1, .val (.long xk), .second, .val (.long xv), .second] [(.long (1 : Int64)), (.long xv)]) A0 from fun t kt => (show Go p e below s₁ (mkF m 1 #[rv h1, .val (.long xk), .second, .val (.long xv), .second] [(.long xv)]) A0 from fun t kt => g0 t (by refine XS.lloadN X0.here hx rfl (hE 0 rfl) rfl ?_; exact kt)) t (by refine XS.lconst X0.here hx rfl (hE 1 rfl) ?_; exact kt)) t (by refine XS.lcmp X0.here hx rfl (hE 2 rfl) rfl ?_; exact kt)) (hE 3 rfl) rfl ((if0 _ _).trans (flt (own_lcnlt hc1 : ¬ ((lcmpW xv (1 : Int64)) < (0 : Int32)))).2.1) (pc' := 20) (by decide)) (hE 4 rfl) rfl rfl) (hE 5 rfl) rfl rfl
  obtain ⟨T102, X102, e102, g102⟩ := own_getF X0 hx hZ hown (hw _ (mi 36 rfl)) Via.refl e0 F2_ g101 (hE 6 rfl)
  have g103 := show Go p e below T102 (mkF m 26 #[rv h1, .val (.long xk), .second, .val (.long xv), .second] [(.long xv), (.long tt), (.ref h1)]) A0 from fun t kt => g102 t (by refine XS.lloadN X102.here hx rfl (hE 7 rfl) rfl ?_; exact kt)
  obtain ⟨_, L104, T104, ⟨rfl, M104, e104⟩, X104, st104⟩ := own_callS X102 hx hZ hown (hw _ (mi 43 rfl)) (wd14 hw) (rm_adx hw tt xv h0 n0 O0 (ht0) (own_ge1 hc1) (hs0)) g103 e102 [(.ref h1)] rfl (lenOf pd_12 rfl) (hE 8 rfl) hml.symm 1 rfl (by decide)
  have N104 := Fr.app N0 M104
  let lo106 : Array Slot := #[rv h1, .val (.long xk), .second, .val (.long xv), .second]
  obtain ⟨T105, h105, X105, e105, W105, st105⟩ := putF X104 hx hZ hown (host := "") (Or.inl (hw _ (mi 36 rfl))) Via.refl e104 F2_ E0_ (Or.inl (hw _ (mi 37 rfl))) (hw _ (mi 2 rfl)) (ty := .long) (by decide) rfl rfl (g := (mkF m 29 lo106 [(.long (tt + xv)), (.ref h1)])) rfl rfl (hE 9 rfl)
  have O107 := O0.wr W105 G3_
  have y108 : Fld Z h105 h1 "com/example/fetch_from_near/fetchfromnear/Histogram" "total" "J" (.long (tt + xv)) := F2_.same W105
  have N105 := Fr.snoc X105 N104 G3_
  have g109 : Go p e below T105 (mkF m 32 lo106 []) A0 := fun t kont => st104 t (st105 t kont)
  have g110 := jA X105 hx g109 (hE 10 rfl) rfl rfl
  have y111 := (F1_.other W105 (Or.inr (slot_ne (Or.inr (hw _ (mi 30 rfl))) (Or.inl (hw _ (mi 37 rfl))) (by decide) (t := (.object "java/util/TreeMap")) (t' := .long) (by decide) (by decide))))
  obtain ⟨T112, X112, e112, g112⟩ := own_getF X105 hx hZ hown (hw _ (mi 29 rfl)) Via.refl e105 y111 g110 (hE 11 rfl)
  have g113 := show Go p e below T112 (mkF m 37 #[rv h1, .val (.long xk), .second, .val (.long xv), .second] [(.long xk), (.ref t1)]) A0 from fun t kt => g112 t (by refine XS.lloadN X112.here hx rfl (hE 12 rfl) rfl ?_; exact kt)
  obtain ⟨_, L114, T114, ⟨r115, rfl, M114, K114, y116, y117⟩, X114, st114⟩ := own_callS X112 hx hZ hown (hw _ (mi 47 rfl)) (wd15 hw) (rm_lvo hw xk lc kc lcs h105 n0 O107 S8_ ZA9_ hlc) g113 e112 [(.ref t1)] rfl (lenOf pd_13 rfl) (hE 13 rfl) hml.symm 1 rfl (by decide)
  have N114 := Fr.app N105 M114
  have O118 := O107.keep K114 all0
  have g119 := show Go p e below T114 (mkF m 41 #[rv h1, .val (.long xk), .second, .val (.long xv), .second] [(.long xv), (.ref r115), (.ref t1)]) A0 from fun t kt => st114 t (by refine XS.lloadN X114.here hx rfl (hE 14 rfl) rfl ?_; exact kt)
  obtain ⟨_, L120, T120, ⟨r121, rfl, M120, K120, y122, y123⟩, X120, st120⟩ := own_callS X114 hx hZ hown (hw _ (mi 47 rfl)) (wd15 hw) (rm_lvo hw xv lc kc lcs T114.heap n0 O118 S8_ ZA9_ hlc) g119 rfl [(.ref r115), (.ref t1)] rfl (lenOf pd_13 rfl) (hE 15 rfl) hml.symm 2 rfl (by decide)
  have N120 := Fr.app N114 M120
  have O124 := O118.keep K120 all0
  obtain ⟨a125, cK125, MK125, SL125, Fn125, g125⟩ := own_site X120 hx hZ Bd.named (hw _ (mi 55 rfl)) rfl (by decide +kernel) (hw _ (mi 284 rfl)) rfl rfl (by decide +kernel) st120 (hE 16 rfl) hml.symm 3 rfl (by decide)
  have y127 := (((E11_.wr W105).keep K114).keep K120)
  have y128 := (((E0_.wr W105).keep K114).keep K120)
  have y129 := (((F12_.other W105 (Or.inl (ne_exa y127 y128 (by decide)))).keep K114 nin0).keep K120 nin0)
  have y130 := (((F13_.other W105 (Or.inl (ne_exa y127 y128 (by decide)))).keep K114 nin0).keep K120 nin0)
  have y131 := (((F14_.other W105 (Or.inl (ne_exa y127 y128 (by decide)))).keep K114 nin0).keep K120 nin0)
  have y132 := (((F15_.other W105 (Or.inl (ne_exa y127 y128 (by decide)))).keep K114 nin0).keep K120 nin0)
  have y133 := (((F16_.other W105 (Or.inl (ne_exa y127 y128 (by decide)))).keep K114 nin0).keep K120 nin0)
  have y134 := (((E17_.wr W105).keep K114).keep K120)
  have y135 := (((F18_.other W105 (Or.inl (ne_exa y134 y128 (by decide)))).keep K114 nin0).keep K120 nin0)
  have y136 := (((F19_.other W105 (Or.inl (ne_exa y134 y128 (by decide)))).keep K114 nin0).keep K120 nin0)
  have y137 := (((F20_.other W105 (Or.inl (ne_exa y134 y128 (by decide)))).keep K114 nin0).keep K120 nin0)
  have y138 := (((F21_.other W105 (Or.inl (ne_exa y134 y128 (by decide)))).keep K114 nin0).keep K120 nin0)
  have y139 := (((F22_.other W105 (Or.inl (ne_exa y134 y128 (by decide)))).keep K114 nin0).keep K120 nin0)
  have y140 := (((F23_.other W105 (Or.inl (ne_exa y134 y128 (by decide)))).keep K114 nin0).keep K120 nin0)
  have y141 := (((E24_.wr W105).keep K114).keep K120)
  have y142 := (((F25_.other W105 (Or.inl (ne_exa y141 y128 (by decide)))).keep K114 nin0).keep K120 nin0)
  have y143 := (y116.keep K120)
  have y144 := (y117.keep K120 nin0)
  obtain ⟨_, L126, T126, ⟨r145, rfl, M126, K126, y146, y147, y148, y149, y150, y151, y152, y153, y154, y155, y156, y157, y158, y159, y160, y161, y162, y163, y164, y165, y166⟩, X126, st126⟩ := own_callV X120 hx hZ hown (hw _ (mi 58 rfl)) (wd16 hw) (notFace_of_selects (args := #[]) (mvT hZ (hw _ (mi 61 rfl)))) y127 (rm_mer1L hw t1 e1 k1 v1 sz mc x1 r115 r121 xk xv a125 cK125 lc kc lcs T120.heap n0 O124 y127 y129 y130 y131 y132 y133 y134 y135 y136 y137 y138 y139 y140 y141 y142 y143 y144 y122 y123 G4_ G28_ MK125 SL125 Fn125 S8_ ZA9_ hlc hlt) g125 rfl [] rfl (lenOf pd_14 rfl) (hE 17 rfl) hml.symm 0 rfl (by decide)
  have N126 := Fr.app N120 M126
  have O167 := O124.keep K126 (allS G4_ (allS G28_ all0))
  have g168 := jo X126 hx st126 (hE 18 rfl) rfl rfl
  have K169 : Keep h0 T126.heap [h1, t1, e1] := (((((Keep.refl h0 [h1, t1, e1]).wr W105 (Or.inl (mi 0 rfl))).trans K114 (fun x hx => nomatch hx)).trans K120 (fun x hx => nomatch hx)).trans K126 (allS (P := fun x => x ∈ [h1, t1, e1] ∨ h0.size ≤ x) (Or.inl (mi 1 rfl)) (allS (P := fun x => x ∈ [h1, t1, e1] ∨ h0.size ≤ x) (Or.inl (mi 2 rfl)) all0)))
  have y170 := (y128.keep K126)
  have y171 := (((y111.keep K114 nin0).keep K120 nin0).keep K126 (ninS (ne_exa y170 y147 (by decide)) (ninS (ne_exa y170 y153 (by decide)) nin0)))
  have y172 := (((y108.keep K114 nin0).keep K120 nin0).keep K126 (ninS (ne_exa y170 y147 (by decide)) (ninS (ne_exa y170 y153 (by decide)) nin0)))
  have y173 := (y143.keep K126)
  have y174 := (y144.keep K126 (ninS (ne_exa y173 y147 (by decide)) (ninS (ne_exa y173 y153 (by decide)) nin0)))
  have y175 := (y122.keep K126)
  have y176 := (y123.keep K126 (ninS (ne_exa y175 y147 (by decide)) (ninS (ne_exa y175 y153 (by decide)) nin0)))
  refine own_leave X126 Bd (none) (fun _ => rfl) g168 (fun fs hr => X126.returnOut hx Bd.returns (hE 19 rfl) hr) (by decide) (by decide) ?_
  exact ⟨r145, r115, r121, rfl, N126, K169, y170, y171, y172, (Nat.le_trans (Nat.le_trans (Nat.le_trans (Keep.of_wr W105).1 K114.1) K120.1) y146), y147, y148, y149, y150, y151, y152, y153, y154, y155, y156, y157, y158, y159, y160, y161, y162, y163, y164, y165, y166, y173, y174, y175, y176⟩
theorem rm_ad1R (hw : HW a0 Z) (h1 t1 : Addr) (tt : Int64) (sz mc : Int32) (xk xv : Int64) (lc : Addr) (kc : ClassId) (lcs : List Value) (e1 k1 v1 : Addr) (x1 y1 : Int64) (h0 : Heap) (n0 : Nat) (O0 : Old Z n0 h0) (E0_ : Exa Z h0 h1 "com/example/fetch_from_near/fetchfromnear/Histogram") (F1_ : Fld Z h0 h1 "com/example/fetch_from_near/fetchfromnear/Histogram" "counts" "Ljava/util/TreeMap;" (.ref t1)) (F2_ : Fld Z h0 h1 "com/example/fetch_from_near/fetchfromnear/Histogram" "total" "J" (.long tt)) (G3_ : n0 ≤ h1) (G4_ : n0 ≤ t1) (hc1 : ¬ (xv < (1 : Int64))) (ht0 : ¬ (tt < (0 : Int64))) (hs0 : ¬ ((tt + xv) < (0 : Int64))) (S8_ : Sta Z Z.heap "java/lang/Long$LongCache" "cache" "[Ljava/lang/Long;" (.ref lc)) (ZA9_ : Arv Z Z.heap lc kc (.object "java/lang/Long") (256 : Int32) lcs .null) (hlc : ∀ i, i < 256 → ∃ a, lcs.getD i .null = .ref a ∧ Exa Z Z.heap a "java/lang/Long" ∧ Fld Z Z.heap a "java/lang/Long" "value" "J" (.long (Int64.ofInt ((i : Int) - 128)))) (E11_ : Exa Z h0 t1 "java/util/TreeMap") (F12_ : Fld Z h0 t1 "java/util/TreeMap" "comparator" "Ljava/util/Comparator;" .null) (F13_ : Fld Z h0 t1 "java/util/TreeMap" "root" "Ljava/util/TreeMap$Entry;" (.ref e1)) (F14_ : Fld Z h0 t1 "java/util/TreeMap" "size" "I" (.int sz)) (F15_ : Fld Z h0 t1 "java/util/TreeMap" "modCount" "I" (.int mc)) (F16_ : Fld Z h0 t1 "java/util/TreeMap" "entrySet" "Ljava/util/TreeMap$EntrySet;" .null) (E17_ : Exa Z h0 e1 "java/util/TreeMap$Entry") (F18_ : Fld Z h0 e1 "java/util/TreeMap$Entry" "key" "Ljava/lang/Object;" (.ref k1)) (F19_ : Fld Z h0 e1 "java/util/TreeMap$Entry" "value" "Ljava/lang/Object;" (.ref v1)) (F20_ : Fld Z h0 e1 "java/util/TreeMap$Entry" "left" "Ljava/util/TreeMap$Entry;" .null) (F21_ : Fld Z h0 e1 "java/util/TreeMap$Entry" "right" "Ljava/util/TreeMap$Entry;" .null) (F22_ : Fld Z h0 e1 "java/util/TreeMap$Entry" "parent" "Ljava/util/TreeMap$Entry;" .null) (F23_ : Fld Z h0 e1 "java/util/TreeMap$Entry" "color" "Z" (.int 1)) (E24_ : Exa Z h0 k1 "java/lang/Long") (F25_ : Fld Z h0 k1 "java/lang/Long" "value" "J" (.long x1)) (E26_ : Exa Z h0 v1 "java/lang/Long") (F27_ : Fld Z h0 v1 "java/lang/Long" "value" "J" (.long y1)) (G28_ : n0 ≤ e1) (hlt : x1 < xk) :
    own_M l mN22 (Jvm.Cond.code mN22 prog_10_method_3_code 5 none) [] (⟨4, 3, 8, 3075⟩ : Room) #[(.ref h1), (.long xk), (.long xv)] Z h0 (fun v h L => ∃ (e2 : Addr), ∃ (ka : Addr), ∃ (va : Addr), v = none ∧ Fr n0 L ∧ Keep h0 h [h1, t1, e1] ∧ (Exa Z h h1 "com/example/fetch_from_near/fetchfromnear/Histogram") ∧ (Fld Z h h1 "com/example/fetch_from_near/fetchfromnear/Histogram" "counts" "Ljava/util/TreeMap;" (.ref t1)) ∧ (Fld Z h h1 "com/example/fetch_from_near/fetchfromnear/Histogram" "total" "J" (.long (tt + xv))) ∧ h0.size ≤ e2 ∧ (Exa Z h t1 "java/util/TreeMap") ∧ (Fld Z h t1 "java/util/TreeMap" "comparator" "Ljava/util/Comparator;" .null) ∧ (Fld Z h t1 "java/util/TreeMap" "root" "Ljava/util/TreeMap$Entry;" (.ref e1)) ∧ (Fld Z h t1 "java/util/TreeMap" "size" "I" (.int (sz + (1 : Int32)))) ∧ (Fld Z h t1 "java/util/TreeMap" "modCount" "I" (.int (mc + (1 : Int32)))) ∧ (Fld Z h t1 "java/util/TreeMap" "entrySet" "Ljava/util/TreeMap$EntrySet;" .null) ∧ (Exa Z h e1 "java/util/TreeMap$Entry") ∧ (Fld Z h e1 "java/util/TreeMap$Entry" "key" "Ljava/lang/Object;" (.ref k1)) ∧ (Fld Z h e1 "java/util/TreeMap$Entry" "value" "Ljava/lang/Object;" (.ref v1)) ∧ (Fld Z h e1 "java/util/TreeMap$Entry" "left" "Ljava/util/TreeMap$Entry;" .null) ∧ (Fld Z h e1 "java/util/TreeMap$Entry" "right" "Ljava/util/TreeMap$Entry;" (.ref e2)) ∧ (Fld Z h e1 "java/util/TreeMap$Entry" "parent" "Ljava/util/TreeMap$Entry;" .null) ∧ (Fld Z h e1 "java/util/TreeMap$Entry" "color" "Z" (.int 1)) ∧ (Exa Z h e2 "java/util/TreeMap$Entry") ∧ (Fld Z h e2 "java/util/TreeMap$Entry" "key" "Ljava/lang/Object;" (.ref ka)) ∧ (Fld Z h e2 "java/util/TreeMap$Entry" "value" "Ljava/lang/Object;" (.ref va)) ∧ (Fld Z h e2 "java/util/TreeMap$Entry" "left" "Ljava/util/TreeMap$Entry;" .null) ∧ (Fld Z h e2 "java/util/TreeMap$Entry" "right" "Ljava/util/TreeMap$Entry;" .null) ∧ (Fld Z h e2 "java/util/TreeMap$Entry" "parent" "Ljava/util/TreeMap$Entry;" (.ref e1)) ∧ (Fld Z h e2 "java/util/TreeMap$Entry" "color" "Z" (.int 0)) ∧ (Exa Z h ka "java/lang/Long") ∧ (Fld Z h ka "java/lang/Long" "value" "J" (.long xk)) ∧ (Exa Z h va "java/lang/Long") ∧ (Fld Z h va "java/lang/Long" "value" "J" (.long xv))) := by
  refine own_open n0 (plainFor_of_name pn_7) (fun m => ef_RJJ5 m h1 xk xv ) ?_
  intro p e s m below meth c s₁ A0 Bd hx hby hml hown hnm hZ hh X0 e0 N0 g0
  have hE := own_hd hby E6
  have g101 := jA X0 hx (jA X0 hx (jY X0 hx (show Go p e below s₁ (mkF m 3 #[rv h1, .val (.long xk), .second, .val (.long xv), .second] [(.int (lcmpW xv (1 : Int64)))]) A0 from fun t kt => (show Go p e below s₁ (mkF m 2 #[rv h1, .val (.long xk), .second, .val (.long xv), .second] [(.long (1 : Int64)), (.long xv)]) A0 from fun t kt => (show Go p e below s₁ (mkF m 1 #[rv h1, .val (.long xk), .second, .val (.long xv), .second] [(.long xv)]) A0 from fun t kt => g0 t (by refine XS.lloadN X0.here hx rfl (hE 0 rfl) rfl ?_; exact kt)) t (by refine XS.lconst X0.here hx rfl (hE 1 rfl) ?_; exact kt)) t (by refine XS.lcmp X0.here hx rfl (hE 2 rfl) rfl ?_; exact kt)) (hE 3 rfl) rfl ((if0 _ _).trans (flt (own_lcnlt hc1 : ¬ ((lcmpW xv (1 : Int64)) < (0 : Int32)))).2.1) (pc' := 20) (by decide)) (hE 4 rfl) rfl rfl) (hE 5 rfl) rfl rfl
  obtain ⟨T102, X102, e102, g102⟩ := own_getF X0 hx hZ hown (hw _ (mi 36 rfl)) Via.refl e0 F2_ g101 (hE 6 rfl)
  have g103 := show Go p e below T102 (mkF m 26 #[rv h1, .val (.long xk), .second, .val (.long xv), .second] [(.long xv), (.long tt), (.ref h1)]) A0 from fun t kt => g102 t (by refine XS.lloadN X102.here hx rfl (hE 7 rfl) rfl ?_; exact kt)
  obtain ⟨_, L104, T104, ⟨rfl, M104, e104⟩, X104, st104⟩ := own_callS X102 hx hZ hown (hw _ (mi 43 rfl)) (wd14 hw) (rm_adx hw tt xv h0 n0 O0 (ht0) (own_ge1 hc1) (hs0)) g103 e102 [(.ref h1)] rfl (lenOf pd_12 rfl) (hE 8 rfl) hml.symm 1 rfl (by decide)
  have N104 := Fr.app N0 M104
  let lo106 : Array Slot := #[rv h1, .val (.long xk), .second, .val (.long xv), .second]
  obtain ⟨T105, h105, X105, e105, W105, st105⟩ := putF X104 hx hZ hown (host := "") (Or.inl (hw _ (mi 36 rfl))) Via.refl e104 F2_ E0_ (Or.inl (hw _ (mi 37 rfl))) (hw _ (mi 2 rfl)) (ty := .long) (by decide) rfl rfl (g := (mkF m 29 lo106 [(.long (tt + xv)), (.ref h1)])) rfl rfl (hE 9 rfl)
  have O107 := O0.wr W105 G3_
  have y108 : Fld Z h105 h1 "com/example/fetch_from_near/fetchfromnear/Histogram" "total" "J" (.long (tt + xv)) := F2_.same W105
  have N105 := Fr.snoc X105 N104 G3_
  have g109 : Go p e below T105 (mkF m 32 lo106 []) A0 := fun t kont => st104 t (st105 t kont)
  have g110 := jA X105 hx g109 (hE 10 rfl) rfl rfl
  have y111 := (F1_.other W105 (Or.inr (slot_ne (Or.inr (hw _ (mi 30 rfl))) (Or.inl (hw _ (mi 37 rfl))) (by decide) (t := (.object "java/util/TreeMap")) (t' := .long) (by decide) (by decide))))
  obtain ⟨T112, X112, e112, g112⟩ := own_getF X105 hx hZ hown (hw _ (mi 29 rfl)) Via.refl e105 y111 g110 (hE 11 rfl)
  have g113 := show Go p e below T112 (mkF m 37 #[rv h1, .val (.long xk), .second, .val (.long xv), .second] [(.long xk), (.ref t1)]) A0 from fun t kt => g112 t (by refine XS.lloadN X112.here hx rfl (hE 12 rfl) rfl ?_; exact kt)
  obtain ⟨_, L114, T114, ⟨r115, rfl, M114, K114, y116, y117⟩, X114, st114⟩ := own_callS X112 hx hZ hown (hw _ (mi 47 rfl)) (wd15 hw) (rm_lvo hw xk lc kc lcs h105 n0 O107 S8_ ZA9_ hlc) g113 e112 [(.ref t1)] rfl (lenOf pd_13 rfl) (hE 13 rfl) hml.symm 1 rfl (by decide)
  have N114 := Fr.app N105 M114
  have O118 := O107.keep K114 all0
  have g119 := show Go p e below T114 (mkF m 41 #[rv h1, .val (.long xk), .second, .val (.long xv), .second] [(.long xv), (.ref r115), (.ref t1)]) A0 from fun t kt => st114 t (by refine XS.lloadN X114.here hx rfl (hE 14 rfl) rfl ?_; exact kt)
  obtain ⟨_, L120, T120, ⟨r121, rfl, M120, K120, y122, y123⟩, X120, st120⟩ := own_callS X114 hx hZ hown (hw _ (mi 47 rfl)) (wd15 hw) (rm_lvo hw xv lc kc lcs T114.heap n0 O118 S8_ ZA9_ hlc) g119 rfl [(.ref r115), (.ref t1)] rfl (lenOf pd_13 rfl) (hE 15 rfl) hml.symm 2 rfl (by decide)
  have N120 := Fr.app N114 M120
  have O124 := O118.keep K120 all0
  obtain ⟨a125, cK125, MK125, SL125, Fn125, g125⟩ := own_site X120 hx hZ Bd.named (hw _ (mi 55 rfl)) rfl (by decide +kernel) (hw _ (mi 284 rfl)) rfl rfl (by decide +kernel) st120 (hE 16 rfl) hml.symm 3 rfl (by decide)
  have y127 := (((E11_.wr W105).keep K114).keep K120)
  have y128 := (((E0_.wr W105).keep K114).keep K120)
  have y129 := (((F12_.other W105 (Or.inl (ne_exa y127 y128 (by decide)))).keep K114 nin0).keep K120 nin0)
  have y130 := (((F13_.other W105 (Or.inl (ne_exa y127 y128 (by decide)))).keep K114 nin0).keep K120 nin0)
  have y131 := (((F14_.other W105 (Or.inl (ne_exa y127 y128 (by decide)))).keep K114 nin0).keep K120 nin0)
  have y132 := (((F15_.other W105 (Or.inl (ne_exa y127 y128 (by decide)))).keep K114 nin0).keep K120 nin0)
  have y133 := (((F16_.other W105 (Or.inl (ne_exa y127 y128 (by decide)))).keep K114 nin0).keep K120 nin0)
  have y134 := (((E17_.wr W105).keep K114).keep K120)
  have y135 := (((F18_.other W105 (Or.inl (ne_exa y134 y128 (by decide)))).keep K114 nin0).keep K120 nin0)
  have y136 := (((F19_.other W105 (Or.inl (ne_exa y134 y128 (by decide)))).keep K114 nin0).keep K120 nin0)
  have y137 := (((F20_.other W105 (Or.inl (ne_exa y134 y128 (by decide)))).keep K114 nin0).keep K120 nin0)
  have y138 := (((F21_.other W105 (Or.inl (ne_exa y134 y128 (by decide)))).keep K114 nin0).keep K120 nin0)
  have y139 := (((F22_.other W105 (Or.inl (ne_exa y134 y128 (by decide)))).keep K114 nin0).keep K120 nin0)
  have y140 := (((F23_.other W105 (Or.inl (ne_exa y134 y128 (by decide)))).keep K114 nin0).keep K120 nin0)
  have y141 := (((E24_.wr W105).keep K114).keep K120)
  have y142 := (((F25_.other W105 (Or.inl (ne_exa y141 y128 (by decide)))).keep K114 nin0).keep K120 nin0)
  have y143 := (y116.keep K120)
  have y144 := (y117.keep K120 nin0)
  obtain ⟨_, L126, T126, ⟨r145, rfl, M126, K126, y146, y147, y148, y149, y150, y151, y152, y153, y154, y155, y156, y157, y158, y159, y160, y161, y162, y163, y164, y165, y166⟩, X126, st126⟩ := own_callV X120 hx hZ hown (hw _ (mi 58 rfl)) (wd16 hw) (notFace_of_selects (args := #[]) (mvT hZ (hw _ (mi 61 rfl)))) y127 (rm_mer1R hw t1 e1 k1 v1 sz mc x1 r115 r121 xk xv a125 cK125 lc kc lcs T120.heap n0 O124 y127 y129 y130 y131 y132 y133 y134 y135 y136 y137 y138 y139 y140 y141 y142 y143 y144 y122 y123 G4_ G28_ MK125 SL125 Fn125 S8_ ZA9_ hlc hlt) g125 rfl [] rfl (lenOf pd_14 rfl) (hE 17 rfl) hml.symm 0 rfl (by decide)
  have N126 := Fr.app N120 M126
  have O167 := O124.keep K126 (allS G4_ (allS G28_ all0))
  have g168 := jo X126 hx st126 (hE 18 rfl) rfl rfl
  have K169 : Keep h0 T126.heap [h1, t1, e1] := (((((Keep.refl h0 [h1, t1, e1]).wr W105 (Or.inl (mi 0 rfl))).trans K114 (fun x hx => nomatch hx)).trans K120 (fun x hx => nomatch hx)).trans K126 (allS (P := fun x => x ∈ [h1, t1, e1] ∨ h0.size ≤ x) (Or.inl (mi 1 rfl)) (allS (P := fun x => x ∈ [h1, t1, e1] ∨ h0.size ≤ x) (Or.inl (mi 2 rfl)) all0)))
  have y170 := (y128.keep K126)
  have y171 := (((y111.keep K114 nin0).keep K120 nin0).keep K126 (ninS (ne_exa y170 y147 (by decide)) (ninS (ne_exa y170 y153 (by decide)) nin0)))
  have y172 := (((y108.keep K114 nin0).keep K120 nin0).keep K126 (ninS (ne_exa y170 y147 (by decide)) (ninS (ne_exa y170 y153 (by decide)) nin0)))
  have y173 := (y143.keep K126)
  have y174 := (y144.keep K126 (ninS (ne_exa y173 y147 (by decide)) (ninS (ne_exa y173 y153 (by decide)) nin0)))
  have y175 := (y122.keep K126)
  have y176 := (y123.keep K126 (ninS (ne_exa y175 y147 (by decide)) (ninS (ne_exa y175 y153 (by decide)) nin0)))
  refine own_leave X126 Bd (none) (fun _ => rfl) g168 (fun fs hr => X126.returnOut hx Bd.returns (hE 19 rfl) hr) (by decide) (by decide) ?_
  exact ⟨r145, r115, r121, rfl, N126, K169, y170, y171, y172, (Nat.le_trans (Nat.le_trans (Nat.le_trans (Keep.of_wr W105).1 K114.1) K120.1) y146), y147, y148, y149, y150, y151, y152, y153, y154, y155, y156, y157, y158, y159, y160, y161, y162, y163, y164, y165, y166, y173, y174, y175, y176⟩
theorem rm_ad1E (hw : HW a0 Z) (h1 t1 : Addr) (tt : Int64) (sz mc : Int32) (xk xv : Int64) (lc : Addr) (kc : ClassId) (lcs : List Value) (e1 k1 v1 : Addr) (x1 y1 : Int64) (h0 : Heap) (n0 : Nat) (O0 : Old Z n0 h0) (E0_ : Exa Z h0 h1 "com/example/fetch_from_near/fetchfromnear/Histogram") (F1_ : Fld Z h0 h1 "com/example/fetch_from_near/fetchfromnear/Histogram" "counts" "Ljava/util/TreeMap;" (.ref t1)) (F2_ : Fld Z h0 h1 "com/example/fetch_from_near/fetchfromnear/Histogram" "total" "J" (.long tt)) (G3_ : n0 ≤ h1) (G4_ : n0 ≤ t1) (hc1 : ¬ (xv < (1 : Int64))) (ht0 : ¬ (tt < (0 : Int64))) (hs0 : ¬ ((tt + xv) < (0 : Int64))) (S8_ : Sta Z Z.heap "java/lang/Long$LongCache" "cache" "[Ljava/lang/Long;" (.ref lc)) (ZA9_ : Arv Z Z.heap lc kc (.object "java/lang/Long") (256 : Int32) lcs .null) (hlc : ∀ i, i < 256 → ∃ a, lcs.getD i .null = .ref a ∧ Exa Z Z.heap a "java/lang/Long" ∧ Fld Z Z.heap a "java/lang/Long" "value" "J" (.long (Int64.ofInt ((i : Int) - 128)))) (E11_ : Exa Z h0 t1 "java/util/TreeMap") (F12_ : Fld Z h0 t1 "java/util/TreeMap" "comparator" "Ljava/util/Comparator;" .null) (F13_ : Fld Z h0 t1 "java/util/TreeMap" "root" "Ljava/util/TreeMap$Entry;" (.ref e1)) (F14_ : Fld Z h0 t1 "java/util/TreeMap" "size" "I" (.int sz)) (F15_ : Fld Z h0 t1 "java/util/TreeMap" "modCount" "I" (.int mc)) (F16_ : Fld Z h0 t1 "java/util/TreeMap" "entrySet" "Ljava/util/TreeMap$EntrySet;" .null) (E17_ : Exa Z h0 e1 "java/util/TreeMap$Entry") (F18_ : Fld Z h0 e1 "java/util/TreeMap$Entry" "key" "Ljava/lang/Object;" (.ref k1)) (F19_ : Fld Z h0 e1 "java/util/TreeMap$Entry" "value" "Ljava/lang/Object;" (.ref v1)) (F20_ : Fld Z h0 e1 "java/util/TreeMap$Entry" "left" "Ljava/util/TreeMap$Entry;" .null) (F21_ : Fld Z h0 e1 "java/util/TreeMap$Entry" "right" "Ljava/util/TreeMap$Entry;" .null) (F22_ : Fld Z h0 e1 "java/util/TreeMap$Entry" "parent" "Ljava/util/TreeMap$Entry;" .null) (F23_ : Fld Z h0 e1 "java/util/TreeMap$Entry" "color" "Z" (.int 1)) (E24_ : Exa Z h0 k1 "java/lang/Long") (F25_ : Fld Z h0 k1 "java/lang/Long" "value" "J" (.long x1)) (E26_ : Exa Z h0 v1 "java/lang/Long") (F27_ : Fld Z h0 v1 "java/lang/Long" "value" "J" (.long y1)) (G28_ : n0 ≤ e1) (heq : xk = x1) :
    own_M l mN22 (Jvm.Cond.code mN22 prog_10_method_3_code 5 none) [] (⟨7, 3, 3, 3075⟩ : Room) #[(.ref h1), (.long xk), (.long xv)] Z h0 (fun v h L => ∃ (r : Addr), v = none ∧ Fr n0 L ∧ Keep h0 h [h1, e1] ∧ (Exa Z h h1 "com/example/fetch_from_near/fetchfromnear/Histogram") ∧ (Fld Z h h1 "com/example/fetch_from_near/fetchfromnear/Histogram" "counts" "Ljava/util/TreeMap;" (.ref t1)) ∧ (Fld Z h h1 "com/example/fetch_from_near/fetchfromnear/Histogram" "total" "J" (.long (tt + xv))) ∧ (Exa Z h e1 "java/util/TreeMap$Entry") ∧ (Fld Z h e1 "java/util/TreeMap$Entry" "key" "Ljava/lang/Object;" (.ref k1)) ∧ (Fld Z h e1 "java/util/TreeMap$Entry" "value" "Ljava/lang/Object;" (.ref r)) ∧ (Fld Z h e1 "java/util/TreeMap$Entry" "left" "Ljava/util/TreeMap$Entry;" .null) ∧ (Fld Z h e1 "java/util/TreeMap$Entry" "right" "Ljava/util/TreeMap$Entry;" .null) ∧ (Fld Z h e1 "java/util/TreeMap$Entry" "parent" "Ljava/util/TreeMap$Entry;" .null) ∧ (Fld Z h e1 "java/util/TreeMap$Entry" "color" "Z" (.int 1)) ∧ (Exa Z h r "java/lang/Long") ∧ (Fld Z h r "java/lang/Long" "value" "J" (.long (y1 + xv)))) := by
  refine own_open n0 (plainFor_of_name pn_7) (fun m => ef_RJJ5 m h1 xk xv ) ?_
  intro p e s m below meth c s₁ A0 Bd hx hby hml hown hnm hZ hh X0 e0 N0 g0
  have hE := own_hd hby E6
  have g101 := jA X0 hx (jA X0 hx (jY X0 hx (show Go p e below s₁ (mkF m 3 #[rv h1, .val (.long xk), .second, .val (.long xv), .second] [(.int (lcmpW xv (1 : Int64)))]) A0 from fun t kt => (show Go p e below s₁ (mkF m 2 #[rv h1, .val (.long xk), .second, .val (.long xv), .second] [(.long (1 : Int64)), (.long xv)]) A0 from fun t kt => (show Go p e below s₁ (mkF m 1 #[rv h1, .val (.long xk), .second, .val (.long xv), .second] [(.long xv)]) A0 from fun t kt => g0 t (by refine XS.lloadN X0.here hx rfl (hE 0 rfl) rfl ?_; exact kt)) t (by refine XS.lconst X0.here hx rfl (hE 1 rfl) ?_; exact kt)) t (by refine XS.lcmp X0.here hx rfl (hE 2 rfl) rfl ?_; exact kt)) (hE 3 rfl) rfl ((if0 _ _).trans (flt (own_lcnlt hc1 : ¬ ((lcmpW xv (1 : Int64)) < (0 : Int32)))).2.1) (pc' := 20) (by decide)) (hE 4 rfl) rfl rfl) (hE 5 rfl) rfl rfl
  obtain ⟨T102, X102, e102, g102⟩ := own_getF X0 hx hZ hown (hw _ (mi 36 rfl)) Via.refl e0 F2_ g101 (hE 6 rfl)
  have g103 := show Go p e below T102 (mkF m 26 #[rv h1, .val (.long xk), .second, .val (.long xv), .second] [(.long xv), (.long tt), (.ref h1)]) A0 from fun t kt => g102 t (by refine XS.lloadN X102.here hx rfl (hE 7 rfl) rfl ?_; exact kt)
  obtain ⟨_, L104, T104, ⟨rfl, M104, e104⟩, X104, st104⟩ := own_callS X102 hx hZ hown (hw _ (mi 43 rfl)) (wd14 hw) (rm_adx hw tt xv h0 n0 O0 (ht0) (own_ge1 hc1) (hs0)) g103 e102 [(.ref h1)] rfl (lenOf pd_12 rfl) (hE 8 rfl) hml.symm 1 rfl (by decide)
  have N104 := Fr.app N0 M104
  let lo106 : Array Slot := #[rv h1, .val (.long xk), .second, .val (.long xv), .second]
  obtain ⟨T105, h105, X105, e105, W105, st105⟩ := putF X104 hx hZ hown (host := "") (Or.inl (hw _ (mi 36 rfl))) Via.refl e104 F2_ E0_ (Or.inl (hw _ (mi 37 rfl))) (hw _ (mi 2 rfl)) (ty := .long) (by decide) rfl rfl (g := (mkF m 29 lo106 [(.long (tt + xv)), (.ref h1)])) rfl rfl (hE 9 rfl)
  have O107 := O0.wr W105 G3_
  have y108 : Fld Z h105 h1 "com/example/fetch_from_near/fetchfromnear/Histogram" "total" "J" (.long (tt + xv)) := F2_.same W105
  have N105 := Fr.snoc X105 N104 G3_
  have g109 : Go p e below T105 (mkF m 32 lo106 []) A0 := fun t kont => st104 t (st105 t kont)
  have g110 := jA X105 hx g109 (hE 10 rfl) rfl rfl
  have y111 := (F1_.other W105 (Or.inr (slot_ne (Or.inr (hw _ (mi 30 rfl))) (Or.inl (hw _ (mi 37 rfl))) (by decide) (t := (.object "java/util/TreeMap")) (t' := .long) (by decide) (by decide))))
  obtain ⟨T112, X112, e112, g112⟩ := own_getF X105 hx hZ hown (hw _ (mi 29 rfl)) Via.refl e105 y111 g110 (hE 11 rfl)
  have g113 := show Go p e below T112 (mkF m 37 #[rv h1, .val (.long xk), .second, .val (.long xv), .second] [(.long xk), (.ref t1)]) A0 from fun t kt => g112 t (by refine XS.lloadN X112.here hx rfl (hE 12 rfl) rfl ?_; exact kt)
  obtain ⟨_, L114, T114, ⟨r115, rfl, M114, K114, y116, y117⟩, X114, st114⟩ := own_callS X112 hx hZ hown (hw _ (mi 47 rfl)) (wd15 hw) (rm_lvo hw xk lc kc lcs h105 n0 O107 S8_ ZA9_ hlc) g113 e112 [(.ref t1)] rfl (lenOf pd_13 rfl) (hE 13 rfl) hml.symm 1 rfl (by decide)
  have N114 := Fr.app N105 M114
  have O118 := O107.keep K114 all0
  have g119 := show Go p e below T114 (mkF m 41 #[rv h1, .val (.long xk), .second, .val (.long xv), .second] [(.long xv), (.ref r115), (.ref t1)]) A0 from fun t kt => st114 t (by refine XS.lloadN X114.here hx rfl (hE 14 rfl) rfl ?_; exact kt)
  obtain ⟨_, L120, T120, ⟨r121, rfl, M120, K120, y122, y123⟩, X120, st120⟩ := own_callS X114 hx hZ hown (hw _ (mi 47 rfl)) (wd15 hw) (rm_lvo hw xv lc kc lcs T114.heap n0 O118 S8_ ZA9_ hlc) g119 rfl [(.ref r115), (.ref t1)] rfl (lenOf pd_13 rfl) (hE 15 rfl) hml.symm 2 rfl (by decide)
  have N120 := Fr.app N114 M120
  have O124 := O118.keep K120 all0
  obtain ⟨a125, cK125, MK125, SL125, Fn125, g125⟩ := own_site X120 hx hZ Bd.named (hw _ (mi 55 rfl)) rfl (by decide +kernel) (hw _ (mi 284 rfl)) rfl rfl (by decide +kernel) st120 (hE 16 rfl) hml.symm 3 rfl (by decide)
  have y127 := (((E11_.wr W105).keep K114).keep K120)
  have y128 := (((E0_.wr W105).keep K114).keep K120)
  have y129 := (((F12_.other W105 (Or.inl (ne_exa y127 y128 (by decide)))).keep K114 nin0).keep K120 nin0)
  have y130 := (((F13_.other W105 (Or.inl (ne_exa y127 y128 (by decide)))).keep K114 nin0).keep K120 nin0)
  have y131 := (((F14_.other W105 (Or.inl (ne_exa y127 y128 (by decide)))).keep K114 nin0).keep K120 nin0)
  have y132 := (((F15_.other W105 (Or.inl (ne_exa y127 y128 (by decide)))).keep K114 nin0).keep K120 nin0)
  have y133 := (((F16_.other W105 (Or.inl (ne_exa y127 y128 (by decide)))).keep K114 nin0).keep K120 nin0)
  have y134 := (((E17_.wr W105).keep K114).keep K120)
  have y135 := (((F18_.other W105 (Or.inl (ne_exa y134 y128 (by decide)))).keep K114 nin0).keep K120 nin0)
  have y136 := (((F19_.other W105 (Or.inl (ne_exa y134 y128 (by decide)))).keep K114 nin0).keep K120 nin0)
  have y137 := (((F20_.other W105 (Or.inl (ne_exa y134 y128 (by decide)))).keep K114 nin0).keep K120 nin0)
  have y138 := (((F21_.other W105 (Or.inl (ne_exa y134 y128 (by decide)))).keep K114 nin0).keep K120 nin0)
  have y139 := (((F22_.other W105 (Or.inl (ne_exa y134 y128 (by decide)))).keep K114 nin0).keep K120 nin0)
  have y140 := (((F23_.other W105 (Or.inl (ne_exa y134 y128 (by decide)))).keep K114 nin0).keep K120 nin0)
  have y141 := (((E24_.wr W105).keep K114).keep K120)
  have y142 := (((F25_.other W105 (Or.inl (ne_exa y141 y128 (by decide)))).keep K114 nin0).keep K120 nin0)
  have y143 := (y116.keep K120)
  have y144 := (y117.keep K120 nin0)
  have y145 := (((E26_.wr W105).keep K114).keep K120)
  have y146 := (((F27_.other W105 (Or.inl (ne_exa y145 y128 (by decide)))).keep K114 nin0).keep K120 nin0)
  obtain ⟨_, L126, T126, ⟨r147, rfl, M126, K126, y148, y149, y150, y151, y152, y153, y154, y155, y156⟩, X126, st126⟩ := own_callV X120 hx hZ hown (hw _ (mi 58 rfl)) (wd16 hw) (notFace_of_selects (args := #[]) (mvT hZ (hw _ (mi 61 rfl)))) y127 (rm_mer1E hw t1 e1 k1 v1 sz mc x1 r115 r121 xk xv a125 cK125 lc kc lcs y1 T120.heap n0 O124 y127 y129 y130 y131 y132 y133 y134 y135 y136 y137 y138 y139 y140 y141 y142 y143 y144 y122 y123 G4_ G28_ MK125 SL125 Fn125 S8_ ZA9_ hlc y145 y146 heq) g125 rfl [] rfl (lenOf pd_14 rfl) (hE 17 rfl) hml.symm 0 rfl (by decide)
  have N126 := Fr.app N120 M126
  have O157 := O124.keep K126 (allS G28_ all0)
  have g158 := jo X126 hx st126 (hE 18 rfl) rfl rfl
  have K159 : Keep h0 T126.heap [h1, e1] := (((((Keep.refl h0 [h1, e1]).wr W105 (Or.inl (mi 0 rfl))).trans K114 (fun x hx => nomatch hx)).trans K120 (fun x hx => nomatch hx)).trans K126 (allS (P := fun x => x ∈ [h1, e1] ∨ h0.size ≤ x) (Or.inl (mi 1 rfl)) all0))
  have y160 := (y128.keep K126)
  have y161 := (((y111.keep K114 nin0).keep K120 nin0).keep K126 (ninS (ne_exa y160 y148 (by decide)) nin0))
  have y162 := (((y108.keep K114 nin0).keep K120 nin0).keep K126 (ninS (ne_exa y160 y148 (by decide)) nin0))
  refine own_leave X126 Bd (none) (fun _ => rfl) g158 (fun fs hr => X126.returnOut hx Bd.returns (hE 19 rfl) hr) (by decide) (by decide) ?_
  exact ⟨r147, rfl, N126, K159, y160, y161, y162, y148, y149, y150, y151, y152, y153, y154, y155, y156⟩
theorem rm_ad2L (hw : HW a0 Z) (h1 t1 : Addr) (tt : Int64) (sz mc : Int32) (xk xv : Int64) (lc : Addr) (kc : ClassId) (lcs : List Value) (e1 k1 v1 : Addr) (x1 y1 : Int64) (e2 k2 v2 : Addr) (x2 y2 : Int64) (h0 : Heap) (n0 : Nat) (O0 : Old Z n0 h0) (E0_ : Exa Z h0 h1 "com/example/fetch_from_near/fetchfromnear/Histogram") (F1_ : Fld Z h0 h1 "com/example/fetch_from_near/fetchfromnear/Histogram" "counts" "Ljava/util/TreeMap;" (.ref t1)) (F2_ : Fld Z h0 h1 "com/example/fetch_from_near/fetchfromnear/Histogram" "total" "J" (.long tt)) (G3_ : n0 ≤ h1) (G4_ : n0 ≤ t1) (hc1 : ¬ (xv < (1 : Int64))) (ht0 : ¬ (tt < (0 : Int64))) (hs0 : ¬ ((tt + xv) < (0 : Int64))) (S8_ : Sta Z Z.heap "java/lang/Long$LongCache" "cache" "[Ljava/lang/Long;" (.ref lc)) (ZA9_ : Arv Z Z.heap lc kc (.object "java/lang/Long") (256 : Int32) lcs .null) (hlc : ∀ i, i < 256 → ∃ a, lcs.getD i .null = .ref a ∧ Exa Z Z.heap a "java/lang/Long" ∧ Fld Z Z.heap a "java/lang/Long" "value" "J" (.long (Int64.ofInt ((i : Int) - 128)))) (E11_ : Exa Z h0 t1 "java/util/TreeMap") (F12_ : Fld Z h0 t1 "java/util/TreeMap" "comparator" "Ljava/util/Comparator;" .null) (F13_ : Fld Z h0 t1 "java/util/TreeMap" "root" "Ljava/util/TreeMap$Entry;" (.ref e1)) (F14_ : Fld Z h0 t1 "java/util/TreeMap" "size" "I" (.int sz)) (F15_ : Fld Z h0 t1 "java/util/TreeMap" "modCount" "I" (.int mc)) (F16_ : Fld Z h0 t1 "java/util/TreeMap" "entrySet" "Ljava/util/TreeMap$EntrySet;" .null) (E17_ : Exa Z h0 e1 "java/util/TreeMap$Entry") (F18_ : Fld Z h0 e1 "java/util/TreeMap$Entry" "key" "Ljava/lang/Object;" (.ref k1)) (F19_ : Fld Z h0 e1 "java/util/TreeMap$Entry" "value" "Ljava/lang/Object;" (.ref v1)) (F20_ : Fld Z h0 e1 "java/util/TreeMap$Entry" "left" "Ljava/util/TreeMap$Entry;" (.ref e2)) (F21_ : Fld Z h0 e1 "java/util/TreeMap$Entry" "right" "Ljava/util/TreeMap$Entry;" .null) (F22_ : Fld Z h0 e1 "java/util/TreeMap$Entry" "parent" "Ljava/util/TreeMap$Entry;" .null) (F23_ : Fld Z h0 e1 "java/util/TreeMap$Entry" "color" "Z" (.int 1)) (E24_ : Exa Z h0 e2 "java/util/TreeMap$Entry") (F25_ : Fld Z h0 e2 "java/util/TreeMap$Entry" "key" "Ljava/lang/Object;" (.ref k2)) (F26_ : Fld Z h0 e2 "java/util/TreeMap$Entry" "value" "Ljava/lang/Object;" (.ref v2)) (F27_ : Fld Z h0 e2 "java/util/TreeMap$Entry" "left" "Ljava/util/TreeMap$Entry;" .null) (F28_ : Fld Z h0 e2 "java/util/TreeMap$Entry" "right" "Ljava/util/TreeMap$Entry;" .null) (F29_ : Fld Z h0 e2 "java/util/TreeMap$Entry" "parent" "Ljava/util/TreeMap$Entry;" (.ref e1)) (F30_ : Fld Z h0 e2 "java/util/TreeMap$Entry" "color" "Z" (.int 0)) (E31_ : Exa Z h0 k1 "java/lang/Long") (F32_ : Fld Z h0 k1 "java/lang/Long" "value" "J" (.long x1)) (E33_ : Exa Z h0 v1 "java/lang/Long") (F34_ : Fld Z h0 v1 "java/lang/Long" "value" "J" (.long y1)) (E35_ : Exa Z h0 k2 "java/lang/Long") (F36_ : Fld Z h0 k2 "java/lang/Long" "value" "J" (.long x2)) (E37_ : Exa Z h0 v2 "java/lang/Long") (F38_ : Fld Z h0 v2 "java/lang/Long" "value" "J" (.long y2)) (G39_ : n0 ≤ e1) (G40_ : n0 ≤ e2) (NE41_ : ¬ (e1 = e2)) (hlt : xk < x1) (heq : xk = x2) :
    own_M l mN22 (Jvm.Cond.code mN22 prog_10_method_3_code 5 none) [] (⟨7, 3, 3, 3075⟩ : Room) #[(.ref h1), (.long xk), (.long xv)] Z h0 (fun v h L => ∃ (r : Addr), v = none ∧ Fr n0 L ∧ Keep h0 h [h1, e2] ∧ (Exa Z h h1 "com/example/fetch_from_near/fetchfromnear/Histogram") ∧ (Fld Z h h1 "com/example/fetch_from_near/fetchfromnear/Histogram" "counts" "Ljava/util/TreeMap;" (.ref t1)) ∧ (Fld Z h h1 "com/example/fetch_from_near/fetchfromnear/Histogram" "total" "J" (.long (tt + xv))) ∧ (Exa Z h e2 "java/util/TreeMap$Entry") ∧ (Fld Z h e2 "java/util/TreeMap$Entry" "key" "Ljava/lang/Object;" (.ref k2)) ∧ (Fld Z h e2 "java/util/TreeMap$Entry" "value" "Ljava/lang/Object;" (.ref r)) ∧ (Fld Z h e2 "java/util/TreeMap$Entry" "left" "Ljava/util/TreeMap$Entry;" .null) ∧ (Fld Z h e2 "java/util/TreeMap$Entry" "right" "Ljava/util/TreeMap$Entry;" .null) ∧ (Fld Z h e2 "java/util/TreeMap$Entry" "parent" "Ljava/util/TreeMap$Entry;" (.ref e1)) ∧ (Fld Z h e2 "java/util/TreeMap$Entry" "color" "Z" (.int 0)) ∧ (Exa Z h r "java/lang/Long") ∧ (Fld Z h r "java/lang/Long" "value" "J" (.long (y2 + xv)))) := by
  refine own_open n0 (plainFor_of_name pn_7) (fun m => ef_RJJ5 m h1 xk xv ) ?_
  intro p e s m below meth c s₁ A0 Bd hx hby hml hown hnm hZ hh X0 e0 N0 g0
  have hE := own_hd hby E6
  have g101 := jA X0 hx (jA X0 hx (jY X0 hx (show Go p e below s₁ (mkF m 3 #[rv h1, .val (.long xk), .second, .val (.long xv), .second] [(.int (lcmpW xv (1 : Int64)))]) A0 from fun t kt => (show Go p e below s₁ (mkF m 2 #[rv h1, .val (.long xk), .second, .val (.long xv), .second] [(.long (1 : Int64)), (.long xv)]) A0 from fun t kt => (show Go p e below s₁ (mkF m 1 #[rv h1, .val (.long xk), .second, .val (.long xv), .second] [(.long xv)]) A0 from fun t kt => g0 t (by refine XS.lloadN X0.here hx rfl (hE 0 rfl) rfl ?_; exact kt)) t (by refine XS.lconst X0.here hx rfl (hE 1 rfl) ?_; exact kt)) t (by refine XS.lcmp X0.here hx rfl (hE 2 rfl) rfl ?_; exact kt)) (hE 3 rfl) rfl ((if0 _ _).trans (flt (own_lcnlt hc1 : ¬ ((lcmpW xv (1 : Int64)) < (0 : Int32)))).2.1) (pc' := 20) (by decide)) (hE 4 rfl) rfl rfl) (hE 5 rfl) rfl rfl
  obtain ⟨T102, X102, e102, g102⟩ := own_getF X0 hx hZ hown (hw _ (mi 36 rfl)) Via.refl e0 F2_ g101 (hE 6 rfl)
  have g103 := show Go p e below T102 (mkF m 26 #[rv h1, .val (.long xk), .second, .val (.long xv), .second] [(.long xv), (.long tt), (.ref h1)]) A0 from fun t kt => g102 t (by refine XS.lloadN X102.here hx rfl (hE 7 rfl) rfl ?_; exact kt)
  obtain ⟨_, L104, T104, ⟨rfl, M104, e104⟩, X104, st104⟩ := own_callS X102 hx hZ hown (hw _ (mi 43 rfl)) (wd14 hw) (rm_adx hw tt xv h0 n0 O0 (ht0) (own_ge1 hc1) (hs0)) g103 e102 [(.ref h1)] rfl (lenOf pd_12 rfl) (hE 8 rfl) hml.symm 1 rfl (by decide)
  have N104 := Fr.app N0 M104
  let lo106 : Array Slot := #[rv h1, .val (.long xk), .second, .val (.long xv), .second]
  obtain ⟨T105, h105, X105, e105, W105, st105⟩ := putF X104 hx hZ hown (host := "") (Or.inl (hw _ (mi 36 rfl))) Via.refl e104 F2_ E0_ (Or.inl (hw _ (mi 37 rfl))) (hw _ (mi 2 rfl)) (ty := .long) (by decide) rfl rfl (g := (mkF m 29 lo106 [(.long (tt + xv)), (.ref h1)])) rfl rfl (hE 9 rfl)
  have O107 := O0.wr W105 G3_
  have y108 : Fld Z h105 h1 "com/example/fetch_from_near/fetchfromnear/Histogram" "total" "J" (.long (tt + xv)) := F2_.same W105
  have N105 := Fr.snoc X105 N104 G3_
  have g109 : Go p e below T105 (mkF m 32 lo106 []) A0 := fun t kont => st104 t (st105 t kont)
  have g110 := jA X105 hx g109 (hE 10 rfl) rfl rfl
  have y111 := (F1_.other W105 (Or.inr (slot_ne (Or.inr (hw _ (mi 30 rfl))) (Or.inl (hw _ (mi 37 rfl))) (by decide) (t := (.object "java/util/TreeMap")) (t' := .long) (by decide) (by decide))))
  obtain ⟨T112, X112, e112, g112⟩ := own_getF X105 hx hZ hown (hw _ (mi 29 rfl)) Via.refl e105 y111 g110 (hE 11 rfl)
  have g113 := show Go p e below T112 (mkF m 37 #[rv h1, .val (.long xk), .second, .val (.long xv), .second] [(.long xk), (.ref t1)]) A0 from fun t kt => g112 t (by refine XS.lloadN X112.here hx rfl (hE 12 rfl) rfl ?_; exact kt)
  obtain ⟨_, L114, T114, ⟨r115, rfl, M114, K114, y116, y117⟩, X114, st114⟩ := own_callS X112 hx hZ hown (hw _ (mi 47 rfl)) (wd15 hw) (rm_lvo hw xk lc kc lcs h105 n0 O107 S8_ ZA9_ hlc) g113 e112 [(.ref t1)] rfl (lenOf pd_13 rfl) (hE 13 rfl) hml.symm 1 rfl (by decide)
  have N114 := Fr.app N105 M114
  have O118 := O107.keep K114 all0
  have g119 := show Go p e below T114 (mkF m 41 #[rv h1, .val (.long xk), .second, .val (.long xv), .second] [(.long xv), (.ref r115), (.ref t1)]) A0 from fun t kt => st114 t (by refine XS.lloadN X114.here hx rfl (hE 14 rfl) rfl ?_; exact kt)
  obtain ⟨_, L120, T120, ⟨r121, rfl, M120, K120, y122, y123⟩, X120, st120⟩ := own_callS X114 hx hZ hown (hw _ (mi 47 rfl)) (wd15 hw) (rm_lvo hw xv lc kc lcs T114.heap n0 O118 S8_ ZA9_ hlc) g119 rfl [(.ref r115), (.ref t1)] rfl (lenOf pd_13 rfl) (hE 15 rfl) hml.symm 2 rfl (by decide)
  have N120 := Fr.app N114 M120
  have O124 := O118.keep K120 all0
  obtain ⟨a125, cK125, MK125, SL125, Fn125, g125⟩ := own_site X120 hx hZ Bd.named (hw _ (mi 55 rfl)) rfl (by decide +kernel) (hw _ (mi 284 rfl)) rfl rfl (by decide +kernel) st120 (hE 16 rfl) hml.symm 3 rfl (by decide)
  have y127 := (((E11_.wr W105).keep K114).keep K120)
  have y128 := (((E0_.wr W105).keep K114).keep K120)
  have y129 := (((F12_.other W105 (Or.inl (ne_exa y127 y128 (by decide)))).keep K114 nin0).keep K120 nin0)
  have y130 := (((F13_.other W105 (Or.inl (ne_exa y127 y128 (by decide)))).keep K114 nin0).keep K120 nin0)
  have y131 := (((F14_.other W105 (Or.inl (ne_exa y127 y128 (by decide)))).keep K114 nin0).keep K120 nin0)
  have y132 := (((F15_.other W105 (Or.inl (ne_exa y127 y128 (by decide)))).keep K114 nin0).keep K120 nin0)
  have y133 := (((F16_.other W105 (Or.inl (ne_exa y127 y128 (by decide)))).keep K114 nin0).keep K120 nin0)
  have y134 := (((E17_.wr W105).keep K114).keep K120)
  have y135 := (((F18_.other W105 (Or.inl (ne_exa y134 y128 (by decide)))).keep K114 nin0).keep K120 nin0)
  have y136 := (((F19_.other W105 (Or.inl (ne_exa y134 y128 (by decide)))).keep K114 nin0).keep K120 nin0)
  have y137 := (((F20_.other W105 (Or.inl (ne_exa y134 y128 (by decide)))).keep K114 nin0).keep K120 nin0)
  have y138 := (((F21_.other W105 (Or.inl (ne_exa y134 y128 (by decide)))).keep K114 nin0).keep K120 nin0)
  have y139 := (((F22_.other W105 (Or.inl (ne_exa y134 y128 (by decide)))).keep K114 nin0).keep K120 nin0)
  have y140 := (((F23_.other W105 (Or.inl (ne_exa y134 y128 (by decide)))).keep K114 nin0).keep K120 nin0)
  have y141 := (((E24_.wr W105).keep K114).keep K120)
  have y142 := (((F25_.other W105 (Or.inl (ne_exa y141 y128 (by decide)))).keep K114 nin0).keep K120 nin0)
  have y143 := (((F26_.other W105 (Or.inl (ne_exa y141 y128 (by decide)))).keep K114 nin0).keep K120 nin0)
  have y144 := (((F27_.other W105 (Or.inl (ne_exa y141 y128 (by decide)))).keep K114 nin0).keep K120 nin0)
  have y145 := (((F28_.other W105 (Or.inl (ne_exa y141 y128 (by decide)))).keep K114 nin0).keep K120 nin0)
  have y146 := (((F29_.other W105 (Or.inl (ne_exa y141 y128 (by decide)))).keep K114 nin0).keep K120 nin0)
  have y147 := (((F30_.other W105 (Or.inl (ne_exa y141 y128 (by decide)))).keep K114 nin0).keep K120 nin0)
  have y148 := (((E31_.wr W105).keep K114).keep K120)
  have y149 := (((F32_.other W105 (Or.inl (ne_exa y148 y128 (by decide)))).keep K114 nin0).keep K120 nin0)
  have y150 := (((E35_.wr W105).keep K114).keep K120)
  have y151 := (((F36_.other W105 (Or.inl (ne_exa y150 y128 (by decide)))).keep K114 nin0).keep K120 nin0)
  have y152 := (((E37_.wr W105).keep K114).keep K120)
  have y153 := (((F38_.other W105 (Or.inl (ne_exa y152 y128 (by decide)))).keep K114 nin0).keep K120 nin0)
  have y154 := (y116.keep K120)
  have y155 := (y117.keep K120 nin0)
  obtain ⟨_, L126, T126, ⟨r156, rfl, M126, K126, y157, y158, y159, y160, y161, y162, y163, y164, y165⟩, X126, st126⟩ := own_callV X120 hx hZ hown (hw _ (mi 58 rfl)) (wd16 hw) (notFace_of_selects (args := #[]) (mvT hZ (hw _ (mi 61 rfl)))) y127 (rm_mer2L hw t1 e1 k1 v1 sz mc x1 r115 r121 xk xv a125 cK125 lc kc lcs e2 k2 v2 x2 y2 T120.heap n0 O124 y127 y129 y130 y131 y132 y133 y134 y135 y136 y137 y138 y139 y140 y141 y142 y143 y144 y145 y146 y147 y148 y149 y150 y151 y152 y153 y154 y155 y122 y123 G4_ G39_ G40_ NE41_ MK125 SL125 Fn125 S8_ ZA9_ hlc hlt heq) g125 rfl [] rfl (lenOf pd_14 rfl) (hE 17 rfl) hml.symm 0 rfl (by decide)
  have N126 := Fr.app N120 M126
  have O166 := O124.keep K126 (allS G40_ all0)
  have g167 := jo X126 hx st126 (hE 18 rfl) rfl rfl
  have K168 : Keep h0 T126.heap [h1, e2] := (((((Keep.refl h0 [h1, e2]).wr W105 (Or.inl (mi 0 rfl))).trans K114 (fun x hx => nomatch hx)).trans K120 (fun x hx => nomatch hx)).trans K126 (allS (P := fun x => x ∈ [h1, e2] ∨ h0.size ≤ x) (Or.inl (mi 1 rfl)) all0))
  have y169 := (y128.keep K126)
  have y170 := (((y111.keep K114 nin0).keep K120 nin0).keep K126 (ninS (ne_exa y169 y157 (by decide)) nin0))
  have y171 := (((y108.keep K114 nin0).keep K120 nin0).keep K126 (ninS (ne_exa y169 y157 (by decide)) nin0))
  refine own_leave X126 Bd (none) (fun _ => rfl) g167 (fun fs hr => X126.returnOut hx Bd.returns (hE 19 rfl) hr) (by decide) (by decide) ?_
  exact ⟨r156, rfl, N126, K168, y169, y170, y171, y157, y158, y159, y160, y161, y162, y163, y164, y165⟩
theorem rm_ad2R (hw : HW a0 Z) (h1 t1 : Addr) (tt : Int64) (sz mc : Int32) (xk xv : Int64) (lc : Addr) (kc : ClassId) (lcs : List Value) (e1 k1 v1 : Addr) (x1 y1 : Int64) (e2 k2 v2 : Addr) (x2 y2 : Int64) (h0 : Heap) (n0 : Nat) (O0 : Old Z n0 h0) (E0_ : Exa Z h0 h1 "com/example/fetch_from_near/fetchfromnear/Histogram") (F1_ : Fld Z h0 h1 "com/example/fetch_from_near/fetchfromnear/Histogram" "counts" "Ljava/util/TreeMap;" (.ref t1)) (F2_ : Fld Z h0 h1 "com/example/fetch_from_near/fetchfromnear/Histogram" "total" "J" (.long tt)) (G3_ : n0 ≤ h1) (G4_ : n0 ≤ t1) (hc1 : ¬ (xv < (1 : Int64))) (ht0 : ¬ (tt < (0 : Int64))) (hs0 : ¬ ((tt + xv) < (0 : Int64))) (S8_ : Sta Z Z.heap "java/lang/Long$LongCache" "cache" "[Ljava/lang/Long;" (.ref lc)) (ZA9_ : Arv Z Z.heap lc kc (.object "java/lang/Long") (256 : Int32) lcs .null) (hlc : ∀ i, i < 256 → ∃ a, lcs.getD i .null = .ref a ∧ Exa Z Z.heap a "java/lang/Long" ∧ Fld Z Z.heap a "java/lang/Long" "value" "J" (.long (Int64.ofInt ((i : Int) - 128)))) (E11_ : Exa Z h0 t1 "java/util/TreeMap") (F12_ : Fld Z h0 t1 "java/util/TreeMap" "comparator" "Ljava/util/Comparator;" .null) (F13_ : Fld Z h0 t1 "java/util/TreeMap" "root" "Ljava/util/TreeMap$Entry;" (.ref e1)) (F14_ : Fld Z h0 t1 "java/util/TreeMap" "size" "I" (.int sz)) (F15_ : Fld Z h0 t1 "java/util/TreeMap" "modCount" "I" (.int mc)) (F16_ : Fld Z h0 t1 "java/util/TreeMap" "entrySet" "Ljava/util/TreeMap$EntrySet;" .null) (E17_ : Exa Z h0 e1 "java/util/TreeMap$Entry") (F18_ : Fld Z h0 e1 "java/util/TreeMap$Entry" "key" "Ljava/lang/Object;" (.ref k1)) (F19_ : Fld Z h0 e1 "java/util/TreeMap$Entry" "value" "Ljava/lang/Object;" (.ref v1)) (F20_ : Fld Z h0 e1 "java/util/TreeMap$Entry" "left" "Ljava/util/TreeMap$Entry;" .null) (F21_ : Fld Z h0 e1 "java/util/TreeMap$Entry" "right" "Ljava/util/TreeMap$Entry;" (.ref e2)) (F22_ : Fld Z h0 e1 "java/util/TreeMap$Entry" "parent" "Ljava/util/TreeMap$Entry;" .null) (F23_ : Fld Z h0 e1 "java/util/TreeMap$Entry" "color" "Z" (.int 1)) (E24_ : Exa Z h0 e2 "java/util/TreeMap$Entry") (F25_ : Fld Z h0 e2 "java/util/TreeMap$Entry" "key" "Ljava/lang/Object;" (.ref k2)) (F26_ : Fld Z h0 e2 "java/util/TreeMap$Entry" "value" "Ljava/lang/Object;" (.ref v2)) (F27_ : Fld Z h0 e2 "java/util/TreeMap$Entry" "left" "Ljava/util/TreeMap$Entry;" .null) (F28_ : Fld Z h0 e2 "java/util/TreeMap$Entry" "right" "Ljava/util/TreeMap$Entry;" .null) (F29_ : Fld Z h0 e2 "java/util/TreeMap$Entry" "parent" "Ljava/util/TreeMap$Entry;" (.ref e1)) (F30_ : Fld Z h0 e2 "java/util/TreeMap$Entry" "color" "Z" (.int 0)) (E31_ : Exa Z h0 k1 "java/lang/Long") (F32_ : Fld Z h0 k1 "java/lang/Long" "value" "J" (.long x1)) (E33_ : Exa Z h0 v1 "java/lang/Long") (F34_ : Fld Z h0 v1 "java/lang/Long" "value" "J" (.long y1)) (E35_ : Exa Z h0 k2 "java/lang/Long") (F36_ : Fld Z h0 k2 "java/lang/Long" "value" "J" (.long x2)) (E37_ : Exa Z h0 v2 "java/lang/Long") (F38_ : Fld Z h0 v2 "java/lang/Long" "value" "J" (.long y2)) (G39_ : n0 ≤ e1) (G40_ : n0 ≤ e2) (NE41_ : ¬ (e1 = e2)) (hlt : x1 < xk) (heq : xk = x2) :
    own_M l mN22 (Jvm.Cond.code mN22 prog_10_method_3_code 5 none) [] (⟨7, 3, 3, 3075⟩ : Room) #[(.ref h1), (.long xk), (.long xv)] Z h0 (fun v h L => ∃ (r : Addr), v = none ∧ Fr n0 L ∧ Keep h0 h [h1, e2] ∧ (Exa Z h h1 "com/example/fetch_from_near/fetchfromnear/Histogram") ∧ (Fld Z h h1 "com/example/fetch_from_near/fetchfromnear/Histogram" "counts" "Ljava/util/TreeMap;" (.ref t1)) ∧ (Fld Z h h1 "com/example/fetch_from_near/fetchfromnear/Histogram" "total" "J" (.long (tt + xv))) ∧ (Exa Z h e2 "java/util/TreeMap$Entry") ∧ (Fld Z h e2 "java/util/TreeMap$Entry" "key" "Ljava/lang/Object;" (.ref k2)) ∧ (Fld Z h e2 "java/util/TreeMap$Entry" "value" "Ljava/lang/Object;" (.ref r)) ∧ (Fld Z h e2 "java/util/TreeMap$Entry" "left" "Ljava/util/TreeMap$Entry;" .null) ∧ (Fld Z h e2 "java/util/TreeMap$Entry" "right" "Ljava/util/TreeMap$Entry;" .null) ∧ (Fld Z h e2 "java/util/TreeMap$Entry" "parent" "Ljava/util/TreeMap$Entry;" (.ref e1)) ∧ (Fld Z h e2 "java/util/TreeMap$Entry" "color" "Z" (.int 0)) ∧ (Exa Z h r "java/lang/Long") ∧ (Fld Z h r "java/lang/Long" "value" "J" (.long (y2 + xv)))) := by
  refine own_open n0 (plainFor_of_name pn_7) (fun m => ef_RJJ5 m h1 xk xv ) ?_
  intro p e s m below meth c s₁ A0 Bd hx hby hml hown hnm hZ hh X0 e0 N0 g0
  have hE := own_hd hby E6
  have g101 := jA X0 hx (jA X0 hx (jY X0 hx (show Go p e below s₁ (mkF m 3 #[rv h1, .val (.long xk), .second, .val (.long xv), .second] [(.int (lcmpW xv (1 : Int64)))]) A0 from fun t kt => (show Go p e below s₁ (mkF m 2 #[rv h1, .val (.long xk), .second, .val (.long xv), .second] [(.long (1 : Int64)), (.long xv)]) A0 from fun t kt => (show Go p e below s₁ (mkF m 1 #[rv h1, .val (.long xk), .second, .val (.long xv), .second] [(.long xv)]) A0 from fun t kt => g0 t (by refine XS.lloadN X0.here hx rfl (hE 0 rfl) rfl ?_; exact kt)) t (by refine XS.lconst X0.here hx rfl (hE 1 rfl) ?_; exact kt)) t (by refine XS.lcmp X0.here hx rfl (hE 2 rfl) rfl ?_; exact kt)) (hE 3 rfl) rfl ((if0 _ _).trans (flt (own_lcnlt hc1 : ¬ ((lcmpW xv (1 : Int64)) < (0 : Int32)))).2.1) (pc' := 20) (by decide)) (hE 4 rfl) rfl rfl) (hE 5 rfl) rfl rfl
  obtain ⟨T102, X102, e102, g102⟩ := own_getF X0 hx hZ hown (hw _ (mi 36 rfl)) Via.refl e0 F2_ g101 (hE 6 rfl)
  have g103 := show Go p e below T102 (mkF m 26 #[rv h1, .val (.long xk), .second, .val (.long xv), .second] [(.long xv), (.long tt), (.ref h1)]) A0 from fun t kt => g102 t (by refine XS.lloadN X102.here hx rfl (hE 7 rfl) rfl ?_; exact kt)
  obtain ⟨_, L104, T104, ⟨rfl, M104, e104⟩, X104, st104⟩ := own_callS X102 hx hZ hown (hw _ (mi 43 rfl)) (wd14 hw) (rm_adx hw tt xv h0 n0 O0 (ht0) (own_ge1 hc1) (hs0)) g103 e102 [(.ref h1)] rfl (lenOf pd_12 rfl) (hE 8 rfl) hml.symm 1 rfl (by decide)
  have N104 := Fr.app N0 M104
  let lo106 : Array Slot := #[rv h1, .val (.long xk), .second, .val (.long xv), .second]
  obtain ⟨T105, h105, X105, e105, W105, st105⟩ := putF X104 hx hZ hown (host := "") (Or.inl (hw _ (mi 36 rfl))) Via.refl e104 F2_ E0_ (Or.inl (hw _ (mi 37 rfl))) (hw _ (mi 2 rfl)) (ty := .long) (by decide) rfl rfl (g := (mkF m 29 lo106 [(.long (tt + xv)), (.ref h1)])) rfl rfl (hE 9 rfl)
  have O107 := O0.wr W105 G3_
  have y108 : Fld Z h105 h1 "com/example/fetch_from_near/fetchfromnear/Histogram" "total" "J" (.long (tt + xv)) := F2_.same W105
  have N105 := Fr.snoc X105 N104 G3_
  have g109 : Go p e below T105 (mkF m 32 lo106 []) A0 := fun t kont => st104 t (st105 t kont)
  have g110 := jA X105 hx g109 (hE 10 rfl) rfl rfl
  have y111 := (F1_.other W105 (Or.inr (slot_ne (Or.inr (hw _ (mi 30 rfl))) (Or.inl (hw _ (mi 37 rfl))) (by decide) (t := (.object "java/util/TreeMap")) (t' := .long) (by decide) (by decide))))
  obtain ⟨T112, X112, e112, g112⟩ := own_getF X105 hx hZ hown (hw _ (mi 29 rfl)) Via.refl e105 y111 g110 (hE 11 rfl)
  have g113 := show Go p e below T112 (mkF m 37 #[rv h1, .val (.long xk), .second, .val (.long xv), .second] [(.long xk), (.ref t1)]) A0 from fun t kt => g112 t (by refine XS.lloadN X112.here hx rfl (hE 12 rfl) rfl ?_; exact kt)
  obtain ⟨_, L114, T114, ⟨r115, rfl, M114, K114, y116, y117⟩, X114, st114⟩ := own_callS X112 hx hZ hown (hw _ (mi 47 rfl)) (wd15 hw) (rm_lvo hw xk lc kc lcs h105 n0 O107 S8_ ZA9_ hlc) g113 e112 [(.ref t1)] rfl (lenOf pd_13 rfl) (hE 13 rfl) hml.symm 1 rfl (by decide)
  have N114 := Fr.app N105 M114
  have O118 := O107.keep K114 all0
  have g119 := show Go p e below T114 (mkF m 41 #[rv h1, .val (.long xk), .second, .val (.long xv), .second] [(.long xv), (.ref r115), (.ref t1)]) A0 from fun t kt => st114 t (by refine XS.lloadN X114.here hx rfl (hE 14 rfl) rfl ?_; exact kt)
  obtain ⟨_, L120, T120, ⟨r121, rfl, M120, K120, y122, y123⟩, X120, st120⟩ := own_callS X114 hx hZ hown (hw _ (mi 47 rfl)) (wd15 hw) (rm_lvo hw xv lc kc lcs T114.heap n0 O118 S8_ ZA9_ hlc) g119 rfl [(.ref r115), (.ref t1)] rfl (lenOf pd_13 rfl) (hE 15 rfl) hml.symm 2 rfl (by decide)
  have N120 := Fr.app N114 M120
  have O124 := O118.keep K120 all0
  obtain ⟨a125, cK125, MK125, SL125, Fn125, g125⟩ := own_site X120 hx hZ Bd.named (hw _ (mi 55 rfl)) rfl (by decide +kernel) (hw _ (mi 284 rfl)) rfl rfl (by decide +kernel) st120 (hE 16 rfl) hml.symm 3 rfl (by decide)
  have y127 := (((E11_.wr W105).keep K114).keep K120)
  have y128 := (((E0_.wr W105).keep K114).keep K120)
  have y129 := (((F12_.other W105 (Or.inl (ne_exa y127 y128 (by decide)))).keep K114 nin0).keep K120 nin0)
  have y130 := (((F13_.other W105 (Or.inl (ne_exa y127 y128 (by decide)))).keep K114 nin0).keep K120 nin0)
  have y131 := (((F14_.other W105 (Or.inl (ne_exa y127 y128 (by decide)))).keep K114 nin0).keep K120 nin0)
  have y132 := (((F15_.other W105 (Or.inl (ne_exa y127 y128 (by decide)))).keep K114 nin0).keep K120 nin0)
  have y133 := (((F16_.other W105 (Or.inl (ne_exa y127 y128 (by decide)))).keep K114 nin0).keep K120 nin0)
  have y134 := (((E17_.wr W105).keep K114).keep K120)
  have y135 := (((F18_.other W105 (Or.inl (ne_exa y134 y128 (by decide)))).keep K114 nin0).keep K120 nin0)
  have y136 := (((F19_.other W105 (Or.inl (ne_exa y134 y128 (by decide)))).keep K114 nin0).keep K120 nin0)
  have y137 := (((F20_.other W105 (Or.inl (ne_exa y134 y128 (by decide)))).keep K114 nin0).keep K120 nin0)
  have y138 := (((F21_.other W105 (Or.inl (ne_exa y134 y128 (by decide)))).keep K114 nin0).keep K120 nin0)
  have y139 := (((F22_.other W105 (Or.inl (ne_exa y134 y128 (by decide)))).keep K114 nin0).keep K120 nin0)
  have y140 := (((F23_.other W105 (Or.inl (ne_exa y134 y128 (by decide)))).keep K114 nin0).keep K120 nin0)
  have y141 := (((E24_.wr W105).keep K114).keep K120)
  have y142 := (((F25_.other W105 (Or.inl (ne_exa y141 y128 (by decide)))).keep K114 nin0).keep K120 nin0)
  have y143 := (((F26_.other W105 (Or.inl (ne_exa y141 y128 (by decide)))).keep K114 nin0).keep K120 nin0)
  have y144 := (((F27_.other W105 (Or.inl (ne_exa y141 y128 (by decide)))).keep K114 nin0).keep K120 nin0)
  have y145 := (((F28_.other W105 (Or.inl (ne_exa y141 y128 (by decide)))).keep K114 nin0).keep K120 nin0)
  have y146 := (((F29_.other W105 (Or.inl (ne_exa y141 y128 (by decide)))).keep K114 nin0).keep K120 nin0)
  have y147 := (((F30_.other W105 (Or.inl (ne_exa y141 y128 (by decide)))).keep K114 nin0).keep K120 nin0)
  have y148 := (((E31_.wr W105).keep K114).keep K120)
  have y149 := (((F32_.other W105 (Or.inl (ne_exa y148 y128 (by decide)))).keep K114 nin0).keep K120 nin0)
  have y150 := (((E35_.wr W105).keep K114).keep K120)
  have y151 := (((F36_.other W105 (Or.inl (ne_exa y150 y128 (by decide)))).keep K114 nin0).keep K120 nin0)
  have y152 := (((E37_.wr W105).keep K114).keep K120)
  have y153 := (((F38_.other W105 (Or.inl (ne_exa y152 y128 (by decide)))).keep K114 nin0).keep K120 nin0)
  have y154 := (y116.keep K120)
  have y155 := (y117.keep K120 nin0)
  obtain ⟨_, L126, T126, ⟨r156, rfl, M126, K126, y157, y158, y159, y160, y161, y162, y163, y164, y165⟩, X126, st126⟩ := own_callV X120 hx hZ hown (hw _ (mi 58 rfl)) (wd16 hw) (notFace_of_selects (args := #[]) (mvT hZ (hw _ (mi 61 rfl)))) y127 (rm_mer2R hw t1 e1 k1 v1 sz mc x1 r115 r121 xk xv a125 cK125 lc kc lcs e2 k2 v2 x2 y2 T120.heap n0 O124 y127 y129 y130 y131 y132 y133 y134 y135 y136 y137 y138 y139 y140 y141 y142 y143 y144 y145 y146 y147 y148 y149 y150 y151 y152 y153 y154 y155 y122 y123 G4_ G39_ G40_ NE41_ MK125 SL125 Fn125 S8_ ZA9_ hlc hlt heq) g125 rfl [] rfl (lenOf pd_14 rfl) (hE 17 rfl) hml.symm 0 rfl (by decide)
  have N126 := Fr.app N120 M126
  have O166 := O124.keep K126 (allS G40_ all0)
  have g167 := jo X126 hx st126 (hE 18 rfl) rfl rfl
  have K168 : Keep h0 T126.heap [h1, e2] := (((((Keep.refl h0 [h1, e2]).wr W105 (Or.inl (mi 0 rfl))).trans K114 (fun x hx => nomatch hx)).trans K120 (fun x hx => nomatch hx)).trans K126 (allS (P := fun x => x ∈ [h1, e2] ∨ h0.size ≤ x) (Or.inl (mi 1 rfl)) all0))
  have y169 := (y128.keep K126)
  have y170 := (((y111.keep K114 nin0).keep K120 nin0).keep K126 (ninS (ne_exa y169 y157 (by decide)) nin0))
  have y171 := (((y108.keep K114 nin0).keep K120 nin0).keep K126 (ninS (ne_exa y169 y157 (by decide)) nin0))
  refine own_leave X126 Bd (none) (fun _ => rfl) g167 (fun fs hr => X126.returnOut hx Bd.returns (hE 19 rfl) hr) (by decide) (by decide) ?_
  exact ⟨r156, rfl, N126, K168, y169, y170, y171, y157, y158, y159, y160, y161, y162, y163, y164, y165⟩
theorem pd_15 : parseMethodDescriptor "(JJ)V" = some ⟨[.long, .long], none⟩ := by decide +kernel
theorem wd17 (hw : HW a0 Z) : own_wdV a0 Z "com/example/fetch_from_near/fetchfromnear/Histogram" mN22 mN22 prog_10_method_3_code 5 none := ⟨hw _ (mi 39 rfl), hw _ (mi 41 rfl), hw _ (mi 40 rfl), hw _ (mi 3 rfl), hw _ (mi 42 rfl), by decide⟩
theorem rm_adJ (hw : HW a0 Z) (h1 t1 : Addr) (tt : Int64) (sz mc : Int32) (xk : Int64) (lc : Addr) (kc : ClassId) (lcs : List Value) (h0 : Heap) (n0 : Nat) (O0 : Old Z n0 h0) (E0_ : Exa Z h0 h1 "com/example/fetch_from_near/fetchfromnear/Histogram") (F1_ : Fld Z h0 h1 "com/example/fetch_from_near/fetchfromnear/Histogram" "counts" "Ljava/util/TreeMap;" (.ref t1)) (F2_ : Fld Z h0 h1 "com/example/fetch_from_near/fetchfromnear/Histogram" "total" "J" (.long tt)) (E3_ : Exa Z h0 t1 "java/util/TreeMap") (F4_ : Fld Z h0 t1 "java/util/TreeMap" "comparator" "Ljava/util/Comparator;" .null) (F5_ : Fld Z h0 t1 "java/util/TreeMap" "root" "Ljava/util/TreeMap$Entry;" .null) (F6_ : Fld Z h0 t1 "java/util/TreeMap" "size" "I" (.int sz)) (F7_ : Fld Z h0 t1 "java/util/TreeMap" "modCount" "I" (.int mc)) (F8_ : Fld Z h0 t1 "java/util/TreeMap" "entrySet" "Ljava/util/TreeMap$EntrySet;" .null) (G9_ : n0 ≤ h1) (G10_ : n0 ≤ t1) (ht0 : ¬ (tt < (0 : Int64))) (hs0 : ¬ ((tt + (1 : Int64)) < (0 : Int64))) (S13_ : Sta Z Z.heap "java/lang/Long$LongCache" "cache" "[Ljava/lang/Long;" (.ref lc)) (ZA14_ : Arv Z Z.heap lc kc (.object "java/lang/Long") (256 : Int32) lcs .null) (hlc : ∀ i, i < 256 → ∃ a, lcs.getD i .null = .ref a ∧ Exa Z Z.heap a "java/lang/Long" ∧ Fld Z Z.heap a "java/lang/Long" "value" "J" (.long (Int64.ofInt ((i : Int) - 128)))) :
    own_M l mN23 (Jvm.Cond.code mN23 prog_10_method_2_code 3 none) [] (⟨7, 3, 8, 3091⟩ : Room) #[(.ref h1), (.long xk)] Z h0 (fun v h L => ∃ (e1 : Addr), ∃ (ka : Addr), ∃ (va : Addr), v = none ∧ Fr n0 L ∧ Keep h0 h [h1, t1] ∧ (Exa Z h h1 "com/example/fetch_from_near/fetchfromnear/Histogram") ∧ (Fld Z h h1 "com/example/fetch_from_near/fetchfromnear/Histogram" "counts" "Ljava/util/TreeMap;" (.ref t1)) ∧ (Fld Z h h1 "com/example/fetch_from_near/fetchfromnear/Histogram" "total" "J" (.long (tt + (1 : Int64)))) ∧ h0.size ≤ e1 ∧ (Exa Z h t1 "java/util/TreeMap") ∧ (Fld Z h t1 "java/util/TreeMap" "comparator" "Ljava/util/Comparator;" .null) ∧ (Fld Z h t1 "java/util/TreeMap" "root" "Ljava/util/TreeMap$Entry;" (.ref e1)) ∧ (Fld Z h t1 "java/util/TreeMap" "size" "I" (.int 1)) ∧ (Fld Z h t1 "java/util/TreeMap" "modCount" "I" (.int (mc + (1 : Int32)))) ∧ (Fld Z h t1 "java/util/TreeMap" "entrySet" "Ljava/util/TreeMap$EntrySet;" .null) ∧ (Exa Z h e1 "java/util/TreeMap$Entry") ∧ (Fld Z h e1 "java/util/TreeMap$Entry" "key" "Ljava/lang/Object;" (.ref ka)) ∧ (Fld Z h e1 "java/util/TreeMap$Entry" "value" "Ljava/lang/Object;" (.ref va)) ∧ (Fld Z h e1 "java/util/TreeMap$Entry" "left" "Ljava/util/TreeMap$Entry;" .null) ∧ (Fld Z h e1 "java/util/TreeMap$Entry" "right" "Ljava/util/TreeMap$Entry;" .null) ∧ (Fld Z h e1 "java/util/TreeMap$Entry" "parent" "Ljava/util/TreeMap$Entry;" .null) ∧ (Fld Z h e1 "java/util/TreeMap$Entry" "color" "Z" (.int 1)) ∧ (Exa Z h ka "java/lang/Long") ∧ (Fld Z h ka "java/lang/Long" "value" "J" (.long xk)) ∧ (Exa Z h va "java/lang/Long") ∧ (Fld Z h va "java/lang/Long" "value" "J" (.long (1 : Int64)))) := by
  refine own_open n0 (plainFor_of_name pn_7) (fun m => ef_RJ3 m h1 xk ) ?_
  intro p e s m below meth c s₁ A0 Bd hx hby hml hown hnm hZ hh X0 e0 N0 g0
  have hE := own_hd hby E31
  have g101 := show Go p e below s₁ (mkF m 3 #[rv h1, .val (.long xk), .second] [(.long (1 : Int64)), (.long xk), (.ref h1)]) A0 from fun t kt => (show Go p e below s₁ (mkF m 2 #[rv h1, .val (.long xk), .second] [(.long xk), (.ref h1)]) A0 from fun t kt => (jA X0 hx g0 (hE 0 rfl) rfl rfl) t (by refine XS.lloadN X0.here hx rfl (hE 1 rfl) rfl ?_; exact kt)) t (by refine XS.lconst X0.here hx rfl (hE 2 rfl) ?_; exact kt)
  obtain ⟨_, L102, T102, ⟨r103, r104, r105, rfl, M102, K102, y106, y107, y108, y109, y110, y111, y112, y113, y114, y115, y116, y117, y118, y119, y120, y121, y122, y123, y124, y125, y126⟩, X102, st102⟩ := own_callV X0 hx hZ hown (hw _ (mi 227 rfl)) (wd17 hw) (notFace_of_selects (args := #[]) (mvT hZ (hw _ (mi 41 rfl)))) E0_ (rm_ad0 hw h1 t1 tt sz mc xk (1 : Int64) lc kc lcs h0 n0 O0 E0_ F1_ F2_ G9_ G10_ (by decide) (ht0) (hs0) S13_ ZA14_ hlc E3_ F4_ F5_ F6_ F7_ F8_) g101 e0 [] rfl (lenOf pd_15 rfl) (hE 3 rfl) hml.symm 0 rfl (by decide)
  have N102 := Fr.app N0 M102
  have O127 := O0.keep K102 (allS G9_ (allS G10_ all0))
  have K128 : Keep h0 T102.heap [h1, t1] := ((Keep.refl h0 [h1, t1]).trans K102 (allS (P := fun x => x ∈ [h1, t1] ∨ h0.size ≤ x) (Or.inl (mi 0 rfl)) (allS (P := fun x => x ∈ [h1, t1] ∨ h0.size ≤ x) (Or.inl (mi 1 rfl)) all0)))
  refine own_leave X102 Bd (none) (fun _ => rfl) st102 (fun fs hr => X102.returnOut hx Bd.returns (hE 4 rfl) hr) (by decide) (by decide) ?_
  exact ⟨r103, r104, r105, rfl, N102, K128, y106, y107, y108, y109, y110, y111, y112, y113, y114, y115, y116, y117, y118, y119, y120, y121, y122, y123, y124, y125, y126⟩
theorem wd18 (hw : HW a0 Z) : own_wdI a0 Z mN3 jdk_91_method_1_code 1 := ⟨hw _ (mi 164 rfl), hw _ (mi 167 rfl), hw _ (mi 168 rfl), by decide, rfl⟩
theorem pn_9 : plainName "java/util/TreeMap$EntrySet" = true := by first | (simp [plainName, overriddenIn]; done) | decide +kernel
theorem rm_esI (hw : HW a0 Z) (s1 t1 : Addr) (h0 : Heap) (n0 : Nat) (O0 : Old Z n0 h0) (E0_ : Exa Z h0 s1 "java/util/TreeMap$EntrySet") (F1_ : Fld Z h0 s1 "java/util/TreeMap$EntrySet" "this$0" "Ljava/util/TreeMap;" .null) (G2_ : n0 ≤ s1) :
    own_M l mN24 (Jvm.Cond.code mN24 jdk_2738_method_1_code 2 none) [] (⟨3, 0, 0, 36⟩ : Room) #[(.ref s1), (.ref t1)] Z h0 (fun v h L => v = none ∧ Fr n0 L ∧ Keep h0 h [s1] ∧ (Exa Z h s1 "java/util/TreeMap$EntrySet") ∧ (Fld Z h s1 "java/util/TreeMap$EntrySet" "this$0" "Ljava/util/TreeMap;" (.ref t1))) := by
  refine own_open n0 (plainFor_of_name pn_9) (fun m => ef_RR2 m s1 t1 ) ?_
  intro p e s m below meth c s₁ A0 Bd hx hby hml hown hnm hZ hh X0 e0 N0 g0
  have hE := own_hd hby E23
  have g101 := jA X0 hx (jA X0 hx g0 (hE 0 rfl) rfl rfl) (hE 1 rfl) rfl rfl
  obtain ⟨T102, h102, X102, e102, W102, st102⟩ := putF X0 hx hZ hown (host := "") (Or.inl (hw _ (mi 161 rfl))) Via.refl e0 F1_ E0_ (Or.inr ⟨(hw _ (mi 162 rfl)), rfl, hnm⟩) (hw _ (mi 155 rfl)) (ty := (.object "java/util/TreeMap")) (by decide) rfl rfl (g := (mkF m 2 #[rv s1, rv t1] [(.ref t1), (.ref s1)])) rfl rfl (hE 2 rfl)
  have O103 := O0.wr W102 G2_
  have y104 : Fld Z h102 s1 "java/util/TreeMap$EntrySet" "this$0" "Ljava/util/TreeMap;" (.ref t1) := F1_.same W102
  have N102 := Fr.snoc X102 N0 G2_
  have g105 : Go p e below T102 (mkF m 5 #[rv s1, rv t1] []) A0 := fun t kont => g101 t (st102 t kont)
  have g106 := jA X102 hx g105 (hE 3 rfl) rfl rfl
  obtain ⟨_, L107, T107, ⟨rfl, M107, e107⟩, X107, st107⟩ := own_callI X102 hx hZ hown (hw _ (mi 163 rfl)) (wd18 hw) (rm_ini3 hw s1 h102 n0 O103 ) g106 e102 [] rfl (lenOf pd_0 rfl) (hE 4 rfl) hml.symm 0 rfl (by decide)
  have N107 := Fr.app N102 M107
  have K108 : Keep h0 h102 [s1] := ((Keep.refl h0 [s1]).wr W102 (Or.inl (mi 0 rfl)))
  have y109 := (E0_.wr W102)
  refine own_leave X107 Bd (none) (fun _ => rfl) st107 (fun fs hr => X107.returnOut hx Bd.returns (hE 5 rfl) hr) (by decide) (by decide) ?_
  rw [e107]
  exact ⟨rfl, N107, K108, y109, y104⟩
theorem pd_16 : parseMethodDescriptor "(Ljava/util/TreeMap;)V" = some ⟨[(.object "java/util/TreeMap")], none⟩ := by decide +kernel
theorem wd19 (hw : HW a0 Z) : own_wdI a0 Z mN24 jdk_2738_method_1_code 2 := ⟨hw _ (mi 158 rfl), hw _ (mi 156 rfl), hw _ (mi 160 rfl), by decide, rfl⟩
theorem ef_R2 (m : MethodId) (x0 : Addr)  : entryFrame m #[(.ref x0)] 2 = mkF m 0 #[.val (.ref x0), .unset] [] := by first | (simp [entryFrame, mkF, argsToLocals, Value.category]; done) | rfl
theorem rm_eset (hw : HW a0 Z) (t1 : Addr) (rt : Value) (sz mc : Int32) (h0 : Heap) (n0 : Nat) (O0 : Old Z n0 h0) (E0_ : Exa Z h0 t1 "java/util/TreeMap") (F1_ : Fld Z h0 t1 "java/util/TreeMap" "comparator" "Ljava/util/Comparator;" .null) (F2_ : Fld Z h0 t1 "java/util/TreeMap" "root" "Ljava/util/TreeMap$Entry;" rt) (F3_ : Fld Z h0 t1 "java/util/TreeMap" "size" "I" (.int sz)) (F4_ : Fld Z h0 t1 "java/util/TreeMap" "modCount" "I" (.int mc)) (F5_ : Fld Z h0 t1 "java/util/TreeMap" "entrySet" "Ljava/util/TreeMap$EntrySet;" .null) (G6_ : n0 ≤ t1) (hrt : rt.isRef = true) :
    own_M l mN25 (Jvm.Cond.code mN25 jdk_2729_method_53_code 2 (some (.object "java/util/Set"))) [] (⟨4, 1, 1, 51⟩ : Room) #[(.ref t1)] Z h0 (fun v h L => ∃ (s2 : Addr), v = some (.ref s2) ∧ Fr n0 L ∧ Keep h0 h [t1] ∧ h0.size ≤ s2 ∧ (Exa Z h s2 "java/util/TreeMap$EntrySet") ∧ (Fld Z h s2 "java/util/TreeMap$EntrySet" "this$0" "Ljava/util/TreeMap;" (.ref t1)) ∧ (Exa Z h t1 "java/util/TreeMap") ∧ (Fld Z h t1 "java/util/TreeMap" "comparator" "Ljava/util/Comparator;" .null) ∧ (Fld Z h t1 "java/util/TreeMap" "root" "Ljava/util/TreeMap$Entry;" rt) ∧ (Fld Z h t1 "java/util/TreeMap" "size" "I" (.int sz)) ∧ (Fld Z h t1 "java/util/TreeMap" "modCount" "I" (.int mc)) ∧ (Fld Z h t1 "java/util/TreeMap" "entrySet" "Ljava/util/TreeMap$EntrySet;" (.ref s2))) := by
  refine own_open n0 (plainFor_of_name pn_6) (fun m => ef_R2 m t1 ) ?_
  intro p e s m below meth c s₁ A0 Bd hx hby hml hown hnm hZ hh X0 e0 N0 g0
  have hE := own_hd hby E22
  have g101 := jA X0 hx g0 (hE 0 rfl) rfl rfl
  obtain ⟨T102, X102, e102, g102⟩ := own_getF X0 hx hZ hown (hw _ (mi 152 rfl)) Via.refl e0 F5_ g101 (hE 1 rfl)
  have g103 := jA X102 hx (show Go p e below T102 (mkF m 13 #[rv t1, .val .null] []) A0 from fun t kt => (jA X102 hx (jT X102 hx g102 (hE 2 rfl) rfl rfl (l' := #[rv t1, .val .null]) rfl) (hE 3 rfl) rfl rfl) t (by refine XS.ifnullYes X102.here hx rfl (pc0 := 6) (pc' := 13) rfl (hE 4 rfl) rfl (by decide) (by decide) ?_; exact kt)) (hE 5 rfl) rfl rfl
  obtain ⟨T104, h104, X104, e104, E104, A104, D104, -, st104⟩ := newO X102 hx hZ hown (hw _ (mi 154 rfl)) (hw _ (mi 155 rfl)) (hw _ (mi 156 rfl)) e102 (g := (mkF m 14 #[rv t1, .val .null] [(.ref t1)])) rfl (hE 6 rfl) (by decide) (by decide)
  obtain ⟨b104, gb104⟩ : ∃ z, z = h0.size := ⟨_, rfl⟩
  rw [← gb104] at A104 D104 st104
  have O105 := O0.ext E104
  have y106 : Fld Z h104 b104 "java/util/TreeMap$EntrySet" "this$0" "Ljava/util/TreeMap;" .null := D104 (Or.inr (hw _ (mi 162 rfl))) (ty := (.object "java/util/TreeMap")) (by decide)
  have g107 : Go p e below T104 (mkF m 17 #[rv t1, .val .null] [(.ref b104), (.ref t1)]) A0 := fun t kont => g103 t (st104 t kont)
  have g108 := jA X104 hx (jd X104 hx g107 (hE 7 rfl) rfl rfl) (hE 8 rfl) rfl rfl
  have ge110 : n0 ≤ b104 := Nat.le_trans (own_old_le O0) (Nat.le_of_eq gb104.symm)
  obtain ⟨_, L109, T109, ⟨rfl, M109, K109, y111, y112⟩, X109, st109⟩ := own_callI X104 hx hZ hown (hw _ (mi 157 rfl)) (wd19 hw) (rm_esI hw b104 t1 h104 n0 O105 A104 y106 ge110) g108 e104 [(.ref b104), (.ref t1)] rfl (lenOf pd_16 rfl) (hE 9 rfl) hml.symm 2 rfl (by decide)
  have N109 := Fr.app N0 M109
  have O113 := O105.keep K109 (allS ge110 all0)
  have g114 := show Go p e below T109 (mkF m 23 #[rv t1, .val .null] [(.ref b104), (.ref t1), (.ref b104)]) A0 from fun t kt => st109 t (by refine XS.dupX1 X109.here hx rfl (hE 10 rfl) rfl rfl rfl ?_; exact kt)
  have y115 := ((E0_.ext E104).keep K109)
  have y116 := ((F5_.ext E104).keep K109 (ninS (Nat.ne_of_lt (Nat.lt_of_lt_of_le E0_.lt (Nat.le_of_eq gb104.symm))) nin0))
  obtain ⟨T117, h117, X117, e117, W117, st117⟩ := putF X109 hx hZ hown (host := "") (Or.inl (hw _ (mi 152 rfl))) Via.refl rfl y116 y115 (Or.inl (hw _ (mi 153 rfl))) (hw _ (mi 11 rfl)) (ty := (.object "java/util/TreeMap$EntrySet")) (by decide) rfl rfl (g := (mkF m 23 #[rv t1, .val .null] [(.ref b104), (.ref t1), (.ref b104)])) rfl rfl (hE 11 rfl)
  have O118 := O113.wr W117 G6_
  have y119 : Fld Z h117 t1 "java/util/TreeMap" "entrySet" "Ljava/util/TreeMap$EntrySet;" (.ref b104) := y116.same W117
  have N117 := Fr.snoc X117 N109 G6_
  have g120 : Go p e below T117 (mkF m 26 #[rv t1, .val .null] [(.ref b104)]) A0 := fun t kont => g114 t (st117 t kont)
  have K121 : Keep h0 h117 [t1] := ((((Keep.refl h0 [t1]).ext E104).trans K109 (allS (P := fun x => x ∈ [t1] ∨ h0.size ≤ x) (Or.inr (Nat.le_of_eq gb104.symm)) all0)).wr W117 (Or.inl (mi 0 rfl)))
  have y122 := (y111.wr W117)
  have y123 := (y112.other W117 (Or.inl (Ne.symm (Nat.ne_of_lt (Nat.lt_of_lt_of_le E0_.lt (Nat.le_of_eq gb104.symm))))))
  have y124 := (y115.wr W117)
  have y125 := (((F1_.ext E104).keep K109 (ninS (Nat.ne_of_lt (Nat.lt_of_lt_of_le E0_.lt (Nat.le_of_eq gb104.symm))) nin0)).other W117 (Or.inr (slot_ne (Or.inr (hw _ (mi 28 rfl))) (Or.inl (hw _ (mi 153 rfl))) (by decide) (t := (.object "java/util/Comparator")) (t' := (.object "java/util/TreeMap$EntrySet")) (by decide) (by decide))))
  have y126 := (((F2_.ext E104).keep K109 (ninS (Nat.ne_of_lt (Nat.lt_of_lt_of_le E0_.lt (Nat.le_of_eq gb104.symm))) nin0)).other W117 (Or.inr (slot_ne (Or.inl (hw _ (mi 68 rfl))) (Or.inl (hw _ (mi 153 rfl))) (by decide) (t := (.object "java/util/TreeMap$Entry")) (t' := (.object "java/util/TreeMap$EntrySet")) (by decide) (by decide))))
  have y127 := (((F3_.ext E104).keep K109 (ninS (Nat.ne_of_lt (Nat.lt_of_lt_of_le E0_.lt (Nat.le_of_eq gb104.symm))) nin0)).other W117 (Or.inr (slot_ne (Or.inl (hw _ (mi 24 rfl))) (Or.inl (hw _ (mi 153 rfl))) (by decide) (t := .int) (t' := (.object "java/util/TreeMap$EntrySet")) (by decide) (by decide))))
  have y128 := (((F4_.ext E104).keep K109 (ninS (Nat.ne_of_lt (Nat.lt_of_lt_of_le E0_.lt (Nat.le_of_eq gb104.symm))) nin0)).other W117 (Or.inr (slot_ne (Or.inl (hw _ (mi 26 rfl))) (Or.inl (hw _ (mi 153 rfl))) (by decide) (t := .int) (t' := (.object "java/util/TreeMap$EntrySet")) (by decide) (by decide))))
  refine own_leave X117 Bd (some (.ref b104)) nofun g120 (fun fs hr => retOut X117 hx Bd.returns rfl (Or.inr (Or.inr (Or.inr (Or.inr ⟨rfl, rfl, rfl⟩)))) (hE 12 rfl) hr) (by decide) (by decide) ?_
  rw [e117]
  exact ⟨b104, rfl, N117, K121, (Nat.le_of_eq gb104.symm), y122, y123, y124, y125, y126, y127, y128, y119⟩
theorem rm_gfe0 (hw : HW a0 Z) (t1 : Addr) (h0 : Heap) (n0 : Nat) (O0 : Old Z n0 h0) (F0_ : Fld Z h0 t1 "java/util/TreeMap" "root" "Ljava/util/TreeMap$Entry;" .null) :
    own_M l mN26 (Jvm.Cond.code mN26 jdk_2729_method_72_code 2 (some (.object "java/util/TreeMap$Entry"))) [] (⟨0, 0, 0, 0⟩ : Room) #[(.ref t1)] Z h0 (fun v h L => v = some .null ∧ Fr n0 L ∧ h = h0) := by
  refine own_open n0 (plainFor_of_name pn_6) (fun m => ef_R2 m t1 ) ?_
  intro p e s m below meth c s₁ A0 Bd hx hby hml hown hnm hZ hh X0 e0 N0 g0
  have hE := own_hd hby E27
  have g101 := jA X0 hx g0 (hE 0 rfl) rfl rfl
  obtain ⟨T102, X102, e102, g102⟩ := own_getF X0 hx hZ hown (hw _ (mi 67 rfl)) Via.refl e0 F0_ g101 (hE 1 rfl)
  have g103 := jA X102 hx (show Go p e below T102 (mkF m 24 #[rv t1, .val .null] []) A0 from fun t kt => (jA X102 hx (jT X102 hx g102 (hE 2 rfl) rfl rfl (l' := #[rv t1, .val .null]) rfl) (hE 3 rfl) rfl rfl) t (by refine XS.ifnullYes X102.here hx rfl (pc0 := 6) (pc' := 24) rfl (hE 4 rfl) rfl (by decide) (by decide) ?_; exact kt)) (hE 8 rfl) rfl rfl
  refine own_leave X102 Bd (some .null) nofun g103 (fun fs hr => retOut X102 hx Bd.returns rfl (Or.inr (Or.inr (Or.inr (Or.inr ⟨rfl, rfl, rfl⟩)))) (hE 9 rfl) hr) (by decide) (by decide) ?_
  rw [e102]
  exact ⟨rfl, N0, rfl⟩
theorem rm_gfe1 (hw : HW a0 Z) (t1 e1 : Addr) (h0 : Heap) (n0 : Nat) (O0 : Old Z n0 h0) (F0_ : Fld Z h0 t1 "java/util/TreeMap" "root" "Ljava/util/TreeMap$Entry;" (.ref e1)) (F1_ : Fld Z h0 e1 "java/util/TreeMap$Entry" "left" "Ljava/util/TreeMap$Entry;" .null) :
    own_M l mN26 (Jvm.Cond.code mN26 jdk_2729_method_72_code 2 (some (.object "java/util/TreeMap$Entry"))) [] (⟨0, 0, 0, 0⟩ : Room) #[(.ref t1)] Z h0 (fun v h L => v = some (.ref e1) ∧ Fr n0 L ∧ h = h0) := by
  refine own_open n0 (plainFor_of_name pn_6) (fun m => ef_R2 m t1 ) ?_
  intro p e s m below meth c s₁ A0 Bd hx hby hml hown hnm hZ hh X0 e0 N0 g0
  have hE := own_hd hby E27
  have g101 := jA X0 hx g0 (hE 0 rfl) rfl rfl
  obtain ⟨T102, X102, e102, g102⟩ := own_getF X0 hx hZ hown (hw _ (mi 67 rfl)) Via.refl e0 F0_ g101 (hE 1 rfl)
  have g103 := jA X102 hx (show Go p e below T102 (mkF m 9 #[rv t1, rv e1] []) A0 from fun t kt => (jA X102 hx (jT X102 hx g102 (hE 2 rfl) rfl rfl (l' := #[rv t1, rv e1]) rfl) (hE 3 rfl) rfl rfl) t (by refine XS.ifnullNo X102.here hx rfl (hE 4 rfl) rfl ?_; exact kt)) (hE 5 rfl) rfl rfl
  obtain ⟨T104, X104, e104, g104⟩ := own_getF X102 hx hZ hown (hw _ (mi 128 rfl)) Via.refl e102 F1_ g103 (hE 6 rfl)
  have g105 := jA X104 hx (show Go p e below T104 (mkF m 24 #[rv t1, rv e1] []) A0 from fun t kt => g104 t (by refine XS.ifnullYes X104.here hx rfl (pc0 := 13) (pc' := 24) rfl (hE 7 rfl) rfl (by decide) (by decide) ?_; exact kt)) (hE 8 rfl) rfl rfl
  refine own_leave X104 Bd (some (.ref e1)) nofun g105 (fun fs hr => retOut X104 hx Bd.returns rfl (Or.inr (Or.inr (Or.inr (Or.inr ⟨rfl, rfl, rfl⟩)))) (hE 9 rfl) hr) (by decide) (by decide) ?_
  rw [e104]
  exact ⟨rfl, N0, rfl⟩
theorem pn_10 : plainName "java/util/TreeMap$PrivateEntryIterator" = true := by first | (simp [plainName, overriddenIn]; done) | decide +kernel
theorem ef_RRV3 (m : MethodId) (x0 : Addr) (x1 : Addr) (x2 : Value) (h2 : x2.isRef = true) : entryFrame m #[(.ref x0), (.ref x1), x2] 3 = mkF m 0 #[.val (.ref x0), .val (.ref x1), .val x2] [] := by (rcases ref_cases h2 with rfl | ⟨_, rfl⟩) <;> first | (simp [entryFrame, mkF, argsToLocals, Value.category]; done) | rfl
theorem rm_peI (hw : HW a0 Z) (i1 t1 : Addr) (nx1 : Value) (mc : Int32) (h0 : Heap) (n0 : Nat) (O0 : Old Z n0 h0) (hnx : nx1.isRef = true) (E1_ : Exa Z h0 i1 "java/util/TreeMap$EntryIterator") (F2_ : Fld Z h0 i1 "java/util/TreeMap$PrivateEntryIterator" "this$0" "Ljava/util/TreeMap;" .null) (F3_ : Fld Z h0 i1 "java/util/TreeMap$PrivateEntryIterator" "expectedModCount" "I" (.int 0)) (F4_ : Fld Z h0 i1 "java/util/TreeMap$PrivateEntryIterator" "lastReturned" "Ljava/util/TreeMap$Entry;" .null) (F5_ : Fld Z h0 i1 "java/util/TreeMap$PrivateEntryIterator" "next" "Ljava/util/TreeMap$Entry;" .null) (F6_ : Fld Z h0 t1 "java/util/TreeMap" "modCount" "I" (.int mc)) (E7_ : Exa Z h0 t1 "java/util/TreeMap") (G8_ : n0 ≤ i1) :
    own_M l mN27 (Jvm.Cond.code mN27 jdk_2750_method_1_code 3 none) [] (⟨1, 0, 0, 12⟩ : Room) #[(.ref i1), (.ref t1), nx1] Z h0 (fun v h L => v = none ∧ Fr n0 L ∧ Keep h0 h [i1] ∧ (Exa Z h i1 "java/util/TreeMap$EntryIterator") ∧ (Fld Z h i1 "java/util/TreeMap$PrivateEntryIterator" "this$0" "Ljava/util/TreeMap;" (.ref t1)) ∧ (Fld Z h i1 "java/util/TreeMap$PrivateEntryIterator" "expectedModCount" "I" (.int mc)) ∧ (Fld Z h i1 "java/util/TreeMap$PrivateEntryIterator" "lastReturned" "Ljava/util/TreeMap$Entry;" .null) ∧ (Fld Z h i1 "java/util/TreeMap$PrivateEntryIterator" "next" "Ljava/util/TreeMap$Entry;" nx1)) := by
  refine own_open n0 (plainFor_of_name pn_10) (fun m => ef_RRV3 m i1 t1 nx1 (hnx)) ?_
  intro p e s m below meth c s₁ A0 Bd hx hby hml hown hnm hZ hh X0 e0 N0 g0
  have hE := own_hd hby E29
  have g101 := jA X0 hx (jA X0 hx g0 (hE 0 rfl) rfl rfl) (hE 1 rfl) rfl rfl
  obtain ⟨T102, h102, X102, e102, W102, st102⟩ := putF X0 hx hZ hown (host := "") (Or.inl (hw _ (mi 203 rfl))) Via.refl e0 F2_ E1_ (Or.inr ⟨(hw _ (mi 204 rfl)), rfl, hnm⟩) (hw _ (mi 186 rfl)) (ty := (.object "java/util/TreeMap")) (by decide) rfl rfl (g := (mkF m 2 #[rv i1, rv t1, .val nx1] [(.ref t1), (.ref i1)])) rfl rfl (hE 2 rfl)
  have O103 := O0.wr W102 G8_
  have y104 : Fld Z h102 i1 "java/util/TreeMap$PrivateEntryIterator" "this$0" "Ljava/util/TreeMap;" (.ref t1) := F2_.same W102
  have N102 := Fr.snoc X102 N0 G8_
  have g105 : Go p e below T102 (mkF m 5 #[rv i1, rv t1, .val nx1] []) A0 := fun t kont => g101 t (st102 t kont)
  have g106 := jA X102 hx g105 (hE 3 rfl) rfl rfl
  obtain ⟨T107, X107, e107, st107⟩ := initO X102 hx hZ hown (hw _ (mi 205 rfl)) (hw _ (mi 8 rfl)) (hw _ (mi 9 rfl)) e102 (g := (mkF m 6 #[rv i1, rv t1, .val nx1] [(.ref i1)])) rfl (by rw [hml]; rfl) rfl (hE 4 rfl) (by decide) (W := 0) (by show 2 * 0 + _ ≤ _; exact Nat.le_of_eq rfl) (by decide)
  have g108 : Go p e below T107 (mkF m 9 #[rv i1, rv t1, .val nx1] []) A0 := fun t kont => g106 t (st107 t kont)
  have g109 := jA X107 hx (jA X107 hx g108 (hE 5 rfl) rfl rfl) (hE 6 rfl) rfl rfl
  have y110 := (E7_.wr W102)
  have y111 := (E1_.wr W102)
  have y112 := (F6_.other W102 (Or.inl (ne_exa y110 y111 (by decide))))
  have g113 := own_getR X107 hx hZ hown (hw _ (mi 206 rfl)) e107 y112 g109 (hE 7 rfl)
  have y114 := (F3_.other W102 (Or.inr (slot_ne (Or.inl (hw _ (mi 208 rfl))) (Or.inr (hw _ (mi 204 rfl))) (by decide) (t := .int) (t' := (.object "java/util/TreeMap")) (by decide) (by decide))))
  obtain ⟨T115, h115, X115, e115, W115, st115⟩ := putF X107 hx hZ hown (host := "") (Or.inl (hw _ (mi 207 rfl))) Via.refl e107 y114 y111 (Or.inl (hw _ (mi 208 rfl))) (hw _ (mi 186 rfl)) (ty := .int) (by decide) rfl rfl (g := (mkF m 14 #[rv i1, rv t1, .val nx1] [(.int mc), (.ref i1)])) rfl rfl (hE 8 rfl)
  have O116 := O103.wr W115 G8_
  have y117 : Fld Z h115 i1 "java/util/TreeMap$PrivateEntryIterator" "expectedModCount" "I" (.int mc) := y114.same W115
  have N115 := Fr.snoc X115 N102 G8_
  have g118 : Go p e below T115 (mkF m 17 #[rv i1, rv t1, .val nx1] []) A0 := fun t kont => g113 t (st115 t kont)
  have g119 := show Go p e below T115 (mkF m 19 #[rv i1, rv t1, .val nx1] [.null, (.ref i1)]) A0 from fun t kt => (jA X115 hx g118 (hE 9 rfl) rfl rfl) t (by refine XS.aconstNull X115.here hx rfl (hE 10 rfl) ?_; exact kt)
  have y120 := (y111.wr W115)
  have y121 := ((F4_.other W102 (Or.inr (slot_ne (Or.inl (hw _ (mi 210 rfl))) (Or.inr (hw _ (mi 204 rfl))) (by decide) (t := (.object "java/util/TreeMap$Entry")) (t' := (.object "java/util/TreeMap")) (by decide) (by decide)))).other W115 (Or.inr (slot_ne (Or.inl (hw _ (mi 210 rfl))) (Or.inl (hw _ (mi 208 rfl))) (by decide) (t := (.object "java/util/TreeMap$Entry")) (t' := .int) (by decide) (by decide))))
  obtain ⟨T122, h122, X122, e122, W122, st122⟩ := putF X115 hx hZ hown (host := "") (Or.inl (hw _ (mi 209 rfl))) Via.refl e115 y121 y120 (Or.inl (hw _ (mi 210 rfl))) (hw _ (mi 186 rfl)) (ty := (.object "java/util/TreeMap$Entry")) (by decide) rfl rfl (g := (mkF m 19 #[rv i1, rv t1, .val nx1] [.null, (.ref i1)])) rfl rfl (hE 11 rfl)
  have O123 := O116.wr W122 G8_
  have y124 : Fld Z h122 i1 "java/util/TreeMap$PrivateEntryIterator" "lastReturned" "Ljava/util/TreeMap$Entry;" .null := y121.same W122
  have N122 := Fr.snoc X122 N115 G8_
  have g125 : Go p e below T122 (mkF m 22 #[rv i1, rv t1, .val nx1] []) A0 := fun t kont => g119 t (st122 t kont)
  have g126 := jA X122 hx (jA X122 hx g125 (hE 12 rfl) rfl rfl) (hE 13 rfl) rfl (hnx)
  have y127 := (y120.wr W122)
  have y128 := (((F5_.other W102 (Or.inr (slot_ne (Or.inl (hw _ (mi 212 rfl))) (Or.inr (hw _ (mi 204 rfl))) (by decide) (t := (.object "java/util/TreeMap$Entry")) (t' := (.object "java/util/TreeMap")) (by decide) (by decide)))).other W115 (Or.inr (slot_ne (Or.inl (hw _ (mi 212 rfl))) (Or.inl (hw _ (mi 208 rfl))) (by decide) (t := (.object "java/util/TreeMap$Entry")) (t' := .int) (by decide) (by decide)))).other W122 (Or.inr (slot_ne (Or.inl (hw _ (mi 212 rfl))) (Or.inl (hw _ (mi 210 rfl))) (by decide) (t := (.object "java/util/TreeMap$Entry")) (t' := (.object "java/util/TreeMap$Entry")) (by decide) (by decide))))
  obtain ⟨T129, h129, X129, e129, W129, st129⟩ := putF X122 hx hZ hown (host := "") (Or.inl (hw _ (mi 211 rfl))) Via.refl e122 y128 y127 (Or.inl (hw _ (mi 212 rfl))) (hw _ (mi 186 rfl)) (ty := (.object "java/util/TreeMap$Entry")) (by decide) (own_retA _ (hnx) _ rfl) (own_fitA _ (hnx) _ rfl) (g := (mkF m 24 #[rv i1, rv t1, .val nx1] [nx1, (.ref i1)])) rfl rfl (hE 14 rfl)
  have O130 := O123.wr W129 G8_
  have y131 : Fld Z h129 i1 "java/util/TreeMap$PrivateEntryIterator" "next" "Ljava/util/TreeMap$Entry;" nx1 := y128.same W129
  have N129 := Fr.snoc X129 N122 G8_
  have g132 : Go p e below T129 (mkF m 27 #[rv i1, rv t1, .val nx1] []) A0 := fun t kont => g126 t (st129 t kont)
  have K133 : Keep h0 h129 [i1] := (((((Keep.refl h0 [i1]).wr W102 (Or.inl (mi 0 rfl))).wr W115 (Or.inl (mi 0 rfl))).wr W122 (Or.inl (mi 0 rfl))).wr W129 (Or.inl (mi 0 rfl)))
  have y134 := (y127.wr W129)
  have y135 := (((y104.other W115 (Or.inr (slot_ne (Or.inr (hw _ (mi 204 rfl))) (Or.inl (hw _ (mi 208 rfl))) (by decide) (t := (.object "java/util/TreeMap")) (t' := .int) (by decide) (by decide)))).other W122 (Or.inr (slot_ne (Or.inr (hw _ (mi 204 rfl))) (Or.inl (hw _ (mi 210 rfl))) (by decide) (t := (.object "java/util/TreeMap")) (t' := (.object "java/util/TreeMap$Entry")) (by decide) (by decide)))).other W129 (Or.inr (slot_ne (Or.inr (hw _ (mi 204 rfl))) (Or.inl (hw _ (mi 212 rfl))) (by decide) (t := (.object "java/util/TreeMap")) (t' := (.object "java/util/TreeMap$Entry")) (by decide) (by decide))))
  have y136 := ((y117.other W122 (Or.inr (slot_ne (Or.inl (hw _ (mi 208 rfl))) (Or.inl (hw _ (mi 210 rfl))) (by decide) (t := .int) (t' := (.object "java/util/TreeMap$Entry")) (by decide) (by decide)))).other W129 (Or.inr (slot_ne (Or.inl (hw _ (mi 208 rfl))) (Or.inl (hw _ (mi 212 rfl))) (by decide) (t := .int) (t' := (.object "java/util/TreeMap$Entry")) (by decide) (by decide))))
  have y137 := (y124.other W129 (Or.inr (slot_ne (Or.inl (hw _ (mi 210 rfl))) (Or.inl (hw _ (mi 212 rfl))) (by decide) (t := (.object "java/util/TreeMap$Entry")) (t' := (.object "java/util/TreeMap$Entry")) (by decide) (by decide))))
  refine own_leave X129 Bd (none) (fun _ => rfl) g132 (fun fs hr => X129.returnOut hx Bd.returns (hE 15 rfl) hr) (by decide) (by decide) ?_
  rw [e129]
  exact ⟨rfl, N129, K133, y134, y135, y136, y137, y131⟩
theorem pd_17 : parseMethodDescriptor "(Ljava/util/TreeMap;Ljava/util/TreeMap$Entry;)V" = some ⟨[(.object "java/util/TreeMap"), (.object "java/util/TreeMap$Entry")], none⟩ := by decide +kernel
theorem wd20 (hw : HW a0 Z) : own_wdI a0 Z mN27 jdk_2750_method_1_code 3 := ⟨hw _ (mi 198 rfl), hw _ (mi 201 rfl), hw _ (mi 202 rfl), by decide, rfl⟩
theorem pn_11 : plainName "java/util/TreeMap$EntryIterator" = true := by first | (simp [plainName, overriddenIn]; done) | decide +kernel
theorem rm_eiI (hw : HW a0 Z) (i1 t1 : Addr) (nx1 : Value) (mc : Int32) (h0 : Heap) (n0 : Nat) (O0 : Old Z n0 h0) (hnx : nx1.isRef = true) (E1_ : Exa Z h0 i1 "java/util/TreeMap$EntryIterator") (F2_ : Fld Z h0 i1 "java/util/TreeMap$PrivateEntryIterator" "this$0" "Ljava/util/TreeMap;" .null) (F3_ : Fld Z h0 i1 "java/util/TreeMap$PrivateEntryIterator" "expectedModCount" "I" (.int 0)) (F4_ : Fld Z h0 i1 "java/util/TreeMap$PrivateEntryIterator" "lastReturned" "Ljava/util/TreeMap$Entry;" .null) (F5_ : Fld Z h0 i1 "java/util/TreeMap$PrivateEntryIterator" "next" "Ljava/util/TreeMap$Entry;" .null) (F6_ : Fld Z h0 t1 "java/util/TreeMap" "modCount" "I" (.int mc)) (E7_ : Exa Z h0 t1 "java/util/TreeMap") (G8_ : n0 ≤ i1) :
    own_M l mN28 (Jvm.Cond.code mN28 jdk_2737_method_1_code 3 none) [] (⟨2, 0, 0, 26⟩ : Room) #[(.ref i1), (.ref t1), nx1] Z h0 (fun v h L => v = none ∧ Fr n0 L ∧ Keep h0 h [i1] ∧ (Exa Z h i1 "java/util/TreeMap$EntryIterator") ∧ (Fld Z h i1 "java/util/TreeMap$PrivateEntryIterator" "this$0" "Ljava/util/TreeMap;" (.ref t1)) ∧ (Fld Z h i1 "java/util/TreeMap$PrivateEntryIterator" "expectedModCount" "I" (.int mc)) ∧ (Fld Z h i1 "java/util/TreeMap$PrivateEntryIterator" "lastReturned" "Ljava/util/TreeMap$Entry;" .null) ∧ (Fld Z h i1 "java/util/TreeMap$PrivateEntryIterator" "next" "Ljava/util/TreeMap$Entry;" nx1)) := by
  refine own_open n0 (plainFor_of_name pn_11) (fun m => ef_RRV3 m i1 t1 nx1 (hnx)) ?_
  intro p e s m below meth c s₁ A0 Bd hx hby hml hown hnm hZ hh X0 e0 N0 g0
  have hE := own_hd hby E28
  have g101 := jA X0 hx (jA X0 hx (jA X0 hx g0 (hE 0 rfl) rfl rfl) (hE 1 rfl) rfl rfl) (hE 2 rfl) rfl (hnx)
  obtain ⟨_, L102, T102, ⟨rfl, M102, K102, y103, y104, y105, y106, y107⟩, X102, st102⟩ := own_callI X0 hx hZ hown (hw _ (mi 197 rfl)) (wd20 hw) (rm_peI hw i1 t1 nx1 mc h0 n0 O0 hnx E1_ F2_ F3_ F4_ F5_ F6_ E7_ G8_) g101 e0 [] rfl (lenOf pd_17 rfl) (hE 3 rfl) hml.symm 0 rfl (by decide)
  have N102 := Fr.app N0 M102
  have O108 := O0.keep K102 (allS G8_ all0)
  have K109 : Keep h0 T102.heap [i1] := ((Keep.refl h0 [i1]).trans K102 (allS (P := fun x => x ∈ [i1] ∨ h0.size ≤ x) (Or.inl (mi 0 rfl)) all0))
  refine own_leave X102 Bd (none) (fun _ => rfl) st102 (fun fs hr => X102.returnOut hx Bd.returns (hE 4 rfl) hr) (by decide) (by decide) ?_
  exact ⟨rfl, N102, K109, y103, y104, y105, y106, y107⟩
theorem pd_18 : parseMethodDescriptor "()Ljava/util/TreeMap$Entry;" = some ⟨[], some (.object "java/util/TreeMap$Entry")⟩ := by decide +kernel
theorem wd21 (hw : HW a0 Z) : own_wdV a0 Z "java/util/TreeMap" mN26 mN26 jdk_2729_method_72_code 2 (some (.object "java/util/TreeMap$Entry")) := ⟨hw _ (mi 189 rfl), hw _ (mi 191 rfl), hw _ (mi 190 rfl), hw _ (mi 12 rfl), hw _ (mi 192 rfl), by decide⟩
theorem wd22 (hw : HW a0 Z) : own_wdI a0 Z mN28 jdk_2737_method_1_code 3 := ⟨hw _ (mi 194 rfl), hw _ (mi 187 rfl), hw _ (mi 196 rfl), by decide, rfl⟩
theorem rm_iter0 (hw : HW a0 Z) (s1 t1 : Addr) (mc : Int32) (h0 : Heap) (n0 : Nat) (O0 : Old Z n0 h0) (F0_ : Fld Z h0 s1 "java/util/TreeMap$EntrySet" "this$0" "Ljava/util/TreeMap;" (.ref t1)) (E1_ : Exa Z h0 t1 "java/util/TreeMap") (F2_ : Fld Z h0 t1 "java/util/TreeMap" "modCount" "I" (.int mc)) (F3_ : Fld Z h0 t1 "java/util/TreeMap" "root" "Ljava/util/TreeMap$Entry;" .null) :
    own_M l mN29 (Jvm.Cond.code mN29 jdk_2738_method_2_code 1 (some (.object "java/util/Iterator"))) [] (⟨3, 1, 4, 41⟩ : Room) #[(.ref s1)] Z h0 (fun v h L => ∃ (i2 : Addr), v = some (.ref i2) ∧ Fr n0 L ∧ Keep h0 h [] ∧ h0.size ≤ i2 ∧ (Exa Z h i2 "java/util/TreeMap$EntryIterator") ∧ (Fld Z h i2 "java/util/TreeMap$PrivateEntryIterator" "this$0" "Ljava/util/TreeMap;" (.ref t1)) ∧ (Fld Z h i2 "java/util/TreeMap$PrivateEntryIterator" "expectedModCount" "I" (.int mc)) ∧ (Fld Z h i2 "java/util/TreeMap$PrivateEntryIterator" "lastReturned" "Ljava/util/TreeMap$Entry;" .null) ∧ (Fld Z h i2 "java/util/TreeMap$PrivateEntryIterator" "next" "Ljava/util/TreeMap$Entry;" .null)) := by
  refine own_open n0 (plainFor_of_name pn_9) (fun m => ef_R1 m s1 ) ?_
  intro p e s m below meth c s₁ A0 Bd hx hby hml hown hnm hZ hh X0 e0 N0 g0
  have hE := own_hd hby E26
  obtain ⟨T101, h101, X101, e101, E101, A101, D101, -, st101⟩ := newO X0 hx hZ hown (hw _ (mi 185 rfl)) (hw _ (mi 186 rfl)) (hw _ (mi 187 rfl)) e0 (g := (mkF m 0 #[rv s1] [])) rfl (hE 0 rfl) (by decide) (by decide)
  obtain ⟨b101, gb101⟩ : ∃ z, z = h0.size := ⟨_, rfl⟩
  rw [← gb101] at A101 D101 st101
  have O102 := O0.ext E101
  have y103 : Fld Z h101 b101 "java/util/TreeMap$PrivateEntryIterator" "this$0" "Ljava/util/TreeMap;" .null := D101 (Or.inr (hw _ (mi 204 rfl))) (ty := (.object "java/util/TreeMap")) (by decide)
  have y104 : Fld Z h101 b101 "java/util/TreeMap$PrivateEntryIterator" "expectedModCount" "I" (.int 0) := D101 (Or.inl (hw _ (mi 208 rfl))) (ty := .int) (by decide)
  have y105 : Fld Z h101 b101 "java/util/TreeMap$PrivateEntryIterator" "lastReturned" "Ljava/util/TreeMap$Entry;" .null := D101 (Or.inl (hw _ (mi 210 rfl))) (ty := (.object "java/util/TreeMap$Entry")) (by decide)
  have y106 : Fld Z h101 b101 "java/util/TreeMap$PrivateEntryIterator" "next" "Ljava/util/TreeMap$Entry;" .null := D101 (Or.inl (hw _ (mi 212 rfl))) (ty := (.object "java/util/TreeMap$Entry")) (by decide)
  have g107 : Go p e below T101 (mkF m 3 #[rv s1] [(.ref b101)]) A0 := fun t kont => g0 t (st101 t kont)
  have g108 := jA X101 hx (jd X101 hx g107 (hE 1 rfl) rfl rfl) (hE 2 rfl) rfl rfl
  have y109 := (F0_.ext E101)
  obtain ⟨T110, X110, e110, g110⟩ := own_getF X101 hx hZ hown (hw _ (mi 161 rfl)) Via.refl e101 y109 g108 (hE 3 rfl)
  have g111 := jA X110 hx g110 (hE 4 rfl) rfl rfl
  obtain ⟨T112, X112, e112, g112⟩ := own_getF X110 hx hZ hown (hw _ (mi 161 rfl)) Via.refl e110 y109 g111 (hE 5 rfl)
  have y114 := (E1_.ext E101)
  have y115 := (F3_.ext E101)
  obtain ⟨_, L113, T113, ⟨rfl, M113, e113⟩, X113, st113⟩ := own_callV X112 hx hZ hown (hw _ (mi 188 rfl)) (wd21 hw) (notFace_of_selects (args := #[]) (mvT hZ (hw _ (mi 191 rfl)))) y114 (rm_gfe0 hw t1 h101 n0 O102 y115) g112 e112 [(.ref t1), (.ref b101), (.ref b101)] rfl (lenOf pd_18 rfl) (hE 6 rfl) hml.symm 3 rfl (by decide)
  have N113 := Fr.app N0 M113
  have y117 := (F2_.ext E101)
  have ge118 : n0 ≤ b101 := Nat.le_trans (own_old_le O0) (Nat.le_of_eq gb101.symm)
  obtain ⟨_, L116, T116, ⟨rfl, M116, K116, y119, y120, y121, y122, y123⟩, X116, st116⟩ := own_callI X113 hx hZ hown (hw _ (mi 193 rfl)) (wd22 hw) (rm_eiI hw b101 t1 .null mc h101 n0 O102 (rfl) A101 y103 y104 y105 y106 y117 y114 ge118) st113 e113 [(.ref b101)] rfl (lenOf pd_17 rfl) (hE 7 rfl) hml.symm 1 rfl (by decide)
  have N116 := Fr.app N113 M116
  have O124 := O102.keep K116 (allS ge118 all0)
  have K125 : Keep h0 T116.heap [] := (((Keep.refl h0 []).ext E101).trans K116 (allS (P := fun x => x ∈ [] ∨ h0.size ≤ x) (Or.inr (Nat.le_of_eq gb101.symm)) all0))
  refine own_leave X116 Bd (some (.ref b101)) nofun st116 (fun fs hr => retOut X116 hx Bd.returns rfl (Or.inr (Or.inr (Or.inr (Or.inr ⟨rfl, rfl, rfl⟩)))) (hE 8 rfl) hr) (by decide) (by decide) ?_
  exact ⟨b101, rfl, N116, K125, (Nat.le_of_eq gb101.symm), y119, y120, y121, y122, y123⟩
theorem rm_hn0 (hw : HW a0 Z) (i1 : Addr) (h0 : Heap) (n0 : Nat) (O0 : Old Z n0 h0) (F0_ : Fld Z h0 i1 "java/util/TreeMap$PrivateEntryIterator" "next" "Ljava/util/TreeMap$Entry;" .null) :
    own_M l mN30 (Jvm.Cond.code mN30 jdk_2750_method_2_code 1 (some .boolean)) [] (⟨0, 0, 0, 0⟩ : Room) #[(.ref i1)] Z h0 (fun v h L => v = some (.int 0) ∧ Fr n0 L ∧ h = h0) := by
  refine own_open n0 (plainFor_of_name pn_10) (fun m => ef_R1 m i1 ) ?_
  intro p e s m below meth c s₁ A0 Bd hx hby hml hown hnm hZ hh X0 e0 N0 g0
  have hE := own_hd hby E30
  have g101 := jA X0 hx g0 (hE 0 rfl) rfl rfl
  obtain ⟨T102, X102, e102, g102⟩ := own_getF X0 hx hZ hown (hw _ (mi 211 rfl)) Via.refl e0 F0_ g101 (hE 1 rfl)
  have g103 := jc X102 hx (show Go p e below T102 (mkF m 11 #[rv i1] []) A0 from fun t kt => g102 t (by refine XS.ifnullYes X102.here hx rfl (pc0 := 4) (pc' := 11) rfl (hE 2 rfl) rfl (by decide) (by decide) ?_; exact kt)) (hE 5 rfl) 0 rfl
  refine own_leave X102 Bd (some (.int 0)) nofun g103 (fun fs hr => retN X102 hx (t := .boolean) Bd.returns (by simp) (hE 6 rfl) hr) (by decide) (by decide) ?_
  rw [e102]
  exact ⟨rfl, N0, rfl⟩
theorem rm_iter1 (hw : HW a0 Z) (s1 t1 : Addr) (mc : Int32) (e1 : Addr) (h0 : Heap) (n0 : Nat) (O0 : Old Z n0 h0) (F0_ : Fld Z h0 s1 "java/util/TreeMap$EntrySet" "this$0" "Ljava/util/TreeMap;" (.ref t1)) (E1_ : Exa Z h0 t1 "java/util/TreeMap") (F2_ : Fld Z h0 t1 "java/util/TreeMap" "modCount" "I" (.int mc)) (F3_ : Fld Z h0 t1 "java/util/TreeMap" "root" "Ljava/util/TreeMap$Entry;" (.ref e1)) (F4_ : Fld Z h0 e1 "java/util/TreeMap$Entry" "left" "Ljava/util/TreeMap$Entry;" .null) :
    own_M l mN29 (Jvm.Cond.code mN29 jdk_2738_method_2_code 1 (some (.object "java/util/Iterator"))) [] (⟨3, 1, 4, 41⟩ : Room) #[(.ref s1)] Z h0 (fun v h L => ∃ (i2 : Addr), v = some (.ref i2) ∧ Fr n0 L ∧ Keep h0 h [] ∧ h0.size ≤ i2 ∧ (Exa Z h i2 "java/util/TreeMap$EntryIterator") ∧ (Fld Z h i2 "java/util/TreeMap$PrivateEntryIterator" "this$0" "Ljava/util/TreeMap;" (.ref t1)) ∧ (Fld Z h i2 "java/util/TreeMap$PrivateEntryIterator" "expectedModCount" "I" (.int mc)) ∧ (Fld Z h i2 "java/util/TreeMap$PrivateEntryIterator" "lastReturned" "Ljava/util/TreeMap$Entry;" .null) ∧ (Fld Z h i2 "java/util/TreeMap$PrivateEntryIterator" "next" "Ljava/util/TreeMap$Entry;" (.ref e1))) := by
  refine own_open n0 (plainFor_of_name pn_9) (fun m => ef_R1 m s1 ) ?_
  intro p e s m below meth c s₁ A0 Bd hx hby hml hown hnm hZ hh X0 e0 N0 g0
  have hE := own_hd hby E26
  obtain ⟨T101, h101, X101, e101, E101, A101, D101, -, st101⟩ := newO X0 hx hZ hown (hw _ (mi 185 rfl)) (hw _ (mi 186 rfl)) (hw _ (mi 187 rfl)) e0 (g := (mkF m 0 #[rv s1] [])) rfl (hE 0 rfl) (by decide) (by decide)
  obtain ⟨b101, gb101⟩ : ∃ z, z = h0.size := ⟨_, rfl⟩
  rw [← gb101] at A101 D101 st101
  have O102 := O0.ext E101
  have y103 : Fld Z h101 b101 "java/util/TreeMap$PrivateEntryIterator" "this$0" "Ljava/util/TreeMap;" .null := D101 (Or.inr (hw _ (mi 204 rfl))) (ty := (.object "java/util/TreeMap")) (by decide)
  have y104 : Fld Z h101 b101 "java/util/TreeMap$PrivateEntryIterator" "expectedModCount" "I" (.int 0) := D101 (Or.inl (hw _ (mi 208 rfl))) (ty := .int) (by decide)
  have y105 : Fld Z h101 b101 "java/util/TreeMap$PrivateEntryIterator" "lastReturned" "Ljava/util/TreeMap$Entry;" .null := D101 (Or.inl (hw _ (mi 210 rfl))) (ty := (.object "java/util/TreeMap$Entry")) (by decide)
  have y106 : Fld Z h101 b101 "java/util/TreeMap$PrivateEntryIterator" "next" "Ljava/util/TreeMap$Entry;" .null := D101 (Or.inl (hw _ (mi 212 rfl))) (ty := (.object "java/util/TreeMap$Entry")) (by decide)
  have g107 : Go p e below T101 (mkF m 3 #[rv s1] [(.ref b101)]) A0 := fun t kont => g0 t (st101 t kont)
  have g108 := jA X101 hx (jd X101 hx g107 (hE 1 rfl) rfl rfl) (hE 2 rfl) rfl rfl
  have y109 := (F0_.ext E101)
  obtain ⟨T110, X110, e110, g110⟩ := own_getF X101 hx hZ hown (hw _ (mi 161 rfl)) Via.refl e101 y109 g108 (hE 3 rfl)
  have g111 := jA X110 hx g110 (hE 4 rfl) rfl rfl
  obtain ⟨T112, X112, e112, g112⟩ := own_getF X110 hx hZ hown (hw _ (mi 161 rfl)) Via.refl e110 y109 g111 (hE 5 rfl)
  have y114 := (E1_.ext E101)
  have y115 := (F3_.ext E101)
  have y116 := (F4_.ext E101)
  obtain ⟨_, L113, T113, ⟨rfl, M113, e113⟩, X113, st113⟩ := own_callV X112 hx hZ hown (hw _ (mi 188 rfl)) (wd21 hw) (notFace_of_selects (args := #[]) (mvT hZ (hw _ (mi 191 rfl)))) y114 (rm_gfe1 hw t1 e1 h101 n0 O102 y115 y116) g112 e112 [(.ref t1), (.ref b101), (.ref b101)] rfl (lenOf pd_18 rfl) (hE 6 rfl) hml.symm 3 rfl (by decide)
  have N113 := Fr.app N0 M113
  have y118 := (F2_.ext E101)
  have ge119 : n0 ≤ b101 := Nat.le_trans (own_old_le O0) (Nat.le_of_eq gb101.symm)
  obtain ⟨_, L117, T117, ⟨rfl, M117, K117, y120, y121, y122, y123, y124⟩, X117, st117⟩ := own_callI X113 hx hZ hown (hw _ (mi 193 rfl)) (wd22 hw) (rm_eiI hw b101 t1 (.ref e1) mc h101 n0 O102 (rfl) A101 y103 y104 y105 y106 y118 y114 ge119) st113 e113 [(.ref b101)] rfl (lenOf pd_17 rfl) (hE 7 rfl) hml.symm 1 rfl (by decide)
  have N117 := Fr.app N113 M117
  have O125 := O102.keep K117 (allS ge119 all0)
  have K126 : Keep h0 T117.heap [] := (((Keep.refl h0 []).ext E101).trans K117 (allS (P := fun x => x ∈ [] ∨ h0.size ≤ x) (Or.inr (Nat.le_of_eq gb101.symm)) all0))
  refine own_leave X117 Bd (some (.ref b101)) nofun st117 (fun fs hr => retOut X117 hx Bd.returns rfl (Or.inr (Or.inr (Or.inr (Or.inr ⟨rfl, rfl, rfl⟩)))) (hE 8 rfl) hr) (by decide) (by decide) ?_
  exact ⟨b101, rfl, N117, K126, (Nat.le_of_eq gb101.symm), y120, y121, y122, y123, y124⟩
theorem rm_hn1 (hw : HW a0 Z) (i1 e1 : Addr) (h0 : Heap) (n0 : Nat) (O0 : Old Z n0 h0) (F0_ : Fld Z h0 i1 "java/util/TreeMap$PrivateEntryIterator" "next" "Ljava/util/TreeMap$Entry;" (.ref e1)) :
    own_M l mN30 (Jvm.Cond.code mN30 jdk_2750_method_2_code 1 (some .boolean)) [] (⟨0, 0, 0, 0⟩ : Room) #[(.ref i1)] Z h0 (fun v h L => v = some (.int 1) ∧ Fr n0 L ∧ h = h0) := by
  refine own_open n0 (plainFor_of_name pn_10) (fun m => ef_R1 m i1 ) ?_
  intro p e s m below meth c s₁ A0 Bd hx hby hml hown hnm hZ hh X0 e0 N0 g0
  have hE := own_hd hby E30
  have g101 := jA X0 hx g0 (hE 0 rfl) rfl rfl
  obtain ⟨T102, X102, e102, g102⟩ := own_getF X0 hx hZ hown (hw _ (mi 211 rfl)) Via.refl e0 F0_ g101 (hE 1 rfl)
  have g103 := jg X102 hx (jc X102 hx (show Go p e below T102 (mkF m 7 #[rv i1] []) A0 from fun t kt => g102 t (by refine XS.ifnullNo X102.here hx rfl (hE 2 rfl) rfl ?_; exact kt)) (hE 3 rfl) 1 rfl) (hE 4 rfl) (pc' := 12) (by decide)
  refine own_leave X102 Bd (some (.int 1)) nofun g103 (fun fs hr => retN X102 hx (t := .boolean) Bd.returns (by simp) (hE 6 rfl) hr) (by decide) (by decide) ?_
  rw [e102]
  exact ⟨rfl, N0, rfl⟩
theorem ef_R3 (m : MethodId) (x0 : Addr)  : entryFrame m #[(.ref x0)] 3 = mkF m 0 #[.val (.ref x0), .unset, .unset] [] := by first | (simp [entryFrame, mkF, argsToLocals, Value.category]; done) | rfl
theorem rm_suc1 (hw : HW a0 Z) (e1 : Addr) (h0 : Heap) (n0 : Nat) (O0 : Old Z n0 h0) (F0_ : Fld Z h0 e1 "java/util/TreeMap$Entry" "right" "Ljava/util/TreeMap$Entry;" .null) (F1_ : Fld Z h0 e1 "java/util/TreeMap$Entry" "parent" "Ljava/util/TreeMap$Entry;" .null) :
    own_M l mN31 (Jvm.Cond.code mN31 jdk_2729_method_74_code 3 (some (.object "java/util/TreeMap$Entry"))) [] (⟨0, 0, 0, 0⟩ : Room) #[(.ref e1)] Z h0 (fun v h L => v = some .null ∧ Fr n0 L ∧ h = h0) := by
  refine own_open n0 (plainFor_of_name pn_6) (fun m => ef_R3 m e1 ) ?_
  intro p e s m below meth c s₁ A0 Bd hx hby hml hown hnm hZ hh X0 e0 N0 g0
  have hE := own_hd hby E35
  have g101 := jA X0 hx (show Go p e below s₁ (mkF m 6 #[rv e1, .unset, .unset] []) A0 from fun t kt => (jA X0 hx g0 (hE 0 rfl) rfl rfl) t (by refine XS.ifnonnullYes X0.here hx rfl (pc0 := 1) (pc' := 6) rfl (hE 1 rfl) rfl (by decide) (by decide) ?_; exact kt)) (hE 2 rfl) rfl rfl
  obtain ⟨T102, X102, e102, g102⟩ := own_getF X0 hx hZ hown (hw _ (mi 250 rfl)) Via.refl e0 F0_ g101 (hE 3 rfl)
  have g103 := jA X102 hx (show Go p e below T102 (mkF m 35 #[rv e1, .unset, .unset] []) A0 from fun t kt => g102 t (by refine XS.ifnullYes X102.here hx rfl (pc0 := 10) (pc' := 35) rfl (hE 4 rfl) rfl (by decide) (by decide) ?_; exact kt)) (hE 5 rfl) rfl rfl
  obtain ⟨T104, X104, e104, g104⟩ := own_getF X102 hx hZ hown (hw _ (mi 141 rfl)) Via.refl e102 F1_ g103 (hE 6 rfl)
  have g105 := jA X104 hx (show Go p e below T104 (mkF m 64 #[rv e1, .val .null, rv e1] []) A0 from fun t kt => (jA X104 hx (jT X104 hx (jA X104 hx (jT X104 hx g104 (hE 7 rfl) rfl rfl (l' := #[rv e1, .val .null, .unset]) rfl) (hE 8 rfl) rfl rfl) (hE 9 rfl) rfl rfl (l' := #[rv e1, .val .null, rv e1]) rfl) (hE 10 rfl) rfl rfl) t (by refine XS.ifnullYes X104.here hx rfl (pc0 := 43) (pc' := 64) rfl (hE 11 rfl) rfl (by decide) (by decide) ?_; exact kt)) (hE 12 rfl) rfl rfl
  refine own_leave X104 Bd (some .null) nofun g105 (fun fs hr => retOut X104 hx Bd.returns rfl (Or.inr (Or.inr (Or.inr (Or.inr ⟨rfl, rfl, rfl⟩)))) (hE 13 rfl) hr) (by decide) (by decide) ?_
  rw [e104]
  exact ⟨rfl, N0, rfl⟩
theorem pd_19 : parseMethodDescriptor "(Ljava/util/TreeMap$Entry;)Ljava/util/TreeMap$Entry;" = some ⟨[(.object "java/util/TreeMap$Entry")], some (.object "java/util/TreeMap$Entry")⟩ := by decide +kernel
theorem wd23 (hw : HW a0 Z) : own_wdS a0 Z mN31 jdk_2729_method_74_code 3 (some (.object "java/util/TreeMap$Entry")) := ⟨hw _ (mi 248 rfl), hw _ (mi 12 rfl), hw _ (mi 249 rfl), by decide⟩
theorem rm_nxe (hw : HW a0 Z) (i1 t1 e1 : Addr) (mc : Int32) (h0 : Heap) (n0 : Nat) (O0 : Old Z n0 h0) (E0_ : Exa Z h0 i1 "java/util/TreeMap$EntryIterator") (F1_ : Fld Z h0 i1 "java/util/TreeMap$PrivateEntryIterator" "this$0" "Ljava/util/TreeMap;" (.ref t1)) (F2_ : Fld Z h0 i1 "java/util/TreeMap$PrivateEntryIterator" "expectedModCount" "I" (.int mc)) (F3_ : Fld Z h0 i1 "java/util/TreeMap$PrivateEntryIterator" "lastReturned" "Ljava/util/TreeMap$Entry;" .null) (F4_ : Fld Z h0 i1 "java/util/TreeMap$PrivateEntryIterator" "next" "Ljava/util/TreeMap$Entry;" (.ref e1)) (E5_ : Exa Z h0 t1 "java/util/TreeMap") (F6_ : Fld Z h0 t1 "java/util/TreeMap" "modCount" "I" (.int mc)) (E7_ : Exa Z h0 e1 "java/util/TreeMap$Entry") (F8_ : Fld Z h0 e1 "java/util/TreeMap$Entry" "right" "Ljava/util/TreeMap$Entry;" .null) (F9_ : Fld Z h0 e1 "java/util/TreeMap$Entry" "parent" "Ljava/util/TreeMap$Entry;" .null) (G10_ : n0 ≤ i1) :
    own_M l mN32 (Jvm.Cond.code mN32 jdk_2750_method_3_code 2 (some (.object "java/util/TreeMap$Entry"))) [] (⟨1, 0, 0, 15⟩ : Room) #[(.ref i1)] Z h0 (fun v h L => v = some (.ref e1) ∧ Fr n0 L ∧ Keep h0 h [i1] ∧ (Exa Z h i1 "java/util/TreeMap$EntryIterator") ∧ (Fld Z h i1 "java/util/TreeMap$PrivateEntryIterator" "this$0" "Ljava/util/TreeMap;" (.ref t1)) ∧ (Fld Z h i1 "java/util/TreeMap$PrivateEntryIterator" "expectedModCount" "I" (.int mc)) ∧ (Fld Z h i1 "java/util/TreeMap$PrivateEntryIterator" "lastReturned" "Ljava/util/TreeMap$Entry;" (.ref e1)) ∧ (Fld Z h i1 "java/util/TreeMap$PrivateEntryIterator" "next" "Ljava/util/TreeMap$Entry;" .null)) := by
  refine own_open n0 (plainFor_of_name pn_10) (fun m => ef_R2 m i1 ) ?_
  intro p e s m below meth c s₁ A0 Bd hx hby hml hown hnm hZ hh X0 e0 N0 g0
  have hE := own_hd hby E34
  have g101 := jA X0 hx g0 (hE 0 rfl) rfl rfl
  obtain ⟨T102, X102, e102, g102⟩ := own_getF X0 hx hZ hown (hw _ (mi 211 rfl)) Via.refl e0 F4_ g101 (hE 1 rfl)
  have g103 := jA X102 hx (show Go p e below T102 (mkF m 17 #[rv i1, rv e1] []) A0 from fun t kt => (jA X102 hx (jT X102 hx g102 (hE 2 rfl) rfl rfl (l' := #[rv i1, rv e1]) rfl) (hE 3 rfl) rfl rfl) t (by refine XS.ifnonnullYes X102.here hx rfl (pc0 := 6) (pc' := 17) rfl (hE 4 rfl) rfl (by decide) (by decide) ?_; exact kt)) (hE 5 rfl) rfl rfl
  obtain ⟨T104, X104, e104, g104⟩ := own_getF X102 hx hZ hown (hw _ (mi 203 rfl)) Via.refl e102 F1_ g103 (hE 6 rfl)
  have g105 := own_getR X104 hx hZ hown (hw _ (mi 206 rfl)) e104 F6_ g104 (hE 7 rfl)
  have g106 := jA X104 hx g105 (hE 8 rfl) rfl rfl
  obtain ⟨T107, X107, e107, g107⟩ := own_getF X104 hx hZ hown (hw _ (mi 207 rfl)) Via.refl e104 F2_ g106 (hE 9 rfl)
  have g108 := jA X107 hx (jA X107 hx (jy X107 hx g107 (hE 10 rfl) rfl (teq (rfl : mc = mc)).1 (pc' := 39) (by decide)) (hE 11 rfl) rfl rfl) (hE 12 rfl) rfl rfl
  obtain ⟨_, L109, T109, ⟨rfl, M109, e109⟩, X109, st109⟩ := own_callS X107 hx hZ hown (hw _ (mi 247 rfl)) (wd23 hw) (rm_suc1 hw e1 h0 n0 O0 F8_ F9_) g108 e107 [(.ref i1)] rfl (lenOf pd_19 rfl) (hE 13 rfl) hml.symm 1 rfl (by decide)
  have N109 := Fr.app N0 M109
  obtain ⟨T110, h110, X110, e110, W110, st110⟩ := putF X109 hx hZ hown (host := "") (Or.inl (hw _ (mi 211 rfl))) Via.refl e109 F4_ E0_ (Or.inl (hw _ (mi 212 rfl))) (hw _ (mi 186 rfl)) (ty := (.object "java/util/TreeMap$Entry")) (by decide) rfl rfl (g := (mkF m 44 #[rv i1, rv e1] [.null, (.ref i1)])) rfl rfl (hE 14 rfl)
  have O111 := O0.wr W110 G10_
  have y112 : Fld Z h110 i1 "java/util/TreeMap$PrivateEntryIterator" "next" "Ljava/util/TreeMap$Entry;" .null := F4_.same W110
  have N110 := Fr.snoc X110 N109 G10_
  have g113 : Go p e below T110 (mkF m 47 #[rv i1, rv e1] []) A0 := fun t kont => st109 t (st110 t kont)
  have g114 := jA X110 hx (jA X110 hx g113 (hE 15 rfl) rfl rfl) (hE 16 rfl) rfl rfl
  have y115 := (E0_.wr W110)
  have y116 := (F3_.other W110 (Or.inr (slot_ne (Or.inl (hw _ (mi 210 rfl))) (Or.inl (hw _ (mi 212 rfl))) (by decide) (t := (.object "java/util/TreeMap$Entry")) (t' := (.object "java/util/TreeMap$Entry")) (by decide) (by decide))))
  obtain ⟨T117, h117, X117, e117, W117, st117⟩ := putF X110 hx hZ hown (host := "") (Or.inl (hw _ (mi 209 rfl))) Via.refl e110 y116 y115 (Or.inl (hw _ (mi 210 rfl))) (hw _ (mi 186 rfl)) (ty := (.object "java/util/TreeMap$Entry")) (by decide) rfl rfl (g := (mkF m 49 #[rv i1, rv e1] [(.ref e1), (.ref i1)])) rfl rfl (hE 17 rfl)
  have O118 := O111.wr W117 G10_
  have y119 : Fld Z h117 i1 "java/util/TreeMap$PrivateEntryIterator" "lastReturned" "Ljava/util/TreeMap$Entry;" (.ref e1) := y116.same W117
  have N117 := Fr.snoc X117 N110 G10_
  have g120 : Go p e below T117 (mkF m 52 #[rv i1, rv e1] []) A0 := fun t kont => g114 t (st117 t kont)
  have g121 := jA X117 hx g120 (hE 18 rfl) rfl rfl
  have K122 : Keep h0 h117 [i1] := (((Keep.refl h0 [i1]).wr W110 (Or.inl (mi 0 rfl))).wr W117 (Or.inl (mi 0 rfl)))
  have y123 := (y115.wr W117)
  have y124 := ((F1_.other W110 (Or.inr (slot_ne (Or.inr (hw _ (mi 204 rfl))) (Or.inl (hw _ (mi 212 rfl))) (by decide) (t := (.object "java/util/TreeMap")) (t' := (.object "java/util/TreeMap$Entry")) (by decide) (by decide)))).other W117 (Or.inr (slot_ne (Or.inr (hw _ (mi 204 rfl))) (Or.inl (hw _ (mi 210 rfl))) (by decide) (t := (.object "java/util/TreeMap")) (t' := (.object "java/util/TreeMap$Entry")) (by decide) (by decide))))
  have y125 := ((F2_.other W110 (Or.inr (slot_ne (Or.inl (hw _ (mi 208 rfl))) (Or.inl (hw _ (mi 212 rfl))) (by decide) (t := .int) (t' := (.object "java/util/TreeMap$Entry")) (by decide) (by decide)))).other W117 (Or.inr (slot_ne (Or.inl (hw _ (mi 208 rfl))) (Or.inl (hw _ (mi 210 rfl))) (by decide) (t := .int) (t' := (.object "java/util/TreeMap$Entry")) (by decide) (by decide))))
  have y126 := (y112.other W117 (Or.inr (slot_ne (Or.inl (hw _ (mi 212 rfl))) (Or.inl (hw _ (mi 210 rfl))) (by decide) (t := (.object "java/util/TreeMap$Entry")) (t' := (.object "java/util/TreeMap$Entry")) (by decide) (by decide))))
  refine own_leave X117 Bd (some (.ref e1)) nofun g121 (fun fs hr => retOut X117 hx Bd.returns rfl (Or.inr (Or.inr (Or.inr (Or.inr ⟨rfl, rfl, rfl⟩)))) (hE 19 rfl) hr) (by decide) (by decide) ?_
  rw [e117]
  exact ⟨rfl, N117, K122, y123, y124, y125, y119, y126⟩
theorem rm_nx1 (hw : HW a0 Z) (i1 t1 e1 : Addr) (mc : Int32) (h0 : Heap) (n0 : Nat) (O0 : Old Z n0 h0) (E0_ : Exa Z h0 i1 "java/util/TreeMap$EntryIterator") (F1_ : Fld Z h0 i1 "java/util/TreeMap$PrivateEntryIterator" "this$0" "Ljava/util/TreeMap;" (.ref t1)) (F2_ : Fld Z h0 i1 "java/util/TreeMap$PrivateEntryIterator" "expectedModCount" "I" (.int mc)) (F3_ : Fld Z h0 i1 "java/util/TreeMap$PrivateEntryIterator" "lastReturned" "Ljava/util/TreeMap$Entry;" .null) (F4_ : Fld Z h0 i1 "java/util/TreeMap$PrivateEntryIterator" "next" "Ljava/util/TreeMap$Entry;" (.ref e1)) (E5_ : Exa Z h0 t1 "java/util/TreeMap") (F6_ : Fld Z h0 t1 "java/util/TreeMap" "modCount" "I" (.int mc)) (E7_ : Exa Z h0 e1 "java/util/TreeMap$Entry") (F8_ : Fld Z h0 e1 "java/util/TreeMap$Entry" "right" "Ljava/util/TreeMap$Entry;" .null) (F9_ : Fld Z h0 e1 "java/util/TreeMap$Entry" "parent" "Ljava/util/TreeMap$Entry;" .null) (G10_ : n0 ≤ i1) :
    own_M l mN33 (Jvm.Cond.code mN33 jdk_2737_method_2_code 1 (some (.object "java/util/Map$Entry"))) [] (⟨2, 0, 0, 28⟩ : Room) #[(.ref i1)] Z h0 (fun v h L => v = some (.ref e1) ∧ Fr n0 L ∧ Keep h0 h [i1] ∧ (Exa Z h i1 "java/util/TreeMap$EntryIterator") ∧ (Fld Z h i1 "java/util/TreeMap$PrivateEntryIterator" "this$0" "Ljava/util/TreeMap;" (.ref t1)) ∧ (Fld Z h i1 "java/util/TreeMap$PrivateEntryIterator" "expectedModCount" "I" (.int mc)) ∧ (Fld Z h i1 "java/util/TreeMap$PrivateEntryIterator" "lastReturned" "Ljava/util/TreeMap$Entry;" (.ref e1)) ∧ (Fld Z h i1 "java/util/TreeMap$PrivateEntryIterator" "next" "Ljava/util/TreeMap$Entry;" .null)) := by
  refine own_open n0 (plainFor_of_name pn_11) (fun m => ef_R1 m i1 ) ?_
  intro p e s m below meth c s₁ A0 Bd hx hby hml hown hnm hZ hh X0 e0 N0 g0
  have hE := own_hd hby E33
  have g101 := jA X0 hx g0 (hE 0 rfl) rfl rfl
  obtain ⟨_, L102, T102, ⟨rfl, M102, K102, y103, y104, y105, y106, y107⟩, X102, st102⟩ := own_callW X0 hx hZ hown (hw _ (mi 241 rfl)) (hw _ (mi 242 rfl)) (hw _ (mi 243 rfl)) (hw _ (mi 245 rfl)) (hw _ (mi 244 rfl)) (hw _ (mi 201 rfl)) (hw _ (mi 246 rfl)) (by decide) E0_ (rm_nxe hw i1 t1 e1 mc h0 n0 O0 E0_ F1_ F2_ F3_ F4_ E5_ F6_ E7_ F8_ F9_ G10_) g101 e0 [] rfl (lenOf pd_18 rfl) (hE 1 rfl) hml.symm 0 rfl (by decide)
  have N102 := Fr.app N0 M102
  have O108 := O0.keep K102 (allS G10_ all0)
  have K109 : Keep h0 T102.heap [i1] := ((Keep.refl h0 [i1]).trans K102 (allS (P := fun x => x ∈ [i1] ∨ h0.size ≤ x) (Or.inl (mi 0 rfl)) all0))
  refine own_leave X102 Bd (some (.ref e1)) nofun st102 (fun fs hr => retOut X102 hx Bd.returns rfl (Or.inr (Or.inr (Or.inr (Or.inr ⟨rfl, rfl, rfl⟩)))) (hE 2 rfl) hr) (by decide) (by decide) ?_
  exact ⟨rfl, N102, K109, y103, y104, y105, y106, y107⟩
theorem pd_20 : parseMethodDescriptor "()Ljava/util/Map$Entry;" = some ⟨[], some (.object "java/util/Map$Entry")⟩ := by decide +kernel
theorem wd24 (hw : HW a0 Z) : own_wdV a0 Z "java/util/TreeMap$EntryIterator" mN33 mN33 jdk_2737_method_2_code 1 (some (.object "java/util/Map$Entry")) := ⟨hw _ (mi 237 rfl), hw _ (mi 239 rfl), hw _ (mi 238 rfl), hw _ (mi 187 rfl), hw _ (mi 240 rfl), by decide⟩
theorem rm_nx2 (hw : HW a0 Z) (i1 t1 e1 : Addr) (mc : Int32) (h0 : Heap) (n0 : Nat) (O0 : Old Z n0 h0) (E0_ : Exa Z h0 i1 "java/util/TreeMap$EntryIterator") (F1_ : Fld Z h0 i1 "java/util/TreeMap$PrivateEntryIterator" "this$0" "Ljava/util/TreeMap;" (.ref t1)) (F2_ : Fld Z h0 i1 "java/util/TreeMap$PrivateEntryIterator" "expectedModCount" "I" (.int mc)) (F3_ : Fld Z h0 i1 "java/util/TreeMap$PrivateEntryIterator" "lastReturned" "Ljava/util/TreeMap$Entry;" .null) (F4_ : Fld Z h0 i1 "java/util/TreeMap$PrivateEntryIterator" "next" "Ljava/util/TreeMap$Entry;" (.ref e1)) (E5_ : Exa Z h0 t1 "java/util/TreeMap") (F6_ : Fld Z h0 t1 "java/util/TreeMap" "modCount" "I" (.int mc)) (E7_ : Exa Z h0 e1 "java/util/TreeMap$Entry") (F8_ : Fld Z h0 e1 "java/util/TreeMap$Entry" "right" "Ljava/util/TreeMap$Entry;" .null) (F9_ : Fld Z h0 e1 "java/util/TreeMap$Entry" "parent" "Ljava/util/TreeMap$Entry;" .null) (G10_ : n0 ≤ i1) :
    own_M l mN34 (Jvm.Cond.code mN34 jdk_2737_method_3_code 1 (some (.object "java/lang/Object"))) [] (⟨3, 0, 0, 40⟩ : Room) #[(.ref i1)] Z h0 (fun v h L => v = some (.ref e1) ∧ Fr n0 L ∧ Keep h0 h [i1] ∧ (Exa Z h i1 "java/util/TreeMap$EntryIterator") ∧ (Fld Z h i1 "java/util/TreeMap$PrivateEntryIterator" "this$0" "Ljava/util/TreeMap;" (.ref t1)) ∧ (Fld Z h i1 "java/util/TreeMap$PrivateEntryIterator" "expectedModCount" "I" (.int mc)) ∧ (Fld Z h i1 "java/util/TreeMap$PrivateEntryIterator" "lastReturned" "Ljava/util/TreeMap$Entry;" (.ref e1)) ∧ (Fld Z h i1 "java/util/TreeMap$PrivateEntryIterator" "next" "Ljava/util/TreeMap$Entry;" .null)) := by
  refine own_open n0 (plainFor_of_name pn_11) (fun m => ef_R1 m i1 ) ?_
  intro p e s m below meth c s₁ A0 Bd hx hby hml hown hnm hZ hh X0 e0 N0 g0
  have hE := own_hd hby E32
  have g101 := jA X0 hx g0 (hE 0 rfl) rfl rfl
  obtain ⟨_, L102, T102, ⟨rfl, M102, K102, y103, y104, y105, y106, y107⟩, X102, st102⟩ := own_callV X0 hx hZ hown (hw _ (mi 236 rfl)) (wd24 hw) (notFace_of_selects (args := #[]) (mvT hZ (hw _ (mi 239 rfl)))) E0_ (rm_nx1 hw i1 t1 e1 mc h0 n0 O0 E0_ F1_ F2_ F3_ F4_ E5_ F6_ E7_ F8_ F9_ G10_) g101 e0 [] rfl (lenOf pd_20 rfl) (hE 1 rfl) hml.symm 0 rfl (by decide)
  have N102 := Fr.app N0 M102
  have O108 := O0.keep K102 (allS G10_ all0)
  have K109 : Keep h0 T102.heap [i1] := ((Keep.refl h0 [i1]).trans K102 (allS (P := fun x => x ∈ [i1] ∨ h0.size ≤ x) (Or.inl (mi 0 rfl)) all0))
  refine own_leave X102 Bd (some (.ref e1)) nofun st102 (fun fs hr => retOut X102 hx Bd.returns rfl (Or.inr (Or.inr (Or.inr (Or.inr ⟨rfl, rfl, rfl⟩)))) (hE 2 rfl) hr) (by decide) (by decide) ?_
  exact ⟨rfl, N102, K109, y103, y104, y105, y106, y107⟩
theorem rm_gk (hw : HW a0 Z) (e1 a2 : Addr) (h0 : Heap) (n0 : Nat) (O0 : Old Z n0 h0) (F0_ : Fld Z h0 e1 "java/util/TreeMap$Entry" "key" "Ljava/lang/Object;" (.ref a2)) :
    own_M l mN35 (Jvm.Cond.code mN35 jdk_2736_method_2_code 1 (some (.object "java/lang/Object"))) [] (⟨0, 0, 0, 0⟩ : Room) #[(.ref e1)] Z h0 (fun v h L => v = some (.ref a2) ∧ Fr n0 L ∧ h = h0) := by
  refine own_open n0 (plainFor_of_name pn_8) (fun m => ef_R1 m e1 ) ?_
  intro p e s m below meth c s₁ A0 Bd hx hby hml hown hnm hZ hh X0 e0 N0 g0
  have hE := own_hd hby E36
  have g101 := jA X0 hx g0 (hE 0 rfl) rfl rfl
  obtain ⟨T102, X102, e102, g102⟩ := own_getF X0 hx hZ hown (hw _ (mi 110 rfl)) Via.refl e0 F0_ g101 (hE 1 rfl)
  refine own_leave X102 Bd (some (.ref a2)) nofun g102 (fun fs hr => retOut X102 hx Bd.returns rfl (Or.inr (Or.inr (Or.inr (Or.inr ⟨rfl, rfl, rfl⟩)))) (hE 2 rfl) hr) (by decide) (by decide) ?_
  rw [e102]
  exact ⟨rfl, N0, rfl⟩
theorem rm_gv (hw : HW a0 Z) (e1 a2 : Addr) (h0 : Heap) (n0 : Nat) (O0 : Old Z n0 h0) (F0_ : Fld Z h0 e1 "java/util/TreeMap$Entry" "value" "Ljava/lang/Object;" (.ref a2)) :
    own_M l mN36 (Jvm.Cond.code mN36 jdk_2736_method_3_code 1 (some (.object "java/lang/Object"))) [] (⟨0, 0, 0, 0⟩ : Room) #[(.ref e1)] Z h0 (fun v h L => v = some (.ref a2) ∧ Fr n0 L ∧ h = h0) := by
  refine own_open n0 (plainFor_of_name pn_8) (fun m => ef_R1 m e1 ) ?_
  intro p e s m below meth c s₁ A0 Bd hx hby hml hown hnm hZ hh X0 e0 N0 g0
  have hE := own_hd hby E38
  have g101 := jA X0 hx g0 (hE 0 rfl) rfl rfl
  obtain ⟨T102, X102, e102, g102⟩ := own_getF X0 hx hZ hown (hw _ (mi 112 rfl)) Via.refl e0 F0_ g101 (hE 1 rfl)
  refine own_leave X102 Bd (some (.ref a2)) nofun g102 (fun fs hr => retOut X102 hx Bd.returns rfl (Or.inr (Or.inr (Or.inr (Or.inr ⟨rfl, rfl, rfl⟩)))) (hE 2 rfl) hr) (by decide) (by decide) ?_
  rw [e102]
  exact ⟨rfl, N0, rfl⟩
theorem pd_21 : parseMethodDescriptor "()Ljava/util/Set;" = some ⟨[], some (.object "java/util/Set")⟩ := by decide +kernel
theorem wd25 (hw : HW a0 Z) : own_wdV a0 Z "java/util/TreeMap" mN25 mN25 jdk_2729_method_53_code 2 (some (.object "java/util/Set")) := ⟨hw _ (mi 148 rfl), hw _ (mi 150 rfl), hw _ (mi 149 rfl), hw _ (mi 12 rfl), hw _ (mi 151 rfl), by decide⟩
theorem pd_22 : parseMethodDescriptor "()Ljava/util/Iterator;" = some ⟨[], some (.object "java/util/Iterator")⟩ := by decide +kernel
theorem pd_23 : parseMethodDescriptor "()Z" = some ⟨[], some .boolean⟩ := by decide +kernel
theorem ef_RR4 (m : MethodId) (x0 : Addr) (x1 : Addr)  : entryFrame m #[(.ref x0), (.ref x1)] 4 = mkF m 0 #[.val (.ref x0), .val (.ref x1), .unset, .unset] [] := by first | (simp [entryFrame, mkF, argsToLocals, Value.category]; done) | rfl
theorem rm_aa0 (hw : HW a0 Z) (h1 h2 t2 : Addr) (sz2 mc2 : Int32) (h0 : Heap) (n0 : Nat) (O0 : Old Z n0 h0) (E0_ : Exa Z h0 h2 "com/example/fetch_from_near/fetchfromnear/Histogram") (F1_ : Fld Z h0 h2 "com/example/fetch_from_near/fetchfromnear/Histogram" "counts" "Ljava/util/TreeMap;" (.ref t2)) (E2_ : Exa Z h0 t2 "java/util/TreeMap") (F3_ : Fld Z h0 t2 "java/util/TreeMap" "comparator" "Ljava/util/Comparator;" .null) (F4_ : Fld Z h0 t2 "java/util/TreeMap" "root" "Ljava/util/TreeMap$Entry;" .null) (F5_ : Fld Z h0 t2 "java/util/TreeMap" "size" "I" (.int sz2)) (F6_ : Fld Z h0 t2 "java/util/TreeMap" "modCount" "I" (.int mc2)) (F7_ : Fld Z h0 t2 "java/util/TreeMap" "entrySet" "Ljava/util/TreeMap$EntrySet;" .null) (G8_ : n0 ≤ t2) (E9_ : Exa Z h0 h1 "com/example/fetch_from_near/fetchfromnear/Histogram") :
    own_M l mN37 (Jvm.Cond.code mN37 prog_10_method_4_code 4 none) [] (⟨5, 2, 5, 64⟩ : Room) #[(.ref h1), (.ref h2)] Z h0 (fun v h L => v = none ∧ Fr n0 L ∧ Keep h0 h [t2]) := by
  refine own_open n0 (plainFor_of_name pn_7) (fun m => ef_RR4 m h1 h2 ) ?_
  intro p e s m below meth c s₁ A0 Bd hx hby hml hown hnm hZ hh X0 e0 N0 g0
  have hE := own_hd hby E21
  have g101 := jA X0 hx g0 (hE 0 rfl) rfl rfl
  obtain ⟨T102, X102, e102, g102⟩ := own_getF X0 hx hZ hown (hw _ (mi 29 rfl)) Via.refl e0 F1_ g101 (hE 1 rfl)
  obtain ⟨_, L103, T103, ⟨r104, rfl, M103, K103, y105, y106, y107, y108, y109, y110, y111, y112, y113⟩, X103, st103⟩ := own_callV X102 hx hZ hown (hw _ (mi 147 rfl)) (wd25 hw) (notFace_of_selects (args := #[]) (mvT hZ (hw _ (mi 150 rfl)))) E2_ (rm_eset hw t2 .null sz2 mc2 h0 n0 O0 E2_ F3_ F4_ F5_ F6_ F7_ G8_ (rfl)) g102 e102 [] rfl (lenOf pd_21 rfl) (hE 2 rfl) hml.symm 0 rfl (by decide)
  have N103 := Fr.app N0 M103
  have O114 := O0.keep K103 (allS G8_ all0)
  obtain ⟨_, L115, T115, ⟨r116, rfl, M115, K115, y117, y118, y119, y120, y121, y122⟩, X115, st115⟩ := own_callF X103 hx hZ hown (hw _ (mi 176 rfl)) (hw _ (mi 177 rfl)) (mvT hZ (hw _ (mi 178 rfl))) (hw _ (mi 179 rfl)) (hw _ (mi 180 rfl)) (hw _ (mi 181 rfl)) (hw _ (mi 182 rfl)) (hw _ (mi 183 rfl)) (hw _ (mi 156 rfl)) (hw _ (mi 184 rfl)) (by decide) y106 (rm_iter0 hw r104 t2 mc2 T103.heap n0 O114 y107 y108 y112 y110) st103 rfl [] rfl (lenOf pd_22 rfl) (hE 3 rfl) hml.symm 0 rfl (by decide)
  have N115 := Fr.app N103 M115
  have O123 := O114.keep K115 all0
  have g124 := jA X115 hx (jT X115 hx st115 (hE 4 rfl) rfl rfl (l' := #[rv h1, rv h2, rv r116, .unset]) rfl) (hE 5 rfl) rfl rfl
  obtain ⟨_, L125, T125, ⟨rfl, M125, e125⟩, X125, st125⟩ := own_callF X115 hx hZ hown (hw _ (mi 213 rfl)) (hw _ (mi 214 rfl)) (mvT hZ (hw _ (mi 215 rfl))) (hw _ (mi 216 rfl)) (hw _ (mi 217 rfl)) (hw _ (mi 218 rfl)) (hw _ (mi 219 rfl)) (hw _ (mi 220 rfl)) (hw _ (mi 201 rfl)) (hw _ (mi 221 rfl)) (by decide) y118 (rm_hn0 hw r116 T115.heap n0 O123 y122) g124 rfl [] rfl (lenOf pd_23 rfl) (hE 6 rfl) hml.symm 0 rfl (by decide)
  have N125 := Fr.app N115 M125
  have g126 := jY X125 hx st125 (hE 7 rfl) rfl (by decide) (pc' := 63) (by decide)
  have K127 : Keep h0 T115.heap [t2] := (((Keep.refl h0 [t2]).trans K103 (allS (P := fun x => x ∈ [t2] ∨ h0.size ≤ x) (Or.inl (mi 0 rfl)) all0)).trans K115 (fun x hx => nomatch hx))
  refine own_leave X125 Bd (none) (fun _ => rfl) g126 (fun fs hr => X125.returnOut hx Bd.returns (hE 23 rfl) hr) (by decide) (by decide) ?_
  rw [e125]
  exact ⟨rfl, N125, K127⟩
theorem pd_24 : parseMethodDescriptor "()Ljava/lang/Object;" = some ⟨[], some (.object "java/lang/Object")⟩ := by decide +kernel
theorem pd_25 : parseMethodDescriptor "()J" = some ⟨[], some .long⟩ := by decide +kernel
theorem wd26 (hw : HW a0 Z) : own_wdV a0 Z "java/lang/Long" mN7 mN7 jdk_35_method_31_code 1 (some .long) := ⟨hw _ (mi 264 rfl), hw _ (mi 266 rfl), hw _ (mi 265 rfl), hw _ (mi 49 rfl), hw _ (mi 267 rfl), by decide⟩
theorem rm_aa10 (hw : HW a0 Z) (h1 t1 : Addr) (tt : Int64) (sz mc : Int32) (xk xv : Int64) (lc : Addr) (kc : ClassId) (lcs : List Value) (h2 t2 : Addr) (sz2 mc2 : Int32) (f1 kb vb : Addr) (h0 : Heap) (n0 : Nat) (O0 : Old Z n0 h0) (E0_ : Exa Z h0 h1 "com/example/fetch_from_near/fetchfromnear/Histogram") (F1_ : Fld Z h0 h1 "com/example/fetch_from_near/fetchfromnear/Histogram" "counts" "Ljava/util/TreeMap;" (.ref t1)) (F2_ : Fld Z h0 h1 "com/example/fetch_from_near/fetchfromnear/Histogram" "total" "J" (.long tt)) (G3_ : n0 ≤ h1) (G4_ : n0 ≤ t1) (hc1 : ¬ (xv < (1 : Int64))) (ht0 : ¬ (tt < (0 : Int64))) (hs0 : ¬ ((tt + xv) < (0 : Int64))) (S8_ : Sta Z Z.heap "java/lang/Long$LongCache" "cache" "[Ljava/lang/Long;" (.ref lc)) (ZA9_ : Arv Z Z.heap lc kc (.object "java/lang/Long") (256 : Int32) lcs .null) (hlc : ∀ i, i < 256 → ∃ a, lcs.getD i .null = .ref a ∧ Exa Z Z.heap a "java/lang/Long" ∧ Fld Z Z.heap a "java/lang/Long" "value" "J" (.long (Int64.ofInt ((i : Int) - 128)))) (E11_ : Exa Z h0 h2 "com/example/fetch_from_near/fetchfromnear/Histogram") (F12_ : Fld Z h0 h2 "com/example/fetch_from_near/fetchfromnear/Histogram" "counts" "Ljava/util/TreeMap;" (.ref t2)) (E13_ : Exa Z h0 t2 "java/util/TreeMap") (F14_ : Fld Z h0 t2 "java/util/TreeMap" "comparator" "Ljava/util/Comparator;" .null) (F15_ : Fld Z h0 t2 "java/util/TreeMap" "root" "Ljava/util/TreeMap$Entry;" (.ref f1)) (F16_ : Fld Z h0 t2 "java/util/TreeMap" "size" "I" (.int sz2)) (F17_ : Fld Z h0 t2 "java/util/TreeMap" "modCount" "I" (.int mc2)) (F18_ : Fld Z h0 t2 "java/util/TreeMap" "entrySet" "Ljava/util/TreeMap$EntrySet;" .null) (G19_ : n0 ≤ t2) (E20_ : Exa Z h0 f1 "java/util/TreeMap$Entry") (F21_ : Fld Z h0 f1 "java/util/TreeMap$Entry" "key" "Ljava/lang/Object;" (.ref kb)) (F22_ : Fld Z h0 f1 "java/util/TreeMap$Entry" "value" "Ljava/lang/Object;" (.ref vb)) (F23_ : Fld Z h0 f1 "java/util/TreeMap$Entry" "left" "Ljava/util/TreeMap$Entry;" .null) (F24_ : Fld Z h0 f1 "java/util/TreeMap$Entry" "right" "Ljava/util/TreeMap$Entry;" .null) (F25_ : Fld Z h0 f1 "java/util/TreeMap$Entry" "parent" "Ljava/util/TreeMap$Entry;" .null) (F26_ : Fld Z h0 f1 "java/util/TreeMap$Entry" "color" "Z" (.int 1)) (E27_ : Exa Z h0 kb "java/lang/Long") (F28_ : Fld Z h0 kb "java/lang/Long" "value" "J" (.long xk)) (E29_ : Exa Z h0 vb "java/lang/Long") (F30_ : Fld Z h0 vb "java/lang/Long" "value" "J" (.long xv)) (NE31_ : ¬ (t1 = t2)) (E32_ : Exa Z h0 t1 "java/util/TreeMap") (F33_ : Fld Z h0 t1 "java/util/TreeMap" "comparator" "Ljava/util/Comparator;" .null) (F34_ : Fld Z h0 t1 "java/util/TreeMap" "root" "Ljava/util/TreeMap$Entry;" .null) (F35_ : Fld Z h0 t1 "java/util/TreeMap" "size" "I" (.int sz)) (F36_ : Fld Z h0 t1 "java/util/TreeMap" "modCount" "I" (.int mc)) (F37_ : Fld Z h0 t1 "java/util/TreeMap" "entrySet" "Ljava/util/TreeMap$EntrySet;" .null) :
    own_M l mN37 (Jvm.Cond.code mN37 prog_10_method_4_code 4 none) [] (⟨7, 5, 13, 3091⟩ : Room) #[(.ref h1), (.ref h2)] Z h0 (fun v h L => v = none ∧ Fr n0 L ∧ Keep h0 h [h1, t2, t1] ∧ (Fld Z h h1 "com/example/fetch_from_near/fetchfromnear/Histogram" "total" "J" (.long (tt + xv))) ∧ (Exa Z h h1 "com/example/fetch_from_near/fetchfromnear/Histogram")) := by
  refine own_open n0 (plainFor_of_name pn_7) (fun m => ef_RR4 m h1 h2 ) ?_
  intro p e s m below meth c s₁ A0 Bd hx hby hml hown hnm hZ hh X0 e0 N0 g0
  have hE := own_hd hby E21
  have g101 := jA X0 hx g0 (hE 0 rfl) rfl rfl
  obtain ⟨T102, X102, e102, g102⟩ := own_getF X0 hx hZ hown (hw _ (mi 29 rfl)) Via.refl e0 F12_ g101 (hE 1 rfl)
  obtain ⟨_, L103, T103, ⟨r104, rfl, M103, K103, y105, y106, y107, y108, y109, y110, y111, y112, y113⟩, X103, st103⟩ := own_callV X102 hx hZ hown (hw _ (mi 147 rfl)) (wd25 hw) (notFace_of_selects (args := #[]) (mvT hZ (hw _ (mi 150 rfl)))) E13_ (rm_eset hw t2 (.ref f1) sz2 mc2 h0 n0 O0 E13_ F14_ F15_ F16_ F17_ F18_ G19_ (rfl)) g102 e102 [] rfl (lenOf pd_21 rfl) (hE 2 rfl) hml.symm 0 rfl (by decide)
  have N103 := Fr.app N0 M103
  have O114 := O0.keep K103 (allS G19_ all0)
  have y116 := (E20_.keep K103)
  have y117 := (F23_.keep K103 (ninS (ne_exa y116 y108 (by decide)) nin0))
  obtain ⟨_, L115, T115, ⟨r118, rfl, M115, K115, y119, y120, y121, y122, y123, y124⟩, X115, st115⟩ := own_callF X103 hx hZ hown (hw _ (mi 176 rfl)) (hw _ (mi 177 rfl)) (mvT hZ (hw _ (mi 178 rfl))) (hw _ (mi 179 rfl)) (hw _ (mi 180 rfl)) (hw _ (mi 181 rfl)) (hw _ (mi 182 rfl)) (hw _ (mi 183 rfl)) (hw _ (mi 156 rfl)) (hw _ (mi 184 rfl)) (by decide) y106 (rm_iter1 hw r104 t2 mc2 f1 T103.heap n0 O114 y107 y108 y112 y110 y117) st103 rfl [] rfl (lenOf pd_22 rfl) (hE 3 rfl) hml.symm 0 rfl (by decide)
  have N115 := Fr.app N103 M115
  have O125 := O114.keep K115 all0
  have g126 := jA X115 hx (jT X115 hx st115 (hE 4 rfl) rfl rfl (l' := #[rv h1, rv h2, rv r118, .unset]) rfl) (hE 5 rfl) rfl rfl
  obtain ⟨_, L127, T127, ⟨rfl, M127, e127⟩, X127, st127⟩ := own_callF X115 hx hZ hown (hw _ (mi 213 rfl)) (hw _ (mi 214 rfl)) (mvT hZ (hw _ (mi 215 rfl))) (hw _ (mi 216 rfl)) (hw _ (mi 217 rfl)) (hw _ (mi 218 rfl)) (hw _ (mi 219 rfl)) (hw _ (mi 220 rfl)) (hw _ (mi 201 rfl)) (hw _ (mi 221 rfl)) (by decide) y120 (rm_hn1 hw r118 f1 T115.heap n0 O125 y124) g126 rfl [] rfl (lenOf pd_23 rfl) (hE 6 rfl) hml.symm 0 rfl (by decide)
  have N127 := Fr.app N115 M127
  have g128 := jA X127 hx (jN X127 hx st127 (hE 7 rfl) rfl (by decide)) (hE 8 rfl) rfl rfl
  have y130 := (y108.keep K115)
  have y131 := (y112.keep K115 nin0)
  have y132 := (y116.keep K115)
  have y133 := ((F24_.keep K103 (ninS (ne_exa y132 y130 (by decide)) nin0)).keep K115 nin0)
  have y134 := ((F25_.keep K103 (ninS (ne_exa y132 y130 (by decide)) nin0)).keep K115 nin0)
  have ge135 : n0 ≤ r118 := Nat.le_trans (own_old_le O114) y119
  obtain ⟨_, L129, T129, ⟨rfl, M129, K129, y136, y137, y138, y139, y140⟩, X129, st129⟩ := own_callF X127 hx hZ hown (hw _ (mi 228 rfl)) (hw _ (mi 229 rfl)) (mvT hZ (hw _ (mi 230 rfl))) (hw _ (mi 231 rfl)) (hw _ (mi 232 rfl)) (hw _ (mi 233 rfl)) (hw _ (mi 234 rfl)) (hw _ (mi 220 rfl)) (hw _ (mi 187 rfl)) (hw _ (mi 235 rfl)) (by decide) y120 (rm_nx2 hw r118 t2 f1 mc2 T115.heap n0 O125 y120 y121 y122 y123 y124 y130 y131 y132 y133 y134 ge135) g128 e127 [] rfl (lenOf pd_24 rfl) (hE 9 rfl) hml.symm 0 rfl (by decide)
  have N129 := Fr.app N127 M129
  have O141 := O125.keep K129 (allS ge135 all0)
  have y143 := (y132.keep K129)
  obtain ⟨T142, X142, e142, st142⟩ := castY X129 hx hZ hown (hw _ (mi 252 rfl)) rfl (Ins.of_exa y143 (hw _ (mi 253 rfl))) (g := (mkF m 28 #[rv h1, rv h2, rv r118, .unset] [(.ref f1)])) rfl rfl (hE 10 rfl)
  have g144 : Go p e below T142 (mkF m 31 #[rv h1, rv h2, rv r118, .unset] [(.ref f1)]) A0 := fun t kont => st129 t (st142 t kont)
  have g145 := jA X142 hx (jA X142 hx (jT X142 hx g144 (hE 11 rfl) rfl rfl (l' := #[rv h1, rv h2, rv r118, rv f1]) rfl) (hE 12 rfl) rfl rfl) (hE 13 rfl) rfl rfl
  have y147 := (y130.keep K129)
  have y148 := (((F21_.keep K103 (ninS (ne_exa y143 y147 (by decide)) nin0)).keep K115 nin0).keep K129 (ninS (Nat.ne_of_lt (Nat.lt_of_lt_of_le (Nat.lt_of_lt_of_le E20_.lt K103.1) y119)) nin0))
  obtain ⟨_, L146, T146, ⟨rfl, M146, e146⟩, X146, st146⟩ := own_callF X142 hx hZ hown (hw _ (mi 254 rfl)) (hw _ (mi 255 rfl)) (mvT hZ (hw _ (mi 256 rfl))) (hw _ (mi 257 rfl)) (hw _ (mi 258 rfl)) (hw _ (mi 259 rfl)) (hw _ (mi 260 rfl)) (hw _ (mi 253 rfl)) (hw _ (mi 102 rfl)) (hw _ (mi 261 rfl)) (by decide) y143 (rm_gk hw f1 kb T129.heap n0 O141 y148) g145 e142 [(.ref h1)] rfl (lenOf pd_24 rfl) (hE 14 rfl) hml.symm 1 rfl (by decide)
  have N146 := Fr.app N129 M146
  have y150 := (((E27_.keep K103).keep K115).keep K129)
  obtain ⟨T149, X149, e149, st149⟩ := castY X146 hx hZ hown (hw _ (mi 262 rfl)) e146 (Ins.self y150) (g := (mkF m 39 #[rv h1, rv h2, rv r118, rv f1] [(.ref kb), (.ref h1)])) rfl rfl (hE 15 rfl)
  have g151 : Go p e below T149 (mkF m 42 #[rv h1, rv h2, rv r118, rv f1] [(.ref kb), (.ref h1)]) A0 := fun t kont => st146 t (st149 t kont)
  have y153 := (((F28_.keep K103 (ninS (ne_exa y150 y147 (by decide)) nin0)).keep K115 nin0).keep K129 (ninS (Nat.ne_of_lt (Nat.lt_of_lt_of_le (Nat.lt_of_lt_of_le E27_.lt K103.1) y119)) nin0))
  obtain ⟨_, L152, T152, ⟨rfl, M152, e152⟩, X152, st152⟩ := own_callV X149 hx hZ hown (hw _ (mi 263 rfl)) (wd26 hw) (notFace_of_selects (args := #[]) (mvT hZ (hw _ (mi 266 rfl)))) y150 (rm_lv hw kb xk T129.heap n0 O141 y153) g151 e149 [(.ref h1)] rfl (lenOf pd_25 rfl) (hE 16 rfl) hml.symm 1 rfl (by decide)
  have N152 := Fr.app N146 M152
  have g154 := jA X152 hx st152 (hE 17 rfl) rfl rfl
  have y156 := (((F22_.keep K103 (ninS (ne_exa y143 y147 (by decide)) nin0)).keep K115 nin0).keep K129 (ninS (Nat.ne_of_lt (Nat.lt_of_lt_of_le (Nat.lt_of_lt_of_le E20_.lt K103.1) y119)) nin0))
  obtain ⟨_, L155, T155, ⟨rfl, M155, e155⟩, X155, st155⟩ := own_callF X152 hx hZ hown (hw _ (mi 268 rfl)) (hw _ (mi 269 rfl)) (mvT hZ (hw _ (mi 270 rfl))) (hw _ (mi 271 rfl)) (hw _ (mi 272 rfl)) (hw _ (mi 273 rfl)) (hw _ (mi 274 rfl)) (hw _ (mi 253 rfl)) (hw _ (mi 102 rfl)) (hw _ (mi 275 rfl)) (by decide) y143 (rm_gv hw f1 vb T129.heap n0 O141 y156) g154 e152 [(.long xk), (.ref h1)] rfl (lenOf pd_24 rfl) (hE 18 rfl) hml.symm 3 rfl (by decide)
  have N155 := Fr.app N152 M155
  have y158 := (((E29_.keep K103).keep K115).keep K129)
  obtain ⟨T157, X157, e157, st157⟩ := castY X155 hx hZ hown (hw _ (mi 262 rfl)) e155 (Ins.self y158) (g := (mkF m 51 #[rv h1, rv h2, rv r118, rv f1] [(.ref vb), (.long xk), (.ref h1)])) rfl rfl (hE 19 rfl)
  have g159 : Go p e below T157 (mkF m 54 #[rv h1, rv h2, rv r118, rv f1] [(.ref vb), (.long xk), (.ref h1)]) A0 := fun t kont => st155 t (st157 t kont)
  have y161 := (((F30_.keep K103 (ninS (ne_exa y158 y147 (by decide)) nin0)).keep K115 nin0).keep K129 (ninS (Nat.ne_of_lt (Nat.lt_of_lt_of_le (Nat.lt_of_lt_of_le E29_.lt K103.1) y119)) nin0))
  obtain ⟨_, L160, T160, ⟨rfl, M160, e160⟩, X160, st160⟩ := own_callV X157 hx hZ hown (hw _ (mi 263 rfl)) (wd26 hw) (notFace_of_selects (args := #[]) (mvT hZ (hw _ (mi 266 rfl)))) y158 (rm_lv hw vb xv T129.heap n0 O141 y161) g159 e157 [(.long xk), (.ref h1)] rfl (lenOf pd_25 rfl) (hE 20 rfl) hml.symm 3 rfl (by decide)
  have N160 := Fr.app N155 M160
  have y163 := (((E0_.keep K103).keep K115).keep K129)
  have y164 := (((F1_.keep K103 (ninS (ne_exa y163 y147 (by decide)) nin0)).keep K115 nin0).keep K129 (ninS (Nat.ne_of_lt (Nat.lt_of_lt_of_le (Nat.lt_of_lt_of_le E0_.lt K103.1) y119)) nin0))
  have y165 := (((F2_.keep K103 (ninS (ne_exa y163 y147 (by decide)) nin0)).keep K115 nin0).keep K129 (ninS (Nat.ne_of_lt (Nat.lt_of_lt_of_le (Nat.lt_of_lt_of_le E0_.lt K103.1) y119)) nin0))
  have y166 := (((E32_.keep K103).keep K115).keep K129)
  have y167 := (((F33_.keep K103 (ninS NE31_ nin0)).keep K115 nin0).keep K129 (ninS (Nat.ne_of_lt (Nat.lt_of_lt_of_le (Nat.lt_of_lt_of_le E32_.lt K103.1) y119)) nin0))
  have y168 := (((F34_.keep K103 (ninS NE31_ nin0)).keep K115 nin0).keep K129 (ninS (Nat.ne_of_lt (Nat.lt_of_lt_of_le (Nat.lt_of_lt_of_le E32_.lt K103.1) y119)) nin0))
  have y169 := (((F35_.keep K103 (ninS NE31_ nin0)).keep K115 nin0).keep K129 (ninS (Nat.ne_of_lt (Nat.lt_of_lt_of_le (Nat.lt_of_lt_of_le E32_.lt K103.1) y119)) nin0))
  have y170 := (((F36_.keep K103 (ninS NE31_ nin0)).keep K115 nin0).keep K129 (ninS (Nat.ne_of_lt (Nat.lt_of_lt_of_le (Nat.lt_of_lt_of_le E32_.lt K103.1) y119)) nin0))
  have y171 := (((F37_.keep K103 (ninS NE31_ nin0)).keep K115 nin0).keep K129 (ninS (Nat.ne_of_lt (Nat.lt_of_lt_of_le (Nat.lt_of_lt_of_le E32_.lt K103.1) y119)) nin0))
  obtain ⟨_, L162, T162, ⟨r172, r173, r174, rfl, M162, K162, y175, y176, y177, y178, y179, y180, y181, y182, y183, y184, y185, y186, y187, y188, y189, y190, y191, y192, y193, y194, y195⟩, X162, st162⟩ := own_callV X160 hx hZ hown (hw _ (mi 227 rfl)) (wd17 hw) (notFace_of_selects (args := #[]) (mvT hZ (hw _ (mi 41 rfl)))) y163 (rm_ad0 hw h1 t1 tt sz mc xk xv lc kc lcs T129.heap n0 O141 y163 y164 y165 G3_ G4_ (hc1) (ht0) (hs0) S8_ ZA9_ hlc y166 y167 y168 y169 y170 y171) st160 e160 [] rfl (lenOf pd_15 rfl) (hE 21 rfl) hml.symm 0 rfl (by decide)
  have N162 := Fr.app N160 M162
  have O196 := O141.keep K162 (allS G3_ (allS G4_ all0))
  have g197 := jA X162 hx (jg X162 hx st162 (hE 22 rfl) (pc' := 13) (by decide)) (hE 5 rfl) rfl rfl
  have y199 := (y136.keep K162)
  have y200 := (y140.keep K162 (ninS (Ne.symm (Nat.ne_of_lt (Nat.lt_of_lt_of_le (Nat.lt_of_lt_of_le E0_.lt K103.1) y119))) (ninS (Ne.symm (Nat.ne_of_lt (Nat.lt_of_lt_of_le (Nat.lt_of_lt_of_le E32_.lt K103.1) y119))) nin0)))
  obtain ⟨_, L198, T198, ⟨rfl, M198, e198⟩, X198, st198⟩ := own_callF X162 hx hZ hown (hw _ (mi 213 rfl)) (hw _ (mi 214 rfl)) (mvT hZ (hw _ (mi 215 rfl))) (hw _ (mi 216 rfl)) (hw _ (mi 217 rfl)) (hw _ (mi 218 rfl)) (hw _ (mi 219 rfl)) (hw _ (mi 220 rfl)) (hw _ (mi 201 rfl)) (hw _ (mi 221 rfl)) (by decide) y199 (rm_hn0 hw r118 T162.heap n0 O196 y200) g197 rfl [] rfl (lenOf pd_23 rfl) (hE 6 rfl) hml.symm 0 rfl (by decide)
  have N198 := Fr.app N162 M198
  have g201 := jY X198 hx st198 (hE 7 rfl) rfl (by decide) (pc' := 63) (by decide)
  have K202 : Keep h0 T162.heap [h1, t2, t1] := (((((Keep.refl h0 [h1, t2, t1]).trans K103 (allS (P := fun x => x ∈ [h1, t2, t1] ∨ h0.size ≤ x) (Or.inl (mi 1 rfl)) all0)).trans K115 (fun x hx => nomatch hx)).trans K129 (allS (P := fun x => x ∈ [h1, t2, t1] ∨ h0.size ≤ x) (Or.inr (Nat.le_trans K103.1 y119)) all0)).trans K162 (allS (P := fun x => x ∈ [h1, t2, t1] ∨ h0.size ≤ x) (Or.inl (mi 0 rfl)) (allS (P := fun x => x ∈ [h1, t2, t1] ∨ h0.size ≤ x) (Or.inl (mi 2 rfl)) all0)))
  refine own_leave X198 Bd (none) (fun _ => rfl) g201 (fun fs hr => X198.returnOut hx Bd.returns (hE 23 rfl) hr) (by decide) (by decide) ?_
  rw [e198]
  exact ⟨rfl, N198, K202, y177, y175⟩
theorem rm_aa11L (hw : HW a0 Z) (h1 t1 : Addr) (tt : Int64) (sz mc : Int32) (xk xv : Int64) (lc : Addr) (kc : ClassId) (lcs : List Value) (h2 t2 : Addr) (sz2 mc2 : Int32) (f1 kb vb e1 k1 v1 : Addr) (x1 y1 : Int64) (h0 : Heap) (n0 : Nat) (O0 : Old Z n0 h0) (E0_ : Exa Z h0 h1 "com/example/fetch_from_near/fetchfromnear/Histogram") (F1_ : Fld Z h0 h1 "com/example/fetch_from_near/fetchfromnear/Histogram" "counts" "Ljava/util/TreeMap;" (.ref t1)) (F2_ : Fld Z h0 h1 "com/example/fetch_from_near/fetchfromnear/Histogram" "total" "J" (.long tt)) (G3_ : n0 ≤ h1) (G4_ : n0 ≤ t1) (hc1 : ¬ (xv < (1 : Int64))) (ht0 : ¬ (tt < (0 : Int64))) (hs0 : ¬ ((tt + xv) < (0 : Int64))) (S8_ : Sta Z Z.heap "java/lang/Long$LongCache" "cache" "[Ljava/lang/Long;" (.ref lc)) (ZA9_ : Arv Z Z.heap lc kc (.object "java/lang/Long") (256 : Int32) lcs .null) (hlc : ∀ i, i < 256 → ∃ a, lcs.getD i .null = .ref a ∧ Exa Z Z.heap a "java/lang/Long" ∧ Fld Z Z.heap a "java/lang/Long" "value" "J" (.long (Int64.ofInt ((i : Int) - 128)))) (E11_ : Exa Z h0 h2 "com/example/fetch_from_near/fetchfromnear/Histogram") (F12_ : Fld Z h0 h2 "com/example/fetch_from_near/fetchfromnear/Histogram" "counts" "Ljava/util/TreeMap;" (.ref t2)) (E13_ : Exa Z h0 t2 "java/util/TreeMap") (F14_ : Fld Z h0 t2 "java/util/TreeMap" "comparator" "Ljava/util/Comparator;" .null) (F15_ : Fld Z h0 t2 "java/util/TreeMap" "root" "Ljava/util/TreeMap$Entry;" (.ref f1)) (F16_ : Fld Z h0 t2 "java/util/TreeMap" "size" "I" (.int sz2)) (F17_ : Fld Z h0 t2 "java/util/TreeMap" "modCount" "I" (.int mc2)) (F18_ : Fld Z h0 t2 "java/util/TreeMap" "entrySet" "Ljava/util/TreeMap$EntrySet;" .null) (G19_ : n0 ≤ t2) (E20_ : Exa Z h0 f1 "java/util/TreeMap$Entry") (F21_ : Fld Z h0 f1 "java/util/TreeMap$Entry" "key" "Ljava/lang/Object;" (.ref kb)) (F22_ : Fld Z h0 f1 "java/util/TreeMap$Entry" "value" "Ljava/lang/Object;" (.ref vb)) (F23_ : Fld Z h0 f1 "java/util/TreeMap$Entry" "left" "Ljava/util/TreeMap$Entry;" .null) (F24_ : Fld Z h0 f1 "java/util/TreeMap$Entry" "right" "Ljava/util/TreeMap$Entry;" .null) (F25_ : Fld Z h0 f1 "java/util/TreeMap$Entry" "parent" "Ljava/util/TreeMap$Entry;" .null) (F26_ : Fld Z h0 f1 "java/util/TreeMap$Entry" "color" "Z" (.int 1)) (E27_ : Exa Z h0 kb "java/lang/Long") (F28_ : Fld Z h0 kb "java/lang/Long" "value" "J" (.long xk)) (E29_ : Exa Z h0 vb "java/lang/Long") (F30_ : Fld Z h0 vb "java/lang/Long" "value" "J" (.long xv)) (NE31_ : ¬ (t1 = t2)) (E32_ : Exa Z h0 t1 "java/util/TreeMap") (F33_ : Fld Z h0 t1 "java/util/TreeMap" "comparator" "Ljava/util/Comparator;" .null) (F34_ : Fld Z h0 t1 "java/util/TreeMap" "root" "Ljava/util/TreeMap$Entry;" (.ref e1)) (F35_ : Fld Z h0 t1 "java/util/TreeMap" "size" "I" (.int sz)) (F36_ : Fld Z h0 t1 "java/util/TreeMap" "modCount" "I" (.int mc)) (F37_ : Fld Z h0 t1 "java/util/TreeMap" "entrySet" "Ljava/util/TreeMap$EntrySet;" .null) (E38_ : Exa Z h0 e1 "java/util/TreeMap$Entry") (F39_ : Fld Z h0 e1 "java/util/TreeMap$Entry" "key" "Ljava/lang/Object;" (.ref k1)) (F40_ : Fld Z h0 e1 "java/util/TreeMap$Entry" "value" "Ljava/lang/Object;" (.ref v1)) (F41_ : Fld Z h0 e1 "java/util/TreeMap$Entry" "left" "Ljava/util/TreeMap$Entry;" .null) (F42_ : Fld Z h0 e1 "java/util/TreeMap$Entry" "right" "Ljava/util/TreeMap$Entry;" .null) (F43_ : Fld Z h0 e1 "java/util/TreeMap$Entry" "parent" "Ljava/util/TreeMap$Entry;" .null) (F44_ : Fld Z h0 e1 "java/util/TreeMap$Entry" "color" "Z" (.int 1)) (E45_ : Exa Z h0 k1 "java/lang/Long") (F46_ : Fld Z h0 k1 "java/lang/Long" "value" "J" (.long x1)) (E47_ : Exa Z h0 v1 "java/lang/Long") (F48_ : Fld Z h0 v1 "java/lang/Long" "value" "J" (.long y1)) (G49_ : n0 ≤ e1) (hlt : xk < x1) :
    own_M l mN37 (Jvm.Cond.code mN37 prog_10_method_4_code 4 none) [] (⟨5, 5, 13, 3091⟩ : Room) #[(.ref h1), (.ref h2)] Z h0 (fun v h L => v = none ∧ Fr n0 L ∧ Keep h0 h [h1, t2, t1, e1] ∧ (Fld Z h h1 "com/example/fetch_from_near/fetchfromnear/Histogram" "total" "J" (.long (tt + xv))) ∧ (Exa Z h h1 "com/example/fetch_from_near/fetchfromnear/Histogram")) := by
  refine own_open n0 (plainFor_of_name pn_7) (fun m => ef_RR4 m h1 h2 ) ?_
  intro p e s m below meth c s₁ A0 Bd hx hby hml hown hnm hZ hh X0 e0 N0 g0
  have hE := own_hd hby E21
  have g101 := jA X0 hx g0 (hE 0 rfl) rfl rfl
  obtain ⟨T102, X102, e102, g102⟩ := own_getF X0 hx hZ hown (hw _ (mi 29 rfl)) Via.refl e0 F12_ g101 (hE 1 rfl)
  obtain ⟨_, L103, T103, ⟨r104, rfl, M103, K103, y105, y106, y107, y108, y109, y110, y111, y112, y113⟩, X103, st103⟩ := own_callV X102 hx hZ hown (hw _ (mi 147 rfl)) (wd25 hw) (notFace_of_selects (args := #[]) (mvT hZ (hw _ (mi 150 rfl)))) E13_ (rm_eset hw t2 (.ref f1) sz2 mc2 h0 n0 O0 E13_ F14_ F15_ F16_ F17_ F18_ G19_ (rfl)) g102 e102 [] rfl (lenOf pd_21 rfl) (hE 2 rfl) hml.symm 0 rfl (by decide)
  have N103 := Fr.app N0 M103
  have O114 := O0.keep K103 (allS G19_ all0)
  have y116 := (E20_.keep K103)
  have y117 := (F23_.keep K103 (ninS (ne_exa y116 y108 (by decide)) nin0))
  obtain ⟨_, L115, T115, ⟨r118, rfl, M115, K115, y119, y120, y121, y122, y123, y124⟩, X115, st115⟩ := own_callF X103 hx hZ hown (hw _ (mi 176 rfl)) (hw _ (mi 177 rfl)) (mvT hZ (hw _ (mi 178 rfl))) (hw _ (mi 179 rfl)) (hw _ (mi 180 rfl)) (hw _ (mi 181 rfl)) (hw _ (mi 182 rfl)) (hw _ (mi 183 rfl)) (hw _ (mi 156 rfl)) (hw _ (mi 184 rfl)) (by decide) y106 (rm_iter1 hw r104 t2 mc2 f1 T103.heap n0 O114 y107 y108 y112 y110 y117) st103 rfl [] rfl (lenOf pd_22 rfl) (hE 3 rfl) hml.symm 0 rfl (by decide)
  have N115 := Fr.app N103 M115
  have O125 := O114.keep K115 all0
  have g126 := jA X115 hx (jT X115 hx st115 (hE 4 rfl) rfl rfl (l' := #[rv h1, rv h2, rv r118, .unset]) rfl) (hE 5 rfl) rfl rfl
  obtain ⟨_, L127, T127, ⟨rfl, M127, e127⟩, X127, st127⟩ := own_callF X115 hx hZ hown (hw _ (mi 213 rfl)) (hw _ (mi 214 rfl)) (mvT hZ (hw _ (mi 215 rfl))) (hw _ (mi 216 rfl)) (hw _ (mi 217 rfl)) (hw _ (mi 218 rfl)) (hw _ (mi 219 rfl)) (hw _ (mi 220 rfl)) (hw _ (mi 201 rfl)) (hw _ (mi 221 rfl)) (by decide) y120 (rm_hn1 hw r118 f1 T115.heap n0 O125 y124) g126 rfl [] rfl (lenOf pd_23 rfl) (hE 6 rfl) hml.symm 0 rfl (by decide)
  have N127 := Fr.app N115 M127
  have g128 := jA X127 hx (jN X127 hx st127 (hE 7 rfl) rfl (by decide)) (hE 8 rfl) rfl rfl
  have y130 := (y108.keep K115)
  have y131 := (y112.keep K115 nin0)
  have y132 := (y116.keep K115)
  have y133 := ((F24_.keep K103 (ninS (ne_exa y132 y130 (by decide)) nin0)).keep K115 nin0)
  have y134 := ((F25_.keep K103 (ninS (ne_exa y132 y130 (by decide)) nin0)).keep K115 nin0)
  have ge135 : n0 ≤ r118 := Nat.le_trans (own_old_le O114) y119
  obtain ⟨_, L129, T129, ⟨rfl, M129, K129, y136, y137, y138, y139, y140⟩, X129, st129⟩ := own_callF X127 hx hZ hown (hw _ (mi 228 rfl)) (hw _ (mi 229 rfl)) (mvT hZ (hw _ (mi 230 rfl))) (hw _ (mi 231 rfl)) (hw _ (mi 232 rfl)) (hw _ (mi 233 rfl)) (hw _ (mi 234 rfl)) (hw _ (mi 220 rfl)) (hw _ (mi 187 rfl)) (hw _ (mi 235 rfl)) (by decide) y120 (rm_nx2 hw r118 t2 f1 mc2 T115.heap n0 O125 y120 y121 y122 y123 y124 y130 y131 y132 y133 y134 ge135) g128 e127 [] rfl (lenOf pd_24 rfl) (hE 9 rfl) hml.symm 0 rfl (by decide)
  have N129 := Fr.app N127 M129
  have O141 := O125.keep K129 (allS ge135 all0)
  have y143 := (y132.keep K129)
  obtain ⟨T142, X142, e142, st142⟩ := castY X129 hx hZ hown (hw _ (mi 252 rfl)) rfl (Ins.of_exa y143 (hw _ (mi 253 rfl))) (g := (mkF m 28 #[rv h1, rv h2, rv r118, .unset] [(.ref f1)])) rfl rfl (hE 10 rfl)
  have g144 : Go p e below T142 (mkF m 31 #[rv h1, rv h2, rv r118, .unset] [(.ref f1)]) A0 := fun t kont => st129 t (st142 t kont)
  have g145 := jA X142 hx (jA X142 hx (jT X142 hx g144 (hE 11 rfl) rfl rfl (l' := #[rv h1, rv h2, rv r118, rv f1]) rfl) (hE 12 rfl) rfl rfl) (hE 13 rfl) rfl rfl
  have y147 := (y130.keep K129)
  have y148 := (((F21_.keep K103 (ninS (ne_exa y143 y147 (by decide)) nin0)).keep K115 nin0).keep K129 (ninS (Nat.ne_of_lt (Nat.lt_of_lt_of_le (Nat.lt_of_lt_of_le E20_.lt K103.1) y119)) nin0))
  obtain ⟨_, L146, T146, ⟨rfl, M146, e146⟩, X146, st146⟩ := own_callF X142 hx hZ hown (hw _ (mi 254 rfl)) (hw _ (mi 255 rfl)) (mvT hZ (hw _ (mi 256 rfl))) (hw _ (mi 257 rfl)) (hw _ (mi 258 rfl)) (hw _ (mi 259 rfl)) (hw _ (mi 260 rfl)) (hw _ (mi 253 rfl)) (hw _ (mi 102 rfl)) (hw _ (mi 261 rfl)) (by decide) y143 (rm_gk hw f1 kb T129.heap n0 O141 y148) g145 e142 [(.ref h1)] rfl (lenOf pd_24 rfl) (hE 14 rfl) hml.symm 1 rfl (by decide)
  have N146 := Fr.app N129 M146
  have y150 := (((E27_.keep K103).keep K115).keep K129)
  obtain ⟨T149, X149, e149, st149⟩ := castY X146 hx hZ hown (hw _ (mi 262 rfl)) e146 (Ins.self y150) (g := (mkF m 39 #[rv h1, rv h2, rv r118, rv f1] [(.ref kb), (.ref h1)])) rfl rfl (hE 15 rfl)
  have g151 : Go p e below T149 (mkF m 42 #[rv h1, rv h2, rv r118, rv f1] [(.ref kb), (.ref h1)]) A0 := fun t kont => st146 t (st149 t kont)
  have y153 := (((F28_.keep K103 (ninS (ne_exa y150 y147 (by decide)) nin0)).keep K115 nin0).keep K129 (ninS (Nat.ne_of_lt (Nat.lt_of_lt_of_le (Nat.lt_of_lt_of_le E27_.lt K103.1) y119)) nin0))
  obtain ⟨_, L152, T152, ⟨rfl, M152, e152⟩, X152, st152⟩ := own_callV X149 hx hZ hown (hw _ (mi 263 rfl)) (wd26 hw) (notFace_of_selects (args := #[]) (mvT hZ (hw _ (mi 266 rfl)))) y150 (rm_lv hw kb xk T129.heap n0 O141 y153) g151 e149 [(.ref h1)] rfl (lenOf pd_25 rfl) (hE 16 rfl) hml.symm 1 rfl (by decide)
  have N152 := Fr.app N146 M152
  have g154 := jA X152 hx st152 (hE 17 rfl) rfl rfl
  have y156 := (((F22_.keep K103 (ninS (ne_exa y143 y147 (by decide)) nin0)).keep K115 nin0).keep K129 (ninS (Nat.ne_of_lt (Nat.lt_of_lt_of_le (Nat.lt_of_lt_of_le E20_.lt K103.1) y119)) nin0))
  obtain ⟨_, L155, T155, ⟨rfl, M155, e155⟩, X155, st155⟩ := own_callF X152 hx hZ hown (hw _ (mi 268 rfl)) (hw _ (mi 269 rfl)) (mvT hZ (hw _ (mi 270 rfl))) (hw _ (mi 271 rfl)) (hw _ (mi 272 rfl)) (hw _ (mi 273 rfl)) (hw _ (mi 274 rfl)) (hw _ (mi 253 rfl)) (hw _ (mi 102 rfl)) (hw _ (mi 275 rfl)) (by decide) y143 (rm_gv hw f1 vb T129.heap n0 O141 y156) g154 e152 [(.long xk), (.ref h1)] rfl (lenOf pd_24 rfl) (hE 18 rfl) hml.symm 3 rfl (by decide)
  have N155 := Fr.app N152 M155
  have y158 := (((E29_.keep K103).keep K115).keep K129)
  obtain ⟨T157, X157, e157, st157⟩ := castY X155 hx hZ hown (hw _ (mi 262 rfl)) e155 (Ins.self y158) (g := (mkF m 51 #[rv h1, rv h2, rv r118, rv f1] [(.ref vb), (.long xk), (.ref h1)])) rfl rfl (hE 19 rfl)
  have g159 : Go p e below T157 (mkF m 54 #[rv h1, rv h2, rv r118, rv f1] [(.ref vb), (.long xk), (.ref h1)]) A0 := fun t kont => st155 t (st157 t kont)
  have y161 := (((F30_.keep K103 (ninS (ne_exa y158 y147 (by decide)) nin0)).keep K115 nin0).keep K129 (ninS (Nat.ne_of_lt (Nat.lt_of_lt_of_le (Nat.lt_of_lt_of_le E29_.lt K103.1) y119)) nin0))
  obtain ⟨_, L160, T160, ⟨rfl, M160, e160⟩, X160, st160⟩ := own_callV X157 hx hZ hown (hw _ (mi 263 rfl)) (wd26 hw) (notFace_of_selects (args := #[]) (mvT hZ (hw _ (mi 266 rfl)))) y158 (rm_lv hw vb xv T129.heap n0 O141 y161) g159 e157 [(.long xk), (.ref h1)] rfl (lenOf pd_25 rfl) (hE 20 rfl) hml.symm 3 rfl (by decide)
  have N160 := Fr.app N155 M160
  have y163 := (((E0_.keep K103).keep K115).keep K129)
  have y164 := (((F1_.keep K103 (ninS (ne_exa y163 y147 (by decide)) nin0)).keep K115 nin0).keep K129 (ninS (Nat.ne_of_lt (Nat.lt_of_lt_of_le (Nat.lt_of_lt_of_le E0_.lt K103.1) y119)) nin0))
  have y165 := (((F2_.keep K103 (ninS (ne_exa y163 y147 (by decide)) nin0)).keep K115 nin0).keep K129 (ninS (Nat.ne_of_lt (Nat.lt_of_lt_of_le (Nat.lt_of_lt_of_le E0_.lt K103.1) y119)) nin0))
  have y166 := (((E32_.keep K103).keep K115).keep K129)
  have y167 := (((F33_.keep K103 (ninS NE31_ nin0)).keep K115 nin0).keep K129 (ninS (Nat.ne_of_lt (Nat.lt_of_lt_of_le (Nat.lt_of_lt_of_le E32_.lt K103.1) y119)) nin0))
  have y168 := (((F34_.keep K103 (ninS NE31_ nin0)).keep K115 nin0).keep K129 (ninS (Nat.ne_of_lt (Nat.lt_of_lt_of_le (Nat.lt_of_lt_of_le E32_.lt K103.1) y119)) nin0))
  have y169 := (((F35_.keep K103 (ninS NE31_ nin0)).keep K115 nin0).keep K129 (ninS (Nat.ne_of_lt (Nat.lt_of_lt_of_le (Nat.lt_of_lt_of_le E32_.lt K103.1) y119)) nin0))
  have y170 := (((F36_.keep K103 (ninS NE31_ nin0)).keep K115 nin0).keep K129 (ninS (Nat.ne_of_lt (Nat.lt_of_lt_of_le (Nat.lt_of_lt_of_le E32_.lt K103.1) y119)) nin0))
  have y171 := (((F37_.keep K103 (ninS NE31_ nin0)).keep K115 nin0).keep K129 (ninS (Nat.ne_of_lt (Nat.lt_of_lt_of_le (Nat.lt_of_lt_of_le E32_.lt K103.1) y119)) nin0))
  have y172 := (((E38_.keep K103).keep K115).keep K129)
  have y173 := (((F39_.keep K103 (ninS (ne_exa y172 y147 (by decide)) nin0)).keep K115 nin0).keep K129 (ninS (Nat.ne_of_lt (Nat.lt_of_lt_of_le (Nat.lt_of_lt_of_le E38_.lt K103.1) y119)) nin0))
  have y174 := (((F40_.keep K103 (ninS (ne_exa y172 y147 (by decide)) nin0)).keep K115 nin0).keep K129 (ninS (Nat.ne_of_lt (Nat.lt_of_lt_of_le (Nat.lt_of_lt_of_le E38_.lt K103.1) y119)) nin0))
  have y175 := (((F41_.keep K103 (ninS (ne_exa y172 y147 (by decide)) nin0)).keep K115 nin0).keep K129 (ninS (Nat.ne_of_lt (Nat.lt_of_lt_of_le (Nat.lt_of_lt_of_le E38_.lt K103.1) y119)) nin0))
  have y176 := (((F42_.keep K103 (ninS (ne_exa y172 y147 (by decide)) nin0)).keep K115 nin0).keep K129 (ninS (Nat.ne_of_lt (Nat.lt_of_lt_of_le (Nat.lt_of_lt_of_le E38_.lt K103.1) y119)) nin0))
  have y177 := (((F43_.keep K103 (ninS (ne_exa y172 y147 (by decide)) nin0)).keep K115 nin0).keep K129 (ninS (Nat.ne_of_lt (Nat.lt_of_lt_of_le (Nat.lt_of_lt_of_le E38_.lt K103.1) y119)) nin0))
  have y178 := (((F44_.keep K103 (ninS (ne_exa y172 y147 (by decide)) nin0)).keep K115 nin0).keep K129 (ninS (Nat.ne_of_lt (Nat.lt_of_lt_of_le (Nat.lt_of_lt_of_le E38_.lt K103.1) y119)) nin0))
  have y179 := (((E45_.keep K103).keep K115).keep K129)
  have y180 := (((F46_.keep K103 (ninS (ne_exa y179 y147 (by decide)) nin0)).keep K115 nin0).keep K129 (ninS (Nat.ne_of_lt (Nat.lt_of_lt_of_le (Nat.lt_of_lt_of_le E45_.lt K103.1) y119)) nin0))
  have y181 := (((E47_.keep K103).keep K115).keep K129)
  have y182 := (((F48_.keep K103 (ninS (ne_exa y181 y147 (by decide)) nin0)).keep K115 nin0).keep K129 (ninS (Nat.ne_of_lt (Nat.lt_of_lt_of_le (Nat.lt_of_lt_of_le E47_.lt K103.1) y119)) nin0))
  obtain ⟨_, L162, T162, ⟨r183, r184, r185, rfl, M162, K162, y186, y187, y188, y189, y190, y191, y192, y193, y194, y195, y196, y197, y198, y199, y200, y201, y202, y203, y204, y205, y206, y207, y208, y209, y210, y211, y212, y213⟩, X162, st162⟩ := own_callV X160 hx hZ hown (hw _ (mi 227 rfl)) (wd17 hw) (notFace_of_selects (args := #[]) (mvT hZ (hw _ (mi 41 rfl)))) y163 (rm_ad1L hw h1 t1 tt sz mc xk xv lc kc lcs e1 k1 v1 x1 y1 T129.heap n0 O141 y163 y164 y165 G3_ G4_ (hc1) (ht0) (hs0) S8_ ZA9_ hlc y166 y167 y168 y169 y170 y171 y172 y173 y174 y175 y176 y177 y178 y179 y180 y181 y182 G49_ hlt) st160 e160 [] rfl (lenOf pd_15 rfl) (hE 21 rfl) hml.symm 0 rfl (by decide)
  have N162 := Fr.app N160 M162
  have O214 := O141.keep K162 (allS G3_ (allS G4_ (allS G49_ all0)))
  have g215 := jA X162 hx (jg X162 hx st162 (hE 22 rfl) (pc' := 13) (by decide)) (hE 5 rfl) rfl rfl
  have y217 := (y136.keep K162)
  have y218 := (y140.keep K162 (ninS (Ne.symm (Nat.ne_of_lt (Nat.lt_of_lt_of_le (Nat.lt_of_lt_of_le E0_.lt K103.1) y119))) (ninS (Ne.symm (Nat.ne_of_lt (Nat.lt_of_lt_of_le (Nat.lt_of_lt_of_le E32_.lt K103.1) y119))) (ninS (Ne.symm (Nat.ne_of_lt (Nat.lt_of_lt_of_le (Nat.lt_of_lt_of_le E38_.lt K103.1) y119))) nin0))))
  obtain ⟨_, L216, T216, ⟨rfl, M216, e216⟩, X216, st216⟩ := own_callF X162 hx hZ hown (hw _ (mi 213 rfl)) (hw _ (mi 214 rfl)) (mvT hZ (hw _ (mi 215 rfl))) (hw _ (mi 216 rfl)) (hw _ (mi 217 rfl)) (hw _ (mi 218 rfl)) (hw _ (mi 219 rfl)) (hw _ (mi 220 rfl)) (hw _ (mi 201 rfl)) (hw _ (mi 221 rfl)) (by decide) y217 (rm_hn0 hw r118 T162.heap n0 O214 y218) g215 rfl [] rfl (lenOf pd_23 rfl) (hE 6 rfl) hml.symm 0 rfl (by decide)
  have N216 := Fr.app N162 M216
  have g219 := jY X216 hx st216 (hE 7 rfl) rfl (by decide) (pc' := 63) (by decide)
  have K220 : Keep h0 T162.heap [h1, t2, t1, e1] := (((((Keep.refl h0 [h1, t2, t1, e1]).trans K103 (allS (P := fun x => x ∈ [h1, t2, t1, e1] ∨ h0.size ≤ x) (Or.inl (mi 1 rfl)) all0)).trans K115 (fun x hx => nomatch hx)).trans K129 (allS (P := fun x => x ∈ [h1, t2, t1, e1] ∨ h0.size ≤ x) (Or.inr (Nat.le_trans K103.1 y119)) all0)).trans K162 (allS (P := fun x => x ∈ [h1, t2, t1, e1] ∨ h0.size ≤ x) (Or.inl (mi 0 rfl)) (allS (P := fun x => x ∈ [h1, t2, t1, e1] ∨ h0.size ≤ x) (Or.inl (mi 2 rfl)) (allS (P := fun x => x ∈ [h1, t2, t1, e1] ∨ h0.size ≤ x) (Or.inl (mi 3 rfl)) all0))))
  refine own_leave X216 Bd (none) (fun _ => rfl) g219 (fun fs hr => X216.returnOut hx Bd.returns (hE 23 rfl) hr) (by decide) (by decide) ?_
  rw [e216]
  exact ⟨rfl, N216, K220, y188, y186⟩
theorem rm_aa11R (hw : HW a0 Z) (h1 t1 : Addr) (tt : Int64) (sz mc : Int32) (xk xv : Int64) (lc : Addr) (kc : ClassId) (lcs : List Value) (h2 t2 : Addr) (sz2 mc2 : Int32) (f1 kb vb e1 k1 v1 : Addr) (x1 y1 : Int64) (h0 : Heap) (n0 : Nat) (O0 : Old Z n0 h0) (E0_ : Exa Z h0 h1 "com/example/fetch_from_near/fetchfromnear/Histogram") (F1_ : Fld Z h0 h1 "com/example/fetch_from_near/fetchfromnear/Histogram" "counts" "Ljava/util/TreeMap;" (.ref t1)) (F2_ : Fld Z h0 h1 "com/example/fetch_from_near/fetchfromnear/Histogram" "total" "J" (.long tt)) (G3_ : n0 ≤ h1) (G4_ : n0 ≤ t1) (hc1 : ¬ (xv < (1 : Int64))) (ht0 : ¬ (tt < (0 : Int64))) (hs0 : ¬ ((tt + xv) < (0 : Int64))) (S8_ : Sta Z Z.heap "java/lang/Long$LongCache" "cache" "[Ljava/lang/Long;" (.ref lc)) (ZA9_ : Arv Z Z.heap lc kc (.object "java/lang/Long") (256 : Int32) lcs .null) (hlc : ∀ i, i < 256 → ∃ a, lcs.getD i .null = .ref a ∧ Exa Z Z.heap a "java/lang/Long" ∧ Fld Z Z.heap a "java/lang/Long" "value" "J" (.long (Int64.ofInt ((i : Int) - 128)))) (E11_ : Exa Z h0 h2 "com/example/fetch_from_near/fetchfromnear/Histogram") (F12_ : Fld Z h0 h2 "com/example/fetch_from_near/fetchfromnear/Histogram" "counts" "Ljava/util/TreeMap;" (.ref t2)) (E13_ : Exa Z h0 t2 "java/util/TreeMap") (F14_ : Fld Z h0 t2 "java/util/TreeMap" "comparator" "Ljava/util/Comparator;" .null) (F15_ : Fld Z h0 t2 "java/util/TreeMap" "root" "Ljava/util/TreeMap$Entry;" (.ref f1)) (F16_ : Fld Z h0 t2 "java/util/TreeMap" "size" "I" (.int sz2)) (F17_ : Fld Z h0 t2 "java/util/TreeMap" "modCount" "I" (.int mc2)) (F18_ : Fld Z h0 t2 "java/util/TreeMap" "entrySet" "Ljava/util/TreeMap$EntrySet;" .null) (G19_ : n0 ≤ t2) (E20_ : Exa Z h0 f1 "java/util/TreeMap$Entry") (F21_ : Fld Z h0 f1 "java/util/TreeMap$Entry" "key" "Ljava/lang/Object;" (.ref kb)) (F22_ : Fld Z h0 f1 "java/util/TreeMap$Entry" "value" "Ljava/lang/Object;" (.ref vb)) (F23_ : Fld Z h0 f1 "java/util/TreeMap$Entry" "left" "Ljava/util/TreeMap$Entry;" .null) (F24_ : Fld Z h0 f1 "java/util/TreeMap$Entry" "right" "Ljava/util/TreeMap$Entry;" .null) (F25_ : Fld Z h0 f1 "java/util/TreeMap$Entry" "parent" "Ljava/util/TreeMap$Entry;" .null) (F26_ : Fld Z h0 f1 "java/util/TreeMap$Entry" "color" "Z" (.int 1)) (E27_ : Exa Z h0 kb "java/lang/Long") (F28_ : Fld Z h0 kb "java/lang/Long" "value" "J" (.long xk)) (E29_ : Exa Z h0 vb "java/lang/Long") (F30_ : Fld Z h0 vb "java/lang/Long" "value" "J" (.long xv)) (NE31_ : ¬ (t1 = t2)) (E32_ : Exa Z h0 t1 "java/util/TreeMap") (F33_ : Fld Z h0 t1 "java/util/TreeMap" "comparator" "Ljava/util/Comparator;" .null) (F34_ : Fld Z h0 t1 "java/util/TreeMap" "root" "Ljava/util/TreeMap$Entry;" (.ref e1)) (F35_ : Fld Z h0 t1 "java/util/TreeMap" "size" "I" (.int sz)) (F36_ : Fld Z h0 t1 "java/util/TreeMap" "modCount" "I" (.int mc)) (F37_ : Fld Z h0 t1 "java/util/TreeMap" "entrySet" "Ljava/util/TreeMap$EntrySet;" .null) (E38_ : Exa Z h0 e1 "java/util/TreeMap$Entry") (F39_ : Fld Z h0 e1 "java/util/TreeMap$Entry" "key" "Ljava/lang/Object;" (.ref k1)) (F40_ : Fld Z h0 e1 "java/util/TreeMap$Entry" "value" "Ljava/lang/Object;" (.ref v1)) (F41_ : Fld Z h0 e1 "java/util/TreeMap$Entry" "left" "Ljava/util/TreeMap$Entry;" .null) (F42_ : Fld Z h0 e1 "java/util/TreeMap$Entry" "right" "Ljava/util/TreeMap$Entry;" .null) (F43_ : Fld Z h0 e1 "java/util/TreeMap$Entry" "parent" "Ljava/util/TreeMap$Entry;" .null) (F44_ : Fld Z h0 e1 "java/util/TreeMap$Entry" "color" "Z" (.int 1)) (E45_ : Exa Z h0 k1 "java/lang/Long") (F46_ : Fld Z h0 k1 "java/lang/Long" "value" "J" (.long x1)) (E47_ : Exa Z h0 v1 "java/lang/Long") (F48_ : Fld Z h0 v1 "java/lang/Long" "value" "J" (.long y1)) (G49_ : n0 ≤ e1) (hlt : x1 < xk) :
    own_M l mN37 (Jvm.Cond.code mN37 prog_10_method_4_code 4 none) [] (⟨5, 5, 13, 3091⟩ : Room) #[(.ref h1), (.ref h2)] Z h0 (fun v h L => v = none ∧ Fr n0 L ∧ Keep h0 h [h1, t2, t1, e1] ∧ (Fld Z h h1 "com/example/fetch_from_near/fetchfromnear/Histogram" "total" "J" (.long (tt + xv))) ∧ (Exa Z h h1 "com/example/fetch_from_near/fetchfromnear/Histogram")) := by
  refine own_open n0 (plainFor_of_name pn_7) (fun m => ef_RR4 m h1 h2 ) ?_
  intro p e s m below meth c s₁ A0 Bd hx hby hml hown hnm hZ hh X0 e0 N0 g0
  have hE := own_hd hby E21
  have g101 := jA X0 hx g0 (hE 0 rfl) rfl rfl
  obtain ⟨T102, X102, e102, g102⟩ := own_getF X0 hx hZ hown (hw _ (mi 29 rfl)) Via.refl e0 F12_ g101 (hE 1 rfl)
  obtain ⟨_, L103, T103, ⟨r104, rfl, M103, K103, y105, y106, y107, y108, y109, y110, y111, y112, y113⟩, X103, st103⟩ := own_callV X102 hx hZ hown (hw _ (mi 147 rfl)) (wd25 hw) (notFace_of_selects (args := #[]) (mvT hZ (hw _ (mi 150 rfl)))) E13_ (rm_eset hw t2 (.ref f1) sz2 mc2 h0 n0 O0 E13_ F14_ F15_ F16_ F17_ F18_ G19_ (rfl)) g102 e102 [] rfl (lenOf pd_21 rfl) (hE 2 rfl) hml.symm 0 rfl (by decide)
  have N103 := Fr.app N0 M103
  have O114 := O0.keep K103 (allS G19_ all0)
  have y116 := (E20_.keep K103)
  have y117 := (F23_.keep K103 (ninS (ne_exa y116 y108 (by decide)) nin0))
  obtain ⟨_, L115, T115, ⟨r118, rfl, M115, K115, y119, y120, y121, y122, y123, y124⟩, X115, st115⟩ := own_callF X103 hx hZ hown (hw _ (mi 176 rfl)) (hw _ (mi 177 rfl)) (mvT hZ (hw _ (mi 178 rfl))) (hw _ (mi 179 rfl)) (hw _ (mi 180 rfl)) (hw _ (mi 181 rfl)) (hw _ (mi 182 rfl)) (hw _ (mi 183 rfl)) (hw _ (mi 156 rfl)) (hw _ (mi 184 rfl)) (by decide) y106 (rm_iter1 hw r104 t2 mc2 f1 T103.heap n0 O114 y107 y108 y112 y110 y117) st103 rfl [] rfl (lenOf pd_22 rfl) (hE 3 rfl) hml.symm 0 rfl (by decide)
  have N115 := Fr.app N103 M115
  have O125 := O114.keep K115 all0
  have g126 := jA X115 hx (jT X115 hx st115 (hE 4 rfl) rfl rfl (l' := #[rv h1, rv h2, rv r118, .unset]) rfl) (hE 5 rfl) rfl rfl
  obtain ⟨_, L127, T127, ⟨rfl, M127, e127⟩, X127, st127⟩ := own_callF X115 hx hZ hown (hw _ (mi 213 rfl)) (hw _ (mi 214 rfl)) (mvT hZ (hw _ (mi 215 rfl))) (hw _ (mi 216 rfl)) (hw _ (mi 217 rfl)) (hw _ (mi 218 rfl)) (hw _ (mi 219 rfl)) (hw _ (mi 220 rfl)) (hw _ (mi 201 rfl)) (hw _ (mi 221 rfl)) (by decide) y120 (rm_hn1 hw r118 f1 T115.heap n0 O125 y124) g126 rfl [] rfl (lenOf pd_23 rfl) (hE 6 rfl) hml.symm 0 rfl (by decide)
  have N127 := Fr.app N115 M127
  have g128 := jA X127 hx (jN X127 hx st127 (hE 7 rfl) rfl (by decide)) (hE 8 rfl) rfl rfl
  have y130 := (y108.keep K115)
  have y131 := (y112.keep K115 nin0)
  have y132 := (y116.keep K115)
  have y133 := ((F24_.keep K103 (ninS (ne_exa y132 y130 (by decide)) nin0)).keep K115 nin0)
  have y134 := ((F25_.keep K103 (ninS (ne_exa y132 y130 (by decide)) nin0)).keep K115 nin0)
  have ge135 : n0 ≤ r118 := Nat.le_trans (own_old_le O114) y119
  obtain ⟨_, L129, T129, ⟨rfl, M129, K129, y136, y137, y138, y139, y140⟩, X129, st129⟩ := own_callF X127 hx hZ hown (hw _ (mi 228 rfl)) (hw _ (mi 229 rfl)) (mvT hZ (hw _ (mi 230 rfl))) (hw _ (mi 231 rfl)) (hw _ (mi 232 rfl)) (hw _ (mi 233 rfl)) (hw _ (mi 234 rfl)) (hw _ (mi 220 rfl)) (hw _ (mi 187 rfl)) (hw _ (mi 235 rfl)) (by decide) y120 (rm_nx2 hw r118 t2 f1 mc2 T115.heap n0 O125 y120 y121 y122 y123 y124 y130 y131 y132 y133 y134 ge135) g128 e127 [] rfl (lenOf pd_24 rfl) (hE 9 rfl) hml.symm 0 rfl (by decide)
  have N129 := Fr.app N127 M129
  have O141 := O125.keep K129 (allS ge135 all0)
  have y143 := (y132.keep K129)
  obtain ⟨T142, X142, e142, st142⟩ := castY X129 hx hZ hown (hw _ (mi 252 rfl)) rfl (Ins.of_exa y143 (hw _ (mi 253 rfl))) (g := (mkF m 28 #[rv h1, rv h2, rv r118, .unset] [(.ref f1)])) rfl rfl (hE 10 rfl)
  have g144 : Go p e below T142 (mkF m 31 #[rv h1, rv h2, rv r118, .unset] [(.ref f1)]) A0 := fun t kont => st129 t (st142 t kont)
  have g145 := jA X142 hx (jA X142 hx (jT X142 hx g144 (hE 11 rfl) rfl rfl (l' := #[rv h1, rv h2, rv r118, rv f1]) rfl) (hE 12 rfl) rfl rfl) (hE 13 rfl) rfl rfl
  have y147 := (y130.keep K129)
  have y148 := (((F21_.keep K103 (ninS (ne_exa y143 y147 (by decide)) nin0)).keep K115 nin0).keep K129 (ninS (Nat.ne_of_lt (Nat.lt_of_lt_of_le (Nat.lt_of_lt_of_le E20_.lt K103.1) y119)) nin0))
  obtain ⟨_, L146, T146, ⟨rfl, M146, e146⟩, X146, st146⟩ := own_callF X142 hx hZ hown (hw _ (mi 254 rfl)) (hw _ (mi 255 rfl)) (mvT hZ (hw _ (mi 256 rfl))) (hw _ (mi 257 rfl)) (hw _ (mi 258 rfl)) (hw _ (mi 259 rfl)) (hw _ (mi 260 rfl)) (hw _ (mi 253 rfl)) (hw _ (mi 102 rfl)) (hw _ (mi 261 rfl)) (by decide) y143 (rm_gk hw f1 kb T129.heap n0 O141 y148) g145 e142 [(.ref h1)] rfl (lenOf pd_24 rfl) (hE 14 rfl) hml.symm 1 rfl (by decide)
  have N146 := Fr.app N129 M146
  have y150 := (((E27_.keep K103).keep K115).keep K129)
  obtain ⟨T149, X149, e149, st149⟩ := castY X146 hx hZ hown (hw _ (mi 262 rfl)) e146 (Ins.self y150) (g := (mkF m 39 #[rv h1, rv h2, rv r118, rv f1] [(.ref kb), (.ref h1)])) rfl rfl (hE 15 rfl)
  have g151 : Go p e below T149 (mkF m 42 #[rv h1, rv h2, rv r118, rv f1] [(.ref kb), (.ref h1)]) A0 := fun t kont => st146 t (st149 t kont)
  have y153 := (((F28_.keep K103 (ninS (ne_exa y150 y147 (by decide)) nin0)).keep K115 nin0).keep K129 (ninS (Nat.ne_of_lt (Nat.lt_of_lt_of_le (Nat.lt_of_lt_of_le E27_.lt K103.1) y119)) nin0))
  obtain ⟨_, L152, T152, ⟨rfl, M152, e152⟩, X152, st152⟩ := own_callV X149 hx hZ hown (hw _ (mi 263 rfl)) (wd26 hw) (notFace_of_selects (args := #[]) (mvT hZ (hw _ (mi 266 rfl)))) y150 (rm_lv hw kb xk T129.heap n0 O141 y153) g151 e149 [(.ref h1)] rfl (lenOf pd_25 rfl) (hE 16 rfl) hml.symm 1 rfl (by decide)
  have N152 := Fr.app N146 M152
  have g154 := jA X152 hx st152 (hE 17 rfl) rfl rfl
  have y156 := (((F22_.keep K103 (ninS (ne_exa y143 y147 (by decide)) nin0)).keep K115 nin0).keep K129 (ninS (Nat.ne_of_lt (Nat.lt_of_lt_of_le (Nat.lt_of_lt_of_le E20_.lt K103.1) y119)) nin0))
  obtain ⟨_, L155, T155, ⟨rfl, M155, e155⟩, X155, st155⟩ := own_callF X152 hx hZ hown (hw _ (mi 268 rfl)) (hw _ (mi 269 rfl)) (mvT hZ (hw _ (mi 270 rfl))) (hw _ (mi 271 rfl)) (hw _ (mi 272 rfl)) (hw _ (mi 273 rfl)) (hw _ (mi 274 rfl)) (hw _ (mi 253 rfl)) (hw _ (mi 102 rfl)) (hw _ (mi 275 rfl)) (by decide) y143 (rm_gv hw f1 vb T129.heap n0 O141 y156) g154 e152 [(.long xk), (.ref h1)] rfl (lenOf pd_24 rfl) (hE 18 rfl) hml.symm 3 rfl (by decide)
  have N155 := Fr.app N152 M155
  have y158 := (((E29_.keep K103).keep K115).keep K129)
  obtain ⟨T157, X157, e157, st157⟩ := castY X155 hx hZ hown (hw _ (mi 262 rfl)) e155 (Ins.self y158) (g := (mkF m 51 #[rv h1, rv h2, rv r118, rv f1] [(.ref vb), (.long xk), (.ref h1)])) rfl rfl (hE 19 rfl)
  have g159 : Go p e below T157 (mkF m 54 #[rv h1, rv h2, rv r118, rv f1] [(.ref vb), (.long xk), (.ref h1)]) A0 := fun t kont => st155 t (st157 t kont)
  have y161 := (((F30_.keep K103 (ninS (ne_exa y158 y147 (by decide)) nin0)).keep K115 nin0).keep K129 (ninS (Nat.ne_of_lt (Nat.lt_of_lt_of_le (Nat.lt_of_lt_of_le E29_.lt K103.1) y119)) nin0))
  obtain ⟨_, L160, T160, ⟨rfl, M160, e160⟩, X160, st160⟩ := own_callV X157 hx hZ hown (hw _ (mi 263 rfl)) (wd26 hw) (notFace_of_selects (args := #[]) (mvT hZ (hw _ (mi 266 rfl)))) y158 (rm_lv hw vb xv T129.heap n0 O141 y161) g159 e157 [(.long xk), (.ref h1)] rfl (lenOf pd_25 rfl) (hE 20 rfl) hml.symm 3 rfl (by decide)
  have N160 := Fr.app N155 M160
  have y163 := (((E0_.keep K103).keep K115).keep K129)
  have y164 := (((F1_.keep K103 (ninS (ne_exa y163 y147 (by decide)) nin0)).keep K115 nin0).keep K129 (ninS (Nat.ne_of_lt (Nat.lt_of_lt_of_le (Nat.lt_of_lt_of_le E0_.lt K103.1) y119)) nin0))
  have y165 := (((F2_.keep K103 (ninS (ne_exa y163 y147 (by decide)) nin0)).keep K115 nin0).keep K129 (ninS (Nat.ne_of_lt (Nat.lt_of_lt_of_le (Nat.lt_of_lt_of_le E0_.lt K103.1) y119)) nin0))
  have y166 := (((E32_.keep K103).keep K115).keep K129)
  have y167 := (((F33_.keep K103 (ninS NE31_ nin0)).keep K115 nin0).keep K129 (ninS (Nat.ne_of_lt (Nat.lt_of_lt_of_le (Nat.lt_of_lt_of_le E32_.lt K103.1) y119)) nin0))
  have y168 := (((F34_.keep K103 (ninS NE31_ nin0)).keep K115 nin0).keep K129 (ninS (Nat.ne_of_lt (Nat.lt_of_lt_of_le (Nat.lt_of_lt_of_le E32_.lt K103.1) y119)) nin0))
  have y169 := (((F35_.keep K103 (ninS NE31_ nin0)).keep K115 nin0).keep K129 (ninS (Nat.ne_of_lt (Nat.lt_of_lt_of_le (Nat.lt_of_lt_of_le E32_.lt K103.1) y119)) nin0))
  have y170 := (((F36_.keep K103 (ninS NE31_ nin0)).keep K115 nin0).keep K129 (ninS (Nat.ne_of_lt (Nat.lt_of_lt_of_le (Nat.lt_of_lt_of_le E32_.lt K103.1) y119)) nin0))
  have y171 := (((F37_.keep K103 (ninS NE31_ nin0)).keep K115 nin0).keep K129 (ninS (Nat.ne_of_lt (Nat.lt_of_lt_of_le (Nat.lt_of_lt_of_le E32_.lt K103.1) y119)) nin0))
  have y172 := (((E38_.keep K103).keep K115).keep K129)
  have y173 := (((F39_.keep K103 (ninS (ne_exa y172 y147 (by decide)) nin0)).keep K115 nin0).keep K129 (ninS (Nat.ne_of_lt (Nat.lt_of_lt_of_le (Nat.lt_of_lt_of_le E38_.lt K103.1) y119)) nin0))
  have y174 := (((F40_.keep K103 (ninS (ne_exa y172 y147 (by decide)) nin0)).keep K115 nin0).keep K129 (ninS (Nat.ne_of_lt (Nat.lt_of_lt_of_le (Nat.lt_of_lt_of_le E38_.lt K103.1) y119)) nin0))
  have y175 := (((F41_.keep K103 (ninS (ne_exa y172 y147 (by decide)) nin0)).keep K115 nin0).keep K129 (ninS (Nat.ne_of_lt (Nat.lt_of_lt_of_le (Nat.lt_of_lt_of_le E38_.lt K103.1) y119)) nin0))
  have y176 := (((F42_.keep K103 (ninS (ne_exa y172 y147 (by decide)) nin0)).keep K115 nin0).keep K129 (ninS (Nat.ne_of_lt (Nat.lt_of_lt_of_le (Nat.lt_of_lt_of_le E38_.lt K103.1) y119)) nin0))
  have y177 := (((F43_.keep K103 (ninS (ne_exa y172 y147 (by decide)) nin0)).keep K115 nin0).keep K129 (ninS (Nat.ne_of_lt (Nat.lt_of_lt_of_le (Nat.lt_of_lt_of_le E38_.lt K103.1) y119)) nin0))
  have y178 := (((F44_.keep K103 (ninS (ne_exa y172 y147 (by decide)) nin0)).keep K115 nin0).keep K129 (ninS (Nat.ne_of_lt (Nat.lt_of_lt_of_le (Nat.lt_of_lt_of_le E38_.lt K103.1) y119)) nin0))
  have y179 := (((E45_.keep K103).keep K115).keep K129)
  have y180 := (((F46_.keep K103 (ninS (ne_exa y179 y147 (by decide)) nin0)).keep K115 nin0).keep K129 (ninS (Nat.ne_of_lt (Nat.lt_of_lt_of_le (Nat.lt_of_lt_of_le E45_.lt K103.1) y119)) nin0))
  have y181 := (((E47_.keep K103).keep K115).keep K129)
  have y182 := (((F48_.keep K103 (ninS (ne_exa y181 y147 (by decide)) nin0)).keep K115 nin0).keep K129 (ninS (Nat.ne_of_lt (Nat.lt_of_lt_of_le (Nat.lt_of_lt_of_le E47_.lt K103.1) y119)) nin0))
  obtain ⟨_, L162, T162, ⟨r183, r184, r185, rfl, M162, K162, y186, y187, y188, y189, y190, y191, y192, y193, y194, y195, y196, y197, y198, y199, y200, y201, y202, y203, y204, y205, y206, y207, y208, y209, y210, y211, y212, y213⟩, X162, st162⟩ := own_callV X160 hx hZ hown (hw _ (mi 227 rfl)) (wd17 hw) (notFace_of_selects (args := #[]) (mvT hZ (hw _ (mi 41 rfl)))) y163 (rm_ad1R hw h1 t1 tt sz mc xk xv lc kc lcs e1 k1 v1 x1 y1 T129.heap n0 O141 y163 y164 y165 G3_ G4_ (hc1) (ht0) (hs0) S8_ ZA9_ hlc y166 y167 y168 y169 y170 y171 y172 y173 y174 y175 y176 y177 y178 y179 y180 y181 y182 G49_ hlt) st160 e160 [] rfl (lenOf pd_15 rfl) (hE 21 rfl) hml.symm 0 rfl (by decide)
  have N162 := Fr.app N160 M162
  have O214 := O141.keep K162 (allS G3_ (allS G4_ (allS G49_ all0)))
  have g215 := jA X162 hx (jg X162 hx st162 (hE 22 rfl) (pc' := 13) (by decide)) (hE 5 rfl) rfl rfl
  have y217 := (y136.keep K162)
  have y218 := (y140.keep K162 (ninS (Ne.symm (Nat.ne_of_lt (Nat.lt_of_lt_of_le (Nat.lt_of_lt_of_le E0_.lt K103.1) y119))) (ninS (Ne.symm (Nat.ne_of_lt (Nat.lt_of_lt_of_le (Nat.lt_of_lt_of_le E32_.lt K103.1) y119))) (ninS (Ne.symm (Nat.ne_of_lt (Nat.lt_of_lt_of_le (Nat.lt_of_lt_of_le E38_.lt K103.1) y119))) nin0))))
  obtain ⟨_, L216, T216, ⟨rfl, M216, e216⟩, X216, st216⟩ := own_callF X162 hx hZ hown (hw _ (mi 213 rfl)) (hw _ (mi 214 rfl)) (mvT hZ (hw _ (mi 215 rfl))) (hw _ (mi 216 rfl)) (hw _ (mi 217 rfl)) (hw _ (mi 218 rfl)) (hw _ (mi 219 rfl)) (hw _ (mi 220 rfl)) (hw _ (mi 201 rfl)) (hw _ (mi 221 rfl)) (by decide) y217 (rm_hn0 hw r118 T162.heap n0 O214 y218) g215 rfl [] rfl (lenOf pd_23 rfl) (hE 6 rfl) hml.symm 0 rfl (by decide)
  have N216 := Fr.app N162 M216
  have g219 := jY X216 hx st216 (hE 7 rfl) rfl (by decide) (pc' := 63) (by decide)
  have K220 : Keep h0 T162.heap [h1, t2, t1, e1] := (((((Keep.refl h0 [h1, t2, t1, e1]).trans K103 (allS (P := fun x => x ∈ [h1, t2, t1, e1] ∨ h0.size ≤ x) (Or.inl (mi 1 rfl)) all0)).trans K115 (fun x hx => nomatch hx)).trans K129 (allS (P := fun x => x ∈ [h1, t2, t1, e1] ∨ h0.size ≤ x) (Or.inr (Nat.le_trans K103.1 y119)) all0)).trans K162 (allS (P := fun x => x ∈ [h1, t2, t1, e1] ∨ h0.size ≤ x) (Or.inl (mi 0 rfl)) (allS (P := fun x => x ∈ [h1, t2, t1, e1] ∨ h0.size ≤ x) (Or.inl (mi 2 rfl)) (allS (P := fun x => x ∈ [h1, t2, t1, e1] ∨ h0.size ≤ x) (Or.inl (mi 3 rfl)) all0))))
  refine own_leave X216 Bd (none) (fun _ => rfl) g219 (fun fs hr => X216.returnOut hx Bd.returns (hE 23 rfl) hr) (by decide) (by decide) ?_
  rw [e216]
  exact ⟨rfl, N216, K220, y188, y186⟩
theorem rm_aa11E (hw : HW a0 Z) (h1 t1 : Addr) (tt : Int64) (sz mc : Int32) (xk xv : Int64) (lc : Addr) (kc : ClassId) (lcs : List Value) (h2 t2 : Addr) (sz2 mc2 : Int32) (f1 kb vb e1 k1 v1 : Addr) (x1 y1 : Int64) (h0 : Heap) (n0 : Nat) (O0 : Old Z n0 h0) (E0_ : Exa Z h0 h1 "com/example/fetch_from_near/fetchfromnear/Histogram") (F1_ : Fld Z h0 h1 "com/example/fetch_from_near/fetchfromnear/Histogram" "counts" "Ljava/util/TreeMap;" (.ref t1)) (F2_ : Fld Z h0 h1 "com/example/fetch_from_near/fetchfromnear/Histogram" "total" "J" (.long tt)) (G3_ : n0 ≤ h1) (G4_ : n0 ≤ t1) (hc1 : ¬ (xv < (1 : Int64))) (ht0 : ¬ (tt < (0 : Int64))) (hs0 : ¬ ((tt + xv) < (0 : Int64))) (S8_ : Sta Z Z.heap "java/lang/Long$LongCache" "cache" "[Ljava/lang/Long;" (.ref lc)) (ZA9_ : Arv Z Z.heap lc kc (.object "java/lang/Long") (256 : Int32) lcs .null) (hlc : ∀ i, i < 256 → ∃ a, lcs.getD i .null = .ref a ∧ Exa Z Z.heap a "java/lang/Long" ∧ Fld Z Z.heap a "java/lang/Long" "value" "J" (.long (Int64.ofInt ((i : Int) - 128)))) (E11_ : Exa Z h0 h2 "com/example/fetch_from_near/fetchfromnear/Histogram") (F12_ : Fld Z h0 h2 "com/example/fetch_from_near/fetchfromnear/Histogram" "counts" "Ljava/util/TreeMap;" (.ref t2)) (E13_ : Exa Z h0 t2 "java/util/TreeMap") (F14_ : Fld Z h0 t2 "java/util/TreeMap" "comparator" "Ljava/util/Comparator;" .null) (F15_ : Fld Z h0 t2 "java/util/TreeMap" "root" "Ljava/util/TreeMap$Entry;" (.ref f1)) (F16_ : Fld Z h0 t2 "java/util/TreeMap" "size" "I" (.int sz2)) (F17_ : Fld Z h0 t2 "java/util/TreeMap" "modCount" "I" (.int mc2)) (F18_ : Fld Z h0 t2 "java/util/TreeMap" "entrySet" "Ljava/util/TreeMap$EntrySet;" .null) (G19_ : n0 ≤ t2) (E20_ : Exa Z h0 f1 "java/util/TreeMap$Entry") (F21_ : Fld Z h0 f1 "java/util/TreeMap$Entry" "key" "Ljava/lang/Object;" (.ref kb)) (F22_ : Fld Z h0 f1 "java/util/TreeMap$Entry" "value" "Ljava/lang/Object;" (.ref vb)) (F23_ : Fld Z h0 f1 "java/util/TreeMap$Entry" "left" "Ljava/util/TreeMap$Entry;" .null) (F24_ : Fld Z h0 f1 "java/util/TreeMap$Entry" "right" "Ljava/util/TreeMap$Entry;" .null) (F25_ : Fld Z h0 f1 "java/util/TreeMap$Entry" "parent" "Ljava/util/TreeMap$Entry;" .null) (F26_ : Fld Z h0 f1 "java/util/TreeMap$Entry" "color" "Z" (.int 1)) (E27_ : Exa Z h0 kb "java/lang/Long") (F28_ : Fld Z h0 kb "java/lang/Long" "value" "J" (.long xk)) (E29_ : Exa Z h0 vb "java/lang/Long") (F30_ : Fld Z h0 vb "java/lang/Long" "value" "J" (.long xv)) (NE31_ : ¬ (t1 = t2)) (E32_ : Exa Z h0 t1 "java/util/TreeMap") (F33_ : Fld Z h0 t1 "java/util/TreeMap" "comparator" "Ljava/util/Comparator;" .null) (F34_ : Fld Z h0 t1 "java/util/TreeMap" "root" "Ljava/util/TreeMap$Entry;" (.ref e1)) (F35_ : Fld Z h0 t1 "java/util/TreeMap" "size" "I" (.int sz)) (F36_ : Fld Z h0 t1 "java/util/TreeMap" "modCount" "I" (.int mc)) (F37_ : Fld Z h0 t1 "java/util/TreeMap" "entrySet" "Ljava/util/TreeMap$EntrySet;" .null) (E38_ : Exa Z h0 e1 "java/util/TreeMap$Entry") (F39_ : Fld Z h0 e1 "java/util/TreeMap$Entry" "key" "Ljava/lang/Object;" (.ref k1)) (F40_ : Fld Z h0 e1 "java/util/TreeMap$Entry" "value" "Ljava/lang/Object;" (.ref v1)) (F41_ : Fld Z h0 e1 "java/util/TreeMap$Entry" "left" "Ljava/util/TreeMap$Entry;" .null) (F42_ : Fld Z h0 e1 "java/util/TreeMap$Entry" "right" "Ljava/util/TreeMap$Entry;" .null) (F43_ : Fld Z h0 e1 "java/util/TreeMap$Entry" "parent" "Ljava/util/TreeMap$Entry;" .null) (F44_ : Fld Z h0 e1 "java/util/TreeMap$Entry" "color" "Z" (.int 1)) (E45_ : Exa Z h0 k1 "java/lang/Long") (F46_ : Fld Z h0 k1 "java/lang/Long" "value" "J" (.long x1)) (E47_ : Exa Z h0 v1 "java/lang/Long") (F48_ : Fld Z h0 v1 "java/lang/Long" "value" "J" (.long y1)) (G49_ : n0 ≤ e1) (heq : xk = x1) :
    own_M l mN37 (Jvm.Cond.code mN37 prog_10_method_4_code 4 none) [] (⟨8, 5, 8, 3091⟩ : Room) #[(.ref h1), (.ref h2)] Z h0 (fun v h L => v = none ∧ Fr n0 L ∧ Keep h0 h [h1, t2, e1] ∧ (Fld Z h h1 "com/example/fetch_from_near/fetchfromnear/Histogram" "total" "J" (.long (tt + xv))) ∧ (Exa Z h h1 "com/example/fetch_from_near/fetchfromnear/Histogram")) := by
  refine own_open n0 (plainFor_of_name pn_7) (fun m => ef_RR4 m h1 h2 ) ?_
  intro p e s m below meth c s₁ A0 Bd hx hby hml hown hnm hZ hh X0 e0 N0 g0
  have hE := own_hd hby E21
  have g101 := jA X0 hx g0 (hE 0 rfl) rfl rfl
  obtain ⟨T102, X102, e102, g102⟩ := own_getF X0 hx hZ hown (hw _ (mi 29 rfl)) Via.refl e0 F12_ g101 (hE 1 rfl)
  obtain ⟨_, L103, T103, ⟨r104, rfl, M103, K103, y105, y106, y107, y108, y109, y110, y111, y112, y113⟩, X103, st103⟩ := own_callV X102 hx hZ hown (hw _ (mi 147 rfl)) (wd25 hw) (notFace_of_selects (args := #[]) (mvT hZ (hw _ (mi 150 rfl)))) E13_ (rm_eset hw t2 (.ref f1) sz2 mc2 h0 n0 O0 E13_ F14_ F15_ F16_ F17_ F18_ G19_ (rfl)) g102 e102 [] rfl (lenOf pd_21 rfl) (hE 2 rfl) hml.symm 0 rfl (by decide)
  have N103 := Fr.app N0 M103
  have O114 := O0.keep K103 (allS G19_ all0)
  have y116 := (E20_.keep K103)
  have y117 := (F23_.keep K103 (ninS (ne_exa y116 y108 (by decide)) nin0))
  obtain ⟨_, L115, T115, ⟨r118, rfl, M115, K115, y119, y120, y121, y122, y123, y124⟩, X115, st115⟩ := own_callF X103 hx hZ hown (hw _ (mi 176 rfl)) (hw _ (mi 177 rfl)) (mvT hZ (hw _ (mi 178 rfl))) (hw _ (mi 179 rfl)) (hw _ (mi 180 rfl)) (hw _ (mi 181 rfl)) (hw _ (mi 182 rfl)) (hw _ (mi 183 rfl)) (hw _ (mi 156 rfl)) (hw _ (mi 184 rfl)) (by decide) y106 (rm_iter1 hw r104 t2 mc2 f1 T103.heap n0 O114 y107 y108 y112 y110 y117) st103 rfl [] rfl (lenOf pd_22 rfl) (hE 3 rfl) hml.symm 0 rfl (by decide)
  have N115 := Fr.app N103 M115
  have O125 := O114.keep K115 all0
  have g126 := jA X115 hx (jT X115 hx st115 (hE 4 rfl) rfl rfl (l' := #[rv h1, rv h2, rv r118, .unset]) rfl) (hE 5 rfl) rfl rfl
  obtain ⟨_, L127, T127, ⟨rfl, M127, e127⟩, X127, st127⟩ := own_callF X115 hx hZ hown (hw _ (mi 213 rfl)) (hw _ (mi 214 rfl)) (mvT hZ (hw _ (mi 215 rfl))) (hw _ (mi 216 rfl)) (hw _ (mi 217 rfl)) (hw _ (mi 218 rfl)) (hw _ (mi 219 rfl)) (hw _ (mi 220 rfl)) (hw _ (mi 201 rfl)) (hw _ (mi 221 rfl)) (by decide) y120 (rm_hn1 hw r118 f1 T115.heap n0 O125 y124) g126 rfl [] rfl (lenOf pd_23 rfl) (hE 6 rfl) hml.symm 0 rfl (by decide)
  have N127 := Fr.app N115 M127
  have g128 := jA X127 hx (jN X127 hx st127 (hE 7 rfl) rfl (by decide)) (hE 8 rfl) rfl rfl
  have y130 := (y108.keep K115)
  have y131 := (y112.keep K115 nin0)
  have y132 := (y116.keep K115)
  have y133 := ((F24_.keep K103 (ninS (ne_exa y132 y130 (by decide)) nin0)).keep K115 nin0)
  have y134 := ((F25_.keep K103 (ninS (ne_exa y132 y130 (by decide)) nin0)).keep K115 nin0)
  have ge135 : n0 ≤ r118 := Nat.le_trans (own_old_le O114) y119
  obtain ⟨_, L129, T129, ⟨rfl, M129, K129, y136, y137, y138, y139, y140⟩, X129, st129⟩ := own_callF X127 hx hZ hown (hw _ (mi 228 rfl)) (hw _ (mi 229 rfl)) (mvT hZ (hw _ (mi 230 rfl))) (hw _ (mi 231 rfl)) (hw _ (mi 232 rfl)) (hw _ (mi 233 rfl)) (hw _ (mi 234 rfl)) (hw _ (mi 220 rfl)) (hw _ (mi 187 rfl)) (hw _ (mi 235 rfl)) (by decide) y120 (rm_nx2 hw r118 t2 f1 mc2 T115.heap n0 O125 y120 y121 y122 y123 y124 y130 y131 y132 y133 y134 ge135) g128 e127 [] rfl (lenOf pd_24 rfl) (hE 9 rfl) hml.symm 0 rfl (by decide)
  have N129 := Fr.app N127 M129
  have O141 := O125.keep K129 (allS ge135 all0)
  have y143 := (y132.keep K129)
  obtain ⟨T142, X142, e142, st142⟩ := castY X129 hx hZ hown (hw _ (mi 252 rfl)) rfl (Ins.of_exa y143 (hw _ (mi 253 rfl))) (g := (mkF m 28 #[rv h1, rv h2, rv r118, .unset] [(.ref f1)])) rfl rfl (hE 10 rfl)
  have g144 : Go p e below T142 (mkF m 31 #[rv h1, rv h2, rv r118, .unset] [(.ref f1)]) A0 := fun t kont => st129 t (st142 t kont)
  have g145 := jA X142 hx (jA X142 hx (jT X142 hx g144 (hE 11 rfl) rfl rfl (l' := #[rv h1, rv h2, rv r118, rv f1]) rfl) (hE 12 rfl) rfl rfl) (hE 13 rfl) rfl rfl
  have y147 := (y130.keep K129)
  have y148 := (((F21_.keep K103 (ninS (ne_exa y143 y147 (by decide)) nin0)).keep K115 nin0).keep K129 (ninS (Nat.ne_of_lt (Nat.lt_of_lt_of_le (Nat.lt_of_lt_of_le E20_.lt K103.1) y119)) nin0))
  obtain ⟨_, L146, T146, ⟨rfl, M146, e146⟩, X146, st146⟩ := own_callF X142 hx hZ hown (hw _ (mi 254 rfl)) (hw _ (mi 255 rfl)) (mvT hZ (hw _ (mi 256 rfl))) (hw _ (mi 257 rfl)) (hw _ (mi 258 rfl)) (hw _ (mi 259 rfl)) (hw _ (mi 260 rfl)) (hw _ (mi 253 rfl)) (hw _ (mi 102 rfl)) (hw _ (mi 261 rfl)) (by decide) y143 (rm_gk hw f1 kb T129.heap n0 O141 y148) g145 e142 [(.ref h1)] rfl (lenOf pd_24 rfl) (hE 14 rfl) hml.symm 1 rfl (by decide)
  have N146 := Fr.app N129 M146
  have y150 := (((E27_.keep K103).keep K115).keep K129)
  obtain ⟨T149, X149, e149, st149⟩ := castY X146 hx hZ hown (hw _ (mi 262 rfl)) e146 (Ins.self y150) (g := (mkF m 39 #[rv h1, rv h2, rv r118, rv f1] [(.ref kb), (.ref h1)])) rfl rfl (hE 15 rfl)
  have g151 : Go p e below T149 (mkF m 42 #[rv h1, rv h2, rv r118, rv f1] [(.ref kb), (.ref h1)]) A0 := fun t kont => st146 t (st149 t kont)
  have y153 := (((F28_.keep K103 (ninS (ne_exa y150 y147 (by decide)) nin0)).keep K115 nin0).keep K129 (ninS (Nat.ne_of_lt (Nat.lt_of_lt_of_le (Nat.lt_of_lt_of_le E27_.lt K103.1) y119)) nin0))
  obtain ⟨_, L152, T152, ⟨rfl, M152, e152⟩, X152, st152⟩ := own_callV X149 hx hZ hown (hw _ (mi 263 rfl)) (wd26 hw) (notFace_of_selects (args := #[]) (mvT hZ (hw _ (mi 266 rfl)))) y150 (rm_lv hw kb xk T129.heap n0 O141 y153) g151 e149 [(.ref h1)] rfl (lenOf pd_25 rfl) (hE 16 rfl) hml.symm 1 rfl (by decide)
  have N152 := Fr.app N146 M152
  have g154 := jA X152 hx st152 (hE 17 rfl) rfl rfl
  have y156 := (((F22_.keep K103 (ninS (ne_exa y143 y147 (by decide)) nin0)).keep K115 nin0).keep K129 (ninS (Nat.ne_of_lt (Nat.lt_of_lt_of_le (Nat.lt_of_lt_of_le E20_.lt K103.1) y119)) nin0))
  obtain ⟨_, L155, T155, ⟨rfl, M155, e155⟩, X155, st155⟩ := own_callF X152 hx hZ hown (hw _ (mi 268 rfl)) (hw _ (mi 269 rfl)) (mvT hZ (hw _ (mi 270 rfl))) (hw _ (mi 271 rfl)) (hw _ (mi 272 rfl)) (hw _ (mi 273 rfl)) (hw _ (mi 274 rfl)) (hw _ (mi 253 rfl)) (hw _ (mi 102 rfl)) (hw _ (mi 275 rfl)) (by decide) y143 (rm_gv hw f1 vb T129.heap n0 O141 y156) g154 e152 [(.long xk), (.ref h1)] rfl (lenOf pd_24 rfl) (hE 18 rfl) hml.symm 3 rfl (by decide)
  have N155 := Fr.app N152 M155
  have y158 := (((E29_.keep K103).keep K115).keep K129)
  obtain ⟨T157, X157, e157, st157⟩ := castY X155 hx hZ hown (hw _ (mi 262 rfl)) e155 (Ins.self y158) (g := (mkF m 51 #[rv h1, rv h2, rv r118, rv f1] [(.ref vb), (.long xk), (.ref h1)])) rfl rfl (hE 19 rfl)
  have g159 : Go p e below T157 (mkF m 54 #[rv h1, rv h2, rv r118, rv f1] [(.ref vb), (.long xk), (.ref h1)]) A0 := fun t kont => st155 t (st157 t kont)
  have y161 := (((F30_.keep K103 (ninS (ne_exa y158 y147 (by decide)) nin0)).keep K115 nin0).keep K129 (ninS (Nat.ne_of_lt (Nat.lt_of_lt_of_le (Nat.lt_of_lt_of_le E29_.lt K103.1) y119)) nin0))
  obtain ⟨_, L160, T160, ⟨rfl, M160, e160⟩, X160, st160⟩ := own_callV X157 hx hZ hown (hw _ (mi 263 rfl)) (wd26 hw) (notFace_of_selects (args := #[]) (mvT hZ (hw _ (mi 266 rfl)))) y158 (rm_lv hw vb xv T129.heap n0 O141 y161) g159 e157 [(.long xk), (.ref h1)] rfl (lenOf pd_25 rfl) (hE 20 rfl) hml.symm 3 rfl (by decide)
  have N160 := Fr.app N155 M160
  have y163 := (((E0_.keep K103).keep K115).keep K129)
  have y164 := (((F1_.keep K103 (ninS (ne_exa y163 y147 (by decide)) nin0)).keep K115 nin0).keep K129 (ninS (Nat.ne_of_lt (Nat.lt_of_lt_of_le (Nat.lt_of_lt_of_le E0_.lt K103.1) y119)) nin0))
  have y165 := (((F2_.keep K103 (ninS (ne_exa y163 y147 (by decide)) nin0)).keep K115 nin0).keep K129 (ninS (Nat.ne_of_lt (Nat.lt_of_lt_of_le (Nat.lt_of_lt_of_le E0_.lt K103.1) y119)) nin0))
  have y166 := (((E32_.keep K103).keep K115).keep K129)
  have y167 := (((F33_.keep K103 (ninS NE31_ nin0)).keep K115 nin0).keep K129 (ninS (Nat.ne_of_lt (Nat.lt_of_lt_of_le (Nat.lt_of_lt_of_le E32_.lt K103.1) y119)) nin0))
  have y168 := (((F34_.keep K103 (ninS NE31_ nin0)).keep K115 nin0).keep K129 (ninS (Nat.ne_of_lt (Nat.lt_of_lt_of_le (Nat.lt_of_lt_of_le E32_.lt K103.1) y119)) nin0))
  have y169 := (((F35_.keep K103 (ninS NE31_ nin0)).keep K115 nin0).keep K129 (ninS (Nat.ne_of_lt (Nat.lt_of_lt_of_le (Nat.lt_of_lt_of_le E32_.lt K103.1) y119)) nin0))
  have y170 := (((F36_.keep K103 (ninS NE31_ nin0)).keep K115 nin0).keep K129 (ninS (Nat.ne_of_lt (Nat.lt_of_lt_of_le (Nat.lt_of_lt_of_le E32_.lt K103.1) y119)) nin0))
  have y171 := (((F37_.keep K103 (ninS NE31_ nin0)).keep K115 nin0).keep K129 (ninS (Nat.ne_of_lt (Nat.lt_of_lt_of_le (Nat.lt_of_lt_of_le E32_.lt K103.1) y119)) nin0))
  have y172 := (((E38_.keep K103).keep K115).keep K129)
  have y173 := (((F39_.keep K103 (ninS (ne_exa y172 y147 (by decide)) nin0)).keep K115 nin0).keep K129 (ninS (Nat.ne_of_lt (Nat.lt_of_lt_of_le (Nat.lt_of_lt_of_le E38_.lt K103.1) y119)) nin0))
  have y174 := (((F40_.keep K103 (ninS (ne_exa y172 y147 (by decide)) nin0)).keep K115 nin0).keep K129 (ninS (Nat.ne_of_lt (Nat.lt_of_lt_of_le (Nat.lt_of_lt_of_le E38_.lt K103.1) y119)) nin0))
  have y175 := (((F41_.keep K103 (ninS (ne_exa y172 y147 (by decide)) nin0)).keep K115 nin0).keep K129 (ninS (Nat.ne_of_lt (Nat.lt_of_lt_of_le (Nat.lt_of_lt_of_le E38_.lt K103.1) y119)) nin0))
  have y176 := (((F42_.keep K103 (ninS (ne_exa y172 y147 (by decide)) nin0)).keep K115 nin0).keep K129 (ninS (Nat.ne_of_lt (Nat.lt_of_lt_of_le (Nat.lt_of_lt_of_le E38_.lt K103.1) y119)) nin0))
  have y177 := (((F43_.keep K103 (ninS (ne_exa y172 y147 (by decide)) nin0)).keep K115 nin0).keep K129 (ninS (Nat.ne_of_lt (Nat.lt_of_lt_of_le (Nat.lt_of_lt_of_le E38_.lt K103.1) y119)) nin0))
  have y178 := (((F44_.keep K103 (ninS (ne_exa y172 y147 (by decide)) nin0)).keep K115 nin0).keep K129 (ninS (Nat.ne_of_lt (Nat.lt_of_lt_of_le (Nat.lt_of_lt_of_le E38_.lt K103.1) y119)) nin0))
  have y179 := (((E45_.keep K103).keep K115).keep K129)
  have y180 := (((F46_.keep K103 (ninS (ne_exa y179 y147 (by decide)) nin0)).keep K115 nin0).keep K129 (ninS (Nat.ne_of_lt (Nat.lt_of_lt_of_le (Nat.lt_of_lt_of_le E45_.lt K103.1) y119)) nin0))
  have y181 := (((E47_.keep K103).keep K115).keep K129)
  have y182 := (((F48_.keep K103 (ninS (ne_exa y181 y147 (by decide)) nin0)).keep K115 nin0).keep K129 (ninS (Nat.ne_of_lt (Nat.lt_of_lt_of_le (Nat.lt_of_lt_of_le E47_.lt K103.1) y119)) nin0))
  obtain ⟨_, L162, T162, ⟨r183, rfl, M162, K162, y184, y185, y186, y187, y188, y189, y190, y191, y192, y193, y194, y195⟩, X162, st162⟩ := own_callV X160 hx hZ hown (hw _ (mi 227 rfl)) (wd17 hw) (notFace_of_selects (args := #[]) (mvT hZ (hw _ (mi 41 rfl)))) y163 (rm_ad1E hw h1 t1 tt sz mc xk xv lc kc lcs e1 k1 v1 x1 y1 T129.heap n0 O141 y163 y164 y165 G3_ G4_ (hc1) (ht0) (hs0) S8_ ZA9_ hlc y166 y167 y168 y169 y170 y171 y172 y173 y174 y175 y176 y177 y178 y179 y180 y181 y182 G49_ heq) st160 e160 [] rfl (lenOf pd_15 rfl) (hE 21 rfl) hml.symm 0 rfl (by decide)
  have N162 := Fr.app N160 M162
  have O196 := O141.keep K162 (allS G3_ (allS G49_ all0))
  have g197 := jA X162 hx (jg X162 hx st162 (hE 22 rfl) (pc' := 13) (by decide)) (hE 5 rfl) rfl rfl
  have y199 := (y136.keep K162)
  have y200 := (y140.keep K162 (ninS (Ne.symm (Nat.ne_of_lt (Nat.lt_of_lt_of_le (Nat.lt_of_lt_of_le E0_.lt K103.1) y119))) (ninS (Ne.symm (Nat.ne_of_lt (Nat.lt_of_lt_of_le (Nat.lt_of_lt_of_le E38_.lt K103.1) y119))) nin0)))
  obtain ⟨_, L198, T198, ⟨rfl, M198, e198⟩, X198, st198⟩ := own_callF X162 hx hZ hown (hw _ (mi 213 rfl)) (hw _ (mi 214 rfl)) (mvT hZ (hw _ (mi 215 rfl))) (hw _ (mi 216 rfl)) (hw _ (mi 217 rfl)) (hw _ (mi 218 rfl)) (hw _ (mi 219 rfl)) (hw _ (mi 220 rfl)) (hw _ (mi 201 rfl)) (hw _ (mi 221 rfl)) (by decide) y199 (rm_hn0 hw r118 T162.heap n0 O196 y200) g197 rfl [] rfl (lenOf pd_23 rfl) (hE 6 rfl) hml.symm 0 rfl (by decide)
  have N198 := Fr.app N162 M198
  have g201 := jY X198 hx st198 (hE 7 rfl) rfl (by decide) (pc' := 63) (by decide)
  have K202 : Keep h0 T162.heap [h1, t2, e1] := (((((Keep.refl h0 [h1, t2, e1]).trans K103 (allS (P := fun x => x ∈ [h1, t2, e1] ∨ h0.size ≤ x) (Or.inl (mi 1 rfl)) all0)).trans K115 (fun x hx => nomatch hx)).trans K129 (allS (P := fun x => x ∈ [h1, t2, e1] ∨ h0.size ≤ x) (Or.inr (Nat.le_trans K103.1 y119)) all0)).trans K162 (allS (P := fun x => x ∈ [h1, t2, e1] ∨ h0.size ≤ x) (Or.inl (mi 0 rfl)) (allS (P := fun x => x ∈ [h1, t2, e1] ∨ h0.size ≤ x) (Or.inl (mi 2 rfl)) all0)))
  refine own_leave X198 Bd (none) (fun _ => rfl) g201 (fun fs hr => X198.returnOut hx Bd.returns (hE 23 rfl) hr) (by decide) (by decide) ?_
  rw [e198]
  exact ⟨rfl, N198, K202, y186, y184⟩
theorem rm_aa12L (hw : HW a0 Z) (h1 t1 : Addr) (tt : Int64) (sz mc : Int32) (xk xv : Int64) (lc : Addr) (kc : ClassId) (lcs : List Value) (h2 t2 : Addr) (sz2 mc2 : Int32) (f1 kb vb e1 k1 v1 : Addr) (x1 y1 : Int64) (e2 k2 v2 : Addr) (x2 y2 : Int64) (h0 : Heap) (n0 : Nat) (O0 : Old Z n0 h0) (E0_ : Exa Z h0 h1 "com/example/fetch_from_near/fetchfromnear/Histogram") (F1_ : Fld Z h0 h1 "com/example/fetch_from_near/fetchfromnear/Histogram" "counts" "Ljava/util/TreeMap;" (.ref t1)) (F2_ : Fld Z h0 h1 "com/example/fetch_from_near/fetchfromnear/Histogram" "total" "J" (.long tt)) (G3_ : n0 ≤ h1) (G4_ : n0 ≤ t1) (hc1 : ¬ (xv < (1 : Int64))) (ht0 : ¬ (tt < (0 : Int64))) (hs0 : ¬ ((tt + xv) < (0 : Int64))) (S8_ : Sta Z Z.heap "java/lang/Long$LongCache" "cache" "[Ljava/lang/Long;" (.ref lc)) (ZA9_ : Arv Z Z.heap lc kc (.object "java/lang/Long") (256 : Int32) lcs .null) (hlc : ∀ i, i < 256 → ∃ a, lcs.getD i .null = .ref a ∧ Exa Z Z.heap a "java/lang/Long" ∧ Fld Z Z.heap a "java/lang/Long" "value" "J" (.long (Int64.ofInt ((i : Int) - 128)))) (E11_ : Exa Z h0 h2 "com/example/fetch_from_near/fetchfromnear/Histogram") (F12_ : Fld Z h0 h2 "com/example/fetch_from_near/fetchfromnear/Histogram" "counts" "Ljava/util/TreeMap;" (.ref t2)) (E13_ : Exa Z h0 t2 "java/util/TreeMap") (F14_ : Fld Z h0 t2 "java/util/TreeMap" "comparator" "Ljava/util/Comparator;" .null) (F15_ : Fld Z h0 t2 "java/util/TreeMap" "root" "Ljava/util/TreeMap$Entry;" (.ref f1)) (F16_ : Fld Z h0 t2 "java/util/TreeMap" "size" "I" (.int sz2)) (F17_ : Fld Z h0 t2 "java/util/TreeMap" "modCount" "I" (.int mc2)) (F18_ : Fld Z h0 t2 "java/util/TreeMap" "entrySet" "Ljava/util/TreeMap$EntrySet;" .null) (G19_ : n0 ≤ t2) (E20_ : Exa Z h0 f1 "java/util/TreeMap$Entry") (F21_ : Fld Z h0 f1 "java/util/TreeMap$Entry" "key" "Ljava/lang/Object;" (.ref kb)) (F22_ : Fld Z h0 f1 "java/util/TreeMap$Entry" "value" "Ljava/lang/Object;" (.ref vb)) (F23_ : Fld Z h0 f1 "java/util/TreeMap$Entry" "left" "Ljava/util/TreeMap$Entry;" .null) (F24_ : Fld Z h0 f1 "java/util/TreeMap$Entry" "right" "Ljava/util/TreeMap$Entry;" .null) (F25_ : Fld Z h0 f1 "java/util/TreeMap$Entry" "parent" "Ljava/util/TreeMap$Entry;" .null) (F26_ : Fld Z h0 f1 "java/util/TreeMap$Entry" "color" "Z" (.int 1)) (E27_ : Exa Z h0 kb "java/lang/Long") (F28_ : Fld Z h0 kb "java/lang/Long" "value" "J" (.long xk)) (E29_ : Exa Z h0 vb "java/lang/Long") (F30_ : Fld Z h0 vb "java/lang/Long" "value" "J" (.long xv)) (NE31_ : ¬ (t1 = t2)) (E32_ : Exa Z h0 t1 "java/util/TreeMap") (F33_ : Fld Z h0 t1 "java/util/TreeMap" "comparator" "Ljava/util/Comparator;" .null) (F34_ : Fld Z h0 t1 "java/util/TreeMap" "root" "Ljava/util/TreeMap$Entry;" (.ref e1)) (F35_ : Fld Z h0 t1 "java/util/TreeMap" "size" "I" (.int sz)) (F36_ : Fld Z h0 t1 "java/util/TreeMap" "modCount" "I" (.int mc)) (F37_ : Fld Z h0 t1 "java/util/TreeMap" "entrySet" "Ljava/util/TreeMap$EntrySet;" .null) (E38_ : Exa Z h0 e1 "java/util/TreeMap$Entry") (F39_ : Fld Z h0 e1 "java/util/TreeMap$Entry" "key" "Ljava/lang/Object;" (.ref k1)) (F40_ : Fld Z h0 e1 "java/util/TreeMap$Entry" "value" "Ljava/lang/Object;" (.ref v1)) (F41_ : Fld Z h0 e1 "java/util/TreeMap$Entry" "left" "Ljava/util/TreeMap$Entry;" (.ref e2)) (F42_ : Fld Z h0 e1 "java/util/TreeMap$Entry" "right" "Ljava/util/TreeMap$Entry;" .null) (F43_ : Fld Z h0 e1 "java/util/TreeMap$Entry" "parent" "Ljava/util/TreeMap$Entry;" .null) (F44_ : Fld Z h0 e1 "java/util/TreeMap$Entry" "color" "Z" (.int 1)) (E45_ : Exa Z h0 e2 "java/util/TreeMap$Entry") (F46_ : Fld Z h0 e2 "java/util/TreeMap$Entry" "key" "Ljava/lang/Object;" (.ref k2)) (F47_ : Fld Z h0 e2 "java/util/TreeMap$Entry" "value" "Ljava/lang/Object;" (.ref v2)) (F48_ : Fld Z h0 e2 "java/util/TreeMap$Entry" "left" "Ljava/util/TreeMap$Entry;" .null) (F49_ : Fld Z h0 e2 "java/util/TreeMap$Entry" "right" "Ljava/util/TreeMap$Entry;" .null) (F50_ : Fld Z h0 e2 "java/util/TreeMap$Entry" "parent" "Ljava/util/TreeMap$Entry;" (.ref e1)) (F51_ : Fld Z h0 e2 "java/util/TreeMap$Entry" "color" "Z" (.int 0)) (E52_ : Exa Z h0 k1 "java/lang/Long") (F53_ : Fld Z h0 k1 "java/lang/Long" "value" "J" (.long x1)) (E54_ : Exa Z h0 v1 "java/lang/Long") (F55_ : Fld Z h0 v1 "java/lang/Long" "value" "J" (.long y1)) (E56_ : Exa Z h0 k2 "java/lang/Long") (F57_ : Fld Z h0 k2 "java/lang/Long" "value" "J" (.long x2)) (E58_ : Exa Z h0 v2 "java/lang/Long") (F59_ : Fld Z h0 v2 "java/lang/Long" "value" "J" (.long y2)) (G60_ : n0 ≤ e1) (G61_ : n0 ≤ e2) (NE62_ : ¬ (e1 = e2)) (hlt : xk < x1) (heq : xk = x2) :
    own_M l mN37 (Jvm.Cond.code mN37 prog_10_method_4_code 4 none) [] (⟨8, 5, 8, 3091⟩ : Room) #[(.ref h1), (.ref h2)] Z h0 (fun v h L => v = none ∧ Fr n0 L ∧ Keep h0 h [h1, t2, e2] ∧ (Fld Z h h1 "com/example/fetch_from_near/fetchfromnear/Histogram" "total" "J" (.long (tt + xv))) ∧ (Exa Z h h1 "com/example/fetch_from_near/fetchfromnear/Histogram")) := by
  refine own_open n0 (plainFor_of_name pn_7) (fun m => ef_RR4 m h1 h2 ) ?_
  intro p e s m below meth c s₁ A0 Bd hx hby hml hown hnm hZ hh X0 e0 N0 g0
  have hE := own_hd hby E21
  have g101 := jA X0 hx g0 (hE 0 rfl) rfl rfl
  obtain ⟨T102, X102, e102, g102⟩ := own_getF X0 hx hZ hown (hw _ (mi 29 rfl)) Via.refl e0 F12_ g101 (hE 1 rfl)
  obtain ⟨_, L103, T103, ⟨r104, rfl, M103, K103, y105, y106, y107, y108, y109, y110, y111, y112, y113⟩, X103, st103⟩ := own_callV X102 hx hZ hown (hw _ (mi 147 rfl)) (wd25 hw) (notFace_of_selects (args := #[]) (mvT hZ (hw _ (mi 150 rfl)))) E13_ (rm_eset hw t2 (.ref f1) sz2 mc2 h0 n0 O0 E13_ F14_ F15_ F16_ F17_ F18_ G19_ (rfl)) g102 e102 [] rfl (lenOf pd_21 rfl) (hE 2 rfl) hml.symm 0 rfl (by decide)
  have N103 := Fr.app N0 M103
  have O114 := O0.keep K103 (allS G19_ all0)
  have y116 := (E20_.keep K103)
  have y117 := (F23_.keep K103 (ninS (ne_exa y116 y108 (by decide)) nin0))
  obtain ⟨_, L115, T115, ⟨r118, rfl, M115, K115, y119, y120, y121, y122, y123, y124⟩, X115, st115⟩ := own_callF X103 hx hZ hown (hw _ (mi 176 rfl)) (hw _ (mi 177 rfl)) (mvT hZ (hw _ (mi 178 rfl))) (hw _ (mi 179 rfl)) (hw _ (mi 180 rfl)) (hw _ (mi 181 rfl)) (hw _ (mi 182 rfl)) (hw _ (mi 183 rfl)) (hw _ (mi 156 rfl)) (hw _ (mi 184 rfl)) (by decide) y106 (rm_iter1 hw r104 t2 mc2 f1 T103.heap n0 O114 y107 y108 y112 y110 y117) st103 rfl [] rfl (lenOf pd_22 rfl) (hE 3 rfl) hml.symm 0 rfl (by decide)
  have N115 := Fr.app N103 M115
  have O125 := O114.keep K115 all0
  have g126 := jA X115 hx (jT X115 hx st115 (hE 4 rfl) rfl rfl (l' := #[rv h1, rv h2, rv r118, .unset]) rfl) (hE 5 rfl) rfl rfl
  obtain ⟨_, L127, T127, ⟨rfl, M127, e127⟩, X127, st127⟩ := own_callF X115 hx hZ hown (hw _ (mi 213 rfl)) (hw _ (mi 214 rfl)) (mvT hZ (hw _ (mi 215 rfl))) (hw _ (mi 216 rfl)) (hw _ (mi 217 rfl)) (hw _ (mi 218 rfl)) (hw _ (mi 219 rfl)) (hw _ (mi 220 rfl)) (hw _ (mi 201 rfl)) (hw _ (mi 221 rfl)) (by decide) y120 (rm_hn1 hw r118 f1 T115.heap n0 O125 y124) g126 rfl [] rfl (lenOf pd_23 rfl) (hE 6 rfl) hml.symm 0 rfl (by decide)
  have N127 := Fr.app N115 M127
  have g128 := jA X127 hx (jN X127 hx st127 (hE 7 rfl) rfl (by decide)) (hE 8 rfl) rfl rfl
  have y130 := (y108.keep K115)
  have y131 := (y112.keep K115 nin0)
  have y132 := (y116.keep K115)
  have y133 := ((F24_.keep K103 (ninS (ne_exa y132 y130 (by decide)) nin0)).keep K115 nin0)
  have y134 := ((F25_.keep K103 (ninS (ne_exa y132 y130 (by decide)) nin0)).keep K115 nin0)
  have ge135 : n0 ≤ r118 := Nat.le_trans (own_old_le O114) y119
  obtain ⟨_, L129, T129, ⟨rfl, M129, K129, y136, y137, y138, y139, y140⟩, X129, st129⟩ := own_callF X127 hx hZ hown (hw _ (mi 228 rfl)) (hw _ (mi 229 rfl)) (mvT hZ (hw _ (mi 230 rfl))) (hw _ (mi 231 rfl)) (hw _ (mi 232 rfl)) (hw _ (mi 233 rfl)) (hw _ (mi 234 rfl)) (hw _ (mi 220 rfl)) (hw _ (mi 187 rfl)) (hw _ (mi 235 rfl)) (by decide) y120 (rm_nx2 hw r118 t2 f1 mc2 T115.heap n0 O125 y120 y121 y122 y123 y124 y130 y131 y132 y133 y134 ge135) g128 e127 [] rfl (lenOf pd_24 rfl) (hE 9 rfl) hml.symm 0 rfl (by decide)
  have N129 := Fr.app N127 M129
  have O141 := O125.keep K129 (allS ge135 all0)
  have y143 := (y132.keep K129)
  obtain ⟨T142, X142, e142, st142⟩ := castY X129 hx hZ hown (hw _ (mi 252 rfl)) rfl (Ins.of_exa y143 (hw _ (mi 253 rfl))) (g := (mkF m 28 #[rv h1, rv h2, rv r118, .unset] [(.ref f1)])) rfl rfl (hE 10 rfl)
  have g144 : Go p e below T142 (mkF m 31 #[rv h1, rv h2, rv r118, .unset] [(.ref f1)]) A0 := fun t kont => st129 t (st142 t kont)
  have g145 := jA X142 hx (jA X142 hx (jT X142 hx g144 (hE 11 rfl) rfl rfl (l' := #[rv h1, rv h2, rv r118, rv f1]) rfl) (hE 12 rfl) rfl rfl) (hE 13 rfl) rfl rfl
  have y147 := (y130.keep K129)
  have y148 := (((F21_.keep K103 (ninS (ne_exa y143 y147 (by decide)) nin0)).keep K115 nin0).keep K129 (ninS (Nat.ne_of_lt (Nat.lt_of_lt_of_le (Nat.lt_of_lt_of_le E20_.lt K103.1) y119)) nin0))
  obtain ⟨_, L146, T146, ⟨rfl, M146, e146⟩, X146, st146⟩ := own_callF X142 hx hZ hown (hw _ (mi 254 rfl)) (hw _ (mi 255 rfl)) (mvT hZ (hw _ (mi 256 rfl))) (hw _ (mi 257 rfl)) (hw _ (mi 258 rfl)) (hw _ (mi 259 rfl)) (hw _ (mi 260 rfl)) (hw _ (mi 253 rfl)) (hw _ (mi 102 rfl)) (hw _ (mi 261 rfl)) (by decide) y143 (rm_gk hw f1 kb T129.heap n0 O141 y148) g145 e142 [(.ref h1)] rfl (lenOf pd_24 rfl) (hE 14 rfl) hml.symm 1 rfl (by decide)
  have N146 := Fr.app N129 M146
  have y150 := (((E27_.keep K103).keep K115).keep K129)
  obtain ⟨T149, X149, e149, st149⟩ := castY X146 hx hZ hown (hw _ (mi 262 rfl)) e146 (Ins.self y150) (g := (mkF m 39 #[rv h1, rv h2, rv r118, rv f1] [(.ref kb), (.ref h1)])) rfl rfl (hE 15 rfl)
  have g151 : Go p e below T149 (mkF m 42 #[rv h1, rv h2, rv r118, rv f1] [(.ref kb), (.ref h1)]) A0 := fun t kont => st146 t (st149 t kont)
  have y153 := (((F28_.keep K103 (ninS (ne_exa y150 y147 (by decide)) nin0)).keep K115 nin0).keep K129 (ninS (Nat.ne_of_lt (Nat.lt_of_lt_of_le (Nat.lt_of_lt_of_le E27_.lt K103.1) y119)) nin0))
  obtain ⟨_, L152, T152, ⟨rfl, M152, e152⟩, X152, st152⟩ := own_callV X149 hx hZ hown (hw _ (mi 263 rfl)) (wd26 hw) (notFace_of_selects (args := #[]) (mvT hZ (hw _ (mi 266 rfl)))) y150 (rm_lv hw kb xk T129.heap n0 O141 y153) g151 e149 [(.ref h1)] rfl (lenOf pd_25 rfl) (hE 16 rfl) hml.symm 1 rfl (by decide)
  have N152 := Fr.app N146 M152
  have g154 := jA X152 hx st152 (hE 17 rfl) rfl rfl
  have y156 := (((F22_.keep K103 (ninS (ne_exa y143 y147 (by decide)) nin0)).keep K115 nin0).keep K129 (ninS (Nat.ne_of_lt (Nat.lt_of_lt_of_le (Nat.lt_of_lt_of_le E20_.lt K103.1) y119)) nin0))
  obtain ⟨_, L155, T155, ⟨rfl, M155, e155⟩, X155, st155⟩ := own_callF X152 hx hZ hown (hw _ (mi 268 rfl)) (hw _ (mi 269 rfl)) (mvT hZ (hw _ (mi 270 rfl))) (hw _ (mi 271 rfl)) (hw _ (mi 272 rfl)) (hw _ (mi 273 rfl)) (hw _ (mi 274 rfl)) (hw _ (mi 253 rfl)) (hw _ (mi 102 rfl)) (hw _ (mi 275 rfl)) (by decide) y143 (rm_gv hw f1 vb T129.heap n0 O141 y156) g154 e152 [(.long xk), (.ref h1)] rfl (lenOf pd_24 rfl) (hE 18 rfl) hml.symm 3 rfl (by decide)
  have N155 := Fr.app N152 M155
  have y158 := (((E29_.keep K103).keep K115).keep K129)
  obtain ⟨T157, X157, e157, st157⟩ := castY X155 hx hZ hown (hw _ (mi 262 rfl)) e155 (Ins.self y158) (g := (mkF m 51 #[rv h1, rv h2, rv r118, rv f1] [(.ref vb), (.long xk), (.ref h1)])) rfl rfl (hE 19 rfl)
  have g159 : Go p e below T157 (mkF m 54 #[rv h1, rv h2, rv r118, rv f1] [(.ref vb), (.long xk), (.ref h1)]) A0 := fun t kont => st155 t (st157 t kont)
  have y161 := (((F30_.keep K103 (ninS (ne_exa y158 y147 (by decide)) nin0)).keep K115 nin0).keep K129 (ninS (Nat.ne_of_lt (Nat.lt_of_lt_of_le (Nat.lt_of_lt_of_le E29_.lt K103.1) y119)) nin0))
  obtain ⟨_, L160, T160, ⟨rfl, M160, e160⟩, X160, st160⟩ := own_callV X157 hx hZ hown (hw _ (mi 263 rfl)) (wd26 hw) (notFace_of_selects (args := #[]) (mvT hZ (hw _ (mi 266 rfl)))) y158 (rm_lv hw vb xv T129.heap n0 O141 y161) g159 e157 [(.long xk), (.ref h1)] rfl (lenOf pd_25 rfl) (hE 20 rfl) hml.symm 3 rfl (by decide)
  have N160 := Fr.app N155 M160
  have y163 := (((E0_.keep K103).keep K115).keep K129)
  have y164 := (((F1_.keep K103 (ninS (ne_exa y163 y147 (by decide)) nin0)).keep K115 nin0).keep K129 (ninS (Nat.ne_of_lt (Nat.lt_of_lt_of_le (Nat.lt_of_lt_of_le E0_.lt K103.1) y119)) nin0))
  have y165 := (((F2_.keep K103 (ninS (ne_exa y163 y147 (by decide)) nin0)).keep K115 nin0).keep K129 (ninS (Nat.ne_of_lt (Nat.lt_of_lt_of_le (Nat.lt_of_lt_of_le E0_.lt K103.1) y119)) nin0))
  have y166 := (((E32_.keep K103).keep K115).keep K129)
  have y167 := (((F33_.keep K103 (ninS NE31_ nin0)).keep K115 nin0).keep K129 (ninS (Nat.ne_of_lt (Nat.lt_of_lt_of_le (Nat.lt_of_lt_of_le E32_.lt K103.1) y119)) nin0))
  have y168 := (((F34_.keep K103 (ninS NE31_ nin0)).keep K115 nin0).keep K129 (ninS (Nat.ne_of_lt (Nat.lt_of_lt_of_le (Nat.lt_of_lt_of_le E32_.lt K103.1) y119)) nin0))
  have y169 := (((F35_.keep K103 (ninS NE31_ nin0)).keep K115 nin0).keep K129 (ninS (Nat.ne_of_lt (Nat.lt_of_lt_of_le (Nat.lt_of_lt_of_le E32_.lt K103.1) y119)) nin0))
  have y170 := (((F36_.keep K103 (ninS NE31_ nin0)).keep K115 nin0).keep K129 (ninS (Nat.ne_of_lt (Nat.lt_of_lt_of_le (Nat.lt_of_lt_of_le E32_.lt K103.1) y119)) nin0))
  have y171 := (((F37_.keep K103 (ninS NE31_ nin0)).keep K115 nin0).keep K129 (ninS (Nat.ne_of_lt (Nat.lt_of_lt_of_le (Nat.lt_of_lt_of_le E32_.lt K103.1) y119)) nin0))
  have y172 := (((E38_.keep K103).keep K115).keep K129)
  have y173 := (((F39_.keep K103 (ninS (ne_exa y172 y147 (by decide)) nin0)).keep K115 nin0).keep K129 (ninS (Nat.ne_of_lt (Nat.lt_of_lt_of_le (Nat.lt_of_lt_of_le E38_.lt K103.1) y119)) nin0))
  have y174 := (((F40_.keep K103 (ninS (ne_exa y172 y147 (by decide)) nin0)).keep K115 nin0).keep K129 (ninS (Nat.ne_of_lt (Nat.lt_of_lt_of_le (Nat.lt_of_lt_of_le E38_.lt K103.1) y119)) nin0))
  have y175 := (((F41_.keep K103 (ninS (ne_exa y172 y147 (by decide)) nin0)).keep K115 nin0).keep K129 (ninS (Nat.ne_of_lt (Nat.lt_of_lt_of_le (Nat.lt_of_lt_of_le E38_.lt K103.1) y119)) nin0))
  have y176 := (((F42_.keep K103 (ninS (ne_exa y172 y147 (by decide)) nin0)).keep K115 nin0).keep K129 (ninS (Nat.ne_of_lt (Nat.lt_of_lt_of_le (Nat.lt_of_lt_of_le E38_.lt K103.1) y119)) nin0))
  have y177 := (((F43_.keep K103 (ninS (ne_exa y172 y147 (by decide)) nin0)).keep K115 nin0).keep K129 (ninS (Nat.ne_of_lt (Nat.lt_of_lt_of_le (Nat.lt_of_lt_of_le E38_.lt K103.1) y119)) nin0))
  have y178 := (((F44_.keep K103 (ninS (ne_exa y172 y147 (by decide)) nin0)).keep K115 nin0).keep K129 (ninS (Nat.ne_of_lt (Nat.lt_of_lt_of_le (Nat.lt_of_lt_of_le E38_.lt K103.1) y119)) nin0))
  have y179 := (((E45_.keep K103).keep K115).keep K129)
  have y180 := (((F46_.keep K103 (ninS (ne_exa y179 y147 (by decide)) nin0)).keep K115 nin0).keep K129 (ninS (Nat.ne_of_lt (Nat.lt_of_lt_of_le (Nat.lt_of_lt_of_le E45_.lt K103.1) y119)) nin0))
  have y181 := (((F47_.keep K103 (ninS (ne_exa y179 y147 (by decide)) nin0)).keep K115 nin0).keep K129 (ninS (Nat.ne_of_lt (Nat.lt_of_lt_of_le (Nat.lt_of_lt_of_le E45_.lt K103.1) y119)) nin0))
  have y182 := (((F48_.keep K103 (ninS (ne_exa y179 y147 (by decide)) nin0)).keep K115 nin0).keep K129 (ninS (Nat.ne_of_lt (Nat.lt_of_lt_of_le (Nat.lt_of_lt_of_le E45_.lt K103.1) y119)) nin0))
  have y183 := (((F49_.keep K103 (ninS (ne_exa y179 y147 (by decide)) nin0)).keep K115 nin0).keep K129 (ninS (Nat.ne_of_lt (Nat.lt_of_lt_of_le (Nat.lt_of_lt_of_le E45_.lt K103.1) y119)) nin0))
  have y184 := (((F50_.keep K103 (ninS (ne_exa y179 y147 (by decide)) nin0)).keep K115 nin0).keep K129 (ninS (Nat.ne_of_lt (Nat.lt_of_lt_of_le (Nat.lt_of_lt_of_le E45_.lt K103.1) y119)) nin0))
  have y185 := (((F51_.keep K103 (ninS (ne_exa y179 y147 (by decide)) nin0)).keep K115 nin0).keep K129 (ninS (Nat.ne_of_lt (Nat.lt_of_lt_of_le (Nat.lt_of_lt_of_le E45_.lt K103.1) y119)) nin0))
  have y186 := (((E52_.keep K103).keep K115).keep K129)
  have y187 := (((F53_.keep K103 (ninS (ne_exa y186 y147 (by decide)) nin0)).keep K115 nin0).keep K129 (ninS (Nat.ne_of_lt (Nat.lt_of_lt_of_le (Nat.lt_of_lt_of_le E52_.lt K103.1) y119)) nin0))
  have y188 := (((E54_.keep K103).keep K115).keep K129)
  have y189 := (((F55_.keep K103 (ninS (ne_exa y188 y147 (by decide)) nin0)).keep K115 nin0).keep K129 (ninS (Nat.ne_of_lt (Nat.lt_of_lt_of_le (Nat.lt_of_lt_of_le E54_.lt K103.1) y119)) nin0))
  have y190 := (((E56_.keep K103).keep K115).keep K129)
  have y191 := (((F57_.keep K103 (ninS (ne_exa y190 y147 (by decide)) nin0)).keep K115 nin0).keep K129 (ninS (Nat.ne_of_lt (Nat.lt_of_lt_of_le (Nat.lt_of_lt_of_le E56_.lt K103.1) y119)) nin0))
  have y192 := (((E58_.keep K103).keep K115).keep K129)
  have y193 := (((F59_.keep K103 (ninS (ne_exa y192 y147 (by decide)) nin0)).keep K115 nin0).keep K129 (ninS (Nat.ne_of_lt (Nat.lt_of_lt_of_le (Nat.lt_of_lt_of_le E58_.lt K103.1) y119)) nin0))
  obtain ⟨_, L162, T162, ⟨r194, rfl, M162, K162, y195, y196, y197, y198, y199, y200, y201, y202, y203, y204, y205, y206⟩, X162, st162⟩ := own_callV X160 hx hZ hown (hw _ (mi 227 rfl)) (wd17 hw) (notFace_of_selects (args := #[]) (mvT hZ (hw _ (mi 41 rfl)))) y163 (rm_ad2L hw h1 t1 tt sz mc xk xv lc kc lcs e1 k1 v1 x1 y1 e2 k2 v2 x2 y2 T129.heap n0 O141 y163 y164 y165 G3_ G4_ (hc1) (ht0) (hs0) S8_ ZA9_ hlc y166 y167 y168 y169 y170 y171 y172 y173 y174 y175 y176 y177 y178 y179 y180 y181 y182 y183 y184 y185 y186 y187 y188 y189 y190 y191 y192 y193 G60_ G61_ NE62_ hlt heq) st160 e160 [] rfl (lenOf pd_15 rfl) (hE 21 rfl) hml.symm 0 rfl (by decide)
  have N162 := Fr.app N160 M162
  have O207 := O141.keep K162 (allS G3_ (allS G61_ all0))
  have g208 := jA X162 hx (jg X162 hx st162 (hE 22 rfl) (pc' := 13) (by decide)) (hE 5 rfl) rfl rfl
  have y210 := (y136.keep K162)
  have y211 := (y140.keep K162 (ninS (Ne.symm (Nat.ne_of_lt (Nat.lt_of_lt_of_le (Nat.lt_of_lt_of_le E0_.lt K103.1) y119))) (ninS (Ne.symm (Nat.ne_of_lt (Nat.lt_of_lt_of_le (Nat.lt_of_lt_of_le E45_.lt K103.1) y119))) nin0)))
  obtain ⟨_, L209, T209, ⟨rfl, M209, e209⟩, X209, st209⟩ := own_callF X162 hx hZ hown (hw _ (mi 213 rfl)) (hw _ (mi 214 rfl)) (mvT hZ (hw _ (mi 215 rfl))) (hw _ (mi 216 rfl)) (hw _ (mi 217 rfl)) (hw _ (mi 218 rfl)) (hw _ (mi 219 rfl)) (hw _ (mi 220 rfl)) (hw _ (mi 201 rfl)) (hw _ (mi 221 rfl)) (by decide) y210 (rm_hn0 hw r118 T162.heap n0 O207 y211) g208 rfl [] rfl (lenOf pd_23 rfl) (hE 6 rfl) hml.symm 0 rfl (by decide)
  have N209 := Fr.app N162 M209
  have g212 := jY X209 hx st209 (hE 7 rfl) rfl (by decide) (pc' := 63) (by decide)
  have K213 : Keep h0 T162.heap [h1, t2, e2] := (((((Keep.refl h0 [h1, t2, e2]).trans K103 (allS (P := fun x => x ∈ [h1, t2, e2] ∨ h0.size ≤ x) (Or.inl (mi 1 rfl)) all0)).trans K115 (fun x hx => nomatch hx)).trans K129 (allS (P := fun x => x ∈ [h1, t2, e2] ∨ h0.size ≤ x) (Or.inr (Nat.le_trans K103.1 y119)) all0)).trans K162 (allS (P := fun x => x ∈ [h1, t2, e2] ∨ h0.size ≤ x) (Or.inl (mi 0 rfl)) (allS (P := fun x => x ∈ [h1, t2, e2] ∨ h0.size ≤ x) (Or.inl (mi 2 rfl)) all0)))
  refine own_leave X209 Bd (none) (fun _ => rfl) g212 (fun fs hr => X209.returnOut hx Bd.returns (hE 23 rfl) hr) (by decide) (by decide) ?_
  rw [e209]
  exact ⟨rfl, N209, K213, y197, y195⟩
theorem rm_aa12R (hw : HW a0 Z) (h1 t1 : Addr) (tt : Int64) (sz mc : Int32) (xk xv : Int64) (lc : Addr) (kc : ClassId) (lcs : List Value) (h2 t2 : Addr) (sz2 mc2 : Int32) (f1 kb vb e1 k1 v1 : Addr) (x1 y1 : Int64) (e2 k2 v2 : Addr) (x2 y2 : Int64) (h0 : Heap) (n0 : Nat) (O0 : Old Z n0 h0) (E0_ : Exa Z h0 h1 "com/example/fetch_from_near/fetchfromnear/Histogram") (F1_ : Fld Z h0 h1 "com/example/fetch_from_near/fetchfromnear/Histogram" "counts" "Ljava/util/TreeMap;" (.ref t1)) (F2_ : Fld Z h0 h1 "com/example/fetch_from_near/fetchfromnear/Histogram" "total" "J" (.long tt)) (G3_ : n0 ≤ h1) (G4_ : n0 ≤ t1) (hc1 : ¬ (xv < (1 : Int64))) (ht0 : ¬ (tt < (0 : Int64))) (hs0 : ¬ ((tt + xv) < (0 : Int64))) (S8_ : Sta Z Z.heap "java/lang/Long$LongCache" "cache" "[Ljava/lang/Long;" (.ref lc)) (ZA9_ : Arv Z Z.heap lc kc (.object "java/lang/Long") (256 : Int32) lcs .null) (hlc : ∀ i, i < 256 → ∃ a, lcs.getD i .null = .ref a ∧ Exa Z Z.heap a "java/lang/Long" ∧ Fld Z Z.heap a "java/lang/Long" "value" "J" (.long (Int64.ofInt ((i : Int) - 128)))) (E11_ : Exa Z h0 h2 "com/example/fetch_from_near/fetchfromnear/Histogram") (F12_ : Fld Z h0 h2 "com/example/fetch_from_near/fetchfromnear/Histogram" "counts" "Ljava/util/TreeMap;" (.ref t2)) (E13_ : Exa Z h0 t2 "java/util/TreeMap") (F14_ : Fld Z h0 t2 "java/util/TreeMap" "comparator" "Ljava/util/Comparator;" .null) (F15_ : Fld Z h0 t2 "java/util/TreeMap" "root" "Ljava/util/TreeMap$Entry;" (.ref f1)) (F16_ : Fld Z h0 t2 "java/util/TreeMap" "size" "I" (.int sz2)) (F17_ : Fld Z h0 t2 "java/util/TreeMap" "modCount" "I" (.int mc2)) (F18_ : Fld Z h0 t2 "java/util/TreeMap" "entrySet" "Ljava/util/TreeMap$EntrySet;" .null) (G19_ : n0 ≤ t2) (E20_ : Exa Z h0 f1 "java/util/TreeMap$Entry") (F21_ : Fld Z h0 f1 "java/util/TreeMap$Entry" "key" "Ljava/lang/Object;" (.ref kb)) (F22_ : Fld Z h0 f1 "java/util/TreeMap$Entry" "value" "Ljava/lang/Object;" (.ref vb)) (F23_ : Fld Z h0 f1 "java/util/TreeMap$Entry" "left" "Ljava/util/TreeMap$Entry;" .null) (F24_ : Fld Z h0 f1 "java/util/TreeMap$Entry" "right" "Ljava/util/TreeMap$Entry;" .null) (F25_ : Fld Z h0 f1 "java/util/TreeMap$Entry" "parent" "Ljava/util/TreeMap$Entry;" .null) (F26_ : Fld Z h0 f1 "java/util/TreeMap$Entry" "color" "Z" (.int 1)) (E27_ : Exa Z h0 kb "java/lang/Long") (F28_ : Fld Z h0 kb "java/lang/Long" "value" "J" (.long xk)) (E29_ : Exa Z h0 vb "java/lang/Long") (F30_ : Fld Z h0 vb "java/lang/Long" "value" "J" (.long xv)) (NE31_ : ¬ (t1 = t2)) (E32_ : Exa Z h0 t1 "java/util/TreeMap") (F33_ : Fld Z h0 t1 "java/util/TreeMap" "comparator" "Ljava/util/Comparator;" .null) (F34_ : Fld Z h0 t1 "java/util/TreeMap" "root" "Ljava/util/TreeMap$Entry;" (.ref e1)) (F35_ : Fld Z h0 t1 "java/util/TreeMap" "size" "I" (.int sz)) (F36_ : Fld Z h0 t1 "java/util/TreeMap" "modCount" "I" (.int mc)) (F37_ : Fld Z h0 t1 "java/util/TreeMap" "entrySet" "Ljava/util/TreeMap$EntrySet;" .null) (E38_ : Exa Z h0 e1 "java/util/TreeMap$Entry") (F39_ : Fld Z h0 e1 "java/util/TreeMap$Entry" "key" "Ljava/lang/Object;" (.ref k1)) (F40_ : Fld Z h0 e1 "java/util/TreeMap$Entry" "value" "Ljava/lang/Object;" (.ref v1)) (F41_ : Fld Z h0 e1 "java/util/TreeMap$Entry" "left" "Ljava/util/TreeMap$Entry;" .null) (F42_ : Fld Z h0 e1 "java/util/TreeMap$Entry" "right" "Ljava/util/TreeMap$Entry;" (.ref e2)) (F43_ : Fld Z h0 e1 "java/util/TreeMap$Entry" "parent" "Ljava/util/TreeMap$Entry;" .null) (F44_ : Fld Z h0 e1 "java/util/TreeMap$Entry" "color" "Z" (.int 1)) (E45_ : Exa Z h0 e2 "java/util/TreeMap$Entry") (F46_ : Fld Z h0 e2 "java/util/TreeMap$Entry" "key" "Ljava/lang/Object;" (.ref k2)) (F47_ : Fld Z h0 e2 "java/util/TreeMap$Entry" "value" "Ljava/lang/Object;" (.ref v2)) (F48_ : Fld Z h0 e2 "java/util/TreeMap$Entry" "left" "Ljava/util/TreeMap$Entry;" .null) (F49_ : Fld Z h0 e2 "java/util/TreeMap$Entry" "right" "Ljava/util/TreeMap$Entry;" .null) (F50_ : Fld Z h0 e2 "java/util/TreeMap$Entry" "parent" "Ljava/util/TreeMap$Entry;" (.ref e1)) (F51_ : Fld Z h0 e2 "java/util/TreeMap$Entry" "color" "Z" (.int 0)) (E52_ : Exa Z h0 k1 "java/lang/Long") (F53_ : Fld Z h0 k1 "java/lang/Long" "value" "J" (.long x1)) (E54_ : Exa Z h0 v1 "java/lang/Long") (F55_ : Fld Z h0 v1 "java/lang/Long" "value" "J" (.long y1)) (E56_ : Exa Z h0 k2 "java/lang/Long") (F57_ : Fld Z h0 k2 "java/lang/Long" "value" "J" (.long x2)) (E58_ : Exa Z h0 v2 "java/lang/Long") (F59_ : Fld Z h0 v2 "java/lang/Long" "value" "J" (.long y2)) (G60_ : n0 ≤ e1) (G61_ : n0 ≤ e2) (NE62_ : ¬ (e1 = e2)) (hlt : x1 < xk) (heq : xk = x2) :
    own_M l mN37 (Jvm.Cond.code mN37 prog_10_method_4_code 4 none) [] (⟨8, 5, 8, 3091⟩ : Room) #[(.ref h1), (.ref h2)] Z h0 (fun v h L => v = none ∧ Fr n0 L ∧ Keep h0 h [h1, t2, e2] ∧ (Fld Z h h1 "com/example/fetch_from_near/fetchfromnear/Histogram" "total" "J" (.long (tt + xv))) ∧ (Exa Z h h1 "com/example/fetch_from_near/fetchfromnear/Histogram")) := by
  refine own_open n0 (plainFor_of_name pn_7) (fun m => ef_RR4 m h1 h2 ) ?_
  intro p e s m below meth c s₁ A0 Bd hx hby hml hown hnm hZ hh X0 e0 N0 g0
  have hE := own_hd hby E21
  have g101 := jA X0 hx g0 (hE 0 rfl) rfl rfl
  obtain ⟨T102, X102, e102, g102⟩ := own_getF X0 hx hZ hown (hw _ (mi 29 rfl)) Via.refl e0 F12_ g101 (hE 1 rfl)
  obtain ⟨_, L103, T103, ⟨r104, rfl, M103, K103, y105, y106, y107, y108, y109, y110, y111, y112, y113⟩, X103, st103⟩ := own_callV X102 hx hZ hown (hw _ (mi 147 rfl)) (wd25 hw) (notFace_of_selects (args := #[]) (mvT hZ (hw _ (mi 150 rfl)))) E13_ (rm_eset hw t2 (.ref f1) sz2 mc2 h0 n0 O0 E13_ F14_ F15_ F16_ F17_ F18_ G19_ (rfl)) g102 e102 [] rfl (lenOf pd_21 rfl) (hE 2 rfl) hml.symm 0 rfl (by decide)
  have N103 := Fr.app N0 M103
  have O114 := O0.keep K103 (allS G19_ all0)
  have y116 := (E20_.keep K103)
  have y117 := (F23_.keep K103 (ninS (ne_exa y116 y108 (by decide)) nin0))
  obtain ⟨_, L115, T115, ⟨r118, rfl, M115, K115, y119, y120, y121, y122, y123, y124⟩, X115, st115⟩ := own_callF X103 hx hZ hown (hw _ (mi 176 rfl)) (hw _ (mi 177 rfl)) (mvT hZ (hw _ (mi 178 rfl))) (hw _ (mi 179 rfl)) (hw _ (mi 180 rfl)) (hw _ (mi 181 rfl)) (hw _ (mi 182 rfl)) (hw _ (mi 183 rfl)) (hw _ (mi 156 rfl)) (hw _ (mi 184 rfl)) (by decide) y106 (rm_iter1 hw r104 t2 mc2 f1 T103.heap n0 O114 y107 y108 y112 y110 y117) st103 rfl [] rfl (lenOf pd_22 rfl) (hE 3 rfl) hml.symm 0 rfl (by decide)
  have N115 := Fr.app N103 M115
  have O125 := O114.keep K115 all0
  have g126 := jA X115 hx (jT X115 hx st115 (hE 4 rfl) rfl rfl (l' := #[rv h1, rv h2, rv r118, .unset]) rfl) (hE 5 rfl) rfl rfl
  obtain ⟨_, L127, T127, ⟨rfl, M127, e127⟩, X127, st127⟩ := own_callF X115 hx hZ hown (hw _ (mi 213 rfl)) (hw _ (mi 214 rfl)) (mvT hZ (hw _ (mi 215 rfl))) (hw _ (mi 216 rfl)) (hw _ (mi 217 rfl)) (hw _ (mi 218 rfl)) (hw _ (mi 219 rfl)) (hw _ (mi 220 rfl)) (hw _ (mi 201 rfl)) (hw _ (mi 221 rfl)) (by decide) y120 (rm_hn1 hw r118 f1 T115.heap n0 O125 y124) g126 rfl [] rfl (lenOf pd_23 rfl) (hE 6 rfl) hml.symm 0 rfl (by decide)
  have N127 := Fr.app N115 M127
  have g128 := jA X127 hx (jN X127 hx st127 (hE 7 rfl) rfl (by decide)) (hE 8 rfl) rfl rfl
  have y130 := (y108.keep K115)
  have y131 := (y112.keep K115 nin0)
  have y132 := (y116.keep K115)
  have y133 := ((F24_.keep K103 (ninS (ne_exa y132 y130 (by decide)) nin0)).keep K115 nin0)
  have y134 := ((F25_.keep K103 (ninS (ne_exa y132 y130 (by decide)) nin0)).keep K115 nin0)
  have ge135 : n0 ≤ r118 := Nat.le_trans (own_old_le O114) y119
  obtain ⟨_, L129, T129, ⟨rfl, M129, K129, y136, y137, y138, y139, y140⟩, X129, st129⟩ := own_callF X127 hx hZ hown (hw _ (mi 228 rfl)) (hw _ (mi 229 rfl)) (mvT hZ (hw _ (mi 230 rfl))) (hw _ (mi 231 rfl)) (hw _ (mi 232 rfl)) (hw _ (mi 233 rfl)) (hw _ (mi 234 rfl)) (hw _ (mi 220 rfl)) (hw _ (mi 187 rfl)) (hw _ (mi 235 rfl)) (by decide) y120 (rm_nx2 hw r118 t2 f1 mc2 T115.heap n0 O125 y120 y121 y122 y123 y124 y130 y131 y132 y133 y134 ge135) g128 e127 [] rfl (lenOf pd_24 rfl) (hE 9 rfl) hml.symm 0 rfl (by decide)
  have N129 := Fr.app N127 M129
  have O141 := O125.keep K129 (allS ge135 all0)
  have y143 := (y132.keep K129)
  obtain ⟨T142, X142, e142, st142⟩ := castY X129 hx hZ hown (hw _ (mi 252 rfl)) rfl (Ins.of_exa y143 (hw _ (mi 253 rfl))) (g := (mkF m 28 #[rv h1, rv h2, rv r118, .unset] [(.ref f1)])) rfl rfl (hE 10 rfl)
  have g144 : Go p e below T142 (mkF m 31 #[rv h1, rv h2, rv r118, .unset] [(.ref f1)]) A0 := fun t kont => st129 t (st142 t kont)
  have g145 := jA X142 hx (jA X142 hx (jT X142 hx g144 (hE 11 rfl) rfl rfl (l' := #[rv h1, rv h2, rv r118, rv f1]) rfl) (hE 12 rfl) rfl rfl) (hE 13 rfl) rfl rfl
  have y147 := (y130.keep K129)
  have y148 := (((F21_.keep K103 (ninS (ne_exa y143 y147 (by decide)) nin0)).keep K115 nin0).keep K129 (ninS (Nat.ne_of_lt (Nat.lt_of_lt_of_le (Nat.lt_of_lt_of_le E20_.lt K103.1) y119)) nin0))
  obtain ⟨_, L146, T146, ⟨rfl, M146, e146⟩, X146, st146⟩ := own_callF X142 hx hZ hown (hw _ (mi 254 rfl)) (hw _ (mi 255 rfl)) (mvT hZ (hw _ (mi 256 rfl))) (hw _ (mi 257 rfl)) (hw _ (mi 258 rfl)) (hw _ (mi 259 rfl)) (hw _ (mi 260 rfl)) (hw _ (mi 253 rfl)) (hw _ (mi 102 rfl)) (hw _ (mi 261 rfl)) (by decide) y143 (rm_gk hw f1 kb T129.heap n0 O141 y148) g145 e142 [(.ref h1)] rfl (lenOf pd_24 rfl) (hE 14 rfl) hml.symm 1 rfl (by decide)
  have N146 := Fr.app N129 M146
  have y150 := (((E27_.keep K103).keep K115).keep K129)
  obtain ⟨T149, X149, e149, st149⟩ := castY X146 hx hZ hown (hw _ (mi 262 rfl)) e146 (Ins.self y150) (g := (mkF m 39 #[rv h1, rv h2, rv r118, rv f1] [(.ref kb), (.ref h1)])) rfl rfl (hE 15 rfl)
  have g151 : Go p e below T149 (mkF m 42 #[rv h1, rv h2, rv r118, rv f1] [(.ref kb), (.ref h1)]) A0 := fun t kont => st146 t (st149 t kont)
  have y153 := (((F28_.keep K103 (ninS (ne_exa y150 y147 (by decide)) nin0)).keep K115 nin0).keep K129 (ninS (Nat.ne_of_lt (Nat.lt_of_lt_of_le (Nat.lt_of_lt_of_le E27_.lt K103.1) y119)) nin0))
  obtain ⟨_, L152, T152, ⟨rfl, M152, e152⟩, X152, st152⟩ := own_callV X149 hx hZ hown (hw _ (mi 263 rfl)) (wd26 hw) (notFace_of_selects (args := #[]) (mvT hZ (hw _ (mi 266 rfl)))) y150 (rm_lv hw kb xk T129.heap n0 O141 y153) g151 e149 [(.ref h1)] rfl (lenOf pd_25 rfl) (hE 16 rfl) hml.symm 1 rfl (by decide)
  have N152 := Fr.app N146 M152
  have g154 := jA X152 hx st152 (hE 17 rfl) rfl rfl
  have y156 := (((F22_.keep K103 (ninS (ne_exa y143 y147 (by decide)) nin0)).keep K115 nin0).keep K129 (ninS (Nat.ne_of_lt (Nat.lt_of_lt_of_le (Nat.lt_of_lt_of_le E20_.lt K103.1) y119)) nin0))
  obtain ⟨_, L155, T155, ⟨rfl, M155, e155⟩, X155, st155⟩ := own_callF X152 hx hZ hown (hw _ (mi 268 rfl)) (hw _ (mi 269 rfl)) (mvT hZ (hw _ (mi 270 rfl))) (hw _ (mi 271 rfl)) (hw _ (mi 272 rfl)) (hw _ (mi 273 rfl)) (hw _ (mi 274 rfl)) (hw _ (mi 253 rfl)) (hw _ (mi 102 rfl)) (hw _ (mi 275 rfl)) (by decide) y143 (rm_gv hw f1 vb T129.heap n0 O141 y156) g154 e152 [(.long xk), (.ref h1)] rfl (lenOf pd_24 rfl) (hE 18 rfl) hml.symm 3 rfl (by decide)
  have N155 := Fr.app N152 M155
  have y158 := (((E29_.keep K103).keep K115).keep K129)
  obtain ⟨T157, X157, e157, st157⟩ := castY X155 hx hZ hown (hw _ (mi 262 rfl)) e155 (Ins.self y158) (g := (mkF m 51 #[rv h1, rv h2, rv r118, rv f1] [(.ref vb), (.long xk), (.ref h1)])) rfl rfl (hE 19 rfl)
  have g159 : Go p e below T157 (mkF m 54 #[rv h1, rv h2, rv r118, rv f1] [(.ref vb), (.long xk), (.ref h1)]) A0 := fun t kont => st155 t (st157 t kont)
  have y161 := (((F30_.keep K103 (ninS (ne_exa y158 y147 (by decide)) nin0)).keep K115 nin0).keep K129 (ninS (Nat.ne_of_lt (Nat.lt_of_lt_of_le (Nat.lt_of_lt_of_le E29_.lt K103.1) y119)) nin0))
  obtain ⟨_, L160, T160, ⟨rfl, M160, e160⟩, X160, st160⟩ := own_callV X157 hx hZ hown (hw _ (mi 263 rfl)) (wd26 hw) (notFace_of_selects (args := #[]) (mvT hZ (hw _ (mi 266 rfl)))) y158 (rm_lv hw vb xv T129.heap n0 O141 y161) g159 e157 [(.long xk), (.ref h1)] rfl (lenOf pd_25 rfl) (hE 20 rfl) hml.symm 3 rfl (by decide)
  have N160 := Fr.app N155 M160
  have y163 := (((E0_.keep K103).keep K115).keep K129)
  have y164 := (((F1_.keep K103 (ninS (ne_exa y163 y147 (by decide)) nin0)).keep K115 nin0).keep K129 (ninS (Nat.ne_of_lt (Nat.lt_of_lt_of_le (Nat.lt_of_lt_of_le E0_.lt K103.1) y119)) nin0))
  have y165 := (((F2_.keep K103 (ninS (ne_exa y163 y147 (by decide)) nin0)).keep K115 nin0).keep K129 (ninS (Nat.ne_of_lt (Nat.lt_of_lt_of_le (Nat.lt_of_lt_of_le E0_.lt K103.1) y119)) nin0))
  have y166 := (((E32_.keep K103).keep K115).keep K129)
  have y167 := (((F33_.keep K103 (ninS NE31_ nin0)).keep K115 nin0).keep K129 (ninS (Nat.ne_of_lt (Nat.lt_of_lt_of_le (Nat.lt_of_lt_of_le E32_.lt K103.1) y119)) nin0))
  have y168 := (((F34_.keep K103 (ninS NE31_ nin0)).keep K115 nin0).keep K129 (ninS (Nat.ne_of_lt (Nat.lt_of_lt_of_le (Nat.lt_of_lt_of_le E32_.lt K103.1) y119)) nin0))
  have y169 := (((F35_.keep K103 (ninS NE31_ nin0)).keep K115 nin0).keep K129 (ninS (Nat.ne_of_lt (Nat.lt_of_lt_of_le (Nat.lt_of_lt_of_le E32_.lt K103.1) y119)) nin0))
  have y170 := (((F36_.keep K103 (ninS NE31_ nin0)).keep K115 nin0).keep K129 (ninS (Nat.ne_of_lt (Nat.lt_of_lt_of_le (Nat.lt_of_lt_of_le E32_.lt K103.1) y119)) nin0))
  have y171 := (((F37_.keep K103 (ninS NE31_ nin0)).keep K115 nin0).keep K129 (ninS (Nat.ne_of_lt (Nat.lt_of_lt_of_le (Nat.lt_of_lt_of_le E32_.lt K103.1) y119)) nin0))
  have y172 := (((E38_.keep K103).keep K115).keep K129)
  have y173 := (((F39_.keep K103 (ninS (ne_exa y172 y147 (by decide)) nin0)).keep K115 nin0).keep K129 (ninS (Nat.ne_of_lt (Nat.lt_of_lt_of_le (Nat.lt_of_lt_of_le E38_.lt K103.1) y119)) nin0))
  have y174 := (((F40_.keep K103 (ninS (ne_exa y172 y147 (by decide)) nin0)).keep K115 nin0).keep K129 (ninS (Nat.ne_of_lt (Nat.lt_of_lt_of_le (Nat.lt_of_lt_of_le E38_.lt K103.1) y119)) nin0))
  have y175 := (((F41_.keep K103 (ninS (ne_exa y172 y147 (by decide)) nin0)).keep K115 nin0).keep K129 (ninS (Nat.ne_of_lt (Nat.lt_of_lt_of_le (Nat.lt_of_lt_of_le E38_.lt K103.1) y119)) nin0))
  have y176 := (((F42_.keep K103 (ninS (ne_exa y172 y147 (by decide)) nin0)).keep K115 nin0).keep K129 (ninS (Nat.ne_of_lt (Nat.lt_of_lt_of_le (Nat.lt_of_lt_of_le E38_.lt K103.1) y119)) nin0))
  have y177 := (((F43_.keep K103 (ninS (ne_exa y172 y147 (by decide)) nin0)).keep K115 nin0).keep K129 (ninS (Nat.ne_of_lt (Nat.lt_of_lt_of_le (Nat.lt_of_lt_of_le E38_.lt K103.1) y119)) nin0))
  have y178 := (((F44_.keep K103 (ninS (ne_exa y172 y147 (by decide)) nin0)).keep K115 nin0).keep K129 (ninS (Nat.ne_of_lt (Nat.lt_of_lt_of_le (Nat.lt_of_lt_of_le E38_.lt K103.1) y119)) nin0))
  have y179 := (((E45_.keep K103).keep K115).keep K129)
  have y180 := (((F46_.keep K103 (ninS (ne_exa y179 y147 (by decide)) nin0)).keep K115 nin0).keep K129 (ninS (Nat.ne_of_lt (Nat.lt_of_lt_of_le (Nat.lt_of_lt_of_le E45_.lt K103.1) y119)) nin0))
  have y181 := (((F47_.keep K103 (ninS (ne_exa y179 y147 (by decide)) nin0)).keep K115 nin0).keep K129 (ninS (Nat.ne_of_lt (Nat.lt_of_lt_of_le (Nat.lt_of_lt_of_le E45_.lt K103.1) y119)) nin0))
  have y182 := (((F48_.keep K103 (ninS (ne_exa y179 y147 (by decide)) nin0)).keep K115 nin0).keep K129 (ninS (Nat.ne_of_lt (Nat.lt_of_lt_of_le (Nat.lt_of_lt_of_le E45_.lt K103.1) y119)) nin0))
  have y183 := (((F49_.keep K103 (ninS (ne_exa y179 y147 (by decide)) nin0)).keep K115 nin0).keep K129 (ninS (Nat.ne_of_lt (Nat.lt_of_lt_of_le (Nat.lt_of_lt_of_le E45_.lt K103.1) y119)) nin0))
  have y184 := (((F50_.keep K103 (ninS (ne_exa y179 y147 (by decide)) nin0)).keep K115 nin0).keep K129 (ninS (Nat.ne_of_lt (Nat.lt_of_lt_of_le (Nat.lt_of_lt_of_le E45_.lt K103.1) y119)) nin0))
  have y185 := (((F51_.keep K103 (ninS (ne_exa y179 y147 (by decide)) nin0)).keep K115 nin0).keep K129 (ninS (Nat.ne_of_lt (Nat.lt_of_lt_of_le (Nat.lt_of_lt_of_le E45_.lt K103.1) y119)) nin0))
  have y186 := (((E52_.keep K103).keep K115).keep K129)
  have y187 := (((F53_.keep K103 (ninS (ne_exa y186 y147 (by decide)) nin0)).keep K115 nin0).keep K129 (ninS (Nat.ne_of_lt (Nat.lt_of_lt_of_le (Nat.lt_of_lt_of_le E52_.lt K103.1) y119)) nin0))
  have y188 := (((E54_.keep K103).keep K115).keep K129)
  have y189 := (((F55_.keep K103 (ninS (ne_exa y188 y147 (by decide)) nin0)).keep K115 nin0).keep K129 (ninS (Nat.ne_of_lt (Nat.lt_of_lt_of_le (Nat.lt_of_lt_of_le E54_.lt K103.1) y119)) nin0))
  have y190 := (((E56_.keep K103).keep K115).keep K129)
  have y191 := (((F57_.keep K103 (ninS (ne_exa y190 y147 (by decide)) nin0)).keep K115 nin0).keep K129 (ninS (Nat.ne_of_lt (Nat.lt_of_lt_of_le (Nat.lt_of_lt_of_le E56_.lt K103.1) y119)) nin0))
  have y192 := (((E58_.keep K103).keep K115).keep K129)
  have y193 := (((F59_.keep K103 (ninS (ne_exa y192 y147 (by decide)) nin0)).keep K115 nin0).keep K129 (ninS (Nat.ne_of_lt (Nat.lt_of_lt_of_le (Nat.lt_of_lt_of_le E58_.lt K103.1) y119)) nin0))
  obtain ⟨_, L162, T162, ⟨r194, rfl, M162, K162, y195, y196, y197, y198, y199, y200, y201, y202, y203, y204, y205, y206⟩, X162, st162⟩ := own_callV X160 hx hZ hown (hw _ (mi 227 rfl)) (wd17 hw) (notFace_of_selects (args := #[]) (mvT hZ (hw _ (mi 41 rfl)))) y163 (rm_ad2R hw h1 t1 tt sz mc xk xv lc kc lcs e1 k1 v1 x1 y1 e2 k2 v2 x2 y2 T129.heap n0 O141 y163 y164 y165 G3_ G4_ (hc1) (ht0) (hs0) S8_ ZA9_ hlc y166 y167 y168 y169 y170 y171 y172 y173 y174 y175 y176 y177 y178 y179 y180 y181 y182 y183 y184 y185 y186 y187 y188 y189 y190 y191 y192 y193 G60_ G61_ NE62_ hlt heq) st160 e160 [] rfl (lenOf pd_15 rfl) (hE 21 rfl) hml.symm 0 rfl (by decide)
  have N162 := Fr.app N160 M162
  have O207 := O141.keep K162 (allS G3_ (allS G61_ all0))
  have g208 := jA X162 hx (jg X162 hx st162 (hE 22 rfl) (pc' := 13) (by decide)) (hE 5 rfl) rfl rfl
  have y210 := (y136.keep K162)
  have y211 := (y140.keep K162 (ninS (Ne.symm (Nat.ne_of_lt (Nat.lt_of_lt_of_le (Nat.lt_of_lt_of_le E0_.lt K103.1) y119))) (ninS (Ne.symm (Nat.ne_of_lt (Nat.lt_of_lt_of_le (Nat.lt_of_lt_of_le E45_.lt K103.1) y119))) nin0)))
  obtain ⟨_, L209, T209, ⟨rfl, M209, e209⟩, X209, st209⟩ := own_callF X162 hx hZ hown (hw _ (mi 213 rfl)) (hw _ (mi 214 rfl)) (mvT hZ (hw _ (mi 215 rfl))) (hw _ (mi 216 rfl)) (hw _ (mi 217 rfl)) (hw _ (mi 218 rfl)) (hw _ (mi 219 rfl)) (hw _ (mi 220 rfl)) (hw _ (mi 201 rfl)) (hw _ (mi 221 rfl)) (by decide) y210 (rm_hn0 hw r118 T162.heap n0 O207 y211) g208 rfl [] rfl (lenOf pd_23 rfl) (hE 6 rfl) hml.symm 0 rfl (by decide)
  have N209 := Fr.app N162 M209
  have g212 := jY X209 hx st209 (hE 7 rfl) rfl (by decide) (pc' := 63) (by decide)
  have K213 : Keep h0 T162.heap [h1, t2, e2] := (((((Keep.refl h0 [h1, t2, e2]).trans K103 (allS (P := fun x => x ∈ [h1, t2, e2] ∨ h0.size ≤ x) (Or.inl (mi 1 rfl)) all0)).trans K115 (fun x hx => nomatch hx)).trans K129 (allS (P := fun x => x ∈ [h1, t2, e2] ∨ h0.size ≤ x) (Or.inr (Nat.le_trans K103.1 y119)) all0)).trans K162 (allS (P := fun x => x ∈ [h1, t2, e2] ∨ h0.size ≤ x) (Or.inl (mi 0 rfl)) (allS (P := fun x => x ∈ [h1, t2, e2] ∨ h0.size ≤ x) (Or.inl (mi 2 rfl)) all0)))
  refine own_leave X209 Bd (none) (fun _ => rfl) g212 (fun fs hr => X209.returnOut hx Bd.returns (hE 23 rfl) hr) (by decide) (by decide) ?_
  rw [e209]
  exact ⟨rfl, N209, K213, y197, y195⟩
theorem rm_isE0 (hw : HW a0 Z) (h1 : Addr) (x1 : Int64) (h0 : Heap) (n0 : Nat) (O0 : Old Z n0 h0) (F0_ : Fld Z h0 h1 "com/example/fetch_from_near/fetchfromnear/Histogram" "total" "J" (.long x1)) (hz : x1 = (0 : Int64)) :
    own_M l mN38 (Jvm.Cond.code mN38 prog_10_method_5_code 1 (some .boolean)) [] (⟨0, 0, 0, 0⟩ : Room) #[(.ref h1)] Z h0 (fun v h L => v = some (.int 1) ∧ Fr n0 L ∧ h = h0) := by
  refine own_open n0 (plainFor_of_name pn_7) (fun m => ef_R1 m h1 ) ?_
  intro p e s m below meth c s₁ A0 Bd hx hby hml hown hnm hZ hh X0 e0 N0 g0
  have hE := own_hd hby E5
  have g101 := jA X0 hx g0 (hE 0 rfl) rfl rfl
  obtain ⟨T102, X102, e102, g102⟩ := own_getF X0 hx hZ hown (hw _ (mi 36 rfl)) Via.refl e0 F0_ g101 (hE 1 rfl)
  have g103 := jg X102 hx (jc X102 hx (jN X102 hx (show Go p e below T102 (mkF m 6 #[rv h1] [(.int (lcmpW x1 (0 : Int64)))]) A0 from fun t kt => (show Go p e below T102 (mkF m 5 #[rv h1] [(.long (0 : Int64)), (.long x1)]) A0 from fun t kt => g102 t (by refine XS.lconst X102.here hx rfl (hE 2 rfl) ?_; exact kt)) t (by refine XS.lcmp X102.here hx rfl (hE 3 rfl) rfl ?_; exact kt)) (hE 4 rfl) rfl ((if0 _ _).trans (teq (own_lceq hz : (lcmpW x1 (0 : Int64)) = (0 : Int32))).2)) (hE 5 rfl) 1 rfl) (hE 6 rfl) (pc' := 14) (by decide)
  refine own_leave X102 Bd (some (.int 1)) nofun g103 (fun fs hr => retN X102 hx (t := .boolean) Bd.returns (by simp) (hE 8 rfl) hr) (by decide) (by decide) ?_
  rw [e102]
  exact ⟨rfl, N0, rfl⟩
theorem rm_isE1 (hw : HW a0 Z) (h1 : Addr) (x1 : Int64) (h0 : Heap) (n0 : Nat) (O0 : Old Z n0 h0) (F0_ : Fld Z h0 h1 "com/example/fetch_from_near/fetchfromnear/Histogram" "total" "J" (.long x1)) (hz : ¬ (x1 = (0 : Int64))) :
    own_M l mN38 (Jvm.Cond.code mN38 prog_10_method_5_code 1 (some .boolean)) [] (⟨0, 0, 0, 0⟩ : Room) #[(.ref h1)] Z h0 (fun v h L => v = some (.int 0) ∧ Fr n0 L ∧ h = h0) := by
  refine own_open n0 (plainFor_of_name pn_7) (fun m => ef_R1 m h1 ) ?_
  intro p e s m below meth c s₁ A0 Bd hx hby hml hown hnm hZ hh X0 e0 N0 g0
  have hE := own_hd hby E5
  have g101 := jA X0 hx g0 (hE 0 rfl) rfl rfl
  obtain ⟨T102, X102, e102, g102⟩ := own_getF X0 hx hZ hown (hw _ (mi 36 rfl)) Via.refl e0 F0_ g101 (hE 1 rfl)
  have g103 := jc X102 hx (jY X102 hx (show Go p e below T102 (mkF m 6 #[rv h1] [(.int (lcmpW x1 (0 : Int64)))]) A0 from fun t kt => (show Go p e below T102 (mkF m 5 #[rv h1] [(.long (0 : Int64)), (.long x1)]) A0 from fun t kt => g102 t (by refine XS.lconst X102.here hx rfl (hE 2 rfl) ?_; exact kt)) t (by refine XS.lcmp X102.here hx rfl (hE 3 rfl) rfl ?_; exact kt)) (hE 4 rfl) rfl ((if0 _ _).trans (feq (own_lcne hz : ¬ ((lcmpW x1 (0 : Int64)) = (0 : Int32)))).2) (pc' := 13) (by decide)) (hE 7 rfl) 0 rfl
  refine own_leave X102 Bd (some (.int 0)) nofun g103 (fun fs hr => retN X102 hx (t := .boolean) Bd.returns (by simp) (hE 8 rfl) hr) (by decide) (by decide) ?_
  rw [e102]
  exact ⟨rfl, N0, rfl⟩
theorem wd27 (hw : HW a0 Z) : own_wdI a0 Z mN13 prog_10_method_1_code 1 := ⟨hw _ (mi 5 rfl), hw _ (mi 3 rfl), hw _ (mi 6 rfl), by decide, rfl⟩
theorem wd28 (hw : HW a0 Z) : own_wdV a0 Z "com/example/fetch_from_near/fetchfromnear/Histogram" mN38 mN38 prog_10_method_5_code 1 (some .boolean) := ⟨hw _ (mi 32 rfl), hw _ (mi 34 rfl), hw _ (mi 33 rfl), hw _ (mi 3 rfl), hw _ (mi 35 rfl), by decide⟩
theorem pd_26 : parseMethodDescriptor "(Lcom/example/fetch_from_near/fetchfromnear/Histogram;)V" = some ⟨[(.object "com/example/fetch_from_near/fetchfromnear/Histogram")], none⟩ := by decide +kernel
theorem wd29 (hw : HW a0 Z) : own_wdV a0 Z "com/example/fetch_from_near/fetchfromnear/Histogram" mN37 mN37 prog_10_method_4_code 4 none := ⟨hw _ (mi 143 rfl), hw _ (mi 145 rfl), hw _ (mi 144 rfl), hw _ (mi 3 rfl), hw _ (mi 146 rfl), by decide⟩
theorem wd30 (hw : HW a0 Z) : own_wdV a0 Z "com/example/fetch_from_near/fetchfromnear/Histogram" mN23 mN23 prog_10_method_2_code 3 none := ⟨hw _ (mi 223 rfl), hw _ (mi 225 rfl), hw _ (mi 224 rfl), hw _ (mi 3 rfl), hw _ (mi 226 rfl), by decide⟩
theorem pn_12 : plainName "com/example/fetch_from_near/fetchfromnear/HistogramIsEmptyPinLaw" = true := by first | (simp [plainName, overriddenIn]; done) | decide +kernel
theorem ef_JJJJIL (m : MethodId) (x0 : Int64) (x1 : Int64) (x2 : Int64) (x3 : Int64) (x4 : Int32)  : entryFrame m #[(.long x0), (.long x1), (.long x2), (.long x3), (.int x4)] maxLocals = mkF m 0 #[.val (.long x0), .second, .val (.long x1), .second, .val (.long x2), .second, .val (.long x3), .second, .val (.int x4), .unset, .unset, .unset, .unset, .unset, .unset, .unset, .unset, .unset, .unset, .unset] [] := by first | (simp [entryFrame, mkF, argsToLocals, Value.category, maxLocals]; done) | rfl
theorem rm_law (hw : HW a0 Z) (ws : List Jvm.Cond) (q1 q2 q3 q4 : Int64) (q5 : Int32) (lc : Addr) (kc : ClassId) (lcs : List Value) (h0 : Heap) (n0 : Nat) (O0 : Old Z n0 h0) (S0_ : Sta Z Z.heap "java/lang/Long$LongCache" "cache" "[Ljava/lang/Long;" (.ref lc)) (ZA1_ : Arv Z Z.heap lc kc (.object "java/lang/Long") (256 : Int32) lcs .null) (hlc : ∀ i, i < 256 → ∃ a, lcs.getD i .null = .ref a ∧ Exa Z Z.heap a "java/lang/Long" ∧ Fld Z Z.heap a "java/lang/Long" "value" "J" (.long (Int64.ofInt ((i : Int) - 128)))) :
    own_M l x (Jvm.Cond.code x code maxLocals ret) ws room_1 #[(.long q1), (.long q2), (.long q3), (.long q4), (.int q5)] Z h0 (fun v h L => v = some (.int 1) ∧ Fr n0 L) := by
  refine own_open n0 (plainFor_of_name pn_12) (fun m => ef_JJJJIL m q1 q2 q3 q4 q5 ) ?_
  intro p e s m below meth c s₁ A0 Bd hx hby hml hown hnm hZ hh X0 e0 N0 g0
  let lo101 : Array Slot := #[.val (.long q1), .second, .val (.long q2), .second, .val (.long q3), .second, .val (.long q4), .second, iv q5, .unset, .unset, .unset, .unset, .unset, .unset, .unset, .unset, .unset, .unset, .unset]
  have g102 := show Go p e below s₁ (mkF m 9 #[.val (.long q1), .second, .val (.long q2), .second, .val (.long q3), .second, .val (.long q4), .second, iv q5, .val (.long ((q2 &&& (1152921504606846975 : Int64)) + (1 : Int64))), .second, .unset, .unset, .unset, .unset, .unset, .unset, .unset, .unset, .unset] []) A0 from fun t kt => (show Go p e below s₁ (mkF m 7 #[.val (.long q1), .second, .val (.long q2), .second, .val (.long q3), .second, .val (.long q4), .second, iv q5, .unset, .unset, .unset, .unset, .unset, .unset, .unset, .unset, .unset, .unset, .unset] [(.long ((q2 &&& (1152921504606846975 : Int64)) + (1 : Int64)))]) A0 from fun t kt => (show Go p e below s₁ (mkF m 6 #[.val (.long q1), .second, .val (.long q2), .second, .val (.long q3), .second, .val (.long q4), .second, iv q5, .unset, .unset, .unset, .unset, .unset, .unset, .unset, .unset, .unset, .unset, .unset] [(.long (1 : Int64)), (.long (q2 &&& (1152921504606846975 : Int64)))]) A0 from fun t kt => (show Go p e below s₁ (mkF m 5 #[.val (.long q1), .second, .val (.long q2), .second, .val (.long q3), .second, .val (.long q4), .second, iv q5, .unset, .unset, .unset, .unset, .unset, .unset, .unset, .unset, .unset, .unset, .unset] [(.long (q2 &&& (1152921504606846975 : Int64)))]) A0 from fun t kt => (show Go p e below s₁ (mkF m 4 #[.val (.long q1), .second, .val (.long q2), .second, .val (.long q3), .second, .val (.long q4), .second, iv q5, .unset, .unset, .unset, .unset, .unset, .unset, .unset, .unset, .unset, .unset, .unset] [(.long (1152921504606846975 : Int64)), (.long q2)]) A0 from fun t kt => (show Go p e below s₁ (mkF m 1 #[.val (.long q1), .second, .val (.long q2), .second, .val (.long q3), .second, .val (.long q4), .second, iv q5, .unset, .unset, .unset, .unset, .unset, .unset, .unset, .unset, .unset, .unset, .unset] [(.long q2)]) A0 from fun t kt => g0 t (by refine XS.lloadN X0.here hx rfl (hb hby at_0) rfl ?_; exact kt)) t (by refine X0.ldc2Long hx hown (mvT hZ (hw _ (mi 0 rfl))) (g := (mkF m 1 lo101 [(.long q2)])) rfl (hb hby at_1) _ ?_; exact kt)) t (by refine XS.land X0.here hx rfl (hb hby at_4) rfl ?_; exact kt)) t (by refine XS.lconst X0.here hx rfl (hb hby at_5) ?_; exact kt)) t (by refine XS.ladd X0.here hx rfl (hb hby at_6) rfl ?_; exact kt)) t (by refine XS.lstore X0.here hx rfl (hb hby at_7) rfl (l' := #[.val (.long q1), .second, .val (.long q2), .second, .val (.long q3), .second, .val (.long q4), .second, iv q5, .val (.long ((q2 &&& (1152921504606846975 : Int64)) + (1 : Int64))), .second, .unset, .unset, .unset, .unset, .unset, .unset, .unset, .unset, .unset]) rfl ?_; exact kt)
  obtain ⟨ca, e_ca⟩ : ∃ z, z = ((q2 &&& (1152921504606846975 : Int64)) + (1 : Int64)) := ⟨_, rfl⟩
  have g103 : Go p e below s₁ (mkF m 9 #[.val (.long q1), .second, .val (.long q2), .second, .val (.long q3), .second, .val (.long q4), .second, iv q5, .val (.long ca), .second, .unset, .unset, .unset, .unset, .unset, .unset, .unset, .unset, .unset] []) A0 := by rw [e_ca]; exact g102
  have b_ca : (1 : Int) ≤ ca.toInt ∧ ca.toInt ≤ 1152921504606846976 := by rw [e_ca]; exact own_msk _
  let lo104 : Array Slot := #[.val (.long q1), .second, .val (.long q2), .second, .val (.long q3), .second, .val (.long q4), .second, iv q5, .val (.long ca), .second, .unset, .unset, .unset, .unset, .unset, .unset, .unset, .unset, .unset]
  have g105 := show Go p e below s₁ (mkF m 19 #[.val (.long q1), .second, .val (.long q2), .second, .val (.long q3), .second, .val (.long q4), .second, iv q5, .val (.long ca), .second, .val (.long ((q4 &&& (1152921504606846975 : Int64)) + (1 : Int64))), .second, .unset, .unset, .unset, .unset, .unset, .unset, .unset] []) A0 from fun t kt => (show Go p e below s₁ (mkF m 17 #[.val (.long q1), .second, .val (.long q2), .second, .val (.long q3), .second, .val (.long q4), .second, iv q5, .val (.long ca), .second, .unset, .unset, .unset, .unset, .unset, .unset, .unset, .unset, .unset] [(.long ((q4 &&& (1152921504606846975 : Int64)) + (1 : Int64)))]) A0 from fun t kt => (show Go p e below s₁ (mkF m 16 #[.val (.long q1), .second, .val (.long q2), .second, .val (.long q3), .second, .val (.long q4), .second, iv q5, .val (.long ca), .second, .unset, .unset, .unset, .unset, .unset, .unset, .unset, .unset, .unset] [(.long (1 : Int64)), (.long (q4 &&& (1152921504606846975 : Int64)))]) A0 from fun t kt => (show Go p e below s₁ (mkF m 15 #[.val (.long q1), .second, .val (.long q2), .second, .val (.long q3), .second, .val (.long q4), .second, iv q5, .val (.long ca), .second, .unset, .unset, .unset, .unset, .unset, .unset, .unset, .unset, .unset] [(.long (q4 &&& (1152921504606846975 : Int64)))]) A0 from fun t kt => (show Go p e below s₁ (mkF m 14 #[.val (.long q1), .second, .val (.long q2), .second, .val (.long q3), .second, .val (.long q4), .second, iv q5, .val (.long ca), .second, .unset, .unset, .unset, .unset, .unset, .unset, .unset, .unset, .unset] [(.long (1152921504606846975 : Int64)), (.long q4)]) A0 from fun t kt => (show Go p e below s₁ (mkF m 11 #[.val (.long q1), .second, .val (.long q2), .second, .val (.long q3), .second, .val (.long q4), .second, iv q5, .val (.long ca), .second, .unset, .unset, .unset, .unset, .unset, .unset, .unset, .unset, .unset] [(.long q4)]) A0 from fun t kt => g103 t (by refine XS.lload X0.here hx rfl (hb hby at_9) rfl ?_; exact kt)) t (by refine X0.ldc2Long hx hown (mvT hZ (hw _ (mi 0 rfl))) (g := (mkF m 11 lo104 [(.long q4)])) rfl (hb hby at_11) _ ?_; exact kt)) t (by refine XS.land X0.here hx rfl (hb hby at_14) rfl ?_; exact kt)) t (by refine XS.lconst X0.here hx rfl (hb hby at_15) ?_; exact kt)) t (by refine XS.ladd X0.here hx rfl (hb hby at_16) rfl ?_; exact kt)) t (by refine XS.lstore X0.here hx rfl (hb hby at_17) rfl (l' := #[.val (.long q1), .second, .val (.long q2), .second, .val (.long q3), .second, .val (.long q4), .second, iv q5, .val (.long ca), .second, .val (.long ((q4 &&& (1152921504606846975 : Int64)) + (1 : Int64))), .second, .unset, .unset, .unset, .unset, .unset, .unset, .unset]) rfl ?_; exact kt)
  obtain ⟨cb, e_cb⟩ : ∃ z, z = ((q4 &&& (1152921504606846975 : Int64)) + (1 : Int64)) := ⟨_, rfl⟩
  have g106 : Go p e below s₁ (mkF m 19 #[.val (.long q1), .second, .val (.long q2), .second, .val (.long q3), .second, .val (.long q4), .second, iv q5, .val (.long ca), .second, .val (.long cb), .second, .unset, .unset, .unset, .unset, .unset, .unset, .unset] []) A0 := by rw [e_cb]; exact g105
  have b_cb : (1 : Int) ≤ cb.toInt ∧ cb.toInt ≤ 1152921504606846976 := by rw [e_cb]; exact own_msk _
  have g107 := js X0 hx (jB X0 hx (jc X0 hx (ji X0 hx g106 (hb hby at_19) rfl) (hb hby at_21) 3 rfl) (hb hby at_22) rfl) (hb hby at_23) rfl (l' := #[.val (.long q1), .second, .val (.long q2), .second, .val (.long q3), .second, .val (.long q4), .second, iv q5, .val (.long ca), .second, .val (.long cb), .second, iv (q5 &&& (3 : Int32)), .unset, .unset, .unset, .unset, .unset, .unset]) rfl
  obtain ⟨md, e_md⟩ : ∃ z, z = (q5 &&& (3 : Int32)) := ⟨_, rfl⟩
  have g108 : Go p e below s₁ (mkF m 25 #[.val (.long q1), .second, .val (.long q2), .second, .val (.long q3), .second, .val (.long q4), .second, iv q5, .val (.long ca), .second, .val (.long cb), .second, iv md, .unset, .unset, .unset, .unset, .unset, .unset] []) A0 := by rw [e_md]; exact g107
  have hmd : md = (0 : Int32) ∨ md = (1 : Int32) ∨ md = (2 : Int32) ∨ md = (3 : Int32) := by rw [e_md]; exact own_m3 _
  have g109 := jB X0 hx (jc X0 hx (ji X0 hx g108 (hb hby at_25) rfl) (hb hby at_27) 4 rfl) (hb hby at_28) rfl
  obtain ⟨fl, T110, lc110, X110, e110, N110, g110, j114⟩ : ∃ fl : Int32, ∃ (T110 : State) (lc110 : List Loc), Stand p l e room_1 s m #[(.long q1), (.long q2), (.long q3), (.long q4), (.int q5)] below meth c T110 lc110 0 0 ∧ T110.heap = h0 ∧ Fr n0 lc110 ∧ Go p e below T110 (mkF m 37 #[.val (.long q1), .second, .val (.long q2), .second, .val (.long q3), .second, .val (.long q4), .second, iv q5, .val (.long ca), .second, .val (.long cb), .second, iv md, .unset, .unset, .unset, .unset, .unset, .unset] [(.int fl)]) A0 ∧ (fl = (0 : Int32) ∨ fl = (1 : Int32)) := by
    by_cases c111 : (q5 &&& (4 : Int32)) = (0 : Int32)
    ·
      have g112 := jc X0 hx (jY X0 hx g109 (hb hby at_29) rfl ((if0 _ _).trans (teq c111).1) (pc' := 36) (by decide)) (hb hby at_36) 0 rfl
      exact ⟨(0 : Int32), _, _, X0, e0, N0, g112, (Or.inl rfl)⟩
    have g113 := jg X0 hx (jc X0 hx (jN X0 hx g109 (hb hby at_29) rfl ((if0 _ _).trans (feq c111).1)) (hb hby at_32) 1 rfl) (hb hby at_33) (pc' := 37) (by decide)
    exact ⟨(1 : Int32), _, _, X0, e0, N0, g113, (Or.inr rfl)⟩
  have g115 := js X110 hx g110 (hb hby at_37) rfl (l' := #[.val (.long q1), .second, .val (.long q2), .second, .val (.long q3), .second, .val (.long q4), .second, iv q5, .val (.long ca), .second, .val (.long cb), .second, iv md, iv fl, .unset, .unset, .unset, .unset, .unset]) rfl
  let lo117 : Array Slot := #[.val (.long q1), .second, .val (.long q2), .second, .val (.long q3), .second, .val (.long q4), .second, iv q5, .val (.long ca), .second, .val (.long cb), .second, iv md, iv fl, .unset, .unset, .unset, .unset, .unset]
  obtain ⟨T116, h116, X116, e116, E116, A116, D116, -, st116⟩ := newO X110 hx hZ hown (hw _ (mi 1 rfl)) (hw _ (mi 2 rfl)) (hw _ (mi 3 rfl)) e110 (g := (mkF m 39 lo117 [])) rfl (hb hby at_39) (by decide) (by decide)
  obtain ⟨b116, gb116⟩ : ∃ z, z = h0.size := ⟨_, rfl⟩
  rw [← gb116] at A116 D116 st116
  have O118 := O0.ext E116
  have y119 : Fld Z h116 b116 "com/example/fetch_from_near/fetchfromnear/Histogram" "counts" "Ljava/util/TreeMap;" .null := D116 (Or.inr (hw _ (mi 30 rfl))) (ty := (.object "java/util/TreeMap")) (by decide)
  have y120 : Fld Z h116 b116 "com/example/fetch_from_near/fetchfromnear/Histogram" "total" "J" (.long (0 : Int64)) := D116 (Or.inl (hw _ (mi 37 rfl))) (ty := .long) (by decide)
  have g121 : Go p e below T116 (mkF m 42 lo117 [(.ref b116)]) A0 := fun t kont => g115 t (st116 t kont)
  have g122 := jd X116 hx g121 (hb hby at_42) rfl rfl
  have ge124 : n0 ≤ b116 := Nat.le_trans (own_old_le O0) (Nat.le_of_eq gb116.symm)
  obtain ⟨_, L123, T123, ⟨r125, rfl, M123, K123, y126, y127, y128, y129, y130, y131, y132, y133, y134⟩, X123, st123⟩ := own_callI X116 hx hZ hown (hw _ (mi 4 rfl)) (wd27 hw) (rm_hIni hw b116 h116 n0 O118 A116 y119 y120 ge124) g122 e116 [(.ref b116)] rfl (lenOf pd_0 rfl) (hb hby at_43) hml.symm 1 rfl (by decide)
  have N123 := Fr.app N110 M123
  have O135 := O118.keep K123 (allS ge124 all0)
  have g136 := jt X123 hx st123 (hb hby at_46) rfl rfl (l' := #[.val (.long q1), .second, .val (.long q2), .second, .val (.long q3), .second, .val (.long q4), .second, iv q5, .val (.long ca), .second, .val (.long cb), .second, iv md, iv fl, rv b116, .unset, .unset, .unset, .unset]) rfl
  let lo138 : Array Slot := #[.val (.long q1), .second, .val (.long q2), .second, .val (.long q3), .second, .val (.long q4), .second, iv q5, .val (.long ca), .second, .val (.long cb), .second, iv md, iv fl, rv b116, .unset, .unset, .unset, .unset]
  obtain ⟨T137, h137, X137, e137, E137, A137, D137, -, st137⟩ := newO X123 hx hZ hown (hw _ (mi 1 rfl)) (hw _ (mi 2 rfl)) (hw _ (mi 3 rfl)) rfl (g := (mkF m 48 lo138 [])) rfl (hb hby at_48) (by decide) (by decide)
  obtain ⟨b137, gb137⟩ : ∃ z, z = T123.heap.size := ⟨_, rfl⟩
  rw [← gb137] at A137 D137 st137
  have O139 := O135.ext E137
  have y140 : Fld Z h137 b137 "com/example/fetch_from_near/fetchfromnear/Histogram" "counts" "Ljava/util/TreeMap;" .null := D137 (Or.inr (hw _ (mi 30 rfl))) (ty := (.object "java/util/TreeMap")) (by decide)
  have y141 : Fld Z h137 b137 "com/example/fetch_from_near/fetchfromnear/Histogram" "total" "J" (.long (0 : Int64)) := D137 (Or.inl (hw _ (mi 37 rfl))) (ty := .long) (by decide)
  have g142 : Go p e below T137 (mkF m 51 lo138 [(.ref b137)]) A0 := fun t kont => g136 t (st137 t kont)
  have g143 := jd X137 hx g142 (hb hby at_51) rfl rfl
  have ge145 : n0 ≤ b137 := Nat.le_trans (own_old_le O135) (Nat.le_of_eq gb137.symm)
  obtain ⟨_, L144, T144, ⟨r146, rfl, M144, K144, y147, y148, y149, y150, y151, y152, y153, y154, y155⟩, X144, st144⟩ := own_callI X137 hx hZ hown (hw _ (mi 4 rfl)) (wd27 hw) (rm_hIni hw b137 h137 n0 O139 A137 y140 y141 ge145) g143 e137 [(.ref b137)] rfl (lenOf pd_0 rfl) (hb hby at_52) hml.symm 1 rfl (by decide)
  have N144 := Fr.app N123 M144
  have O156 := O139.keep K144 (allS ge145 all0)
  have g157 := ja X144 hx (jt X144 hx st144 (hb hby at_55) rfl rfl (l' := #[.val (.long q1), .second, .val (.long q2), .second, .val (.long q3), .second, .val (.long q4), .second, iv q5, .val (.long ca), .second, .val (.long cb), .second, iv md, iv fl, rv b116, rv b137, .unset, .unset, .unset]) rfl) (hb hby at_57) rfl rfl
  have y159 := (((A116.keep K123).ext E137).keep K144)
  have y160 := ((y128.ext E137).keep K144 (ninS (Nat.ne_of_lt (Nat.lt_of_lt_of_le (Nat.lt_of_lt_of_le A116.lt K123.1) (Nat.le_of_eq gb137.symm))) nin0))
  obtain ⟨_, L158, T158, ⟨rfl, M158, e158⟩, X158, st158⟩ := own_callV X144 hx hZ hown (hw _ (mi 31 rfl)) (wd28 hw) (notFace_of_selects (args := #[]) (mvT hZ (hw _ (mi 34 rfl)))) y159 (rm_isE0 hw b116 (0 : Int64) T144.heap n0 O156 y160 rfl) g157 rfl [] rfl (lenOf pd_23 rfl) (hb hby at_59) hml.symm 0 rfl (by decide)
  have N158 := Fr.app N144 M158
  have g161 := ja X158 hx (jN X158 hx st158 (hb hby at_62) rfl (by decide)) (hb hby at_65) rfl rfl
  have y163 := (A137.keep K144)
  obtain ⟨_, L162, T162, ⟨rfl, M162, e162⟩, X162, st162⟩ := own_callV X158 hx hZ hown (hw _ (mi 31 rfl)) (wd28 hw) (notFace_of_selects (args := #[]) (mvT hZ (hw _ (mi 34 rfl)))) y163 (rm_isE0 hw b137 (0 : Int64) T144.heap n0 O156 y149 rfl) g161 e158 [] rfl (lenOf pd_23 rfl) (hb hby at_67) hml.symm 0 rfl (by decide)
  have N162 := Fr.app N158 M162
  have g164 := js X162 hx (jg X162 hx (jc X162 hx (jN X162 hx st162 (hb hby at_70) rfl (by decide)) (hb hby at_73) 1 rfl) (hb hby at_74) (pc' := 78) (by decide)) (hb hby at_78) rfl (l' := #[.val (.long q1), .second, .val (.long q2), .second, .val (.long q3), .second, .val (.long q4), .second, iv q5, .val (.long ca), .second, .val (.long cb), .second, iv md, iv fl, rv b116, rv b137, iv 1, .unset, .unset]) rfl
  rcases (hmd : md = (0 : Int32) ∨ md = (1 : Int32) ∨ md = (2 : Int32) ∨ md = (3 : Int32)) with c165 | c165 | c165 | c165
  ·
    subst c165
    rcases (j114 : fl = (0 : Int32) ∨ fl = (1 : Int32)) with c166 | c166
    ·
      subst c166
      have g167 := ja X162 hx (jN X162 hx (ji X162 hx (js X162 hx (jg X162 hx (jc X162 hx (jN X162 hx (ji X162 hx (jY X162 hx (ji X162 hx (jy X162 hx (jc X162 hx (ji X162 hx (jy X162 hx (jc X162 hx (ji X162 hx (jy X162 hx (jc X162 hx (ji X162 hx g164 (hb hby at_80) rfl) (hb hby at_82) 1 rfl) (hb hby at_83) rfl (by decide) (pc' := 95) (by decide)) (hb hby at_95) rfl) (hb hby at_97) 2 rfl) (hb hby at_98) rfl (by decide) (pc' := 112) (by decide)) (hb hby at_112) rfl) (hb hby at_114) 3 rfl) (hb hby at_115) rfl (by decide) (pc' := 135) (by decide)) (hb hby at_135) rfl) (hb hby at_137) rfl (by decide) (pc' := 149) (by decide)) (hb hby at_149) rfl) (hb hby at_151) rfl (by decide)) (hb hby at_154) 1 rfl) (hb hby at_155) (pc' := 159) (by decide)) (hb hby at_159) rfl (l' := #[.val (.long q1), .second, .val (.long q2), .second, .val (.long q3), .second, .val (.long q4), .second, iv q5, .val (.long ca), .second, .val (.long cb), .second, iv 0, iv 0, rv b116, rv b137, iv 1, iv 1, .unset]) rfl) (hb hby at_161) rfl) (hb hby at_163) rfl (by decide)) (hb hby at_166) rfl rfl
      obtain ⟨_, L168, T168, ⟨rfl, M168, e168⟩, X168, st168⟩ := own_callV X162 hx hZ hown (hw _ (mi 31 rfl)) (wd28 hw) (notFace_of_selects (args := #[]) (mvT hZ (hw _ (mi 34 rfl)))) y159 (rm_isE0 hw b116 (0 : Int64) T144.heap n0 O156 y160 rfl) g167 e162 [] rfl (lenOf pd_23 rfl) (hb hby at_168) hml.symm 0 rfl (by decide)
      have N168 := Fr.app N162 M168
      have g169 := ja X168 hx (jn X168 hx (ji X168 hx st168 (hb hby at_171) rfl) (hb hby at_173) rfl (by decide)) (hb hby at_176) rfl rfl
      obtain ⟨_, L170, T170, ⟨rfl, M170, e170⟩, X170, st170⟩ := own_callV X168 hx hZ hown (hw _ (mi 31 rfl)) (wd28 hw) (notFace_of_selects (args := #[]) (mvT hZ (hw _ (mi 34 rfl)))) y163 (rm_isE0 hw b137 (0 : Int64) T144.heap n0 O156 y149 rfl) g169 e168 [] rfl (lenOf pd_23 rfl) (hb hby at_178) hml.symm 0 rfl (by decide)
      have N170 := Fr.app N168 M170
      have g171 := ja X170 hx (ja X170 hx (js X170 hx (jg X170 hx (jc X170 hx (jn X170 hx (jg X170 hx (jc X170 hx (jN X170 hx (ji X170 hx st170 (hb hby at_181) rfl) (hb hby at_183) rfl (by decide)) (hb hby at_186) 1 rfl) (hb hby at_187) (pc' := 191) (by decide)) (hb hby at_191) rfl (by decide)) (hb hby at_194) 1 rfl) (hb hby at_195) (pc' := 199) (by decide)) (hb hby at_199) rfl (l' := #[.val (.long q1), .second, .val (.long q2), .second, .val (.long q3), .second, .val (.long q4), .second, iv q5, .val (.long ca), .second, .val (.long cb), .second, iv 0, iv 0, rv b116, rv b137, iv 1, iv 1, .unset]) rfl) (hb hby at_201) rfl rfl) (hb hby at_203) rfl rfl
      have ge173 : n0 ≤ r146 := Nat.le_trans (own_old_le O139) y147
      obtain ⟨_, L172, T172, ⟨rfl, M172, K172⟩, X172, st172⟩ := own_callV X170 hx hZ hown (hw _ (mi 142 rfl)) (wd29 hw) (notFace_of_selects (args := #[]) (mvT hZ (hw _ (mi 145 rfl)))) y159 (rm_aa0 hw b116 b137 r146 (0 : Int32) (0 : Int32) T144.heap n0 O156 y163 y148 y150 y151 y152 y153 y154 y155 ge173 y159) g171 e170 [] rfl (lenOf pd_26 rfl) (hb hby at_205) hml.symm 0 rfl (by decide)
      have N172 := Fr.app N170 M172
      have O174 := O156.keep K172 (allS ge173 all0)
      have g175 := ja X172 hx (jN X172 hx (ji X172 hx (js X172 hx (jg X172 hx (jc X172 hx (jN X172 hx (ji X172 hx (jN X172 hx (ji X172 hx st172 (hb hby at_208) rfl) (hb hby at_210) rfl (by decide)) (hb hby at_213) rfl) (hb hby at_215) rfl (by decide)) (hb hby at_218) 1 rfl) (hb hby at_219) (pc' := 223) (by decide)) (hb hby at_223) rfl (l' := #[.val (.long q1), .second, .val (.long q2), .second, .val (.long q3), .second, .val (.long q4), .second, iv q5, .val (.long ca), .second, .val (.long cb), .second, iv 0, iv 0, rv b116, rv b137, iv 1, iv 1, iv 1]) rfl) (hb hby at_225) rfl) (hb hby at_227) rfl (by decide)) (hb hby at_230) rfl rfl
      have y177 := (y159.keep K172)
      have y178 := (y160.keep K172 (ninS (Nat.ne_of_lt (Nat.lt_of_lt_of_le (Nat.lt_of_lt_of_le A116.lt (Nat.le_trans K123.1 E137.1)) y147)) nin0))
      obtain ⟨_, L176, T176, ⟨rfl, M176, e176⟩, X176, st176⟩ := own_callV X172 hx hZ hown (hw _ (mi 31 rfl)) (wd28 hw) (notFace_of_selects (args := #[]) (mvT hZ (hw _ (mi 34 rfl)))) y177 (rm_isE0 hw b116 (0 : Int64) T172.heap n0 O174 y178 rfl) g175 rfl [] rfl (lenOf pd_23 rfl) (hb hby at_232) hml.symm 0 rfl (by decide)
      have N176 := Fr.app N172 M176
      have g179 := ja X176 hx (jn X176 hx (ji X176 hx st176 (hb hby at_235) rfl) (hb hby at_237) rfl (by decide)) (hb hby at_240) rfl rfl
      have y181 := (y163.keep K172)
      have y182 := (y149.keep K172 (ninS (Nat.ne_of_lt (Nat.lt_of_lt_of_le A137.lt y147)) nin0))
      obtain ⟨_, L180, T180, ⟨rfl, M180, e180⟩, X180, st180⟩ := own_callV X176 hx hZ hown (hw _ (mi 31 rfl)) (wd28 hw) (notFace_of_selects (args := #[]) (mvT hZ (hw _ (mi 34 rfl)))) y181 (rm_isE0 hw b137 (0 : Int64) T172.heap n0 O174 y182 rfl) g179 e176 [] rfl (lenOf pd_23 rfl) (hb hby at_242) hml.symm 0 rfl (by decide)
      have N180 := Fr.app N176 M180
      have g183 := ji X180 hx (js X180 hx (jg X180 hx (jc X180 hx (jn X180 hx (jg X180 hx (jc X180 hx (jN X180 hx (ji X180 hx st180 (hb hby at_245) rfl) (hb hby at_247) rfl (by decide)) (hb hby at_250) 1 rfl) (hb hby at_251) (pc' := 255) (by decide)) (hb hby at_255) rfl (by decide)) (hb hby at_258) 1 rfl) (hb hby at_259) (pc' := 263) (by decide)) (hb hby at_263) rfl (l' := #[.val (.long q1), .second, .val (.long q2), .second, .val (.long q3), .second, .val (.long q4), .second, iv q5, .val (.long ca), .second, .val (.long cb), .second, iv 0, iv 0, rv b116, rv b137, iv 1, iv 1, iv 1]) rfl) (hb hby at_265) rfl
      refine own_leave X180 Bd (some (.int 1)) nofun g183 (fun fs hr => retN X180 hx (t := .boolean) Bd.returns (by simp) (hb hby at_267) hr) (by decide) (by decide) ?_
      exact ⟨rfl, N180⟩
    subst c166
    have g184 := show Go p e below T162 (mkF m 146 #[.val (.long q1), .second, .val (.long q2), .second, .val (.long q3), .second, .val (.long q4), .second, iv q5, .val (.long ca), .second, .val (.long cb), .second, iv 0, iv 1, rv b116, rv b137, iv 1, .unset, .unset] [(.long cb), (.long q3), (.ref b137)]) A0 from fun t kt => (show Go p e below T162 (mkF m 144 #[.val (.long q1), .second, .val (.long q2), .second, .val (.long q3), .second, .val (.long q4), .second, iv q5, .val (.long ca), .second, .val (.long cb), .second, iv 0, iv 1, rv b116, rv b137, iv 1, .unset, .unset] [(.long q3), (.ref b137)]) A0 from fun t kt => (ja X162 hx (jN X162 hx (ji X162 hx (jy X162 hx (jc X162 hx (ji X162 hx (jy X162 hx (jc X162 hx (ji X162 hx (jy X162 hx (jc X162 hx (ji X162 hx g164 (hb hby at_80) rfl) (hb hby at_82) 1 rfl) (hb hby at_83) rfl (by decide) (pc' := 95) (by decide)) (hb hby at_95) rfl) (hb hby at_97) 2 rfl) (hb hby at_98) rfl (by decide) (pc' := 112) (by decide)) (hb hby at_112) rfl) (hb hby at_114) 3 rfl) (hb hby at_115) rfl (by decide) (pc' := 135) (by decide)) (hb hby at_135) rfl) (hb hby at_137) rfl (by decide)) (hb hby at_140) rfl rfl) t (by refine XS.lload X162.here hx rfl (hb hby at_142) rfl ?_; exact kt)) t (by refine XS.lload X162.here hx rfl (hb hby at_144) rfl ?_; exact kt)
    have bb186 : (1 : Int) ≤ ((0 : Int64) + cb).toInt ∧ ((0 : Int64) + cb).toInt ≤ 1152921504606846976 := own_addb own_b0 b_cb (by decide) (by decide)
    have ge187 : n0 ≤ r146 := Nat.le_trans (own_old_le O139) y147
    obtain ⟨_, L185, T185, ⟨r188, r189, r190, rfl, M185, K185, y191, y192, y193, y194, y195, y196, y197, y198, y199, y200, y201, y202, y203, y204, y205, y206, y207, y208, y209, y210, y211⟩, X185, st185⟩ := own_callV X162 hx hZ hown (hw _ (mi 38 rfl)) (wd17 hw) (notFace_of_selects (args := #[]) (mvT hZ (hw _ (mi 41 rfl)))) y163 (rm_ad0 hw b137 r146 (0 : Int64) (0 : Int32) (0 : Int32) q3 cb lc kc lcs T144.heap n0 O156 y163 y148 y149 ge145 ge187 (own_n1 b_cb (by decide)) (own_nneg own_b0 (by decide)) (own_nneg bb186 (by decide)) S0_ ZA1_ hlc y150 y151 y152 y153 y154 y155) g184 e162 [] rfl (lenOf pd_15 rfl) (hb hby at_146) hml.symm 0 rfl (by decide)
    have N185 := Fr.app N162 M185
    have O212 := O156.keep K185 (allS ge145 (allS ge187 all0))
    have g213 := ja X185 hx (jN X185 hx (ji X185 hx (js X185 hx (jg X185 hx (jc X185 hx (jN X185 hx (ji X185 hx st185 (hb hby at_149) rfl) (hb hby at_151) rfl (by decide)) (hb hby at_154) 1 rfl) (hb hby at_155) (pc' := 159) (by decide)) (hb hby at_159) rfl (l' := #[.val (.long q1), .second, .val (.long q2), .second, .val (.long q3), .second, .val (.long q4), .second, iv q5, .val (.long ca), .second, .val (.long cb), .second, iv 0, iv 1, rv b116, rv b137, iv 1, iv 1, .unset]) rfl) (hb hby at_161) rfl) (hb hby at_163) rfl (by decide)) (hb hby at_166) rfl rfl
    have y215 := (y159.keep K185)
    have y216 := (y160.keep K185 (ninS (Nat.ne_of_lt (Nat.lt_of_lt_of_le (Nat.lt_of_lt_of_le A116.lt K123.1) (Nat.le_of_eq gb137.symm))) (ninS (Nat.ne_of_lt (Nat.lt_of_lt_of_le (Nat.lt_of_lt_of_le A116.lt (Nat.le_trans K123.1 E137.1)) y147)) nin0)))
    obtain ⟨_, L214, T214, ⟨rfl, M214, e214⟩, X214, st214⟩ := own_callV X185 hx hZ hown (hw _ (mi 31 rfl)) (wd28 hw) (notFace_of_selects (args := #[]) (mvT hZ (hw _ (mi 34 rfl)))) y215 (rm_isE0 hw b116 (0 : Int64) T185.heap n0 O212 y216 rfl) g213 rfl [] rfl (lenOf pd_23 rfl) (hb hby at_168) hml.symm 0 rfl (by decide)
    have N214 := Fr.app N185 M214
    have g217 := ja X214 hx (jn X214 hx (ji X214 hx st214 (hb hby at_171) rfl) (hb hby at_173) rfl (by decide)) (hb hby at_176) rfl rfl
    obtain ⟨_, L218, T218, ⟨rfl, M218, e218⟩, X218, st218⟩ := own_callV X214 hx hZ hown (hw _ (mi 31 rfl)) (wd28 hw) (notFace_of_selects (args := #[]) (mvT hZ (hw _ (mi 34 rfl)))) y191 (rm_isE1 hw b137 ((0 : Int64) + cb) T185.heap n0 O212 y193 (own_n0 bb186 (by decide))) g217 e214 [] rfl (lenOf pd_23 rfl) (hb hby at_178) hml.symm 0 rfl (by decide)
    have N218 := Fr.app N214 M218
    have g219 := ja X218 hx (ja X218 hx (js X218 hx (jg X218 hx (jc X218 hx (jn X218 hx (jc X218 hx (jY X218 hx (ji X218 hx st218 (hb hby at_181) rfl) (hb hby at_183) rfl (by decide) (pc' := 190) (by decide)) (hb hby at_190) 0 rfl) (hb hby at_191) rfl (by decide)) (hb hby at_194) 1 rfl) (hb hby at_195) (pc' := 199) (by decide)) (hb hby at_199) rfl (l' := #[.val (.long q1), .second, .val (.long q2), .second, .val (.long q3), .second, .val (.long q4), .second, iv q5, .val (.long ca), .second, .val (.long cb), .second, iv 0, iv 1, rv b116, rv b137, iv 1, iv 1, .unset]) rfl) (hb hby at_201) rfl rfl) (hb hby at_203) rfl rfl
    have y221 := (((y127.ext E137).keep K144 (ninS (Nat.ne_of_lt (Nat.lt_of_lt_of_le (Nat.lt_of_lt_of_le A116.lt K123.1) (Nat.le_of_eq gb137.symm))) nin0)).keep K185 (ninS (Nat.ne_of_lt (Nat.lt_of_lt_of_le (Nat.lt_of_lt_of_le A116.lt K123.1) (Nat.le_of_eq gb137.symm))) (ninS (Nat.ne_of_lt (Nat.lt_of_lt_of_le (Nat.lt_of_lt_of_le A116.lt (Nat.le_trans K123.1 E137.1)) y147)) nin0)))
    have ge222 : n0 ≤ r125 := Nat.le_trans (own_old_le O118) y126
    have y223 := (((y129.ext E137).keep K144).keep K185)
    have y224 := (((y130.ext E137).keep K144 (ninS (Nat.ne_of_lt (Nat.lt_of_lt_of_le y129.lt (Nat.le_of_eq gb137.symm))) nin0)).keep K185 (ninS (Nat.ne_of_lt (Nat.lt_of_lt_of_le y129.lt (Nat.le_of_eq gb137.symm))) (ninS (Nat.ne_of_lt (Nat.lt_of_lt_of_le (Nat.lt_of_lt_of_le y129.lt E137.1) y147)) nin0)))
    have y225 := (((y131.ext E137).keep K144 (ninS (Nat.ne_of_lt (Nat.lt_of_lt_of_le y129.lt (Nat.le_of_eq gb137.symm))) nin0)).keep K185 (ninS (Nat.ne_of_lt (Nat.lt_of_lt_of_le y129.lt (Nat.le_of_eq gb137.symm))) (ninS (Nat.ne_of_lt (Nat.lt_of_lt_of_le (Nat.lt_of_lt_of_le y129.lt E137.1) y147)) nin0)))
    have y226 := (((y132.ext E137).keep K144 (ninS (Nat.ne_of_lt (Nat.lt_of_lt_of_le y129.lt (Nat.le_of_eq gb137.symm))) nin0)).keep K185 (ninS (Nat.ne_of_lt (Nat.lt_of_lt_of_le y129.lt (Nat.le_of_eq gb137.symm))) (ninS (Nat.ne_of_lt (Nat.lt_of_lt_of_le (Nat.lt_of_lt_of_le y129.lt E137.1) y147)) nin0)))
    have y227 := (((y133.ext E137).keep K144 (ninS (Nat.ne_of_lt (Nat.lt_of_lt_of_le y129.lt (Nat.le_of_eq gb137.symm))) nin0)).keep K185 (ninS (Nat.ne_of_lt (Nat.lt_of_lt_of_le y129.lt (Nat.le_of_eq gb137.symm))) (ninS (Nat.ne_of_lt (Nat.lt_of_lt_of_le (Nat.lt_of_lt_of_le y129.lt E137.1) y147)) nin0)))
    have y228 := (((y134.ext E137).keep K144 (ninS (Nat.ne_of_lt (Nat.lt_of_lt_of_le y129.lt (Nat.le_of_eq gb137.symm))) nin0)).keep K185 (ninS (Nat.ne_of_lt (Nat.lt_of_lt_of_le y129.lt (Nat.le_of_eq gb137.symm))) (ninS (Nat.ne_of_lt (Nat.lt_of_lt_of_le (Nat.lt_of_lt_of_le y129.lt E137.1) y147)) nin0)))
    obtain ⟨_, L220, T220, ⟨rfl, M220, K220, y229, y230⟩, X220, st220⟩ := own_callV X218 hx hZ hown (hw _ (mi 142 rfl)) (wd29 hw) (notFace_of_selects (args := #[]) (mvT hZ (hw _ (mi 145 rfl)))) y215 (rm_aa10 hw b116 r125 (0 : Int64) (0 : Int32) (0 : Int32) q3 cb lc kc lcs b137 r146 (1 : Int32) (1 : Int32) r188 r189 r190 T185.heap n0 O212 y215 y221 y216 ge124 ge222 (own_n1 b_cb (by decide)) (own_nneg own_b0 (by decide)) (own_nneg bb186 (by decide)) S0_ ZA1_ hlc y191 y192 y195 y196 y197 y198 y199 y200 ge187 y201 y202 y203 y204 y205 y206 y207 y208 y209 y210 y211 (Nat.ne_of_lt (Nat.lt_of_lt_of_le (Nat.lt_of_lt_of_le y129.lt E137.1) y147)) y223 y224 y225 y226 y227 y228) g219 e218 [] rfl (lenOf pd_26 rfl) (hb hby at_205) hml.symm 0 rfl (by decide)
    have N220 := Fr.app N218 M220
    have O231 := O212.keep K220 (allS ge124 (allS ge187 (allS ge222 all0)))
    have g232 := ja X220 hx (jN X220 hx (ji X220 hx (js X220 hx (jc X220 hx (jY X220 hx (ji X220 hx (jN X220 hx (ji X220 hx st220 (hb hby at_208) rfl) (hb hby at_210) rfl (by decide)) (hb hby at_213) rfl) (hb hby at_215) rfl (by decide) (pc' := 222) (by decide)) (hb hby at_222) 0 rfl) (hb hby at_223) rfl (l' := #[.val (.long q1), .second, .val (.long q2), .second, .val (.long q3), .second, .val (.long q4), .second, iv q5, .val (.long ca), .second, .val (.long cb), .second, iv 0, iv 1, rv b116, rv b137, iv 1, iv 1, iv 0]) rfl) (hb hby at_225) rfl) (hb hby at_227) rfl (by decide)) (hb hby at_230) rfl rfl
    obtain ⟨_, L233, T233, ⟨rfl, M233, e233⟩, X233, st233⟩ := own_callV X220 hx hZ hown (hw _ (mi 31 rfl)) (wd28 hw) (notFace_of_selects (args := #[]) (mvT hZ (hw _ (mi 34 rfl)))) y230 (rm_isE1 hw b116 ((0 : Int64) + cb) T220.heap n0 O231 y229 (own_n0 bb186 (by decide))) g232 rfl [] rfl (lenOf pd_23 rfl) (hb hby at_232) hml.symm 0 rfl (by decide)
    have N233 := Fr.app N220 M233
    have g234 := ja X233 hx (jn X233 hx (ji X233 hx st233 (hb hby at_235) rfl) (hb hby at_237) rfl (by decide)) (hb hby at_240) rfl rfl
    have y236 := (y191.keep K220)
    have y237 := (y193.keep K220 (ninS (Ne.symm (Nat.ne_of_lt (Nat.lt_of_lt_of_le (Nat.lt_of_lt_of_le A116.lt K123.1) (Nat.le_of_eq gb137.symm)))) (ninS (Nat.ne_of_lt (Nat.lt_of_lt_of_le A137.lt y147)) (ninS (Ne.symm (Nat.ne_of_lt (Nat.lt_of_lt_of_le y129.lt (Nat.le_of_eq gb137.symm)))) nin0))))
    obtain ⟨_, L235, T235, ⟨rfl, M235, e235⟩, X235, st235⟩ := own_callV X233 hx hZ hown (hw _ (mi 31 rfl)) (wd28 hw) (notFace_of_selects (args := #[]) (mvT hZ (hw _ (mi 34 rfl)))) y236 (rm_isE1 hw b137 ((0 : Int64) + cb) T220.heap n0 O231 y237 (own_n0 bb186 (by decide))) g234 e233 [] rfl (lenOf pd_23 rfl) (hb hby at_242) hml.symm 0 rfl (by decide)
    have N235 := Fr.app N233 M235
    have g238 := ji X235 hx (js X235 hx (jg X235 hx (jc X235 hx (jn X235 hx (jc X235 hx (jY X235 hx (ji X235 hx st235 (hb hby at_245) rfl) (hb hby at_247) rfl (by decide) (pc' := 254) (by decide)) (hb hby at_254) 0 rfl) (hb hby at_255) rfl (by decide)) (hb hby at_258) 1 rfl) (hb hby at_259) (pc' := 263) (by decide)) (hb hby at_263) rfl (l' := #[.val (.long q1), .second, .val (.long q2), .second, .val (.long q3), .second, .val (.long q4), .second, iv q5, .val (.long ca), .second, .val (.long cb), .second, iv 0, iv 1, rv b116, rv b137, iv 1, iv 1, iv 0]) rfl) (hb hby at_265) rfl
    refine own_leave X235 Bd (some (.int 1)) nofun g238 (fun fs hr => retN X235 hx (t := .boolean) Bd.returns (by simp) (hb hby at_267) hr) (by decide) (by decide) ?_
    exact ⟨rfl, N235⟩
  ·
    subst c165
    rcases (j114 : fl = (0 : Int32) ∨ fl = (1 : Int32)) with c239 | c239
    ·
      subst c239
      have g240 := show Go p e below T162 (mkF m 89 #[.val (.long q1), .second, .val (.long q2), .second, .val (.long q3), .second, .val (.long q4), .second, iv q5, .val (.long ca), .second, .val (.long cb), .second, iv 1, iv 0, rv b116, rv b137, iv 1, .unset, .unset] [(.long q1), (.ref b116)]) A0 from fun t kt => (ja X162 hx (jn X162 hx (jc X162 hx (ji X162 hx g164 (hb hby at_80) rfl) (hb hby at_82) 1 rfl) (hb hby at_83) rfl (by decide)) (hb hby at_86) rfl rfl) t (by refine XS.lloadN X162.here hx rfl (hb hby at_88) rfl ?_; exact kt)
      have bb242 : (1 : Int) ≤ ((0 : Int64) + (1 : Int64)).toInt ∧ ((0 : Int64) + (1 : Int64)).toInt ≤ 1 := own_addb own_b0 own_b1 (by decide) (by decide)
      have y243 := ((y127.ext E137).keep K144 (ninS (Nat.ne_of_lt (Nat.lt_of_lt_of_le (Nat.lt_of_lt_of_le A116.lt K123.1) (Nat.le_of_eq gb137.symm))) nin0))
      have y244 := ((y129.ext E137).keep K144)
      have y245 := ((y130.ext E137).keep K144 (ninS (Nat.ne_of_lt (Nat.lt_of_lt_of_le y129.lt (Nat.le_of_eq gb137.symm))) nin0))
      have y246 := ((y131.ext E137).keep K144 (ninS (Nat.ne_of_lt (Nat.lt_of_lt_of_le y129.lt (Nat.le_of_eq gb137.symm))) nin0))
      have y247 := ((y132.ext E137).keep K144 (ninS (Nat.ne_of_lt (Nat.lt_of_lt_of_le y129.lt (Nat.le_of_eq gb137.symm))) nin0))
      have y248 := ((y133.ext E137).keep K144 (ninS (Nat.ne_of_lt (Nat.lt_of_lt_of_le y129.lt (Nat.le_of_eq gb137.symm))) nin0))
      have y249 := ((y134.ext E137).keep K144 (ninS (Nat.ne_of_lt (Nat.lt_of_lt_of_le y129.lt (Nat.le_of_eq gb137.symm))) nin0))
      have ge250 : n0 ≤ r125 := Nat.le_trans (own_old_le O118) y126
      obtain ⟨_, L241, T241, ⟨r251, r252, r253, rfl, M241, K241, y254, y255, y256, y257, y258, y259, y260, y261, y262, y263, y264, y265, y266, y267, y268, y269, y270, y271, y272, y273, y274⟩, X241, st241⟩ := own_callV X162 hx hZ hown (hw _ (mi 222 rfl)) (wd30 hw) (notFace_of_selects (args := #[]) (mvT hZ (hw _ (mi 225 rfl)))) y159 (rm_adJ hw b116 r125 (0 : Int64) (0 : Int32) (0 : Int32) q1 lc kc lcs T144.heap n0 O156 y159 y243 y160 y244 y245 y246 y247 y248 y249 ge124 ge250 (own_nneg own_b0 (by decide)) (own_nneg bb242 (by decide)) S0_ ZA1_ hlc) g240 e162 [] rfl (lenOf pd_1 rfl) (hb hby at_89) hml.symm 0 rfl (by decide)
      have N241 := Fr.app N162 M241
      have O275 := O156.keep K241 (allS ge124 (allS ge250 all0))
      have g276 := ja X241 hx (jN X241 hx (ji X241 hx (js X241 hx (jc X241 hx (jY X241 hx (ji X241 hx (jY X241 hx (ji X241 hx (jg X241 hx st241 (hb hby at_92) (pc' := 135) (by decide)) (hb hby at_135) rfl) (hb hby at_137) rfl (by decide) (pc' := 149) (by decide)) (hb hby at_149) rfl) (hb hby at_151) rfl (by decide) (pc' := 158) (by decide)) (hb hby at_158) 0 rfl) (hb hby at_159) rfl (l' := #[.val (.long q1), .second, .val (.long q2), .second, .val (.long q3), .second, .val (.long q4), .second, iv q5, .val (.long ca), .second, .val (.long cb), .second, iv 1, iv 0, rv b116, rv b137, iv 1, iv 0, .unset]) rfl) (hb hby at_161) rfl) (hb hby at_163) rfl (by decide)) (hb hby at_166) rfl rfl
      obtain ⟨_, L277, T277, ⟨rfl, M277, e277⟩, X277, st277⟩ := own_callV X241 hx hZ hown (hw _ (mi 31 rfl)) (wd28 hw) (notFace_of_selects (args := #[]) (mvT hZ (hw _ (mi 34 rfl)))) y254 (rm_isE1 hw b116 (1 : Int64) T241.heap n0 O275 y256 (own_n0 own_b1 (by decide))) g276 rfl [] rfl (lenOf pd_23 rfl) (hb hby at_168) hml.symm 0 rfl (by decide)
      have N277 := Fr.app N241 M277
      have g278 := ja X277 hx (jn X277 hx (ji X277 hx st277 (hb hby at_171) rfl) (hb hby at_173) rfl (by decide)) (hb hby at_176) rfl rfl
      have y280 := (y163.keep K241)
      have y281 := (y149.keep K241 (ninS (Ne.symm (Nat.ne_of_lt (Nat.lt_of_lt_of_le (Nat.lt_of_lt_of_le A116.lt K123.1) (Nat.le_of_eq gb137.symm)))) (ninS (Ne.symm (Nat.ne_of_lt (Nat.lt_of_lt_of_le y129.lt (Nat.le_of_eq gb137.symm)))) nin0)))
      obtain ⟨_, L279, T279, ⟨rfl, M279, e279⟩, X279, st279⟩ := own_callV X277 hx hZ hown (hw _ (mi 31 rfl)) (wd28 hw) (notFace_of_selects (args := #[]) (mvT hZ (hw _ (mi 34 rfl)))) y280 (rm_isE0 hw b137 (0 : Int64) T241.heap n0 O275 y281 rfl) g278 e277 [] rfl (lenOf pd_23 rfl) (hb hby at_178) hml.symm 0 rfl (by decide)
      have N279 := Fr.app N277 M279
      have g282 := ja X279 hx (ja X279 hx (js X279 hx (jg X279 hx (jc X279 hx (jn X279 hx (jg X279 hx (jc X279 hx (jN X279 hx (ji X279 hx st279 (hb hby at_181) rfl) (hb hby at_183) rfl (by decide)) (hb hby at_186) 1 rfl) (hb hby at_187) (pc' := 191) (by decide)) (hb hby at_191) rfl (by decide)) (hb hby at_194) 1 rfl) (hb hby at_195) (pc' := 199) (by decide)) (hb hby at_199) rfl (l' := #[.val (.long q1), .second, .val (.long q2), .second, .val (.long q3), .second, .val (.long q4), .second, iv q5, .val (.long ca), .second, .val (.long cb), .second, iv 1, iv 0, rv b116, rv b137, iv 1, iv 0, .unset]) rfl) (hb hby at_201) rfl rfl) (hb hby at_203) rfl rfl
      have y284 := (y148.keep K241 (ninS (Ne.symm (Nat.ne_of_lt (Nat.lt_of_lt_of_le (Nat.lt_of_lt_of_le A116.lt K123.1) (Nat.le_of_eq gb137.symm)))) (ninS (Ne.symm (Nat.ne_of_lt (Nat.lt_of_lt_of_le y129.lt (Nat.le_of_eq gb137.symm)))) nin0)))
      have y285 := (y150.keep K241)
      have y286 := (y151.keep K241 (ninS (Ne.symm (Nat.ne_of_lt (Nat.lt_of_lt_of_le (Nat.lt_of_lt_of_le A116.lt (Nat.le_trans K123.1 E137.1)) y147))) (ninS (Ne.symm (Nat.ne_of_lt (Nat.lt_of_lt_of_le (Nat.lt_of_lt_of_le y129.lt E137.1) y147))) nin0)))
      have y287 := (y152.keep K241 (ninS (Ne.symm (Nat.ne_of_lt (Nat.lt_of_lt_of_le (Nat.lt_of_lt_of_le A116.lt (Nat.le_trans K123.1 E137.1)) y147))) (ninS (Ne.symm (Nat.ne_of_lt (Nat.lt_of_lt_of_le (Nat.lt_of_lt_of_le y129.lt E137.1) y147))) nin0)))
      have y288 := (y153.keep K241 (ninS (Ne.symm (Nat.ne_of_lt (Nat.lt_of_lt_of_le (Nat.lt_of_lt_of_le A116.lt (Nat.le_trans K123.1 E137.1)) y147))) (ninS (Ne.symm (Nat.ne_of_lt (Nat.lt_of_lt_of_le (Nat.lt_of_lt_of_le y129.lt E137.1) y147))) nin0)))
      have y289 := (y154.keep K241 (ninS (Ne.symm (Nat.ne_of_lt (Nat.lt_of_lt_of_le (Nat.lt_of_lt_of_le A116.lt (Nat.le_trans K123.1 E137.1)) y147))) (ninS (Ne.symm (Nat.ne_of_lt (Nat.lt_of_lt_of_le (Nat.lt_of_lt_of_le y129.lt E137.1) y147))) nin0)))
      have y290 := (y155.keep K241 (ninS (Ne.symm (Nat.ne_of_lt (Nat.lt_of_lt_of_le (Nat.lt_of_lt_of_le A116.lt (Nat.le_trans K123.1 E137.1)) y147))) (ninS (Ne.symm (Nat.ne_of_lt (Nat.lt_of_lt_of_le (Nat.lt_of_lt_of_le y129.lt E137.1) y147))) nin0)))
      have ge291 : n0 ≤ r146 := Nat.le_trans (own_old_le O139) y147
      obtain ⟨_, L283, T283, ⟨rfl, M283, K283⟩, X283, st283⟩ := own_callV X279 hx hZ hown (hw _ (mi 142 rfl)) (wd29 hw) (notFace_of_selects (args := #[]) (mvT hZ (hw _ (mi 145 rfl)))) y254 (rm_aa0 hw b116 b137 r146 (0 : Int32) (0 : Int32) T241.heap n0 O275 y280 y284 y285 y286 y287 y288 y289 y290 ge291 y254) g282 e279 [] rfl (lenOf pd_26 rfl) (hb hby at_205) hml.symm 0 rfl (by decide)
      have N283 := Fr.app N279 M283
      have O292 := O275.keep K283 (allS ge291 all0)
      have g293 := ja X283 hx (jN X283 hx (ji X283 hx (js X283 hx (jc X283 hx (jY X283 hx (ji X283 hx st283 (hb hby at_208) rfl) (hb hby at_210) rfl (by decide) (pc' := 222) (by decide)) (hb hby at_222) 0 rfl) (hb hby at_223) rfl (l' := #[.val (.long q1), .second, .val (.long q2), .second, .val (.long q3), .second, .val (.long q4), .second, iv q5, .val (.long ca), .second, .val (.long cb), .second, iv 1, iv 0, rv b116, rv b137, iv 1, iv 0, iv 0]) rfl) (hb hby at_225) rfl) (hb hby at_227) rfl (by decide)) (hb hby at_230) rfl rfl
      have y295 := (y254.keep K283)
      have y296 := (y256.keep K283 (ninS (Nat.ne_of_lt (Nat.lt_of_lt_of_le (Nat.lt_of_lt_of_le A116.lt (Nat.le_trans K123.1 E137.1)) y147)) nin0))
      obtain ⟨_, L294, T294, ⟨rfl, M294, e294⟩, X294, st294⟩ := own_callV X283 hx hZ hown (hw _ (mi 31 rfl)) (wd28 hw) (notFace_of_selects (args := #[]) (mvT hZ (hw _ (mi 34 rfl)))) y295 (rm_isE1 hw b116 (1 : Int64) T283.heap n0 O292 y296 (own_n0 own_b1 (by decide))) g293 rfl [] rfl (lenOf pd_23 rfl) (hb hby at_232) hml.symm 0 rfl (by decide)
      have N294 := Fr.app N283 M294
      have g297 := ja X294 hx (jn X294 hx (ji X294 hx st294 (hb hby at_235) rfl) (hb hby at_237) rfl (by decide)) (hb hby at_240) rfl rfl
      have y299 := (y280.keep K283)
      have y300 := (y281.keep K283 (ninS (Nat.ne_of_lt (Nat.lt_of_lt_of_le A137.lt y147)) nin0))
      obtain ⟨_, L298, T298, ⟨rfl, M298, e298⟩, X298, st298⟩ := own_callV X294 hx hZ hown (hw _ (mi 31 rfl)) (wd28 hw) (notFace_of_selects (args := #[]) (mvT hZ (hw _ (mi 34 rfl)))) y299 (rm_isE0 hw b137 (0 : Int64) T283.heap n0 O292 y300 rfl) g297 e294 [] rfl (lenOf pd_23 rfl) (hb hby at_242) hml.symm 0 rfl (by decide)
      have N298 := Fr.app N294 M298
      have g301 := ji X298 hx (js X298 hx (jg X298 hx (jc X298 hx (jn X298 hx (jg X298 hx (jc X298 hx (jN X298 hx (ji X298 hx st298 (hb hby at_245) rfl) (hb hby at_247) rfl (by decide)) (hb hby at_250) 1 rfl) (hb hby at_251) (pc' := 255) (by decide)) (hb hby at_255) rfl (by decide)) (hb hby at_258) 1 rfl) (hb hby at_259) (pc' := 263) (by decide)) (hb hby at_263) rfl (l' := #[.val (.long q1), .second, .val (.long q2), .second, .val (.long q3), .second, .val (.long q4), .second, iv q5, .val (.long ca), .second, .val (.long cb), .second, iv 1, iv 0, rv b116, rv b137, iv 1, iv 0, iv 0]) rfl) (hb hby at_265) rfl
      refine own_leave X298 Bd (some (.int 1)) nofun g301 (fun fs hr => retN X298 hx (t := .boolean) Bd.returns (by simp) (hb hby at_267) hr) (by decide) (by decide) ?_
      exact ⟨rfl, N298⟩
    subst c239
    have g302 := show Go p e below T162 (mkF m 89 #[.val (.long q1), .second, .val (.long q2), .second, .val (.long q3), .second, .val (.long q4), .second, iv q5, .val (.long ca), .second, .val (.long cb), .second, iv 1, iv 1, rv b116, rv b137, iv 1, .unset, .unset] [(.long q1), (.ref b116)]) A0 from fun t kt => (ja X162 hx (jn X162 hx (jc X162 hx (ji X162 hx g164 (hb hby at_80) rfl) (hb hby at_82) 1 rfl) (hb hby at_83) rfl (by decide)) (hb hby at_86) rfl rfl) t (by refine XS.lloadN X162.here hx rfl (hb hby at_88) rfl ?_; exact kt)
    have bb304 : (1 : Int) ≤ ((0 : Int64) + (1 : Int64)).toInt ∧ ((0 : Int64) + (1 : Int64)).toInt ≤ 1 := own_addb own_b0 own_b1 (by decide) (by decide)
    have y305 := ((y127.ext E137).keep K144 (ninS (Nat.ne_of_lt (Nat.lt_of_lt_of_le (Nat.lt_of_lt_of_le A116.lt K123.1) (Nat.le_of_eq gb137.symm))) nin0))
    have y306 := ((y129.ext E137).keep K144)
    have y307 := ((y130.ext E137).keep K144 (ninS (Nat.ne_of_lt (Nat.lt_of_lt_of_le y129.lt (Nat.le_of_eq gb137.symm))) nin0))
    have y308 := ((y131.ext E137).keep K144 (ninS (Nat.ne_of_lt (Nat.lt_of_lt_of_le y129.lt (Nat.le_of_eq gb137.symm))) nin0))
    have y309 := ((y132.ext E137).keep K144 (ninS (Nat.ne_of_lt (Nat.lt_of_lt_of_le y129.lt (Nat.le_of_eq gb137.symm))) nin0))
    have y310 := ((y133.ext E137).keep K144 (ninS (Nat.ne_of_lt (Nat.lt_of_lt_of_le y129.lt (Nat.le_of_eq gb137.symm))) nin0))
    have y311 := ((y134.ext E137).keep K144 (ninS (Nat.ne_of_lt (Nat.lt_of_lt_of_le y129.lt (Nat.le_of_eq gb137.symm))) nin0))
    have ge312 : n0 ≤ r125 := Nat.le_trans (own_old_le O118) y126
    obtain ⟨_, L303, T303, ⟨r313, r314, r315, rfl, M303, K303, y316, y317, y318, y319, y320, y321, y322, y323, y324, y325, y326, y327, y328, y329, y330, y331, y332, y333, y334, y335, y336⟩, X303, st303⟩ := own_callV X162 hx hZ hown (hw _ (mi 222 rfl)) (wd30 hw) (notFace_of_selects (args := #[]) (mvT hZ (hw _ (mi 225 rfl)))) y159 (rm_adJ hw b116 r125 (0 : Int64) (0 : Int32) (0 : Int32) q1 lc kc lcs T144.heap n0 O156 y159 y305 y160 y306 y307 y308 y309 y310 y311 ge124 ge312 (own_nneg own_b0 (by decide)) (own_nneg bb304 (by decide)) S0_ ZA1_ hlc) g302 e162 [] rfl (lenOf pd_1 rfl) (hb hby at_89) hml.symm 0 rfl (by decide)
    have N303 := Fr.app N162 M303
    have O337 := O156.keep K303 (allS ge124 (allS ge312 all0))
    have g338 := show Go p e below T303 (mkF m 146 #[.val (.long q1), .second, .val (.long q2), .second, .val (.long q3), .second, .val (.long q4), .second, iv q5, .val (.long ca), .second, .val (.long cb), .second, iv 1, iv 1, rv b116, rv b137, iv 1, .unset, .unset] [(.long cb), (.long q3), (.ref b137)]) A0 from fun t kt => (show Go p e below T303 (mkF m 144 #[.val (.long q1), .second, .val (.long q2), .second, .val (.long q3), .second, .val (.long q4), .second, iv q5, .val (.long ca), .second, .val (.long cb), .second, iv 1, iv 1, rv b116, rv b137, iv 1, .unset, .unset] [(.long q3), (.ref b137)]) A0 from fun t kt => (ja X303 hx (jN X303 hx (ji X303 hx (jg X303 hx st303 (hb hby at_92) (pc' := 135) (by decide)) (hb hby at_135) rfl) (hb hby at_137) rfl (by decide)) (hb hby at_140) rfl rfl) t (by refine XS.lload X303.here hx rfl (hb hby at_142) rfl ?_; exact kt)) t (by refine XS.lload X303.here hx rfl (hb hby at_144) rfl ?_; exact kt)
    have y340 := (y163.keep K303)
    have bb341 : (1 : Int) ≤ ((0 : Int64) + cb).toInt ∧ ((0 : Int64) + cb).toInt ≤ 1152921504606846976 := own_addb own_b0 b_cb (by decide) (by decide)
    have y342 := (y148.keep K303 (ninS (Ne.symm (Nat.ne_of_lt (Nat.lt_of_lt_of_le (Nat.lt_of_lt_of_le A116.lt K123.1) (Nat.le_of_eq gb137.symm)))) (ninS (Ne.symm (Nat.ne_of_lt (Nat.lt_of_lt_of_le y129.lt (Nat.le_of_eq gb137.symm)))) nin0)))
    have y343 := (y149.keep K303 (ninS (Ne.symm (Nat.ne_of_lt (Nat.lt_of_lt_of_le (Nat.lt_of_lt_of_le A116.lt K123.1) (Nat.le_of_eq gb137.symm)))) (ninS (Ne.symm (Nat.ne_of_lt (Nat.lt_of_lt_of_le y129.lt (Nat.le_of_eq gb137.symm)))) nin0)))
    have ge344 : n0 ≤ r146 := Nat.le_trans (own_old_le O139) y147
    have y345 := (y150.keep K303)
    have y346 := (y151.keep K303 (ninS (Ne.symm (Nat.ne_of_lt (Nat.lt_of_lt_of_le (Nat.lt_of_lt_of_le A116.lt (Nat.le_trans K123.1 E137.1)) y147))) (ninS (Ne.symm (Nat.ne_of_lt (Nat.lt_of_lt_of_le (Nat.lt_of_lt_of_le y129.lt E137.1) y147))) nin0)))
    have y347 := (y152.keep K303 (ninS (Ne.symm (Nat.ne_of_lt (Nat.lt_of_lt_of_le (Nat.lt_of_lt_of_le A116.lt (Nat.le_trans K123.1 E137.1)) y147))) (ninS (Ne.symm (Nat.ne_of_lt (Nat.lt_of_lt_of_le (Nat.lt_of_lt_of_le y129.lt E137.1) y147))) nin0)))
    have y348 := (y153.keep K303 (ninS (Ne.symm (Nat.ne_of_lt (Nat.lt_of_lt_of_le (Nat.lt_of_lt_of_le A116.lt (Nat.le_trans K123.1 E137.1)) y147))) (ninS (Ne.symm (Nat.ne_of_lt (Nat.lt_of_lt_of_le (Nat.lt_of_lt_of_le y129.lt E137.1) y147))) nin0)))
    have y349 := (y154.keep K303 (ninS (Ne.symm (Nat.ne_of_lt (Nat.lt_of_lt_of_le (Nat.lt_of_lt_of_le A116.lt (Nat.le_trans K123.1 E137.1)) y147))) (ninS (Ne.symm (Nat.ne_of_lt (Nat.lt_of_lt_of_le (Nat.lt_of_lt_of_le y129.lt E137.1) y147))) nin0)))
    have y350 := (y155.keep K303 (ninS (Ne.symm (Nat.ne_of_lt (Nat.lt_of_lt_of_le (Nat.lt_of_lt_of_le A116.lt (Nat.le_trans K123.1 E137.1)) y147))) (ninS (Ne.symm (Nat.ne_of_lt (Nat.lt_of_lt_of_le (Nat.lt_of_lt_of_le y129.lt E137.1) y147))) nin0)))
    obtain ⟨_, L339, T339, ⟨r351, r352, r353, rfl, M339, K339, y354, y355, y356, y357, y358, y359, y360, y361, y362, y363, y364, y365, y366, y367, y368, y369, y370, y371, y372, y373, y374⟩, X339, st339⟩ := own_callV X303 hx hZ hown (hw _ (mi 38 rfl)) (wd17 hw) (notFace_of_selects (args := #[]) (mvT hZ (hw _ (mi 41 rfl)))) y340 (rm_ad0 hw b137 r146 (0 : Int64) (0 : Int32) (0 : Int32) q3 cb lc kc lcs T303.heap n0 O337 y340 y342 y343 ge145 ge344 (own_n1 b_cb (by decide)) (own_nneg own_b0 (by decide)) (own_nneg bb341 (by decide)) S0_ ZA1_ hlc y345 y346 y347 y348 y349 y350) g338 rfl [] rfl (lenOf pd_15 rfl) (hb hby at_146) hml.symm 0 rfl (by decide)
    have N339 := Fr.app N303 M339
    have O375 := O337.keep K339 (allS ge145 (allS ge344 all0))
    have g376 := ja X339 hx (jN X339 hx (ji X339 hx (js X339 hx (jc X339 hx (jY X339 hx (ji X339 hx st339 (hb hby at_149) rfl) (hb hby at_151) rfl (by decide) (pc' := 158) (by decide)) (hb hby at_158) 0 rfl) (hb hby at_159) rfl (l' := #[.val (.long q1), .second, .val (.long q2), .second, .val (.long q3), .second, .val (.long q4), .second, iv q5, .val (.long ca), .second, .val (.long cb), .second, iv 1, iv 1, rv b116, rv b137, iv 1, iv 0, .unset]) rfl) (hb hby at_161) rfl) (hb hby at_163) rfl (by decide)) (hb hby at_166) rfl rfl
    have y378 := (y316.keep K339)
    have y379 := (y318.keep K339 (ninS (Nat.ne_of_lt (Nat.lt_of_lt_of_le (Nat.lt_of_lt_of_le A116.lt K123.1) (Nat.le_of_eq gb137.symm))) (ninS (Nat.ne_of_lt (Nat.lt_of_lt_of_le (Nat.lt_of_lt_of_le A116.lt (Nat.le_trans K123.1 E137.1)) y147)) nin0)))
    obtain ⟨_, L377, T377, ⟨rfl, M377, e377⟩, X377, st377⟩ := own_callV X339 hx hZ hown (hw _ (mi 31 rfl)) (wd28 hw) (notFace_of_selects (args := #[]) (mvT hZ (hw _ (mi 34 rfl)))) y378 (rm_isE1 hw b116 (1 : Int64) T339.heap n0 O375 y379 (own_n0 own_b1 (by decide))) g376 rfl [] rfl (lenOf pd_23 rfl) (hb hby at_168) hml.symm 0 rfl (by decide)
    have N377 := Fr.app N339 M377
    have g380 := ja X377 hx (jn X377 hx (ji X377 hx st377 (hb hby at_171) rfl) (hb hby at_173) rfl (by decide)) (hb hby at_176) rfl rfl
    obtain ⟨_, L381, T381, ⟨rfl, M381, e381⟩, X381, st381⟩ := own_callV X377 hx hZ hown (hw _ (mi 31 rfl)) (wd28 hw) (notFace_of_selects (args := #[]) (mvT hZ (hw _ (mi 34 rfl)))) y354 (rm_isE1 hw b137 ((0 : Int64) + cb) T339.heap n0 O375 y356 (own_n0 bb341 (by decide))) g380 e377 [] rfl (lenOf pd_23 rfl) (hb hby at_178) hml.symm 0 rfl (by decide)
    have N381 := Fr.app N377 M381
    have g383 := js X381 hx (jg X381 hx (jc X381 hx (jn X381 hx (jc X381 hx (jY X381 hx (ji X381 hx st381 (hb hby at_181) rfl) (hb hby at_183) rfl (by decide) (pc' := 190) (by decide)) (hb hby at_190) 0 rfl) (hb hby at_191) rfl (by decide)) (hb hby at_194) 1 rfl) (hb hby at_195) (pc' := 199) (by decide)) (hb hby at_199) rfl (l' := #[.val (.long q1), .second, .val (.long q2), .second, .val (.long q3), .second, .val (.long q4), .second, iv q5, .val (.long ca), .second, .val (.long cb), .second, iv 1, iv 1, rv b116, rv b137, iv 1, iv 0, .unset]) rfl
    by_cases c382 : q3 < q1
    ·
      have g384 := ja X381 hx (ja X381 hx g383 (hb hby at_201) rfl rfl) (hb hby at_203) rfl rfl
      have bb386 : (2 : Int) ≤ ((1 : Int64) + cb).toInt ∧ ((1 : Int64) + cb).toInt ≤ 1152921504606846977 := own_addb own_b1 b_cb (by decide) (by decide)
      have y387 := (y317.keep K339 (ninS (Nat.ne_of_lt (Nat.lt_of_lt_of_le (Nat.lt_of_lt_of_le A116.lt K123.1) (Nat.le_of_eq gb137.symm))) (ninS (Nat.ne_of_lt (Nat.lt_of_lt_of_le (Nat.lt_of_lt_of_le A116.lt (Nat.le_trans K123.1 E137.1)) y147)) nin0)))
      have y388 := (y320.keep K339)
      have y389 := (y321.keep K339 (ninS (Nat.ne_of_lt (Nat.lt_of_lt_of_le y129.lt (Nat.le_of_eq gb137.symm))) (ninS (Nat.ne_of_lt (Nat.lt_of_lt_of_le (Nat.lt_of_lt_of_le y129.lt E137.1) y147)) nin0)))
      have y390 := (y322.keep K339 (ninS (Nat.ne_of_lt (Nat.lt_of_lt_of_le y129.lt (Nat.le_of_eq gb137.symm))) (ninS (Nat.ne_of_lt (Nat.lt_of_lt_of_le (Nat.lt_of_lt_of_le y129.lt E137.1) y147)) nin0)))
      have y391 := (y323.keep K339 (ninS (Nat.ne_of_lt (Nat.lt_of_lt_of_le y129.lt (Nat.le_of_eq gb137.symm))) (ninS (Nat.ne_of_lt (Nat.lt_of_lt_of_le (Nat.lt_of_lt_of_le y129.lt E137.1) y147)) nin0)))
      have y392 := (y324.keep K339 (ninS (Nat.ne_of_lt (Nat.lt_of_lt_of_le y129.lt (Nat.le_of_eq gb137.symm))) (ninS (Nat.ne_of_lt (Nat.lt_of_lt_of_le (Nat.lt_of_lt_of_le y129.lt E137.1) y147)) nin0)))
      have y393 := (y325.keep K339 (ninS (Nat.ne_of_lt (Nat.lt_of_lt_of_le y129.lt (Nat.le_of_eq gb137.symm))) (ninS (Nat.ne_of_lt (Nat.lt_of_lt_of_le (Nat.lt_of_lt_of_le y129.lt E137.1) y147)) nin0)))
      have y394 := (y326.keep K339)
      have y395 := (y327.keep K339 (ninS (Ne.symm (Nat.ne_of_lt (Nat.lt_of_lt_of_le (Nat.lt_of_lt_of_le A137.lt K144.1) y319))) (ninS (Ne.symm (Nat.ne_of_lt (Nat.lt_of_lt_of_le y150.lt y319))) nin0)))
      have y396 := (y328.keep K339 (ninS (Ne.symm (Nat.ne_of_lt (Nat.lt_of_lt_of_le (Nat.lt_of_lt_of_le A137.lt K144.1) y319))) (ninS (Ne.symm (Nat.ne_of_lt (Nat.lt_of_lt_of_le y150.lt y319))) nin0)))
      have y397 := (y329.keep K339 (ninS (Ne.symm (Nat.ne_of_lt (Nat.lt_of_lt_of_le (Nat.lt_of_lt_of_le A137.lt K144.1) y319))) (ninS (Ne.symm (Nat.ne_of_lt (Nat.lt_of_lt_of_le y150.lt y319))) nin0)))
      have y398 := (y330.keep K339 (ninS (Ne.symm (Nat.ne_of_lt (Nat.lt_of_lt_of_le (Nat.lt_of_lt_of_le A137.lt K144.1) y319))) (ninS (Ne.symm (Nat.ne_of_lt (Nat.lt_of_lt_of_le y150.lt y319))) nin0)))
      have y399 := (y331.keep K339 (ninS (Ne.symm (Nat.ne_of_lt (Nat.lt_of_lt_of_le (Nat.lt_of_lt_of_le A137.lt K144.1) y319))) (ninS (Ne.symm (Nat.ne_of_lt (Nat.lt_of_lt_of_le y150.lt y319))) nin0)))
      have y400 := (y332.keep K339 (ninS (Ne.symm (Nat.ne_of_lt (Nat.lt_of_lt_of_le (Nat.lt_of_lt_of_le A137.lt K144.1) y319))) (ninS (Ne.symm (Nat.ne_of_lt (Nat.lt_of_lt_of_le y150.lt y319))) nin0)))
      have y401 := (y333.keep K339)
      have y402 := (y334.keep K339 (ninS (ne_exa y401 y354 (by decide)) (ninS (ne_exa y401 y358 (by decide)) nin0)))
      have y403 := (y335.keep K339)
      have y404 := (y336.keep K339 (ninS (ne_exa y403 y354 (by decide)) (ninS (ne_exa y403 y358 (by decide)) nin0)))
      have ge405 : n0 ≤ r313 := Nat.le_trans (own_old_le O156) y319
      obtain ⟨_, L385, T385, ⟨rfl, M385, K385, y406, y407⟩, X385, st385⟩ := own_callV X381 hx hZ hown (hw _ (mi 142 rfl)) (wd29 hw) (notFace_of_selects (args := #[]) (mvT hZ (hw _ (mi 145 rfl)))) y378 (rm_aa11L hw b116 r125 (1 : Int64) (1 : Int32) (1 : Int32) q3 cb lc kc lcs b137 r146 (1 : Int32) (1 : Int32) r351 r352 r353 r313 r314 r315 q1 (1 : Int64) T339.heap n0 O375 y378 y387 y379 ge124 ge312 (own_n1 b_cb (by decide)) (own_nneg own_b1 (by decide)) (own_nneg bb386 (by decide)) S0_ ZA1_ hlc y354 y355 y358 y359 y360 y361 y362 y363 ge344 y364 y365 y366 y367 y368 y369 y370 y371 y372 y373 y374 (Nat.ne_of_lt (Nat.lt_of_lt_of_le (Nat.lt_of_lt_of_le y129.lt E137.1) y147)) y388 y389 y390 y391 y392 y393 y394 y395 y396 y397 y398 y399 y400 y401 y402 y403 y404 ge405 c382) g384 e381 [] rfl (lenOf pd_26 rfl) (hb hby at_205) hml.symm 0 rfl (by decide)
      have N385 := Fr.app N381 M385
      have O408 := O375.keep K385 (allS ge124 (allS ge344 (allS ge312 (allS ge405 all0))))
      have g409 := ja X385 hx (jN X385 hx (ji X385 hx (js X385 hx (jc X385 hx (jY X385 hx (ji X385 hx st385 (hb hby at_208) rfl) (hb hby at_210) rfl (by decide) (pc' := 222) (by decide)) (hb hby at_222) 0 rfl) (hb hby at_223) rfl (l' := #[.val (.long q1), .second, .val (.long q2), .second, .val (.long q3), .second, .val (.long q4), .second, iv q5, .val (.long ca), .second, .val (.long cb), .second, iv 1, iv 1, rv b116, rv b137, iv 1, iv 0, iv 0]) rfl) (hb hby at_225) rfl) (hb hby at_227) rfl (by decide)) (hb hby at_230) rfl rfl
      obtain ⟨_, L410, T410, ⟨rfl, M410, e410⟩, X410, st410⟩ := own_callV X385 hx hZ hown (hw _ (mi 31 rfl)) (wd28 hw) (notFace_of_selects (args := #[]) (mvT hZ (hw _ (mi 34 rfl)))) y407 (rm_isE1 hw b116 ((1 : Int64) + cb) T385.heap n0 O408 y406 (own_n0 bb386 (by decide))) g409 rfl [] rfl (lenOf pd_23 rfl) (hb hby at_232) hml.symm 0 rfl (by decide)
      have N410 := Fr.app N385 M410
      have g411 := ja X410 hx (jn X410 hx (ji X410 hx st410 (hb hby at_235) rfl) (hb hby at_237) rfl (by decide)) (hb hby at_240) rfl rfl
      have y413 := (y354.keep K385)
      have y414 := (y356.keep K385 (ninS (Ne.symm (Nat.ne_of_lt (Nat.lt_of_lt_of_le (Nat.lt_of_lt_of_le A116.lt K123.1) (Nat.le_of_eq gb137.symm)))) (ninS (Nat.ne_of_lt (Nat.lt_of_lt_of_le A137.lt y147)) (ninS (Ne.symm (Nat.ne_of_lt (Nat.lt_of_lt_of_le y129.lt (Nat.le_of_eq gb137.symm)))) (ninS (Nat.ne_of_lt (Nat.lt_of_lt_of_le (Nat.lt_of_lt_of_le A137.lt K144.1) y319)) nin0)))))
      obtain ⟨_, L412, T412, ⟨rfl, M412, e412⟩, X412, st412⟩ := own_callV X410 hx hZ hown (hw _ (mi 31 rfl)) (wd28 hw) (notFace_of_selects (args := #[]) (mvT hZ (hw _ (mi 34 rfl)))) y413 (rm_isE1 hw b137 ((0 : Int64) + cb) T385.heap n0 O408 y414 (own_n0 bb341 (by decide))) g411 e410 [] rfl (lenOf pd_23 rfl) (hb hby at_242) hml.symm 0 rfl (by decide)
      have N412 := Fr.app N410 M412
      have g415 := ji X412 hx (js X412 hx (jg X412 hx (jc X412 hx (jn X412 hx (jc X412 hx (jY X412 hx (ji X412 hx st412 (hb hby at_245) rfl) (hb hby at_247) rfl (by decide) (pc' := 254) (by decide)) (hb hby at_254) 0 rfl) (hb hby at_255) rfl (by decide)) (hb hby at_258) 1 rfl) (hb hby at_259) (pc' := 263) (by decide)) (hb hby at_263) rfl (l' := #[.val (.long q1), .second, .val (.long q2), .second, .val (.long q3), .second, .val (.long q4), .second, iv q5, .val (.long ca), .second, .val (.long cb), .second, iv 1, iv 1, rv b116, rv b137, iv 1, iv 0, iv 0]) rfl) (hb hby at_265) rfl
      refine own_leave X412 Bd (some (.int 1)) nofun g415 (fun fs hr => retN X412 hx (t := .boolean) Bd.returns (by simp) (hb hby at_267) hr) (by decide) (by decide) ?_
      exact ⟨rfl, N412⟩
    by_cases c416 : q3 = q1
    ·
      have g417 := ja X381 hx (ja X381 hx g383 (hb hby at_201) rfl rfl) (hb hby at_203) rfl rfl
      have bb419 : (2 : Int) ≤ ((1 : Int64) + cb).toInt ∧ ((1 : Int64) + cb).toInt ≤ 1152921504606846977 := own_addb own_b1 b_cb (by decide) (by decide)
      have y420 := (y317.keep K339 (ninS (Nat.ne_of_lt (Nat.lt_of_lt_of_le (Nat.lt_of_lt_of_le A116.lt K123.1) (Nat.le_of_eq gb137.symm))) (ninS (Nat.ne_of_lt (Nat.lt_of_lt_of_le (Nat.lt_of_lt_of_le A116.lt (Nat.le_trans K123.1 E137.1)) y147)) nin0)))
      have y421 := (y320.keep K339)
      have y422 := (y321.keep K339 (ninS (Nat.ne_of_lt (Nat.lt_of_lt_of_le y129.lt (Nat.le_of_eq gb137.symm))) (ninS (Nat.ne_of_lt (Nat.lt_of_lt_of_le (Nat.lt_of_lt_of_le y129.lt E137.1) y147)) nin0)))
      have y423 := (y322.keep K339 (ninS (Nat.ne_of_lt (Nat.lt_of_lt_of_le y129.lt (Nat.le_of_eq gb137.symm))) (ninS (Nat.ne_of_lt (Nat.lt_of_lt_of_le (Nat.lt_of_lt_of_le y129.lt E137.1) y147)) nin0)))
      have y424 := (y323.keep K339 (ninS (Nat.ne_of_lt (Nat.lt_of_lt_of_le y129.lt (Nat.le_of_eq gb137.symm))) (ninS (Nat.ne_of_lt (Nat.lt_of_lt_of_le (Nat.lt_of_lt_of_le y129.lt E137.1) y147)) nin0)))
      have y425 := (y324.keep K339 (ninS (Nat.ne_of_lt (Nat.lt_of_lt_of_le y129.lt (Nat.le_of_eq gb137.symm))) (ninS (Nat.ne_of_lt (Nat.lt_of_lt_of_le (Nat.lt_of_lt_of_le y129.lt E137.1) y147)) nin0)))
      have y426 := (y325.keep K339 (ninS (Nat.ne_of_lt (Nat.lt_of_lt_of_le y129.lt (Nat.le_of_eq gb137.symm))) (ninS (Nat.ne_of_lt (Nat.lt_of_lt_of_le (Nat.lt_of_lt_of_le y129.lt E137.1) y147)) nin0)))
      have y427 := (y326.keep K339)
      have y428 := (y327.keep K339 (ninS (Ne.symm (Nat.ne_of_lt (Nat.lt_of_lt_of_le (Nat.lt_of_lt_of_le A137.lt K144.1) y319))) (ninS (Ne.symm (Nat.ne_of_lt (Nat.lt_of_lt_of_le y150.lt y319))) nin0)))
      have y429 := (y328.keep K339 (ninS (Ne.symm (Nat.ne_of_lt (Nat.lt_of_lt_of_le (Nat.lt_of_lt_of_le A137.lt K144.1) y319))) (ninS (Ne.symm (Nat.ne_of_lt (Nat.lt_of_lt_of_le y150.lt y319))) nin0)))
      have y430 := (y329.keep K339 (ninS (Ne.symm (Nat.ne_of_lt (Nat.lt_of_lt_of_le (Nat.lt_of_lt_of_le A137.lt K144.1) y319))) (ninS (Ne.symm (Nat.ne_of_lt (Nat.lt_of_lt_of_le y150.lt y319))) nin0)))
      have y431 := (y330.keep K339 (ninS (Ne.symm (Nat.ne_of_lt (Nat.lt_of_lt_of_le (Nat.lt_of_lt_of_le A137.lt K144.1) y319))) (ninS (Ne.symm (Nat.ne_of_lt (Nat.lt_of_lt_of_le y150.lt y319))) nin0)))
      have y432 := (y331.keep K339 (ninS (Ne.symm (Nat.ne_of_lt (Nat.lt_of_lt_of_le (Nat.lt_of_lt_of_le A137.lt K144.1) y319))) (ninS (Ne.symm (Nat.ne_of_lt (Nat.lt_of_lt_of_le y150.lt y319))) nin0)))
      have y433 := (y332.keep K339 (ninS (Ne.symm (Nat.ne_of_lt (Nat.lt_of_lt_of_le (Nat.lt_of_lt_of_le A137.lt K144.1) y319))) (ninS (Ne.symm (Nat.ne_of_lt (Nat.lt_of_lt_of_le y150.lt y319))) nin0)))
      have y434 := (y333.keep K339)
      have y435 := (y334.keep K339 (ninS (ne_exa y434 y354 (by decide)) (ninS (ne_exa y434 y358 (by decide)) nin0)))
      have y436 := (y335.keep K339)
      have y437 := (y336.keep K339 (ninS (ne_exa y436 y354 (by decide)) (ninS (ne_exa y436 y358 (by decide)) nin0)))
      have ge438 : n0 ≤ r313 := Nat.le_trans (own_old_le O156) y319
      obtain ⟨_, L418, T418, ⟨rfl, M418, K418, y439, y440⟩, X418, st418⟩ := own_callV X381 hx hZ hown (hw _ (mi 142 rfl)) (wd29 hw) (notFace_of_selects (args := #[]) (mvT hZ (hw _ (mi 145 rfl)))) y378 (rm_aa11E hw b116 r125 (1 : Int64) (1 : Int32) (1 : Int32) q3 cb lc kc lcs b137 r146 (1 : Int32) (1 : Int32) r351 r352 r353 r313 r314 r315 q1 (1 : Int64) T339.heap n0 O375 y378 y420 y379 ge124 ge312 (own_n1 b_cb (by decide)) (own_nneg own_b1 (by decide)) (own_nneg bb419 (by decide)) S0_ ZA1_ hlc y354 y355 y358 y359 y360 y361 y362 y363 ge344 y364 y365 y366 y367 y368 y369 y370 y371 y372 y373 y374 (Nat.ne_of_lt (Nat.lt_of_lt_of_le (Nat.lt_of_lt_of_le y129.lt E137.1) y147)) y421 y422 y423 y424 y425 y426 y427 y428 y429 y430 y431 y432 y433 y434 y435 y436 y437 ge438 c416) g417 e381 [] rfl (lenOf pd_26 rfl) (hb hby at_205) hml.symm 0 rfl (by decide)
      have N418 := Fr.app N381 M418
      have O441 := O375.keep K418 (allS ge124 (allS ge344 (allS ge438 all0)))
      have g442 := ja X418 hx (jN X418 hx (ji X418 hx (js X418 hx (jc X418 hx (jY X418 hx (ji X418 hx st418 (hb hby at_208) rfl) (hb hby at_210) rfl (by decide) (pc' := 222) (by decide)) (hb hby at_222) 0 rfl) (hb hby at_223) rfl (l' := #[.val (.long q1), .second, .val (.long q2), .second, .val (.long q3), .second, .val (.long q4), .second, iv q5, .val (.long ca), .second, .val (.long cb), .second, iv 1, iv 1, rv b116, rv b137, iv 1, iv 0, iv 0]) rfl) (hb hby at_225) rfl) (hb hby at_227) rfl (by decide)) (hb hby at_230) rfl rfl
      obtain ⟨_, L443, T443, ⟨rfl, M443, e443⟩, X443, st443⟩ := own_callV X418 hx hZ hown (hw _ (mi 31 rfl)) (wd28 hw) (notFace_of_selects (args := #[]) (mvT hZ (hw _ (mi 34 rfl)))) y440 (rm_isE1 hw b116 ((1 : Int64) + cb) T418.heap n0 O441 y439 (own_n0 bb419 (by decide))) g442 rfl [] rfl (lenOf pd_23 rfl) (hb hby at_232) hml.symm 0 rfl (by decide)
      have N443 := Fr.app N418 M443
      have g444 := ja X443 hx (jn X443 hx (ji X443 hx st443 (hb hby at_235) rfl) (hb hby at_237) rfl (by decide)) (hb hby at_240) rfl rfl
      have y446 := (y354.keep K418)
      have y447 := (y356.keep K418 (ninS (Ne.symm (Nat.ne_of_lt (Nat.lt_of_lt_of_le (Nat.lt_of_lt_of_le A116.lt K123.1) (Nat.le_of_eq gb137.symm)))) (ninS (Nat.ne_of_lt (Nat.lt_of_lt_of_le A137.lt y147)) (ninS (Nat.ne_of_lt (Nat.lt_of_lt_of_le (Nat.lt_of_lt_of_le A137.lt K144.1) y319)) nin0))))
      obtain ⟨_, L445, T445, ⟨rfl, M445, e445⟩, X445, st445⟩ := own_callV X443 hx hZ hown (hw _ (mi 31 rfl)) (wd28 hw) (notFace_of_selects (args := #[]) (mvT hZ (hw _ (mi 34 rfl)))) y446 (rm_isE1 hw b137 ((0 : Int64) + cb) T418.heap n0 O441 y447 (own_n0 bb341 (by decide))) g444 e443 [] rfl (lenOf pd_23 rfl) (hb hby at_242) hml.symm 0 rfl (by decide)
      have N445 := Fr.app N443 M445
      have g448 := ji X445 hx (js X445 hx (jg X445 hx (jc X445 hx (jn X445 hx (jc X445 hx (jY X445 hx (ji X445 hx st445 (hb hby at_245) rfl) (hb hby at_247) rfl (by decide) (pc' := 254) (by decide)) (hb hby at_254) 0 rfl) (hb hby at_255) rfl (by decide)) (hb hby at_258) 1 rfl) (hb hby at_259) (pc' := 263) (by decide)) (hb hby at_263) rfl (l' := #[.val (.long q1), .second, .val (.long q2), .second, .val (.long q3), .second, .val (.long q4), .second, iv q5, .val (.long ca), .second, .val (.long cb), .second, iv 1, iv 1, rv b116, rv b137, iv 1, iv 0, iv 0]) rfl) (hb hby at_265) rfl
      refine own_leave X445 Bd (some (.int 1)) nofun g448 (fun fs hr => retN X445 hx (t := .boolean) Bd.returns (by simp) (hb hby at_267) hr) (by decide) (by decide) ?_
      exact ⟨rfl, N445⟩
    have hg449 : q1 < q3 := own_gt64 c382 c416
    have g450 := ja X381 hx (ja X381 hx g383 (hb hby at_201) rfl rfl) (hb hby at_203) rfl rfl
    have bb452 : (2 : Int) ≤ ((1 : Int64) + cb).toInt ∧ ((1 : Int64) + cb).toInt ≤ 1152921504606846977 := own_addb own_b1 b_cb (by decide) (by decide)
    have y453 := (y317.keep K339 (ninS (Nat.ne_of_lt (Nat.lt_of_lt_of_le (Nat.lt_of_lt_of_le A116.lt K123.1) (Nat.le_of_eq gb137.symm))) (ninS (Nat.ne_of_lt (Nat.lt_of_lt_of_le (Nat.lt_of_lt_of_le A116.lt (Nat.le_trans K123.1 E137.1)) y147)) nin0)))
    have y454 := (y320.keep K339)
    have y455 := (y321.keep K339 (ninS (Nat.ne_of_lt (Nat.lt_of_lt_of_le y129.lt (Nat.le_of_eq gb137.symm))) (ninS (Nat.ne_of_lt (Nat.lt_of_lt_of_le (Nat.lt_of_lt_of_le y129.lt E137.1) y147)) nin0)))
    have y456 := (y322.keep K339 (ninS (Nat.ne_of_lt (Nat.lt_of_lt_of_le y129.lt (Nat.le_of_eq gb137.symm))) (ninS (Nat.ne_of_lt (Nat.lt_of_lt_of_le (Nat.lt_of_lt_of_le y129.lt E137.1) y147)) nin0)))
    have y457 := (y323.keep K339 (ninS (Nat.ne_of_lt (Nat.lt_of_lt_of_le y129.lt (Nat.le_of_eq gb137.symm))) (ninS (Nat.ne_of_lt (Nat.lt_of_lt_of_le (Nat.lt_of_lt_of_le y129.lt E137.1) y147)) nin0)))
    have y458 := (y324.keep K339 (ninS (Nat.ne_of_lt (Nat.lt_of_lt_of_le y129.lt (Nat.le_of_eq gb137.symm))) (ninS (Nat.ne_of_lt (Nat.lt_of_lt_of_le (Nat.lt_of_lt_of_le y129.lt E137.1) y147)) nin0)))
    have y459 := (y325.keep K339 (ninS (Nat.ne_of_lt (Nat.lt_of_lt_of_le y129.lt (Nat.le_of_eq gb137.symm))) (ninS (Nat.ne_of_lt (Nat.lt_of_lt_of_le (Nat.lt_of_lt_of_le y129.lt E137.1) y147)) nin0)))
    have y460 := (y326.keep K339)
    have y461 := (y327.keep K339 (ninS (Ne.symm (Nat.ne_of_lt (Nat.lt_of_lt_of_le (Nat.lt_of_lt_of_le A137.lt K144.1) y319))) (ninS (Ne.symm (Nat.ne_of_lt (Nat.lt_of_lt_of_le y150.lt y319))) nin0)))
    have y462 := (y328.keep K339 (ninS (Ne.symm (Nat.ne_of_lt (Nat.lt_of_lt_of_le (Nat.lt_of_lt_of_le A137.lt K144.1) y319))) (ninS (Ne.symm (Nat.ne_of_lt (Nat.lt_of_lt_of_le y150.lt y319))) nin0)))
    have y463 := (y329.keep K339 (ninS (Ne.symm (Nat.ne_of_lt (Nat.lt_of_lt_of_le (Nat.lt_of_lt_of_le A137.lt K144.1) y319))) (ninS (Ne.symm (Nat.ne_of_lt (Nat.lt_of_lt_of_le y150.lt y319))) nin0)))
    have y464 := (y330.keep K339 (ninS (Ne.symm (Nat.ne_of_lt (Nat.lt_of_lt_of_le (Nat.lt_of_lt_of_le A137.lt K144.1) y319))) (ninS (Ne.symm (Nat.ne_of_lt (Nat.lt_of_lt_of_le y150.lt y319))) nin0)))
    have y465 := (y331.keep K339 (ninS (Ne.symm (Nat.ne_of_lt (Nat.lt_of_lt_of_le (Nat.lt_of_lt_of_le A137.lt K144.1) y319))) (ninS (Ne.symm (Nat.ne_of_lt (Nat.lt_of_lt_of_le y150.lt y319))) nin0)))
    have y466 := (y332.keep K339 (ninS (Ne.symm (Nat.ne_of_lt (Nat.lt_of_lt_of_le (Nat.lt_of_lt_of_le A137.lt K144.1) y319))) (ninS (Ne.symm (Nat.ne_of_lt (Nat.lt_of_lt_of_le y150.lt y319))) nin0)))
    have y467 := (y333.keep K339)
    have y468 := (y334.keep K339 (ninS (ne_exa y467 y354 (by decide)) (ninS (ne_exa y467 y358 (by decide)) nin0)))
    have y469 := (y335.keep K339)
    have y470 := (y336.keep K339 (ninS (ne_exa y469 y354 (by decide)) (ninS (ne_exa y469 y358 (by decide)) nin0)))
    have ge471 : n0 ≤ r313 := Nat.le_trans (own_old_le O156) y319
    obtain ⟨_, L451, T451, ⟨rfl, M451, K451, y472, y473⟩, X451, st451⟩ := own_callV X381 hx hZ hown (hw _ (mi 142 rfl)) (wd29 hw) (notFace_of_selects (args := #[]) (mvT hZ (hw _ (mi 145 rfl)))) y378 (rm_aa11R hw b116 r125 (1 : Int64) (1 : Int32) (1 : Int32) q3 cb lc kc lcs b137 r146 (1 : Int32) (1 : Int32) r351 r352 r353 r313 r314 r315 q1 (1 : Int64) T339.heap n0 O375 y378 y453 y379 ge124 ge312 (own_n1 b_cb (by decide)) (own_nneg own_b1 (by decide)) (own_nneg bb452 (by decide)) S0_ ZA1_ hlc y354 y355 y358 y359 y360 y361 y362 y363 ge344 y364 y365 y366 y367 y368 y369 y370 y371 y372 y373 y374 (Nat.ne_of_lt (Nat.lt_of_lt_of_le (Nat.lt_of_lt_of_le y129.lt E137.1) y147)) y454 y455 y456 y457 y458 y459 y460 y461 y462 y463 y464 y465 y466 y467 y468 y469 y470 ge471 hg449) g450 e381 [] rfl (lenOf pd_26 rfl) (hb hby at_205) hml.symm 0 rfl (by decide)
    have N451 := Fr.app N381 M451
    have O474 := O375.keep K451 (allS ge124 (allS ge344 (allS ge312 (allS ge471 all0))))
    have g475 := ja X451 hx (jN X451 hx (ji X451 hx (js X451 hx (jc X451 hx (jY X451 hx (ji X451 hx st451 (hb hby at_208) rfl) (hb hby at_210) rfl (by decide) (pc' := 222) (by decide)) (hb hby at_222) 0 rfl) (hb hby at_223) rfl (l' := #[.val (.long q1), .second, .val (.long q2), .second, .val (.long q3), .second, .val (.long q4), .second, iv q5, .val (.long ca), .second, .val (.long cb), .second, iv 1, iv 1, rv b116, rv b137, iv 1, iv 0, iv 0]) rfl) (hb hby at_225) rfl) (hb hby at_227) rfl (by decide)) (hb hby at_230) rfl rfl
    obtain ⟨_, L476, T476, ⟨rfl, M476, e476⟩, X476, st476⟩ := own_callV X451 hx hZ hown (hw _ (mi 31 rfl)) (wd28 hw) (notFace_of_selects (args := #[]) (mvT hZ (hw _ (mi 34 rfl)))) y473 (rm_isE1 hw b116 ((1 : Int64) + cb) T451.heap n0 O474 y472 (own_n0 bb452 (by decide))) g475 rfl [] rfl (lenOf pd_23 rfl) (hb hby at_232) hml.symm 0 rfl (by decide)
    have N476 := Fr.app N451 M476
    have g477 := ja X476 hx (jn X476 hx (ji X476 hx st476 (hb hby at_235) rfl) (hb hby at_237) rfl (by decide)) (hb hby at_240) rfl rfl
    have y479 := (y354.keep K451)
    have y480 := (y356.keep K451 (ninS (Ne.symm (Nat.ne_of_lt (Nat.lt_of_lt_of_le (Nat.lt_of_lt_of_le A116.lt K123.1) (Nat.le_of_eq gb137.symm)))) (ninS (Nat.ne_of_lt (Nat.lt_of_lt_of_le A137.lt y147)) (ninS (Ne.symm (Nat.ne_of_lt (Nat.lt_of_lt_of_le y129.lt (Nat.le_of_eq gb137.symm)))) (ninS (Nat.ne_of_lt (Nat.lt_of_lt_of_le (Nat.lt_of_lt_of_le A137.lt K144.1) y319)) nin0)))))
    obtain ⟨_, L478, T478, ⟨rfl, M478, e478⟩, X478, st478⟩ := own_callV X476 hx hZ hown (hw _ (mi 31 rfl)) (wd28 hw) (notFace_of_selects (args := #[]) (mvT hZ (hw _ (mi 34 rfl)))) y479 (rm_isE1 hw b137 ((0 : Int64) + cb) T451.heap n0 O474 y480 (own_n0 bb341 (by decide))) g477 e476 [] rfl (lenOf pd_23 rfl) (hb hby at_242) hml.symm 0 rfl (by decide)
    have N478 := Fr.app N476 M478
    have g481 := ji X478 hx (js X478 hx (jg X478 hx (jc X478 hx (jn X478 hx (jc X478 hx (jY X478 hx (ji X478 hx st478 (hb hby at_245) rfl) (hb hby at_247) rfl (by decide) (pc' := 254) (by decide)) (hb hby at_254) 0 rfl) (hb hby at_255) rfl (by decide)) (hb hby at_258) 1 rfl) (hb hby at_259) (pc' := 263) (by decide)) (hb hby at_263) rfl (l' := #[.val (.long q1), .second, .val (.long q2), .second, .val (.long q3), .second, .val (.long q4), .second, iv q5, .val (.long ca), .second, .val (.long cb), .second, iv 1, iv 1, rv b116, rv b137, iv 1, iv 0, iv 0]) rfl) (hb hby at_265) rfl
    refine own_leave X478 Bd (some (.int 1)) nofun g481 (fun fs hr => retN X478 hx (t := .boolean) Bd.returns (by simp) (hb hby at_267) hr) (by decide) (by decide) ?_
    exact ⟨rfl, N478⟩
  ·
    subst c165
    rcases (j114 : fl = (0 : Int32) ∨ fl = (1 : Int32)) with c482 | c482
    ·
      subst c482
      have g483 := show Go p e below T162 (mkF m 106 #[.val (.long q1), .second, .val (.long q2), .second, .val (.long q3), .second, .val (.long q4), .second, iv q5, .val (.long ca), .second, .val (.long cb), .second, iv 2, iv 0, rv b116, rv b137, iv 1, .unset, .unset] [(.long ca), (.long q1), (.ref b116)]) A0 from fun t kt => (show Go p e below T162 (mkF m 104 #[.val (.long q1), .second, .val (.long q2), .second, .val (.long q3), .second, .val (.long q4), .second, iv q5, .val (.long ca), .second, .val (.long cb), .second, iv 2, iv 0, rv b116, rv b137, iv 1, .unset, .unset] [(.long q1), (.ref b116)]) A0 from fun t kt => (ja X162 hx (jn X162 hx (jc X162 hx (ji X162 hx (jy X162 hx (jc X162 hx (ji X162 hx g164 (hb hby at_80) rfl) (hb hby at_82) 1 rfl) (hb hby at_83) rfl (by decide) (pc' := 95) (by decide)) (hb hby at_95) rfl) (hb hby at_97) 2 rfl) (hb hby at_98) rfl (by decide)) (hb hby at_101) rfl rfl) t (by refine XS.lloadN X162.here hx rfl (hb hby at_103) rfl ?_; exact kt)) t (by refine XS.lload X162.here hx rfl (hb hby at_104) rfl ?_; exact kt)
      have bb485 : (1 : Int) ≤ ((0 : Int64) + ca).toInt ∧ ((0 : Int64) + ca).toInt ≤ 1152921504606846976 := own_addb own_b0 b_ca (by decide) (by decide)
      have y486 := ((y127.ext E137).keep K144 (ninS (Nat.ne_of_lt (Nat.lt_of_lt_of_le (Nat.lt_of_lt_of_le A116.lt K123.1) (Nat.le_of_eq gb137.symm))) nin0))
      have ge487 : n0 ≤ r125 := Nat.le_trans (own_old_le O118) y126
      have y488 := ((y129.ext E137).keep K144)
      have y489 := ((y130.ext E137).keep K144 (ninS (Nat.ne_of_lt (Nat.lt_of_lt_of_le y129.lt (Nat.le_of_eq gb137.symm))) nin0))
      have y490 := ((y131.ext E137).keep K144 (ninS (Nat.ne_of_lt (Nat.lt_of_lt_of_le y129.lt (Nat.le_of_eq gb137.symm))) nin0))
      have y491 := ((y132.ext E137).keep K144 (ninS (Nat.ne_of_lt (Nat.lt_of_lt_of_le y129.lt (Nat.le_of_eq gb137.symm))) nin0))
      have y492 := ((y133.ext E137).keep K144 (ninS (Nat.ne_of_lt (Nat.lt_of_lt_of_le y129.lt (Nat.le_of_eq gb137.symm))) nin0))
      have y493 := ((y134.ext E137).keep K144 (ninS (Nat.ne_of_lt (Nat.lt_of_lt_of_le y129.lt (Nat.le_of_eq gb137.symm))) nin0))
      obtain ⟨_, L484, T484, ⟨r494, r495, r496, rfl, M484, K484, y497, y498, y499, y500, y501, y502, y503, y504, y505, y506, y507, y508, y509, y510, y511, y512, y513, y514, y515, y516, y517⟩, X484, st484⟩ := own_callV X162 hx hZ hown (hw _ (mi 38 rfl)) (wd17 hw) (notFace_of_selects (args := #[]) (mvT hZ (hw _ (mi 41 rfl)))) y159 (rm_ad0 hw b116 r125 (0 : Int64) (0 : Int32) (0 : Int32) q1 ca lc kc lcs T144.heap n0 O156 y159 y486 y160 ge124 ge487 (own_n1 b_ca (by decide)) (own_nneg own_b0 (by decide)) (own_nneg bb485 (by decide)) S0_ ZA1_ hlc y488 y489 y490 y491 y492 y493) g483 e162 [] rfl (lenOf pd_15 rfl) (hb hby at_106) hml.symm 0 rfl (by decide)
      have N484 := Fr.app N162 M484
      have O518 := O156.keep K484 (allS ge124 (allS ge487 all0))
      have g519 := ja X484 hx (jN X484 hx (ji X484 hx (js X484 hx (jc X484 hx (jY X484 hx (ji X484 hx (jY X484 hx (ji X484 hx (jg X484 hx st484 (hb hby at_109) (pc' := 135) (by decide)) (hb hby at_135) rfl) (hb hby at_137) rfl (by decide) (pc' := 149) (by decide)) (hb hby at_149) rfl) (hb hby at_151) rfl (by decide) (pc' := 158) (by decide)) (hb hby at_158) 0 rfl) (hb hby at_159) rfl (l' := #[.val (.long q1), .second, .val (.long q2), .second, .val (.long q3), .second, .val (.long q4), .second, iv q5, .val (.long ca), .second, .val (.long cb), .second, iv 2, iv 0, rv b116, rv b137, iv 1, iv 0, .unset]) rfl) (hb hby at_161) rfl) (hb hby at_163) rfl (by decide)) (hb hby at_166) rfl rfl
      obtain ⟨_, L520, T520, ⟨rfl, M520, e520⟩, X520, st520⟩ := own_callV X484 hx hZ hown (hw _ (mi 31 rfl)) (wd28 hw) (notFace_of_selects (args := #[]) (mvT hZ (hw _ (mi 34 rfl)))) y497 (rm_isE1 hw b116 ((0 : Int64) + ca) T484.heap n0 O518 y499 (own_n0 bb485 (by decide))) g519 rfl [] rfl (lenOf pd_23 rfl) (hb hby at_168) hml.symm 0 rfl (by decide)
      have N520 := Fr.app N484 M520
      have g521 := ja X520 hx (jn X520 hx (ji X520 hx st520 (hb hby at_171) rfl) (hb hby at_173) rfl (by decide)) (hb hby at_176) rfl rfl
      have y523 := (y163.keep K484)
      have y524 := (y149.keep K484 (ninS (Ne.symm (Nat.ne_of_lt (Nat.lt_of_lt_of_le (Nat.lt_of_lt_of_le A116.lt K123.1) (Nat.le_of_eq gb137.symm)))) (ninS (Ne.symm (Nat.ne_of_lt (Nat.lt_of_lt_of_le y129.lt (Nat.le_of_eq gb137.symm)))) nin0)))
      obtain ⟨_, L522, T522, ⟨rfl, M522, e522⟩, X522, st522⟩ := own_callV X520 hx hZ hown (hw _ (mi 31 rfl)) (wd28 hw) (notFace_of_selects (args := #[]) (mvT hZ (hw _ (mi 34 rfl)))) y523 (rm_isE0 hw b137 (0 : Int64) T484.heap n0 O518 y524 rfl) g521 e520 [] rfl (lenOf pd_23 rfl) (hb hby at_178) hml.symm 0 rfl (by decide)
      have N522 := Fr.app N520 M522
      have g525 := ja X522 hx (ja X522 hx (js X522 hx (jg X522 hx (jc X522 hx (jn X522 hx (jg X522 hx (jc X522 hx (jN X522 hx (ji X522 hx st522 (hb hby at_181) rfl) (hb hby at_183) rfl (by decide)) (hb hby at_186) 1 rfl) (hb hby at_187) (pc' := 191) (by decide)) (hb hby at_191) rfl (by decide)) (hb hby at_194) 1 rfl) (hb hby at_195) (pc' := 199) (by decide)) (hb hby at_199) rfl (l' := #[.val (.long q1), .second, .val (.long q2), .second, .val (.long q3), .second, .val (.long q4), .second, iv q5, .val (.long ca), .second, .val (.long cb), .second, iv 2, iv 0, rv b116, rv b137, iv 1, iv 0, .unset]) rfl) (hb hby at_201) rfl rfl) (hb hby at_203) rfl rfl
      have y527 := (y148.keep K484 (ninS (Ne.symm (Nat.ne_of_lt (Nat.lt_of_lt_of_le (Nat.lt_of_lt_of_le A116.lt K123.1) (Nat.le_of_eq gb137.symm)))) (ninS (Ne.symm (Nat.ne_of_lt (Nat.lt_of_lt_of_le y129.lt (Nat.le_of_eq gb137.symm)))) nin0)))
      have y528 := (y150.keep K484)
      have y529 := (y151.keep K484 (ninS (Ne.symm (Nat.ne_of_lt (Nat.lt_of_lt_of_le (Nat.lt_of_lt_of_le A116.lt (Nat.le_trans K123.1 E137.1)) y147))) (ninS (Ne.symm (Nat.ne_of_lt (Nat.lt_of_lt_of_le (Nat.lt_of_lt_of_le y129.lt E137.1) y147))) nin0)))
      have y530 := (y152.keep K484 (ninS (Ne.symm (Nat.ne_of_lt (Nat.lt_of_lt_of_le (Nat.lt_of_lt_of_le A116.lt (Nat.le_trans K123.1 E137.1)) y147))) (ninS (Ne.symm (Nat.ne_of_lt (Nat.lt_of_lt_of_le (Nat.lt_of_lt_of_le y129.lt E137.1) y147))) nin0)))
      have y531 := (y153.keep K484 (ninS (Ne.symm (Nat.ne_of_lt (Nat.lt_of_lt_of_le (Nat.lt_of_lt_of_le A116.lt (Nat.le_trans K123.1 E137.1)) y147))) (ninS (Ne.symm (Nat.ne_of_lt (Nat.lt_of_lt_of_le (Nat.lt_of_lt_of_le y129.lt E137.1) y147))) nin0)))
      have y532 := (y154.keep K484 (ninS (Ne.symm (Nat.ne_of_lt (Nat.lt_of_lt_of_le (Nat.lt_of_lt_of_le A116.lt (Nat.le_trans K123.1 E137.1)) y147))) (ninS (Ne.symm (Nat.ne_of_lt (Nat.lt_of_lt_of_le (Nat.lt_of_lt_of_le y129.lt E137.1) y147))) nin0)))
      have y533 := (y155.keep K484 (ninS (Ne.symm (Nat.ne_of_lt (Nat.lt_of_lt_of_le (Nat.lt_of_lt_of_le A116.lt (Nat.le_trans K123.1 E137.1)) y147))) (ninS (Ne.symm (Nat.ne_of_lt (Nat.lt_of_lt_of_le (Nat.lt_of_lt_of_le y129.lt E137.1) y147))) nin0)))
      have ge534 : n0 ≤ r146 := Nat.le_trans (own_old_le O139) y147
      obtain ⟨_, L526, T526, ⟨rfl, M526, K526⟩, X526, st526⟩ := own_callV X522 hx hZ hown (hw _ (mi 142 rfl)) (wd29 hw) (notFace_of_selects (args := #[]) (mvT hZ (hw _ (mi 145 rfl)))) y497 (rm_aa0 hw b116 b137 r146 (0 : Int32) (0 : Int32) T484.heap n0 O518 y523 y527 y528 y529 y530 y531 y532 y533 ge534 y497) g525 e522 [] rfl (lenOf pd_26 rfl) (hb hby at_205) hml.symm 0 rfl (by decide)
      have N526 := Fr.app N522 M526
      have O535 := O518.keep K526 (allS ge534 all0)
      have g536 := ja X526 hx (jN X526 hx (ji X526 hx (js X526 hx (jc X526 hx (jY X526 hx (ji X526 hx st526 (hb hby at_208) rfl) (hb hby at_210) rfl (by decide) (pc' := 222) (by decide)) (hb hby at_222) 0 rfl) (hb hby at_223) rfl (l' := #[.val (.long q1), .second, .val (.long q2), .second, .val (.long q3), .second, .val (.long q4), .second, iv q5, .val (.long ca), .second, .val (.long cb), .second, iv 2, iv 0, rv b116, rv b137, iv 1, iv 0, iv 0]) rfl) (hb hby at_225) rfl) (hb hby at_227) rfl (by decide)) (hb hby at_230) rfl rfl
      have y538 := (y497.keep K526)
      have y539 := (y499.keep K526 (ninS (Nat.ne_of_lt (Nat.lt_of_lt_of_le (Nat.lt_of_lt_of_le A116.lt (Nat.le_trans K123.1 E137.1)) y147)) nin0))
      obtain ⟨_, L537, T537, ⟨rfl, M537, e537⟩, X537, st537⟩ := own_callV X526 hx hZ hown (hw _ (mi 31 rfl)) (wd28 hw) (notFace_of_selects (args := #[]) (mvT hZ (hw _ (mi 34 rfl)))) y538 (rm_isE1 hw b116 ((0 : Int64) + ca) T526.heap n0 O535 y539 (own_n0 bb485 (by decide))) g536 rfl [] rfl (lenOf pd_23 rfl) (hb hby at_232) hml.symm 0 rfl (by decide)
      have N537 := Fr.app N526 M537
      have g540 := ja X537 hx (jn X537 hx (ji X537 hx st537 (hb hby at_235) rfl) (hb hby at_237) rfl (by decide)) (hb hby at_240) rfl rfl
      have y542 := (y523.keep K526)
      have y543 := (y524.keep K526 (ninS (Nat.ne_of_lt (Nat.lt_of_lt_of_le A137.lt y147)) nin0))
      obtain ⟨_, L541, T541, ⟨rfl, M541, e541⟩, X541, st541⟩ := own_callV X537 hx hZ hown (hw _ (mi 31 rfl)) (wd28 hw) (notFace_of_selects (args := #[]) (mvT hZ (hw _ (mi 34 rfl)))) y542 (rm_isE0 hw b137 (0 : Int64) T526.heap n0 O535 y543 rfl) g540 e537 [] rfl (lenOf pd_23 rfl) (hb hby at_242) hml.symm 0 rfl (by decide)
      have N541 := Fr.app N537 M541
      have g544 := ji X541 hx (js X541 hx (jg X541 hx (jc X541 hx (jn X541 hx (jg X541 hx (jc X541 hx (jN X541 hx (ji X541 hx st541 (hb hby at_245) rfl) (hb hby at_247) rfl (by decide)) (hb hby at_250) 1 rfl) (hb hby at_251) (pc' := 255) (by decide)) (hb hby at_255) rfl (by decide)) (hb hby at_258) 1 rfl) (hb hby at_259) (pc' := 263) (by decide)) (hb hby at_263) rfl (l' := #[.val (.long q1), .second, .val (.long q2), .second, .val (.long q3), .second, .val (.long q4), .second, iv q5, .val (.long ca), .second, .val (.long cb), .second, iv 2, iv 0, rv b116, rv b137, iv 1, iv 0, iv 0]) rfl) (hb hby at_265) rfl
      refine own_leave X541 Bd (some (.int 1)) nofun g544 (fun fs hr => retN X541 hx (t := .boolean) Bd.returns (by simp) (hb hby at_267) hr) (by decide) (by decide) ?_
      exact ⟨rfl, N541⟩
    subst c482
    have g545 := show Go p e below T162 (mkF m 106 #[.val (.long q1), .second, .val (.long q2), .second, .val (.long q3), .second, .val (.long q4), .second, iv q5, .val (.long ca), .second, .val (.long cb), .second, iv 2, iv 1, rv b116, rv b137, iv 1, .unset, .unset] [(.long ca), (.long q1), (.ref b116)]) A0 from fun t kt => (show Go p e below T162 (mkF m 104 #[.val (.long q1), .second, .val (.long q2), .second, .val (.long q3), .second, .val (.long q4), .second, iv q5, .val (.long ca), .second, .val (.long cb), .second, iv 2, iv 1, rv b116, rv b137, iv 1, .unset, .unset] [(.long q1), (.ref b116)]) A0 from fun t kt => (ja X162 hx (jn X162 hx (jc X162 hx (ji X162 hx (jy X162 hx (jc X162 hx (ji X162 hx g164 (hb hby at_80) rfl) (hb hby at_82) 1 rfl) (hb hby at_83) rfl (by decide) (pc' := 95) (by decide)) (hb hby at_95) rfl) (hb hby at_97) 2 rfl) (hb hby at_98) rfl (by decide)) (hb hby at_101) rfl rfl) t (by refine XS.lloadN X162.here hx rfl (hb hby at_103) rfl ?_; exact kt)) t (by refine XS.lload X162.here hx rfl (hb hby at_104) rfl ?_; exact kt)
    have bb547 : (1 : Int) ≤ ((0 : Int64) + ca).toInt ∧ ((0 : Int64) + ca).toInt ≤ 1152921504606846976 := own_addb own_b0 b_ca (by decide) (by decide)
    have y548 := ((y127.ext E137).keep K144 (ninS (Nat.ne_of_lt (Nat.lt_of_lt_of_le (Nat.lt_of_lt_of_le A116.lt K123.1) (Nat.le_of_eq gb137.symm))) nin0))
    have ge549 : n0 ≤ r125 := Nat.le_trans (own_old_le O118) y126
    have y550 := ((y129.ext E137).keep K144)
    have y551 := ((y130.ext E137).keep K144 (ninS (Nat.ne_of_lt (Nat.lt_of_lt_of_le y129.lt (Nat.le_of_eq gb137.symm))) nin0))
    have y552 := ((y131.ext E137).keep K144 (ninS (Nat.ne_of_lt (Nat.lt_of_lt_of_le y129.lt (Nat.le_of_eq gb137.symm))) nin0))
    have y553 := ((y132.ext E137).keep K144 (ninS (Nat.ne_of_lt (Nat.lt_of_lt_of_le y129.lt (Nat.le_of_eq gb137.symm))) nin0))
    have y554 := ((y133.ext E137).keep K144 (ninS (Nat.ne_of_lt (Nat.lt_of_lt_of_le y129.lt (Nat.le_of_eq gb137.symm))) nin0))
    have y555 := ((y134.ext E137).keep K144 (ninS (Nat.ne_of_lt (Nat.lt_of_lt_of_le y129.lt (Nat.le_of_eq gb137.symm))) nin0))
    obtain ⟨_, L546, T546, ⟨r556, r557, r558, rfl, M546, K546, y559, y560, y561, y562, y563, y564, y565, y566, y567, y568, y569, y570, y571, y572, y573, y574, y575, y576, y577, y578, y579⟩, X546, st546⟩ := own_callV X162 hx hZ hown (hw _ (mi 38 rfl)) (wd17 hw) (notFace_of_selects (args := #[]) (mvT hZ (hw _ (mi 41 rfl)))) y159 (rm_ad0 hw b116 r125 (0 : Int64) (0 : Int32) (0 : Int32) q1 ca lc kc lcs T144.heap n0 O156 y159 y548 y160 ge124 ge549 (own_n1 b_ca (by decide)) (own_nneg own_b0 (by decide)) (own_nneg bb547 (by decide)) S0_ ZA1_ hlc y550 y551 y552 y553 y554 y555) g545 e162 [] rfl (lenOf pd_15 rfl) (hb hby at_106) hml.symm 0 rfl (by decide)
    have N546 := Fr.app N162 M546
    have O580 := O156.keep K546 (allS ge124 (allS ge549 all0))
    have g581 := show Go p e below T546 (mkF m 146 #[.val (.long q1), .second, .val (.long q2), .second, .val (.long q3), .second, .val (.long q4), .second, iv q5, .val (.long ca), .second, .val (.long cb), .second, iv 2, iv 1, rv b116, rv b137, iv 1, .unset, .unset] [(.long cb), (.long q3), (.ref b137)]) A0 from fun t kt => (show Go p e below T546 (mkF m 144 #[.val (.long q1), .second, .val (.long q2), .second, .val (.long q3), .second, .val (.long q4), .second, iv q5, .val (.long ca), .second, .val (.long cb), .second, iv 2, iv 1, rv b116, rv b137, iv 1, .unset, .unset] [(.long q3), (.ref b137)]) A0 from fun t kt => (ja X546 hx (jN X546 hx (ji X546 hx (jg X546 hx st546 (hb hby at_109) (pc' := 135) (by decide)) (hb hby at_135) rfl) (hb hby at_137) rfl (by decide)) (hb hby at_140) rfl rfl) t (by refine XS.lload X546.here hx rfl (hb hby at_142) rfl ?_; exact kt)) t (by refine XS.lload X546.here hx rfl (hb hby at_144) rfl ?_; exact kt)
    have y583 := (y163.keep K546)
    have bb584 : (1 : Int) ≤ ((0 : Int64) + cb).toInt ∧ ((0 : Int64) + cb).toInt ≤ 1152921504606846976 := own_addb own_b0 b_cb (by decide) (by decide)
    have y585 := (y148.keep K546 (ninS (Ne.symm (Nat.ne_of_lt (Nat.lt_of_lt_of_le (Nat.lt_of_lt_of_le A116.lt K123.1) (Nat.le_of_eq gb137.symm)))) (ninS (Ne.symm (Nat.ne_of_lt (Nat.lt_of_lt_of_le y129.lt (Nat.le_of_eq gb137.symm)))) nin0)))
    have y586 := (y149.keep K546 (ninS (Ne.symm (Nat.ne_of_lt (Nat.lt_of_lt_of_le (Nat.lt_of_lt_of_le A116.lt K123.1) (Nat.le_of_eq gb137.symm)))) (ninS (Ne.symm (Nat.ne_of_lt (Nat.lt_of_lt_of_le y129.lt (Nat.le_of_eq gb137.symm)))) nin0)))
    have ge587 : n0 ≤ r146 := Nat.le_trans (own_old_le O139) y147
    have y588 := (y150.keep K546)
    have y589 := (y151.keep K546 (ninS (Ne.symm (Nat.ne_of_lt (Nat.lt_of_lt_of_le (Nat.lt_of_lt_of_le A116.lt (Nat.le_trans K123.1 E137.1)) y147))) (ninS (Ne.symm (Nat.ne_of_lt (Nat.lt_of_lt_of_le (Nat.lt_of_lt_of_le y129.lt E137.1) y147))) nin0)))
    have y590 := (y152.keep K546 (ninS (Ne.symm (Nat.ne_of_lt (Nat.lt_of_lt_of_le (Nat.lt_of_lt_of_le A116.lt (Nat.le_trans K123.1 E137.1)) y147))) (ninS (Ne.symm (Nat.ne_of_lt (Nat.lt_of_lt_of_le (Nat.lt_of_lt_of_le y129.lt E137.1) y147))) nin0)))
    have y591 := (y153.keep K546 (ninS (Ne.symm (Nat.ne_of_lt (Nat.lt_of_lt_of_le (Nat.lt_of_lt_of_le A116.lt (Nat.le_trans K123.1 E137.1)) y147))) (ninS (Ne.symm (Nat.ne_of_lt (Nat.lt_of_lt_of_le (Nat.lt_of_lt_of_le y129.lt E137.1) y147))) nin0)))
    have y592 := (y154.keep K546 (ninS (Ne.symm (Nat.ne_of_lt (Nat.lt_of_lt_of_le (Nat.lt_of_lt_of_le A116.lt (Nat.le_trans K123.1 E137.1)) y147))) (ninS (Ne.symm (Nat.ne_of_lt (Nat.lt_of_lt_of_le (Nat.lt_of_lt_of_le y129.lt E137.1) y147))) nin0)))
    have y593 := (y155.keep K546 (ninS (Ne.symm (Nat.ne_of_lt (Nat.lt_of_lt_of_le (Nat.lt_of_lt_of_le A116.lt (Nat.le_trans K123.1 E137.1)) y147))) (ninS (Ne.symm (Nat.ne_of_lt (Nat.lt_of_lt_of_le (Nat.lt_of_lt_of_le y129.lt E137.1) y147))) nin0)))
    obtain ⟨_, L582, T582, ⟨r594, r595, r596, rfl, M582, K582, y597, y598, y599, y600, y601, y602, y603, y604, y605, y606, y607, y608, y609, y610, y611, y612, y613, y614, y615, y616, y617⟩, X582, st582⟩ := own_callV X546 hx hZ hown (hw _ (mi 38 rfl)) (wd17 hw) (notFace_of_selects (args := #[]) (mvT hZ (hw _ (mi 41 rfl)))) y583 (rm_ad0 hw b137 r146 (0 : Int64) (0 : Int32) (0 : Int32) q3 cb lc kc lcs T546.heap n0 O580 y583 y585 y586 ge145 ge587 (own_n1 b_cb (by decide)) (own_nneg own_b0 (by decide)) (own_nneg bb584 (by decide)) S0_ ZA1_ hlc y588 y589 y590 y591 y592 y593) g581 rfl [] rfl (lenOf pd_15 rfl) (hb hby at_146) hml.symm 0 rfl (by decide)
    have N582 := Fr.app N546 M582
    have O618 := O580.keep K582 (allS ge145 (allS ge587 all0))
    have g619 := ja X582 hx (jN X582 hx (ji X582 hx (js X582 hx (jc X582 hx (jY X582 hx (ji X582 hx st582 (hb hby at_149) rfl) (hb hby at_151) rfl (by decide) (pc' := 158) (by decide)) (hb hby at_158) 0 rfl) (hb hby at_159) rfl (l' := #[.val (.long q1), .second, .val (.long q2), .second, .val (.long q3), .second, .val (.long q4), .second, iv q5, .val (.long ca), .second, .val (.long cb), .second, iv 2, iv 1, rv b116, rv b137, iv 1, iv 0, .unset]) rfl) (hb hby at_161) rfl) (hb hby at_163) rfl (by decide)) (hb hby at_166) rfl rfl
    have y621 := (y559.keep K582)
    have y622 := (y561.keep K582 (ninS (Nat.ne_of_lt (Nat.lt_of_lt_of_le (Nat.lt_of_lt_of_le A116.lt K123.1) (Nat.le_of_eq gb137.symm))) (ninS (Nat.ne_of_lt (Nat.lt_of_lt_of_le (Nat.lt_of_lt_of_le A116.lt (Nat.le_trans K123.1 E137.1)) y147)) nin0)))
    obtain ⟨_, L620, T620, ⟨rfl, M620, e620⟩, X620, st620⟩ := own_callV X582 hx hZ hown (hw _ (mi 31 rfl)) (wd28 hw) (notFace_of_selects (args := #[]) (mvT hZ (hw _ (mi 34 rfl)))) y621 (rm_isE1 hw b116 ((0 : Int64) + ca) T582.heap n0 O618 y622 (own_n0 bb547 (by decide))) g619 rfl [] rfl (lenOf pd_23 rfl) (hb hby at_168) hml.symm 0 rfl (by decide)
    have N620 := Fr.app N582 M620
    have g623 := ja X620 hx (jn X620 hx (ji X620 hx st620 (hb hby at_171) rfl) (hb hby at_173) rfl (by decide)) (hb hby at_176) rfl rfl
    obtain ⟨_, L624, T624, ⟨rfl, M624, e624⟩, X624, st624⟩ := own_callV X620 hx hZ hown (hw _ (mi 31 rfl)) (wd28 hw) (notFace_of_selects (args := #[]) (mvT hZ (hw _ (mi 34 rfl)))) y597 (rm_isE1 hw b137 ((0 : Int64) + cb) T582.heap n0 O618 y599 (own_n0 bb584 (by decide))) g623 e620 [] rfl (lenOf pd_23 rfl) (hb hby at_178) hml.symm 0 rfl (by decide)
    have N624 := Fr.app N620 M624
    have g626 := js X624 hx (jg X624 hx (jc X624 hx (jn X624 hx (jc X624 hx (jY X624 hx (ji X624 hx st624 (hb hby at_181) rfl) (hb hby at_183) rfl (by decide) (pc' := 190) (by decide)) (hb hby at_190) 0 rfl) (hb hby at_191) rfl (by decide)) (hb hby at_194) 1 rfl) (hb hby at_195) (pc' := 199) (by decide)) (hb hby at_199) rfl (l' := #[.val (.long q1), .second, .val (.long q2), .second, .val (.long q3), .second, .val (.long q4), .second, iv q5, .val (.long ca), .second, .val (.long cb), .second, iv 2, iv 1, rv b116, rv b137, iv 1, iv 0, .unset]) rfl
    by_cases c625 : q3 < q1
    ·
      have g627 := ja X624 hx (ja X624 hx g626 (hb hby at_201) rfl rfl) (hb hby at_203) rfl rfl
      have bb629 : (2 : Int) ≤ (((0 : Int64) + ca) + cb).toInt ∧ (((0 : Int64) + ca) + cb).toInt ≤ 2305843009213693952 := own_addb bb547 b_cb (by decide) (by decide)
      have y630 := (y560.keep K582 (ninS (Nat.ne_of_lt (Nat.lt_of_lt_of_le (Nat.lt_of_lt_of_le A116.lt K123.1) (Nat.le_of_eq gb137.symm))) (ninS (Nat.ne_of_lt (Nat.lt_of_lt_of_le (Nat.lt_of_lt_of_le A116.lt (Nat.le_trans K123.1 E137.1)) y147)) nin0)))
      have y631 := (y563.keep K582)
      have y632 := (y564.keep K582 (ninS (Nat.ne_of_lt (Nat.lt_of_lt_of_le y129.lt (Nat.le_of_eq gb137.symm))) (ninS (Nat.ne_of_lt (Nat.lt_of_lt_of_le (Nat.lt_of_lt_of_le y129.lt E137.1) y147)) nin0)))
      have y633 := (y565.keep K582 (ninS (Nat.ne_of_lt (Nat.lt_of_lt_of_le y129.lt (Nat.le_of_eq gb137.symm))) (ninS (Nat.ne_of_lt (Nat.lt_of_lt_of_le (Nat.lt_of_lt_of_le y129.lt E137.1) y147)) nin0)))
      have y634 := (y566.keep K582 (ninS (Nat.ne_of_lt (Nat.lt_of_lt_of_le y129.lt (Nat.le_of_eq gb137.symm))) (ninS (Nat.ne_of_lt (Nat.lt_of_lt_of_le (Nat.lt_of_lt_of_le y129.lt E137.1) y147)) nin0)))
      have y635 := (y567.keep K582 (ninS (Nat.ne_of_lt (Nat.lt_of_lt_of_le y129.lt (Nat.le_of_eq gb137.symm))) (ninS (Nat.ne_of_lt (Nat.lt_of_lt_of_le (Nat.lt_of_lt_of_le y129.lt E137.1) y147)) nin0)))
      have y636 := (y568.keep K582 (ninS (Nat.ne_of_lt (Nat.lt_of_lt_of_le y129.lt (Nat.le_of_eq gb137.symm))) (ninS (Nat.ne_of_lt (Nat.lt_of_lt_of_le (Nat.lt_of_lt_of_le y129.lt E137.1) y147)) nin0)))
      have y637 := (y569.keep K582)
      have y638 := (y570.keep K582 (ninS (Ne.symm (Nat.ne_of_lt (Nat.lt_of_lt_of_le (Nat.lt_of_lt_of_le A137.lt K144.1) y562))) (ninS (Ne.symm (Nat.ne_of_lt (Nat.lt_of_lt_of_le y150.lt y562))) nin0)))
      have y639 := (y571.keep K582 (ninS (Ne.symm (Nat.ne_of_lt (Nat.lt_of_lt_of_le (Nat.lt_of_lt_of_le A137.lt K144.1) y562))) (ninS (Ne.symm (Nat.ne_of_lt (Nat.lt_of_lt_of_le y150.lt y562))) nin0)))
      have y640 := (y572.keep K582 (ninS (Ne.symm (Nat.ne_of_lt (Nat.lt_of_lt_of_le (Nat.lt_of_lt_of_le A137.lt K144.1) y562))) (ninS (Ne.symm (Nat.ne_of_lt (Nat.lt_of_lt_of_le y150.lt y562))) nin0)))
      have y641 := (y573.keep K582 (ninS (Ne.symm (Nat.ne_of_lt (Nat.lt_of_lt_of_le (Nat.lt_of_lt_of_le A137.lt K144.1) y562))) (ninS (Ne.symm (Nat.ne_of_lt (Nat.lt_of_lt_of_le y150.lt y562))) nin0)))
      have y642 := (y574.keep K582 (ninS (Ne.symm (Nat.ne_of_lt (Nat.lt_of_lt_of_le (Nat.lt_of_lt_of_le A137.lt K144.1) y562))) (ninS (Ne.symm (Nat.ne_of_lt (Nat.lt_of_lt_of_le y150.lt y562))) nin0)))
      have y643 := (y575.keep K582 (ninS (Ne.symm (Nat.ne_of_lt (Nat.lt_of_lt_of_le (Nat.lt_of_lt_of_le A137.lt K144.1) y562))) (ninS (Ne.symm (Nat.ne_of_lt (Nat.lt_of_lt_of_le y150.lt y562))) nin0)))
      have y644 := (y576.keep K582)
      have y645 := (y577.keep K582 (ninS (ne_exa y644 y597 (by decide)) (ninS (ne_exa y644 y601 (by decide)) nin0)))
      have y646 := (y578.keep K582)
      have y647 := (y579.keep K582 (ninS (ne_exa y646 y597 (by decide)) (ninS (ne_exa y646 y601 (by decide)) nin0)))
      have ge648 : n0 ≤ r556 := Nat.le_trans (own_old_le O156) y562
      obtain ⟨_, L628, T628, ⟨rfl, M628, K628, y649, y650⟩, X628, st628⟩ := own_callV X624 hx hZ hown (hw _ (mi 142 rfl)) (wd29 hw) (notFace_of_selects (args := #[]) (mvT hZ (hw _ (mi 145 rfl)))) y621 (rm_aa11L hw b116 r125 ((0 : Int64) + ca) (1 : Int32) (1 : Int32) q3 cb lc kc lcs b137 r146 (1 : Int32) (1 : Int32) r594 r595 r596 r556 r557 r558 q1 ca T582.heap n0 O618 y621 y630 y622 ge124 ge549 (own_n1 b_cb (by decide)) (own_nneg bb547 (by decide)) (own_nneg bb629 (by decide)) S0_ ZA1_ hlc y597 y598 y601 y602 y603 y604 y605 y606 ge587 y607 y608 y609 y610 y611 y612 y613 y614 y615 y616 y617 (Nat.ne_of_lt (Nat.lt_of_lt_of_le (Nat.lt_of_lt_of_le y129.lt E137.1) y147)) y631 y632 y633 y634 y635 y636 y637 y638 y639 y640 y641 y642 y643 y644 y645 y646 y647 ge648 c625) g627 e624 [] rfl (lenOf pd_26 rfl) (hb hby at_205) hml.symm 0 rfl (by decide)
      have N628 := Fr.app N624 M628
      have O651 := O618.keep K628 (allS ge124 (allS ge587 (allS ge549 (allS ge648 all0))))
      have g652 := ja X628 hx (jN X628 hx (ji X628 hx (js X628 hx (jc X628 hx (jY X628 hx (ji X628 hx st628 (hb hby at_208) rfl) (hb hby at_210) rfl (by decide) (pc' := 222) (by decide)) (hb hby at_222) 0 rfl) (hb hby at_223) rfl (l' := #[.val (.long q1), .second, .val (.long q2), .second, .val (.long q3), .second, .val (.long q4), .second, iv q5, .val (.long ca), .second, .val (.long cb), .second, iv 2, iv 1, rv b116, rv b137, iv 1, iv 0, iv 0]) rfl) (hb hby at_225) rfl) (hb hby at_227) rfl (by decide)) (hb hby at_230) rfl rfl
      obtain ⟨_, L653, T653, ⟨rfl, M653, e653⟩, X653, st653⟩ := own_callV X628 hx hZ hown (hw _ (mi 31 rfl)) (wd28 hw) (notFace_of_selects (args := #[]) (mvT hZ (hw _ (mi 34 rfl)))) y650 (rm_isE1 hw b116 (((0 : Int64) + ca) + cb) T628.heap n0 O651 y649 (own_n0 bb629 (by decide))) g652 rfl [] rfl (lenOf pd_23 rfl) (hb hby at_232) hml.symm 0 rfl (by decide)
      have N653 := Fr.app N628 M653
      have g654 := ja X653 hx (jn X653 hx (ji X653 hx st653 (hb hby at_235) rfl) (hb hby at_237) rfl (by decide)) (hb hby at_240) rfl rfl
      have y656 := (y597.keep K628)
      have y657 := (y599.keep K628 (ninS (Ne.symm (Nat.ne_of_lt (Nat.lt_of_lt_of_le (Nat.lt_of_lt_of_le A116.lt K123.1) (Nat.le_of_eq gb137.symm)))) (ninS (Nat.ne_of_lt (Nat.lt_of_lt_of_le A137.lt y147)) (ninS (Ne.symm (Nat.ne_of_lt (Nat.lt_of_lt_of_le y129.lt (Nat.le_of_eq gb137.symm)))) (ninS (Nat.ne_of_lt (Nat.lt_of_lt_of_le (Nat.lt_of_lt_of_le A137.lt K144.1) y562)) nin0)))))
      obtain ⟨_, L655, T655, ⟨rfl, M655, e655⟩, X655, st655⟩ := own_callV X653 hx hZ hown (hw _ (mi 31 rfl)) (wd28 hw) (notFace_of_selects (args := #[]) (mvT hZ (hw _ (mi 34 rfl)))) y656 (rm_isE1 hw b137 ((0 : Int64) + cb) T628.heap n0 O651 y657 (own_n0 bb584 (by decide))) g654 e653 [] rfl (lenOf pd_23 rfl) (hb hby at_242) hml.symm 0 rfl (by decide)
      have N655 := Fr.app N653 M655
      have g658 := ji X655 hx (js X655 hx (jg X655 hx (jc X655 hx (jn X655 hx (jc X655 hx (jY X655 hx (ji X655 hx st655 (hb hby at_245) rfl) (hb hby at_247) rfl (by decide) (pc' := 254) (by decide)) (hb hby at_254) 0 rfl) (hb hby at_255) rfl (by decide)) (hb hby at_258) 1 rfl) (hb hby at_259) (pc' := 263) (by decide)) (hb hby at_263) rfl (l' := #[.val (.long q1), .second, .val (.long q2), .second, .val (.long q3), .second, .val (.long q4), .second, iv q5, .val (.long ca), .second, .val (.long cb), .second, iv 2, iv 1, rv b116, rv b137, iv 1, iv 0, iv 0]) rfl) (hb hby at_265) rfl
      refine own_leave X655 Bd (some (.int 1)) nofun g658 (fun fs hr => retN X655 hx (t := .boolean) Bd.returns (by simp) (hb hby at_267) hr) (by decide) (by decide) ?_
      exact ⟨rfl, N655⟩
    by_cases c659 : q3 = q1
    ·
      have g660 := ja X624 hx (ja X624 hx g626 (hb hby at_201) rfl rfl) (hb hby at_203) rfl rfl
      have bb662 : (2 : Int) ≤ (((0 : Int64) + ca) + cb).toInt ∧ (((0 : Int64) + ca) + cb).toInt ≤ 2305843009213693952 := own_addb bb547 b_cb (by decide) (by decide)
      have y663 := (y560.keep K582 (ninS (Nat.ne_of_lt (Nat.lt_of_lt_of_le (Nat.lt_of_lt_of_le A116.lt K123.1) (Nat.le_of_eq gb137.symm))) (ninS (Nat.ne_of_lt (Nat.lt_of_lt_of_le (Nat.lt_of_lt_of_le A116.lt (Nat.le_trans K123.1 E137.1)) y147)) nin0)))
      have y664 := (y563.keep K582)
      have y665 := (y564.keep K582 (ninS (Nat.ne_of_lt (Nat.lt_of_lt_of_le y129.lt (Nat.le_of_eq gb137.symm))) (ninS (Nat.ne_of_lt (Nat.lt_of_lt_of_le (Nat.lt_of_lt_of_le y129.lt E137.1) y147)) nin0)))
      have y666 := (y565.keep K582 (ninS (Nat.ne_of_lt (Nat.lt_of_lt_of_le y129.lt (Nat.le_of_eq gb137.symm))) (ninS (Nat.ne_of_lt (Nat.lt_of_lt_of_le (Nat.lt_of_lt_of_le y129.lt E137.1) y147)) nin0)))
      have y667 := (y566.keep K582 (ninS (Nat.ne_of_lt (Nat.lt_of_lt_of_le y129.lt (Nat.le_of_eq gb137.symm))) (ninS (Nat.ne_of_lt (Nat.lt_of_lt_of_le (Nat.lt_of_lt_of_le y129.lt E137.1) y147)) nin0)))
      have y668 := (y567.keep K582 (ninS (Nat.ne_of_lt (Nat.lt_of_lt_of_le y129.lt (Nat.le_of_eq gb137.symm))) (ninS (Nat.ne_of_lt (Nat.lt_of_lt_of_le (Nat.lt_of_lt_of_le y129.lt E137.1) y147)) nin0)))
      have y669 := (y568.keep K582 (ninS (Nat.ne_of_lt (Nat.lt_of_lt_of_le y129.lt (Nat.le_of_eq gb137.symm))) (ninS (Nat.ne_of_lt (Nat.lt_of_lt_of_le (Nat.lt_of_lt_of_le y129.lt E137.1) y147)) nin0)))
      have y670 := (y569.keep K582)
      have y671 := (y570.keep K582 (ninS (Ne.symm (Nat.ne_of_lt (Nat.lt_of_lt_of_le (Nat.lt_of_lt_of_le A137.lt K144.1) y562))) (ninS (Ne.symm (Nat.ne_of_lt (Nat.lt_of_lt_of_le y150.lt y562))) nin0)))
      have y672 := (y571.keep K582 (ninS (Ne.symm (Nat.ne_of_lt (Nat.lt_of_lt_of_le (Nat.lt_of_lt_of_le A137.lt K144.1) y562))) (ninS (Ne.symm (Nat.ne_of_lt (Nat.lt_of_lt_of_le y150.lt y562))) nin0)))
      have y673 := (y572.keep K582 (ninS (Ne.symm (Nat.ne_of_lt (Nat.lt_of_lt_of_le (Nat.lt_of_lt_of_le A137.lt K144.1) y562))) (ninS (Ne.symm (Nat.ne_of_lt (Nat.lt_of_lt_of_le y150.lt y562))) nin0)))
      have y674 := (y573.keep K582 (ninS (Ne.symm (Nat.ne_of_lt (Nat.lt_of_lt_of_le (Nat.lt_of_lt_of_le A137.lt K144.1) y562))) (ninS (Ne.symm (Nat.ne_of_lt (Nat.lt_of_lt_of_le y150.lt y562))) nin0)))
      have y675 := (y574.keep K582 (ninS (Ne.symm (Nat.ne_of_lt (Nat.lt_of_lt_of_le (Nat.lt_of_lt_of_le A137.lt K144.1) y562))) (ninS (Ne.symm (Nat.ne_of_lt (Nat.lt_of_lt_of_le y150.lt y562))) nin0)))
      have y676 := (y575.keep K582 (ninS (Ne.symm (Nat.ne_of_lt (Nat.lt_of_lt_of_le (Nat.lt_of_lt_of_le A137.lt K144.1) y562))) (ninS (Ne.symm (Nat.ne_of_lt (Nat.lt_of_lt_of_le y150.lt y562))) nin0)))
      have y677 := (y576.keep K582)
      have y678 := (y577.keep K582 (ninS (ne_exa y677 y597 (by decide)) (ninS (ne_exa y677 y601 (by decide)) nin0)))
      have y679 := (y578.keep K582)
      have y680 := (y579.keep K582 (ninS (ne_exa y679 y597 (by decide)) (ninS (ne_exa y679 y601 (by decide)) nin0)))
      have ge681 : n0 ≤ r556 := Nat.le_trans (own_old_le O156) y562
      obtain ⟨_, L661, T661, ⟨rfl, M661, K661, y682, y683⟩, X661, st661⟩ := own_callV X624 hx hZ hown (hw _ (mi 142 rfl)) (wd29 hw) (notFace_of_selects (args := #[]) (mvT hZ (hw _ (mi 145 rfl)))) y621 (rm_aa11E hw b116 r125 ((0 : Int64) + ca) (1 : Int32) (1 : Int32) q3 cb lc kc lcs b137 r146 (1 : Int32) (1 : Int32) r594 r595 r596 r556 r557 r558 q1 ca T582.heap n0 O618 y621 y663 y622 ge124 ge549 (own_n1 b_cb (by decide)) (own_nneg bb547 (by decide)) (own_nneg bb662 (by decide)) S0_ ZA1_ hlc y597 y598 y601 y602 y603 y604 y605 y606 ge587 y607 y608 y609 y610 y611 y612 y613 y614 y615 y616 y617 (Nat.ne_of_lt (Nat.lt_of_lt_of_le (Nat.lt_of_lt_of_le y129.lt E137.1) y147)) y664 y665 y666 y667 y668 y669 y670 y671 y672 y673 y674 y675 y676 y677 y678 y679 y680 ge681 c659) g660 e624 [] rfl (lenOf pd_26 rfl) (hb hby at_205) hml.symm 0 rfl (by decide)
      have N661 := Fr.app N624 M661
      have O684 := O618.keep K661 (allS ge124 (allS ge587 (allS ge681 all0)))
      have g685 := ja X661 hx (jN X661 hx (ji X661 hx (js X661 hx (jc X661 hx (jY X661 hx (ji X661 hx st661 (hb hby at_208) rfl) (hb hby at_210) rfl (by decide) (pc' := 222) (by decide)) (hb hby at_222) 0 rfl) (hb hby at_223) rfl (l' := #[.val (.long q1), .second, .val (.long q2), .second, .val (.long q3), .second, .val (.long q4), .second, iv q5, .val (.long ca), .second, .val (.long cb), .second, iv 2, iv 1, rv b116, rv b137, iv 1, iv 0, iv 0]) rfl) (hb hby at_225) rfl) (hb hby at_227) rfl (by decide)) (hb hby at_230) rfl rfl
      obtain ⟨_, L686, T686, ⟨rfl, M686, e686⟩, X686, st686⟩ := own_callV X661 hx hZ hown (hw _ (mi 31 rfl)) (wd28 hw) (notFace_of_selects (args := #[]) (mvT hZ (hw _ (mi 34 rfl)))) y683 (rm_isE1 hw b116 (((0 : Int64) + ca) + cb) T661.heap n0 O684 y682 (own_n0 bb662 (by decide))) g685 rfl [] rfl (lenOf pd_23 rfl) (hb hby at_232) hml.symm 0 rfl (by decide)
      have N686 := Fr.app N661 M686
      have g687 := ja X686 hx (jn X686 hx (ji X686 hx st686 (hb hby at_235) rfl) (hb hby at_237) rfl (by decide)) (hb hby at_240) rfl rfl
      have y689 := (y597.keep K661)
      have y690 := (y599.keep K661 (ninS (Ne.symm (Nat.ne_of_lt (Nat.lt_of_lt_of_le (Nat.lt_of_lt_of_le A116.lt K123.1) (Nat.le_of_eq gb137.symm)))) (ninS (Nat.ne_of_lt (Nat.lt_of_lt_of_le A137.lt y147)) (ninS (Nat.ne_of_lt (Nat.lt_of_lt_of_le (Nat.lt_of_lt_of_le A137.lt K144.1) y562)) nin0))))
      obtain ⟨_, L688, T688, ⟨rfl, M688, e688⟩, X688, st688⟩ := own_callV X686 hx hZ hown (hw _ (mi 31 rfl)) (wd28 hw) (notFace_of_selects (args := #[]) (mvT hZ (hw _ (mi 34 rfl)))) y689 (rm_isE1 hw b137 ((0 : Int64) + cb) T661.heap n0 O684 y690 (own_n0 bb584 (by decide))) g687 e686 [] rfl (lenOf pd_23 rfl) (hb hby at_242) hml.symm 0 rfl (by decide)
      have N688 := Fr.app N686 M688
      have g691 := ji X688 hx (js X688 hx (jg X688 hx (jc X688 hx (jn X688 hx (jc X688 hx (jY X688 hx (ji X688 hx st688 (hb hby at_245) rfl) (hb hby at_247) rfl (by decide) (pc' := 254) (by decide)) (hb hby at_254) 0 rfl) (hb hby at_255) rfl (by decide)) (hb hby at_258) 1 rfl) (hb hby at_259) (pc' := 263) (by decide)) (hb hby at_263) rfl (l' := #[.val (.long q1), .second, .val (.long q2), .second, .val (.long q3), .second, .val (.long q4), .second, iv q5, .val (.long ca), .second, .val (.long cb), .second, iv 2, iv 1, rv b116, rv b137, iv 1, iv 0, iv 0]) rfl) (hb hby at_265) rfl
      refine own_leave X688 Bd (some (.int 1)) nofun g691 (fun fs hr => retN X688 hx (t := .boolean) Bd.returns (by simp) (hb hby at_267) hr) (by decide) (by decide) ?_
      exact ⟨rfl, N688⟩
    have hg692 : q1 < q3 := own_gt64 c625 c659
    have g693 := ja X624 hx (ja X624 hx g626 (hb hby at_201) rfl rfl) (hb hby at_203) rfl rfl
    have bb695 : (2 : Int) ≤ (((0 : Int64) + ca) + cb).toInt ∧ (((0 : Int64) + ca) + cb).toInt ≤ 2305843009213693952 := own_addb bb547 b_cb (by decide) (by decide)
    have y696 := (y560.keep K582 (ninS (Nat.ne_of_lt (Nat.lt_of_lt_of_le (Nat.lt_of_lt_of_le A116.lt K123.1) (Nat.le_of_eq gb137.symm))) (ninS (Nat.ne_of_lt (Nat.lt_of_lt_of_le (Nat.lt_of_lt_of_le A116.lt (Nat.le_trans K123.1 E137.1)) y147)) nin0)))
    have y697 := (y563.keep K582)
    have y698 := (y564.keep K582 (ninS (Nat.ne_of_lt (Nat.lt_of_lt_of_le y129.lt (Nat.le_of_eq gb137.symm))) (ninS (Nat.ne_of_lt (Nat.lt_of_lt_of_le (Nat.lt_of_lt_of_le y129.lt E137.1) y147)) nin0)))
    have y699 := (y565.keep K582 (ninS (Nat.ne_of_lt (Nat.lt_of_lt_of_le y129.lt (Nat.le_of_eq gb137.symm))) (ninS (Nat.ne_of_lt (Nat.lt_of_lt_of_le (Nat.lt_of_lt_of_le y129.lt E137.1) y147)) nin0)))
    have y700 := (y566.keep K582 (ninS (Nat.ne_of_lt (Nat.lt_of_lt_of_le y129.lt (Nat.le_of_eq gb137.symm))) (ninS (Nat.ne_of_lt (Nat.lt_of_lt_of_le (Nat.lt_of_lt_of_le y129.lt E137.1) y147)) nin0)))
    have y701 := (y567.keep K582 (ninS (Nat.ne_of_lt (Nat.lt_of_lt_of_le y129.lt (Nat.le_of_eq gb137.symm))) (ninS (Nat.ne_of_lt (Nat.lt_of_lt_of_le (Nat.lt_of_lt_of_le y129.lt E137.1) y147)) nin0)))
    have y702 := (y568.keep K582 (ninS (Nat.ne_of_lt (Nat.lt_of_lt_of_le y129.lt (Nat.le_of_eq gb137.symm))) (ninS (Nat.ne_of_lt (Nat.lt_of_lt_of_le (Nat.lt_of_lt_of_le y129.lt E137.1) y147)) nin0)))
    have y703 := (y569.keep K582)
    have y704 := (y570.keep K582 (ninS (Ne.symm (Nat.ne_of_lt (Nat.lt_of_lt_of_le (Nat.lt_of_lt_of_le A137.lt K144.1) y562))) (ninS (Ne.symm (Nat.ne_of_lt (Nat.lt_of_lt_of_le y150.lt y562))) nin0)))
    have y705 := (y571.keep K582 (ninS (Ne.symm (Nat.ne_of_lt (Nat.lt_of_lt_of_le (Nat.lt_of_lt_of_le A137.lt K144.1) y562))) (ninS (Ne.symm (Nat.ne_of_lt (Nat.lt_of_lt_of_le y150.lt y562))) nin0)))
    have y706 := (y572.keep K582 (ninS (Ne.symm (Nat.ne_of_lt (Nat.lt_of_lt_of_le (Nat.lt_of_lt_of_le A137.lt K144.1) y562))) (ninS (Ne.symm (Nat.ne_of_lt (Nat.lt_of_lt_of_le y150.lt y562))) nin0)))
    have y707 := (y573.keep K582 (ninS (Ne.symm (Nat.ne_of_lt (Nat.lt_of_lt_of_le (Nat.lt_of_lt_of_le A137.lt K144.1) y562))) (ninS (Ne.symm (Nat.ne_of_lt (Nat.lt_of_lt_of_le y150.lt y562))) nin0)))
    have y708 := (y574.keep K582 (ninS (Ne.symm (Nat.ne_of_lt (Nat.lt_of_lt_of_le (Nat.lt_of_lt_of_le A137.lt K144.1) y562))) (ninS (Ne.symm (Nat.ne_of_lt (Nat.lt_of_lt_of_le y150.lt y562))) nin0)))
    have y709 := (y575.keep K582 (ninS (Ne.symm (Nat.ne_of_lt (Nat.lt_of_lt_of_le (Nat.lt_of_lt_of_le A137.lt K144.1) y562))) (ninS (Ne.symm (Nat.ne_of_lt (Nat.lt_of_lt_of_le y150.lt y562))) nin0)))
    have y710 := (y576.keep K582)
    have y711 := (y577.keep K582 (ninS (ne_exa y710 y597 (by decide)) (ninS (ne_exa y710 y601 (by decide)) nin0)))
    have y712 := (y578.keep K582)
    have y713 := (y579.keep K582 (ninS (ne_exa y712 y597 (by decide)) (ninS (ne_exa y712 y601 (by decide)) nin0)))
    have ge714 : n0 ≤ r556 := Nat.le_trans (own_old_le O156) y562
    obtain ⟨_, L694, T694, ⟨rfl, M694, K694, y715, y716⟩, X694, st694⟩ := own_callV X624 hx hZ hown (hw _ (mi 142 rfl)) (wd29 hw) (notFace_of_selects (args := #[]) (mvT hZ (hw _ (mi 145 rfl)))) y621 (rm_aa11R hw b116 r125 ((0 : Int64) + ca) (1 : Int32) (1 : Int32) q3 cb lc kc lcs b137 r146 (1 : Int32) (1 : Int32) r594 r595 r596 r556 r557 r558 q1 ca T582.heap n0 O618 y621 y696 y622 ge124 ge549 (own_n1 b_cb (by decide)) (own_nneg bb547 (by decide)) (own_nneg bb695 (by decide)) S0_ ZA1_ hlc y597 y598 y601 y602 y603 y604 y605 y606 ge587 y607 y608 y609 y610 y611 y612 y613 y614 y615 y616 y617 (Nat.ne_of_lt (Nat.lt_of_lt_of_le (Nat.lt_of_lt_of_le y129.lt E137.1) y147)) y697 y698 y699 y700 y701 y702 y703 y704 y705 y706 y707 y708 y709 y710 y711 y712 y713 ge714 hg692) g693 e624 [] rfl (lenOf pd_26 rfl) (hb hby at_205) hml.symm 0 rfl (by decide)
    have N694 := Fr.app N624 M694
    have O717 := O618.keep K694 (allS ge124 (allS ge587 (allS ge549 (allS ge714 all0))))
    have g718 := ja X694 hx (jN X694 hx (ji X694 hx (js X694 hx (jc X694 hx (jY X694 hx (ji X694 hx st694 (hb hby at_208) rfl) (hb hby at_210) rfl (by decide) (pc' := 222) (by decide)) (hb hby at_222) 0 rfl) (hb hby at_223) rfl (l' := #[.val (.long q1), .second, .val (.long q2), .second, .val (.long q3), .second, .val (.long q4), .second, iv q5, .val (.long ca), .second, .val (.long cb), .second, iv 2, iv 1, rv b116, rv b137, iv 1, iv 0, iv 0]) rfl) (hb hby at_225) rfl) (hb hby at_227) rfl (by decide)) (hb hby at_230) rfl rfl
    obtain ⟨_, L719, T719, ⟨rfl, M719, e719⟩, X719, st719⟩ := own_callV X694 hx hZ hown (hw _ (mi 31 rfl)) (wd28 hw) (notFace_of_selects (args := #[]) (mvT hZ (hw _ (mi 34 rfl)))) y716 (rm_isE1 hw b116 (((0 : Int64) + ca) + cb) T694.heap n0 O717 y715 (own_n0 bb695 (by decide))) g718 rfl [] rfl (lenOf pd_23 rfl) (hb hby at_232) hml.symm 0 rfl (by decide)
    have N719 := Fr.app N694 M719
    have g720 := ja X719 hx (jn X719 hx (ji X719 hx st719 (hb hby at_235) rfl) (hb hby at_237) rfl (by decide)) (hb hby at_240) rfl rfl
    have y722 := (y597.keep K694)
    have y723 := (y599.keep K694 (ninS (Ne.symm (Nat.ne_of_lt (Nat.lt_of_lt_of_le (Nat.lt_of_lt_of_le A116.lt K123.1) (Nat.le_of_eq gb137.symm)))) (ninS (Nat.ne_of_lt (Nat.lt_of_lt_of_le A137.lt y147)) (ninS (Ne.symm (Nat.ne_of_lt (Nat.lt_of_lt_of_le y129.lt (Nat.le_of_eq gb137.symm)))) (ninS (Nat.ne_of_lt (Nat.lt_of_lt_of_le (Nat.lt_of_lt_of_le A137.lt K144.1) y562)) nin0)))))
    obtain ⟨_, L721, T721, ⟨rfl, M721, e721⟩, X721, st721⟩ := own_callV X719 hx hZ hown (hw _ (mi 31 rfl)) (wd28 hw) (notFace_of_selects (args := #[]) (mvT hZ (hw _ (mi 34 rfl)))) y722 (rm_isE1 hw b137 ((0 : Int64) + cb) T694.heap n0 O717 y723 (own_n0 bb584 (by decide))) g720 e719 [] rfl (lenOf pd_23 rfl) (hb hby at_242) hml.symm 0 rfl (by decide)
    have N721 := Fr.app N719 M721
    have g724 := ji X721 hx (js X721 hx (jg X721 hx (jc X721 hx (jn X721 hx (jc X721 hx (jY X721 hx (ji X721 hx st721 (hb hby at_245) rfl) (hb hby at_247) rfl (by decide) (pc' := 254) (by decide)) (hb hby at_254) 0 rfl) (hb hby at_255) rfl (by decide)) (hb hby at_258) 1 rfl) (hb hby at_259) (pc' := 263) (by decide)) (hb hby at_263) rfl (l' := #[.val (.long q1), .second, .val (.long q2), .second, .val (.long q3), .second, .val (.long q4), .second, iv q5, .val (.long ca), .second, .val (.long cb), .second, iv 2, iv 1, rv b116, rv b137, iv 1, iv 0, iv 0]) rfl) (hb hby at_265) rfl
    refine own_leave X721 Bd (some (.int 1)) nofun g724 (fun fs hr => retN X721 hx (t := .boolean) Bd.returns (by simp) (hb hby at_267) hr) (by decide) (by decide) ?_
    exact ⟨rfl, N721⟩
  subst c165
  rcases (j114 : fl = (0 : Int32) ∨ fl = (1 : Int32)) with c725 | c725
  ·
    subst c725
    have g726 := show Go p e below T162 (mkF m 123 #[.val (.long q1), .second, .val (.long q2), .second, .val (.long q3), .second, .val (.long q4), .second, iv q5, .val (.long ca), .second, .val (.long cb), .second, iv 3, iv 0, rv b116, rv b137, iv 1, .unset, .unset] [(.long ca), (.long q1), (.ref b116)]) A0 from fun t kt => (show Go p e below T162 (mkF m 121 #[.val (.long q1), .second, .val (.long q2), .second, .val (.long q3), .second, .val (.long q4), .second, iv q5, .val (.long ca), .second, .val (.long cb), .second, iv 3, iv 0, rv b116, rv b137, iv 1, .unset, .unset] [(.long q1), (.ref b116)]) A0 from fun t kt => (ja X162 hx (jn X162 hx (jc X162 hx (ji X162 hx (jy X162 hx (jc X162 hx (ji X162 hx (jy X162 hx (jc X162 hx (ji X162 hx g164 (hb hby at_80) rfl) (hb hby at_82) 1 rfl) (hb hby at_83) rfl (by decide) (pc' := 95) (by decide)) (hb hby at_95) rfl) (hb hby at_97) 2 rfl) (hb hby at_98) rfl (by decide) (pc' := 112) (by decide)) (hb hby at_112) rfl) (hb hby at_114) 3 rfl) (hb hby at_115) rfl (by decide)) (hb hby at_118) rfl rfl) t (by refine XS.lloadN X162.here hx rfl (hb hby at_120) rfl ?_; exact kt)) t (by refine XS.lload X162.here hx rfl (hb hby at_121) rfl ?_; exact kt)
    have bb728 : (1 : Int) ≤ ((0 : Int64) + ca).toInt ∧ ((0 : Int64) + ca).toInt ≤ 1152921504606846976 := own_addb own_b0 b_ca (by decide) (by decide)
    have y729 := ((y127.ext E137).keep K144 (ninS (Nat.ne_of_lt (Nat.lt_of_lt_of_le (Nat.lt_of_lt_of_le A116.lt K123.1) (Nat.le_of_eq gb137.symm))) nin0))
    have ge730 : n0 ≤ r125 := Nat.le_trans (own_old_le O118) y126
    have y731 := ((y129.ext E137).keep K144)
    have y732 := ((y130.ext E137).keep K144 (ninS (Nat.ne_of_lt (Nat.lt_of_lt_of_le y129.lt (Nat.le_of_eq gb137.symm))) nin0))
    have y733 := ((y131.ext E137).keep K144 (ninS (Nat.ne_of_lt (Nat.lt_of_lt_of_le y129.lt (Nat.le_of_eq gb137.symm))) nin0))
    have y734 := ((y132.ext E137).keep K144 (ninS (Nat.ne_of_lt (Nat.lt_of_lt_of_le y129.lt (Nat.le_of_eq gb137.symm))) nin0))
    have y735 := ((y133.ext E137).keep K144 (ninS (Nat.ne_of_lt (Nat.lt_of_lt_of_le y129.lt (Nat.le_of_eq gb137.symm))) nin0))
    have y736 := ((y134.ext E137).keep K144 (ninS (Nat.ne_of_lt (Nat.lt_of_lt_of_le y129.lt (Nat.le_of_eq gb137.symm))) nin0))
    obtain ⟨_, L727, T727, ⟨r737, r738, r739, rfl, M727, K727, y740, y741, y742, y743, y744, y745, y746, y747, y748, y749, y750, y751, y752, y753, y754, y755, y756, y757, y758, y759, y760⟩, X727, st727⟩ := own_callV X162 hx hZ hown (hw _ (mi 38 rfl)) (wd17 hw) (notFace_of_selects (args := #[]) (mvT hZ (hw _ (mi 41 rfl)))) y159 (rm_ad0 hw b116 r125 (0 : Int64) (0 : Int32) (0 : Int32) q1 ca lc kc lcs T144.heap n0 O156 y159 y729 y160 ge124 ge730 (own_n1 b_ca (by decide)) (own_nneg own_b0 (by decide)) (own_nneg bb728 (by decide)) S0_ ZA1_ hlc y731 y732 y733 y734 y735 y736) g726 e162 [] rfl (lenOf pd_15 rfl) (hb hby at_123) hml.symm 0 rfl (by decide)
    have N727 := Fr.app N162 M727
    have O761 := O156.keep K727 (allS ge124 (allS ge730 all0))
    by_cases c762 : q3 < q1
    ·
      have g763 := show Go p e below T727 (mkF m 132 #[.val (.long q1), .second, .val (.long q2), .second, .val (.long q3), .second, .val (.long q4), .second, iv q5, .val (.long ca), .second, .val (.long cb), .second, iv 3, iv 0, rv b116, rv b137, iv 1, .unset, .unset] [(.long cb), (.long q3), (.ref b116)]) A0 from fun t kt => (show Go p e below T727 (mkF m 130 #[.val (.long q1), .second, .val (.long q2), .second, .val (.long q3), .second, .val (.long q4), .second, iv q5, .val (.long ca), .second, .val (.long cb), .second, iv 3, iv 0, rv b116, rv b137, iv 1, .unset, .unset] [(.long q3), (.ref b116)]) A0 from fun t kt => (ja X727 hx st727 (hb hby at_126) rfl rfl) t (by refine XS.lload X727.here hx rfl (hb hby at_128) rfl ?_; exact kt)) t (by refine XS.lload X727.here hx rfl (hb hby at_130) rfl ?_; exact kt)
      have bb765 : (2 : Int) ≤ (((0 : Int64) + ca) + cb).toInt ∧ (((0 : Int64) + ca) + cb).toInt ≤ 2305843009213693952 := own_addb bb728 b_cb (by decide) (by decide)
      have ge766 : n0 ≤ r737 := Nat.le_trans (own_old_le O156) y743
      obtain ⟨_, L764, T764, ⟨r767, r768, r769, rfl, M764, K764, y770, y771, y772, y773, y774, y775, y776, y777, y778, y779, y780, y781, y782, y783, y784, y785, y786, y787, y788, y789, y790, y791, y792, y793, y794, y795, y796, y797⟩, X764, st764⟩ := own_callV X727 hx hZ hown (hw _ (mi 38 rfl)) (wd17 hw) (notFace_of_selects (args := #[]) (mvT hZ (hw _ (mi 41 rfl)))) y740 (rm_ad1L hw b116 r125 ((0 : Int64) + ca) (1 : Int32) (1 : Int32) q3 cb lc kc lcs r737 r738 r739 q1 ca T727.heap n0 O761 y740 y741 y742 ge124 ge730 (own_n1 b_cb (by decide)) (own_nneg bb728 (by decide)) (own_nneg bb765 (by decide)) S0_ ZA1_ hlc y744 y745 y746 y747 y748 y749 y750 y751 y752 y753 y754 y755 y756 y757 y758 y759 y760 ge766 c762) g763 rfl [] rfl (lenOf pd_15 rfl) (hb hby at_132) hml.symm 0 rfl (by decide)
      have N764 := Fr.app N727 M764
      have O798 := O761.keep K764 (allS ge124 (allS ge730 (allS ge766 all0)))
      have g799 := ja X764 hx (jN X764 hx (ji X764 hx (js X764 hx (jc X764 hx (jY X764 hx (ji X764 hx (jY X764 hx (ji X764 hx st764 (hb hby at_135) rfl) (hb hby at_137) rfl (by decide) (pc' := 149) (by decide)) (hb hby at_149) rfl) (hb hby at_151) rfl (by decide) (pc' := 158) (by decide)) (hb hby at_158) 0 rfl) (hb hby at_159) rfl (l' := #[.val (.long q1), .second, .val (.long q2), .second, .val (.long q3), .second, .val (.long q4), .second, iv q5, .val (.long ca), .second, .val (.long cb), .second, iv 3, iv 0, rv b116, rv b137, iv 1, iv 0, .unset]) rfl) (hb hby at_161) rfl) (hb hby at_163) rfl (by decide)) (hb hby at_166) rfl rfl
      obtain ⟨_, L800, T800, ⟨rfl, M800, e800⟩, X800, st800⟩ := own_callV X764 hx hZ hown (hw _ (mi 31 rfl)) (wd28 hw) (notFace_of_selects (args := #[]) (mvT hZ (hw _ (mi 34 rfl)))) y770 (rm_isE1 hw b116 (((0 : Int64) + ca) + cb) T764.heap n0 O798 y772 (own_n0 bb765 (by decide))) g799 rfl [] rfl (lenOf pd_23 rfl) (hb hby at_168) hml.symm 0 rfl (by decide)
      have N800 := Fr.app N764 M800
      have g801 := ja X800 hx (jn X800 hx (ji X800 hx st800 (hb hby at_171) rfl) (hb hby at_173) rfl (by decide)) (hb hby at_176) rfl rfl
      have y803 := ((y163.keep K727).keep K764)
      have y804 := ((y149.keep K727 (ninS (Ne.symm (Nat.ne_of_lt (Nat.lt_of_lt_of_le (Nat.lt_of_lt_of_le A116.lt K123.1) (Nat.le_of_eq gb137.symm)))) (ninS (Ne.symm (Nat.ne_of_lt (Nat.lt_of_lt_of_le y129.lt (Nat.le_of_eq gb137.symm)))) nin0))).keep K764 (ninS (Ne.symm (Nat.ne_of_lt (Nat.lt_of_lt_of_le (Nat.lt_of_lt_of_le A116.lt K123.1) (Nat.le_of_eq gb137.symm)))) (ninS (Ne.symm (Nat.ne_of_lt (Nat.lt_of_lt_of_le y129.lt (Nat.le_of_eq gb137.symm)))) (ninS (Nat.ne_of_lt (Nat.lt_of_lt_of_le (Nat.lt_of_lt_of_le A137.lt K144.1) y743)) nin0))))
      obtain ⟨_, L802, T802, ⟨rfl, M802, e802⟩, X802, st802⟩ := own_callV X800 hx hZ hown (hw _ (mi 31 rfl)) (wd28 hw) (notFace_of_selects (args := #[]) (mvT hZ (hw _ (mi 34 rfl)))) y803 (rm_isE0 hw b137 (0 : Int64) T764.heap n0 O798 y804 rfl) g801 e800 [] rfl (lenOf pd_23 rfl) (hb hby at_178) hml.symm 0 rfl (by decide)
      have N802 := Fr.app N800 M802
      have g805 := ja X802 hx (ja X802 hx (js X802 hx (jg X802 hx (jc X802 hx (jn X802 hx (jg X802 hx (jc X802 hx (jN X802 hx (ji X802 hx st802 (hb hby at_181) rfl) (hb hby at_183) rfl (by decide)) (hb hby at_186) 1 rfl) (hb hby at_187) (pc' := 191) (by decide)) (hb hby at_191) rfl (by decide)) (hb hby at_194) 1 rfl) (hb hby at_195) (pc' := 199) (by decide)) (hb hby at_199) rfl (l' := #[.val (.long q1), .second, .val (.long q2), .second, .val (.long q3), .second, .val (.long q4), .second, iv q5, .val (.long ca), .second, .val (.long cb), .second, iv 3, iv 0, rv b116, rv b137, iv 1, iv 0, .unset]) rfl) (hb hby at_201) rfl rfl) (hb hby at_203) rfl rfl
      have y807 := ((y148.keep K727 (ninS (Ne.symm (Nat.ne_of_lt (Nat.lt_of_lt_of_le (Nat.lt_of_lt_of_le A116.lt K123.1) (Nat.le_of_eq gb137.symm)))) (ninS (Ne.symm (Nat.ne_of_lt (Nat.lt_of_lt_of_le y129.lt (Nat.le_of_eq gb137.symm)))) nin0))).keep K764 (ninS (Ne.symm (Nat.ne_of_lt (Nat.lt_of_lt_of_le (Nat.lt_of_lt_of_le A116.lt K123.1) (Nat.le_of_eq gb137.symm)))) (ninS (Ne.symm (Nat.ne_of_lt (Nat.lt_of_lt_of_le y129.lt (Nat.le_of_eq gb137.symm)))) (ninS (Nat.ne_of_lt (Nat.lt_of_lt_of_le (Nat.lt_of_lt_of_le A137.lt K144.1) y743)) nin0))))
      have y808 := ((y150.keep K727).keep K764)
      have y809 := ((y151.keep K727 (ninS (Ne.symm (Nat.ne_of_lt (Nat.lt_of_lt_of_le (Nat.lt_of_lt_of_le A116.lt (Nat.le_trans K123.1 E137.1)) y147))) (ninS (Ne.symm (Nat.ne_of_lt (Nat.lt_of_lt_of_le (Nat.lt_of_lt_of_le y129.lt E137.1) y147))) nin0))).keep K764 (ninS (Ne.symm (Nat.ne_of_lt (Nat.lt_of_lt_of_le (Nat.lt_of_lt_of_le A116.lt (Nat.le_trans K123.1 E137.1)) y147))) (ninS (Ne.symm (Nat.ne_of_lt (Nat.lt_of_lt_of_le (Nat.lt_of_lt_of_le y129.lt E137.1) y147))) (ninS (Nat.ne_of_lt (Nat.lt_of_lt_of_le y150.lt y743)) nin0))))
      have y810 := ((y152.keep K727 (ninS (Ne.symm (Nat.ne_of_lt (Nat.lt_of_lt_of_le (Nat.lt_of_lt_of_le A116.lt (Nat.le_trans K123.1 E137.1)) y147))) (ninS (Ne.symm (Nat.ne_of_lt (Nat.lt_of_lt_of_le (Nat.lt_of_lt_of_le y129.lt E137.1) y147))) nin0))).keep K764 (ninS (Ne.symm (Nat.ne_of_lt (Nat.lt_of_lt_of_le (Nat.lt_of_lt_of_le A116.lt (Nat.le_trans K123.1 E137.1)) y147))) (ninS (Ne.symm (Nat.ne_of_lt (Nat.lt_of_lt_of_le (Nat.lt_of_lt_of_le y129.lt E137.1) y147))) (ninS (Nat.ne_of_lt (Nat.lt_of_lt_of_le y150.lt y743)) nin0))))
      have y811 := ((y153.keep K727 (ninS (Ne.symm (Nat.ne_of_lt (Nat.lt_of_lt_of_le (Nat.lt_of_lt_of_le A116.lt (Nat.le_trans K123.1 E137.1)) y147))) (ninS (Ne.symm (Nat.ne_of_lt (Nat.lt_of_lt_of_le (Nat.lt_of_lt_of_le y129.lt E137.1) y147))) nin0))).keep K764 (ninS (Ne.symm (Nat.ne_of_lt (Nat.lt_of_lt_of_le (Nat.lt_of_lt_of_le A116.lt (Nat.le_trans K123.1 E137.1)) y147))) (ninS (Ne.symm (Nat.ne_of_lt (Nat.lt_of_lt_of_le (Nat.lt_of_lt_of_le y129.lt E137.1) y147))) (ninS (Nat.ne_of_lt (Nat.lt_of_lt_of_le y150.lt y743)) nin0))))
      have y812 := ((y154.keep K727 (ninS (Ne.symm (Nat.ne_of_lt (Nat.lt_of_lt_of_le (Nat.lt_of_lt_of_le A116.lt (Nat.le_trans K123.1 E137.1)) y147))) (ninS (Ne.symm (Nat.ne_of_lt (Nat.lt_of_lt_of_le (Nat.lt_of_lt_of_le y129.lt E137.1) y147))) nin0))).keep K764 (ninS (Ne.symm (Nat.ne_of_lt (Nat.lt_of_lt_of_le (Nat.lt_of_lt_of_le A116.lt (Nat.le_trans K123.1 E137.1)) y147))) (ninS (Ne.symm (Nat.ne_of_lt (Nat.lt_of_lt_of_le (Nat.lt_of_lt_of_le y129.lt E137.1) y147))) (ninS (Nat.ne_of_lt (Nat.lt_of_lt_of_le y150.lt y743)) nin0))))
      have y813 := ((y155.keep K727 (ninS (Ne.symm (Nat.ne_of_lt (Nat.lt_of_lt_of_le (Nat.lt_of_lt_of_le A116.lt (Nat.le_trans K123.1 E137.1)) y147))) (ninS (Ne.symm (Nat.ne_of_lt (Nat.lt_of_lt_of_le (Nat.lt_of_lt_of_le y129.lt E137.1) y147))) nin0))).keep K764 (ninS (Ne.symm (Nat.ne_of_lt (Nat.lt_of_lt_of_le (Nat.lt_of_lt_of_le A116.lt (Nat.le_trans K123.1 E137.1)) y147))) (ninS (Ne.symm (Nat.ne_of_lt (Nat.lt_of_lt_of_le (Nat.lt_of_lt_of_le y129.lt E137.1) y147))) (ninS (Nat.ne_of_lt (Nat.lt_of_lt_of_le y150.lt y743)) nin0))))
      have ge814 : n0 ≤ r146 := Nat.le_trans (own_old_le O139) y147
      obtain ⟨_, L806, T806, ⟨rfl, M806, K806⟩, X806, st806⟩ := own_callV X802 hx hZ hown (hw _ (mi 142 rfl)) (wd29 hw) (notFace_of_selects (args := #[]) (mvT hZ (hw _ (mi 145 rfl)))) y770 (rm_aa0 hw b116 b137 r146 (0 : Int32) (0 : Int32) T764.heap n0 O798 y803 y807 y808 y809 y810 y811 y812 y813 ge814 y770) g805 e802 [] rfl (lenOf pd_26 rfl) (hb hby at_205) hml.symm 0 rfl (by decide)
      have N806 := Fr.app N802 M806
      have O815 := O798.keep K806 (allS ge814 all0)
      have g816 := ja X806 hx (jN X806 hx (ji X806 hx (js X806 hx (jc X806 hx (jY X806 hx (ji X806 hx st806 (hb hby at_208) rfl) (hb hby at_210) rfl (by decide) (pc' := 222) (by decide)) (hb hby at_222) 0 rfl) (hb hby at_223) rfl (l' := #[.val (.long q1), .second, .val (.long q2), .second, .val (.long q3), .second, .val (.long q4), .second, iv q5, .val (.long ca), .second, .val (.long cb), .second, iv 3, iv 0, rv b116, rv b137, iv 1, iv 0, iv 0]) rfl) (hb hby at_225) rfl) (hb hby at_227) rfl (by decide)) (hb hby at_230) rfl rfl
      have y818 := (y770.keep K806)
      have y819 := (y772.keep K806 (ninS (Nat.ne_of_lt (Nat.lt_of_lt_of_le (Nat.lt_of_lt_of_le A116.lt (Nat.le_trans K123.1 E137.1)) y147)) nin0))
      obtain ⟨_, L817, T817, ⟨rfl, M817, e817⟩, X817, st817⟩ := own_callV X806 hx hZ hown (hw _ (mi 31 rfl)) (wd28 hw) (notFace_of_selects (args := #[]) (mvT hZ (hw _ (mi 34 rfl)))) y818 (rm_isE1 hw b116 (((0 : Int64) + ca) + cb) T806.heap n0 O815 y819 (own_n0 bb765 (by decide))) g816 rfl [] rfl (lenOf pd_23 rfl) (hb hby at_232) hml.symm 0 rfl (by decide)
      have N817 := Fr.app N806 M817
      have g820 := ja X817 hx (jn X817 hx (ji X817 hx st817 (hb hby at_235) rfl) (hb hby at_237) rfl (by decide)) (hb hby at_240) rfl rfl
      have y822 := (y803.keep K806)
      have y823 := (y804.keep K806 (ninS (Nat.ne_of_lt (Nat.lt_of_lt_of_le A137.lt y147)) nin0))
      obtain ⟨_, L821, T821, ⟨rfl, M821, e821⟩, X821, st821⟩ := own_callV X817 hx hZ hown (hw _ (mi 31 rfl)) (wd28 hw) (notFace_of_selects (args := #[]) (mvT hZ (hw _ (mi 34 rfl)))) y822 (rm_isE0 hw b137 (0 : Int64) T806.heap n0 O815 y823 rfl) g820 e817 [] rfl (lenOf pd_23 rfl) (hb hby at_242) hml.symm 0 rfl (by decide)
      have N821 := Fr.app N817 M821
      have g824 := ji X821 hx (js X821 hx (jg X821 hx (jc X821 hx (jn X821 hx (jg X821 hx (jc X821 hx (jN X821 hx (ji X821 hx st821 (hb hby at_245) rfl) (hb hby at_247) rfl (by decide)) (hb hby at_250) 1 rfl) (hb hby at_251) (pc' := 255) (by decide)) (hb hby at_255) rfl (by decide)) (hb hby at_258) 1 rfl) (hb hby at_259) (pc' := 263) (by decide)) (hb hby at_263) rfl (l' := #[.val (.long q1), .second, .val (.long q2), .second, .val (.long q3), .second, .val (.long q4), .second, iv q5, .val (.long ca), .second, .val (.long cb), .second, iv 3, iv 0, rv b116, rv b137, iv 1, iv 0, iv 0]) rfl) (hb hby at_265) rfl
      refine own_leave X821 Bd (some (.int 1)) nofun g824 (fun fs hr => retN X821 hx (t := .boolean) Bd.returns (by simp) (hb hby at_267) hr) (by decide) (by decide) ?_
      exact ⟨rfl, N821⟩
    by_cases c825 : q3 = q1
    ·
      have g826 := show Go p e below T727 (mkF m 132 #[.val (.long q1), .second, .val (.long q2), .second, .val (.long q3), .second, .val (.long q4), .second, iv q5, .val (.long ca), .second, .val (.long cb), .second, iv 3, iv 0, rv b116, rv b137, iv 1, .unset, .unset] [(.long cb), (.long q3), (.ref b116)]) A0 from fun t kt => (show Go p e below T727 (mkF m 130 #[.val (.long q1), .second, .val (.long q2), .second, .val (.long q3), .second, .val (.long q4), .second, iv q5, .val (.long ca), .second, .val (.long cb), .second, iv 3, iv 0, rv b116, rv b137, iv 1, .unset, .unset] [(.long q3), (.ref b116)]) A0 from fun t kt => (ja X727 hx st727 (hb hby at_126) rfl rfl) t (by refine XS.lload X727.here hx rfl (hb hby at_128) rfl ?_; exact kt)) t (by refine XS.lload X727.here hx rfl (hb hby at_130) rfl ?_; exact kt)
      have bb828 : (2 : Int) ≤ (((0 : Int64) + ca) + cb).toInt ∧ (((0 : Int64) + ca) + cb).toInt ≤ 2305843009213693952 := own_addb bb728 b_cb (by decide) (by decide)
      have ge829 : n0 ≤ r737 := Nat.le_trans (own_old_le O156) y743
      obtain ⟨_, L827, T827, ⟨r830, rfl, M827, K827, y831, y832, y833, y834, y835, y836, y837, y838, y839, y840, y841, y842⟩, X827, st827⟩ := own_callV X727 hx hZ hown (hw _ (mi 38 rfl)) (wd17 hw) (notFace_of_selects (args := #[]) (mvT hZ (hw _ (mi 41 rfl)))) y740 (rm_ad1E hw b116 r125 ((0 : Int64) + ca) (1 : Int32) (1 : Int32) q3 cb lc kc lcs r737 r738 r739 q1 ca T727.heap n0 O761 y740 y741 y742 ge124 ge730 (own_n1 b_cb (by decide)) (own_nneg bb728 (by decide)) (own_nneg bb828 (by decide)) S0_ ZA1_ hlc y744 y745 y746 y747 y748 y749 y750 y751 y752 y753 y754 y755 y756 y757 y758 y759 y760 ge829 c825) g826 rfl [] rfl (lenOf pd_15 rfl) (hb hby at_132) hml.symm 0 rfl (by decide)
      have N827 := Fr.app N727 M827
      have O843 := O761.keep K827 (allS ge124 (allS ge829 all0))
      have g844 := ja X827 hx (jN X827 hx (ji X827 hx (js X827 hx (jc X827 hx (jY X827 hx (ji X827 hx (jY X827 hx (ji X827 hx st827 (hb hby at_135) rfl) (hb hby at_137) rfl (by decide) (pc' := 149) (by decide)) (hb hby at_149) rfl) (hb hby at_151) rfl (by decide) (pc' := 158) (by decide)) (hb hby at_158) 0 rfl) (hb hby at_159) rfl (l' := #[.val (.long q1), .second, .val (.long q2), .second, .val (.long q3), .second, .val (.long q4), .second, iv q5, .val (.long ca), .second, .val (.long cb), .second, iv 3, iv 0, rv b116, rv b137, iv 1, iv 0, .unset]) rfl) (hb hby at_161) rfl) (hb hby at_163) rfl (by decide)) (hb hby at_166) rfl rfl
      obtain ⟨_, L845, T845, ⟨rfl, M845, e845⟩, X845, st845⟩ := own_callV X827 hx hZ hown (hw _ (mi 31 rfl)) (wd28 hw) (notFace_of_selects (args := #[]) (mvT hZ (hw _ (mi 34 rfl)))) y831 (rm_isE1 hw b116 (((0 : Int64) + ca) + cb) T827.heap n0 O843 y833 (own_n0 bb828 (by decide))) g844 rfl [] rfl (lenOf pd_23 rfl) (hb hby at_168) hml.symm 0 rfl (by decide)
      have N845 := Fr.app N827 M845
      have g846 := ja X845 hx (jn X845 hx (ji X845 hx st845 (hb hby at_171) rfl) (hb hby at_173) rfl (by decide)) (hb hby at_176) rfl rfl
      have y848 := ((y163.keep K727).keep K827)
      have y849 := ((y149.keep K727 (ninS (Ne.symm (Nat.ne_of_lt (Nat.lt_of_lt_of_le (Nat.lt_of_lt_of_le A116.lt K123.1) (Nat.le_of_eq gb137.symm)))) (ninS (Ne.symm (Nat.ne_of_lt (Nat.lt_of_lt_of_le y129.lt (Nat.le_of_eq gb137.symm)))) nin0))).keep K827 (ninS (Ne.symm (Nat.ne_of_lt (Nat.lt_of_lt_of_le (Nat.lt_of_lt_of_le A116.lt K123.1) (Nat.le_of_eq gb137.symm)))) (ninS (Nat.ne_of_lt (Nat.lt_of_lt_of_le (Nat.lt_of_lt_of_le A137.lt K144.1) y743)) nin0)))
      obtain ⟨_, L847, T847, ⟨rfl, M847, e847⟩, X847, st847⟩ := own_callV X845 hx hZ hown (hw _ (mi 31 rfl)) (wd28 hw) (notFace_of_selects (args := #[]) (mvT hZ (hw _ (mi 34 rfl)))) y848 (rm_isE0 hw b137 (0 : Int64) T827.heap n0 O843 y849 rfl) g846 e845 [] rfl (lenOf pd_23 rfl) (hb hby at_178) hml.symm 0 rfl (by decide)
      have N847 := Fr.app N845 M847
      have g850 := ja X847 hx (ja X847 hx (js X847 hx (jg X847 hx (jc X847 hx (jn X847 hx (jg X847 hx (jc X847 hx (jN X847 hx (ji X847 hx st847 (hb hby at_181) rfl) (hb hby at_183) rfl (by decide)) (hb hby at_186) 1 rfl) (hb hby at_187) (pc' := 191) (by decide)) (hb hby at_191) rfl (by decide)) (hb hby at_194) 1 rfl) (hb hby at_195) (pc' := 199) (by decide)) (hb hby at_199) rfl (l' := #[.val (.long q1), .second, .val (.long q2), .second, .val (.long q3), .second, .val (.long q4), .second, iv q5, .val (.long ca), .second, .val (.long cb), .second, iv 3, iv 0, rv b116, rv b137, iv 1, iv 0, .unset]) rfl) (hb hby at_201) rfl rfl) (hb hby at_203) rfl rfl
      have y852 := ((y148.keep K727 (ninS (Ne.symm (Nat.ne_of_lt (Nat.lt_of_lt_of_le (Nat.lt_of_lt_of_le A116.lt K123.1) (Nat.le_of_eq gb137.symm)))) (ninS (Ne.symm (Nat.ne_of_lt (Nat.lt_of_lt_of_le y129.lt (Nat.le_of_eq gb137.symm)))) nin0))).keep K827 (ninS (Ne.symm (Nat.ne_of_lt (Nat.lt_of_lt_of_le (Nat.lt_of_lt_of_le A116.lt K123.1) (Nat.le_of_eq gb137.symm)))) (ninS (Nat.ne_of_lt (Nat.lt_of_lt_of_le (Nat.lt_of_lt_of_le A137.lt K144.1) y743)) nin0)))
      have y853 := ((y150.keep K727).keep K827)
      have y854 := ((y151.keep K727 (ninS (Ne.symm (Nat.ne_of_lt (Nat.lt_of_lt_of_le (Nat.lt_of_lt_of_le A116.lt (Nat.le_trans K123.1 E137.1)) y147))) (ninS (Ne.symm (Nat.ne_of_lt (Nat.lt_of_lt_of_le (Nat.lt_of_lt_of_le y129.lt E137.1) y147))) nin0))).keep K827 (ninS (Ne.symm (Nat.ne_of_lt (Nat.lt_of_lt_of_le (Nat.lt_of_lt_of_le A116.lt (Nat.le_trans K123.1 E137.1)) y147))) (ninS (Nat.ne_of_lt (Nat.lt_of_lt_of_le y150.lt y743)) nin0)))
      have y855 := ((y152.keep K727 (ninS (Ne.symm (Nat.ne_of_lt (Nat.lt_of_lt_of_le (Nat.lt_of_lt_of_le A116.lt (Nat.le_trans K123.1 E137.1)) y147))) (ninS (Ne.symm (Nat.ne_of_lt (Nat.lt_of_lt_of_le (Nat.lt_of_lt_of_le y129.lt E137.1) y147))) nin0))).keep K827 (ninS (Ne.symm (Nat.ne_of_lt (Nat.lt_of_lt_of_le (Nat.lt_of_lt_of_le A116.lt (Nat.le_trans K123.1 E137.1)) y147))) (ninS (Nat.ne_of_lt (Nat.lt_of_lt_of_le y150.lt y743)) nin0)))
      have y856 := ((y153.keep K727 (ninS (Ne.symm (Nat.ne_of_lt (Nat.lt_of_lt_of_le (Nat.lt_of_lt_of_le A116.lt (Nat.le_trans K123.1 E137.1)) y147))) (ninS (Ne.symm (Nat.ne_of_lt (Nat.lt_of_lt_of_le (Nat.lt_of_lt_of_le y129.lt E137.1) y147))) nin0))).keep K827 (ninS (Ne.symm (Nat.ne_of_lt (Nat.lt_of_lt_of_le (Nat.lt_of_lt_of_le A116.lt (Nat.le_trans K123.1 E137.1)) y147))) (ninS (Nat.ne_of_lt (Nat.lt_of_lt_of_le y150.lt y743)) nin0)))
      have y857 := ((y154.keep K727 (ninS (Ne.symm (Nat.ne_of_lt (Nat.lt_of_lt_of_le (Nat.lt_of_lt_of_le A116.lt (Nat.le_trans K123.1 E137.1)) y147))) (ninS (Ne.symm (Nat.ne_of_lt (Nat.lt_of_lt_of_le (Nat.lt_of_lt_of_le y129.lt E137.1) y147))) nin0))).keep K827 (ninS (Ne.symm (Nat.ne_of_lt (Nat.lt_of_lt_of_le (Nat.lt_of_lt_of_le A116.lt (Nat.le_trans K123.1 E137.1)) y147))) (ninS (Nat.ne_of_lt (Nat.lt_of_lt_of_le y150.lt y743)) nin0)))
      have y858 := ((y155.keep K727 (ninS (Ne.symm (Nat.ne_of_lt (Nat.lt_of_lt_of_le (Nat.lt_of_lt_of_le A116.lt (Nat.le_trans K123.1 E137.1)) y147))) (ninS (Ne.symm (Nat.ne_of_lt (Nat.lt_of_lt_of_le (Nat.lt_of_lt_of_le y129.lt E137.1) y147))) nin0))).keep K827 (ninS (Ne.symm (Nat.ne_of_lt (Nat.lt_of_lt_of_le (Nat.lt_of_lt_of_le A116.lt (Nat.le_trans K123.1 E137.1)) y147))) (ninS (Nat.ne_of_lt (Nat.lt_of_lt_of_le y150.lt y743)) nin0)))
      have ge859 : n0 ≤ r146 := Nat.le_trans (own_old_le O139) y147
      obtain ⟨_, L851, T851, ⟨rfl, M851, K851⟩, X851, st851⟩ := own_callV X847 hx hZ hown (hw _ (mi 142 rfl)) (wd29 hw) (notFace_of_selects (args := #[]) (mvT hZ (hw _ (mi 145 rfl)))) y831 (rm_aa0 hw b116 b137 r146 (0 : Int32) (0 : Int32) T827.heap n0 O843 y848 y852 y853 y854 y855 y856 y857 y858 ge859 y831) g850 e847 [] rfl (lenOf pd_26 rfl) (hb hby at_205) hml.symm 0 rfl (by decide)
      have N851 := Fr.app N847 M851
      have O860 := O843.keep K851 (allS ge859 all0)
      have g861 := ja X851 hx (jN X851 hx (ji X851 hx (js X851 hx (jc X851 hx (jY X851 hx (ji X851 hx st851 (hb hby at_208) rfl) (hb hby at_210) rfl (by decide) (pc' := 222) (by decide)) (hb hby at_222) 0 rfl) (hb hby at_223) rfl (l' := #[.val (.long q1), .second, .val (.long q2), .second, .val (.long q3), .second, .val (.long q4), .second, iv q5, .val (.long ca), .second, .val (.long cb), .second, iv 3, iv 0, rv b116, rv b137, iv 1, iv 0, iv 0]) rfl) (hb hby at_225) rfl) (hb hby at_227) rfl (by decide)) (hb hby at_230) rfl rfl
      have y863 := (y831.keep K851)
      have y864 := (y833.keep K851 (ninS (Nat.ne_of_lt (Nat.lt_of_lt_of_le (Nat.lt_of_lt_of_le A116.lt (Nat.le_trans K123.1 E137.1)) y147)) nin0))
      obtain ⟨_, L862, T862, ⟨rfl, M862, e862⟩, X862, st862⟩ := own_callV X851 hx hZ hown (hw _ (mi 31 rfl)) (wd28 hw) (notFace_of_selects (args := #[]) (mvT hZ (hw _ (mi 34 rfl)))) y863 (rm_isE1 hw b116 (((0 : Int64) + ca) + cb) T851.heap n0 O860 y864 (own_n0 bb828 (by decide))) g861 rfl [] rfl (lenOf pd_23 rfl) (hb hby at_232) hml.symm 0 rfl (by decide)
      have N862 := Fr.app N851 M862
      have g865 := ja X862 hx (jn X862 hx (ji X862 hx st862 (hb hby at_235) rfl) (hb hby at_237) rfl (by decide)) (hb hby at_240) rfl rfl
      have y867 := (y848.keep K851)
      have y868 := (y849.keep K851 (ninS (Nat.ne_of_lt (Nat.lt_of_lt_of_le A137.lt y147)) nin0))
      obtain ⟨_, L866, T866, ⟨rfl, M866, e866⟩, X866, st866⟩ := own_callV X862 hx hZ hown (hw _ (mi 31 rfl)) (wd28 hw) (notFace_of_selects (args := #[]) (mvT hZ (hw _ (mi 34 rfl)))) y867 (rm_isE0 hw b137 (0 : Int64) T851.heap n0 O860 y868 rfl) g865 e862 [] rfl (lenOf pd_23 rfl) (hb hby at_242) hml.symm 0 rfl (by decide)
      have N866 := Fr.app N862 M866
      have g869 := ji X866 hx (js X866 hx (jg X866 hx (jc X866 hx (jn X866 hx (jg X866 hx (jc X866 hx (jN X866 hx (ji X866 hx st866 (hb hby at_245) rfl) (hb hby at_247) rfl (by decide)) (hb hby at_250) 1 rfl) (hb hby at_251) (pc' := 255) (by decide)) (hb hby at_255) rfl (by decide)) (hb hby at_258) 1 rfl) (hb hby at_259) (pc' := 263) (by decide)) (hb hby at_263) rfl (l' := #[.val (.long q1), .second, .val (.long q2), .second, .val (.long q3), .second, .val (.long q4), .second, iv q5, .val (.long ca), .second, .val (.long cb), .second, iv 3, iv 0, rv b116, rv b137, iv 1, iv 0, iv 0]) rfl) (hb hby at_265) rfl
      refine own_leave X866 Bd (some (.int 1)) nofun g869 (fun fs hr => retN X866 hx (t := .boolean) Bd.returns (by simp) (hb hby at_267) hr) (by decide) (by decide) ?_
      exact ⟨rfl, N866⟩
    have hg870 : q1 < q3 := own_gt64 c762 c825
    have g871 := show Go p e below T727 (mkF m 132 #[.val (.long q1), .second, .val (.long q2), .second, .val (.long q3), .second, .val (.long q4), .second, iv q5, .val (.long ca), .second, .val (.long cb), .second, iv 3, iv 0, rv b116, rv b137, iv 1, .unset, .unset] [(.long cb), (.long q3), (.ref b116)]) A0 from fun t kt => (show Go p e below T727 (mkF m 130 #[.val (.long q1), .second, .val (.long q2), .second, .val (.long q3), .second, .val (.long q4), .second, iv q5, .val (.long ca), .second, .val (.long cb), .second, iv 3, iv 0, rv b116, rv b137, iv 1, .unset, .unset] [(.long q3), (.ref b116)]) A0 from fun t kt => (ja X727 hx st727 (hb hby at_126) rfl rfl) t (by refine XS.lload X727.here hx rfl (hb hby at_128) rfl ?_; exact kt)) t (by refine XS.lload X727.here hx rfl (hb hby at_130) rfl ?_; exact kt)
    have bb873 : (2 : Int) ≤ (((0 : Int64) + ca) + cb).toInt ∧ (((0 : Int64) + ca) + cb).toInt ≤ 2305843009213693952 := own_addb bb728 b_cb (by decide) (by decide)
    have ge874 : n0 ≤ r737 := Nat.le_trans (own_old_le O156) y743
    obtain ⟨_, L872, T872, ⟨r875, r876, r877, rfl, M872, K872, y878, y879, y880, y881, y882, y883, y884, y885, y886, y887, y888, y889, y890, y891, y892, y893, y894, y895, y896, y897, y898, y899, y900, y901, y902, y903, y904, y905⟩, X872, st872⟩ := own_callV X727 hx hZ hown (hw _ (mi 38 rfl)) (wd17 hw) (notFace_of_selects (args := #[]) (mvT hZ (hw _ (mi 41 rfl)))) y740 (rm_ad1R hw b116 r125 ((0 : Int64) + ca) (1 : Int32) (1 : Int32) q3 cb lc kc lcs r737 r738 r739 q1 ca T727.heap n0 O761 y740 y741 y742 ge124 ge730 (own_n1 b_cb (by decide)) (own_nneg bb728 (by decide)) (own_nneg bb873 (by decide)) S0_ ZA1_ hlc y744 y745 y746 y747 y748 y749 y750 y751 y752 y753 y754 y755 y756 y757 y758 y759 y760 ge874 hg870) g871 rfl [] rfl (lenOf pd_15 rfl) (hb hby at_132) hml.symm 0 rfl (by decide)
    have N872 := Fr.app N727 M872
    have O906 := O761.keep K872 (allS ge124 (allS ge730 (allS ge874 all0)))
    have g907 := ja X872 hx (jN X872 hx (ji X872 hx (js X872 hx (jc X872 hx (jY X872 hx (ji X872 hx (jY X872 hx (ji X872 hx st872 (hb hby at_135) rfl) (hb hby at_137) rfl (by decide) (pc' := 149) (by decide)) (hb hby at_149) rfl) (hb hby at_151) rfl (by decide) (pc' := 158) (by decide)) (hb hby at_158) 0 rfl) (hb hby at_159) rfl (l' := #[.val (.long q1), .second, .val (.long q2), .second, .val (.long q3), .second, .val (.long q4), .second, iv q5, .val (.long ca), .second, .val (.long cb), .second, iv 3, iv 0, rv b116, rv b137, iv 1, iv 0, .unset]) rfl) (hb hby at_161) rfl) (hb hby at_163) rfl (by decide)) (hb hby at_166) rfl rfl
    obtain ⟨_, L908, T908, ⟨rfl, M908, e908⟩, X908, st908⟩ := own_callV X872 hx hZ hown (hw _ (mi 31 rfl)) (wd28 hw) (notFace_of_selects (args := #[]) (mvT hZ (hw _ (mi 34 rfl)))) y878 (rm_isE1 hw b116 (((0 : Int64) + ca) + cb) T872.heap n0 O906 y880 (own_n0 bb873 (by decide))) g907 rfl [] rfl (lenOf pd_23 rfl) (hb hby at_168) hml.symm 0 rfl (by decide)
    have N908 := Fr.app N872 M908
    have g909 := ja X908 hx (jn X908 hx (ji X908 hx st908 (hb hby at_171) rfl) (hb hby at_173) rfl (by decide)) (hb hby at_176) rfl rfl
    have y911 := ((y163.keep K727).keep K872)
    have y912 := ((y149.keep K727 (ninS (Ne.symm (Nat.ne_of_lt (Nat.lt_of_lt_of_le (Nat.lt_of_lt_of_le A116.lt K123.1) (Nat.le_of_eq gb137.symm)))) (ninS (Ne.symm (Nat.ne_of_lt (Nat.lt_of_lt_of_le y129.lt (Nat.le_of_eq gb137.symm)))) nin0))).keep K872 (ninS (Ne.symm (Nat.ne_of_lt (Nat.lt_of_lt_of_le (Nat.lt_of_lt_of_le A116.lt K123.1) (Nat.le_of_eq gb137.symm)))) (ninS (Ne.symm (Nat.ne_of_lt (Nat.lt_of_lt_of_le y129.lt (Nat.le_of_eq gb137.symm)))) (ninS (Nat.ne_of_lt (Nat.lt_of_lt_of_le (Nat.lt_of_lt_of_le A137.lt K144.1) y743)) nin0))))
    obtain ⟨_, L910, T910, ⟨rfl, M910, e910⟩, X910, st910⟩ := own_callV X908 hx hZ hown (hw _ (mi 31 rfl)) (wd28 hw) (notFace_of_selects (args := #[]) (mvT hZ (hw _ (mi 34 rfl)))) y911 (rm_isE0 hw b137 (0 : Int64) T872.heap n0 O906 y912 rfl) g909 e908 [] rfl (lenOf pd_23 rfl) (hb hby at_178) hml.symm 0 rfl (by decide)
    have N910 := Fr.app N908 M910
    have g913 := ja X910 hx (ja X910 hx (js X910 hx (jg X910 hx (jc X910 hx (jn X910 hx (jg X910 hx (jc X910 hx (jN X910 hx (ji X910 hx st910 (hb hby at_181) rfl) (hb hby at_183) rfl (by decide)) (hb hby at_186) 1 rfl) (hb hby at_187) (pc' := 191) (by decide)) (hb hby at_191) rfl (by decide)) (hb hby at_194) 1 rfl) (hb hby at_195) (pc' := 199) (by decide)) (hb hby at_199) rfl (l' := #[.val (.long q1), .second, .val (.long q2), .second, .val (.long q3), .second, .val (.long q4), .second, iv q5, .val (.long ca), .second, .val (.long cb), .second, iv 3, iv 0, rv b116, rv b137, iv 1, iv 0, .unset]) rfl) (hb hby at_201) rfl rfl) (hb hby at_203) rfl rfl
    have y915 := ((y148.keep K727 (ninS (Ne.symm (Nat.ne_of_lt (Nat.lt_of_lt_of_le (Nat.lt_of_lt_of_le A116.lt K123.1) (Nat.le_of_eq gb137.symm)))) (ninS (Ne.symm (Nat.ne_of_lt (Nat.lt_of_lt_of_le y129.lt (Nat.le_of_eq gb137.symm)))) nin0))).keep K872 (ninS (Ne.symm (Nat.ne_of_lt (Nat.lt_of_lt_of_le (Nat.lt_of_lt_of_le A116.lt K123.1) (Nat.le_of_eq gb137.symm)))) (ninS (Ne.symm (Nat.ne_of_lt (Nat.lt_of_lt_of_le y129.lt (Nat.le_of_eq gb137.symm)))) (ninS (Nat.ne_of_lt (Nat.lt_of_lt_of_le (Nat.lt_of_lt_of_le A137.lt K144.1) y743)) nin0))))
    have y916 := ((y150.keep K727).keep K872)
    have y917 := ((y151.keep K727 (ninS (Ne.symm (Nat.ne_of_lt (Nat.lt_of_lt_of_le (Nat.lt_of_lt_of_le A116.lt (Nat.le_trans K123.1 E137.1)) y147))) (ninS (Ne.symm (Nat.ne_of_lt (Nat.lt_of_lt_of_le (Nat.lt_of_lt_of_le y129.lt E137.1) y147))) nin0))).keep K872 (ninS (Ne.symm (Nat.ne_of_lt (Nat.lt_of_lt_of_le (Nat.lt_of_lt_of_le A116.lt (Nat.le_trans K123.1 E137.1)) y147))) (ninS (Ne.symm (Nat.ne_of_lt (Nat.lt_of_lt_of_le (Nat.lt_of_lt_of_le y129.lt E137.1) y147))) (ninS (Nat.ne_of_lt (Nat.lt_of_lt_of_le y150.lt y743)) nin0))))
    have y918 := ((y152.keep K727 (ninS (Ne.symm (Nat.ne_of_lt (Nat.lt_of_lt_of_le (Nat.lt_of_lt_of_le A116.lt (Nat.le_trans K123.1 E137.1)) y147))) (ninS (Ne.symm (Nat.ne_of_lt (Nat.lt_of_lt_of_le (Nat.lt_of_lt_of_le y129.lt E137.1) y147))) nin0))).keep K872 (ninS (Ne.symm (Nat.ne_of_lt (Nat.lt_of_lt_of_le (Nat.lt_of_lt_of_le A116.lt (Nat.le_trans K123.1 E137.1)) y147))) (ninS (Ne.symm (Nat.ne_of_lt (Nat.lt_of_lt_of_le (Nat.lt_of_lt_of_le y129.lt E137.1) y147))) (ninS (Nat.ne_of_lt (Nat.lt_of_lt_of_le y150.lt y743)) nin0))))
    have y919 := ((y153.keep K727 (ninS (Ne.symm (Nat.ne_of_lt (Nat.lt_of_lt_of_le (Nat.lt_of_lt_of_le A116.lt (Nat.le_trans K123.1 E137.1)) y147))) (ninS (Ne.symm (Nat.ne_of_lt (Nat.lt_of_lt_of_le (Nat.lt_of_lt_of_le y129.lt E137.1) y147))) nin0))).keep K872 (ninS (Ne.symm (Nat.ne_of_lt (Nat.lt_of_lt_of_le (Nat.lt_of_lt_of_le A116.lt (Nat.le_trans K123.1 E137.1)) y147))) (ninS (Ne.symm (Nat.ne_of_lt (Nat.lt_of_lt_of_le (Nat.lt_of_lt_of_le y129.lt E137.1) y147))) (ninS (Nat.ne_of_lt (Nat.lt_of_lt_of_le y150.lt y743)) nin0))))
    have y920 := ((y154.keep K727 (ninS (Ne.symm (Nat.ne_of_lt (Nat.lt_of_lt_of_le (Nat.lt_of_lt_of_le A116.lt (Nat.le_trans K123.1 E137.1)) y147))) (ninS (Ne.symm (Nat.ne_of_lt (Nat.lt_of_lt_of_le (Nat.lt_of_lt_of_le y129.lt E137.1) y147))) nin0))).keep K872 (ninS (Ne.symm (Nat.ne_of_lt (Nat.lt_of_lt_of_le (Nat.lt_of_lt_of_le A116.lt (Nat.le_trans K123.1 E137.1)) y147))) (ninS (Ne.symm (Nat.ne_of_lt (Nat.lt_of_lt_of_le (Nat.lt_of_lt_of_le y129.lt E137.1) y147))) (ninS (Nat.ne_of_lt (Nat.lt_of_lt_of_le y150.lt y743)) nin0))))
    have y921 := ((y155.keep K727 (ninS (Ne.symm (Nat.ne_of_lt (Nat.lt_of_lt_of_le (Nat.lt_of_lt_of_le A116.lt (Nat.le_trans K123.1 E137.1)) y147))) (ninS (Ne.symm (Nat.ne_of_lt (Nat.lt_of_lt_of_le (Nat.lt_of_lt_of_le y129.lt E137.1) y147))) nin0))).keep K872 (ninS (Ne.symm (Nat.ne_of_lt (Nat.lt_of_lt_of_le (Nat.lt_of_lt_of_le A116.lt (Nat.le_trans K123.1 E137.1)) y147))) (ninS (Ne.symm (Nat.ne_of_lt (Nat.lt_of_lt_of_le (Nat.lt_of_lt_of_le y129.lt E137.1) y147))) (ninS (Nat.ne_of_lt (Nat.lt_of_lt_of_le y150.lt y743)) nin0))))
    have ge922 : n0 ≤ r146 := Nat.le_trans (own_old_le O139) y147
    obtain ⟨_, L914, T914, ⟨rfl, M914, K914⟩, X914, st914⟩ := own_callV X910 hx hZ hown (hw _ (mi 142 rfl)) (wd29 hw) (notFace_of_selects (args := #[]) (mvT hZ (hw _ (mi 145 rfl)))) y878 (rm_aa0 hw b116 b137 r146 (0 : Int32) (0 : Int32) T872.heap n0 O906 y911 y915 y916 y917 y918 y919 y920 y921 ge922 y878) g913 e910 [] rfl (lenOf pd_26 rfl) (hb hby at_205) hml.symm 0 rfl (by decide)
    have N914 := Fr.app N910 M914
    have O923 := O906.keep K914 (allS ge922 all0)
    have g924 := ja X914 hx (jN X914 hx (ji X914 hx (js X914 hx (jc X914 hx (jY X914 hx (ji X914 hx st914 (hb hby at_208) rfl) (hb hby at_210) rfl (by decide) (pc' := 222) (by decide)) (hb hby at_222) 0 rfl) (hb hby at_223) rfl (l' := #[.val (.long q1), .second, .val (.long q2), .second, .val (.long q3), .second, .val (.long q4), .second, iv q5, .val (.long ca), .second, .val (.long cb), .second, iv 3, iv 0, rv b116, rv b137, iv 1, iv 0, iv 0]) rfl) (hb hby at_225) rfl) (hb hby at_227) rfl (by decide)) (hb hby at_230) rfl rfl
    have y926 := (y878.keep K914)
    have y927 := (y880.keep K914 (ninS (Nat.ne_of_lt (Nat.lt_of_lt_of_le (Nat.lt_of_lt_of_le A116.lt (Nat.le_trans K123.1 E137.1)) y147)) nin0))
    obtain ⟨_, L925, T925, ⟨rfl, M925, e925⟩, X925, st925⟩ := own_callV X914 hx hZ hown (hw _ (mi 31 rfl)) (wd28 hw) (notFace_of_selects (args := #[]) (mvT hZ (hw _ (mi 34 rfl)))) y926 (rm_isE1 hw b116 (((0 : Int64) + ca) + cb) T914.heap n0 O923 y927 (own_n0 bb873 (by decide))) g924 rfl [] rfl (lenOf pd_23 rfl) (hb hby at_232) hml.symm 0 rfl (by decide)
    have N925 := Fr.app N914 M925
    have g928 := ja X925 hx (jn X925 hx (ji X925 hx st925 (hb hby at_235) rfl) (hb hby at_237) rfl (by decide)) (hb hby at_240) rfl rfl
    have y930 := (y911.keep K914)
    have y931 := (y912.keep K914 (ninS (Nat.ne_of_lt (Nat.lt_of_lt_of_le A137.lt y147)) nin0))
    obtain ⟨_, L929, T929, ⟨rfl, M929, e929⟩, X929, st929⟩ := own_callV X925 hx hZ hown (hw _ (mi 31 rfl)) (wd28 hw) (notFace_of_selects (args := #[]) (mvT hZ (hw _ (mi 34 rfl)))) y930 (rm_isE0 hw b137 (0 : Int64) T914.heap n0 O923 y931 rfl) g928 e925 [] rfl (lenOf pd_23 rfl) (hb hby at_242) hml.symm 0 rfl (by decide)
    have N929 := Fr.app N925 M929
    have g932 := ji X929 hx (js X929 hx (jg X929 hx (jc X929 hx (jn X929 hx (jg X929 hx (jc X929 hx (jN X929 hx (ji X929 hx st929 (hb hby at_245) rfl) (hb hby at_247) rfl (by decide)) (hb hby at_250) 1 rfl) (hb hby at_251) (pc' := 255) (by decide)) (hb hby at_255) rfl (by decide)) (hb hby at_258) 1 rfl) (hb hby at_259) (pc' := 263) (by decide)) (hb hby at_263) rfl (l' := #[.val (.long q1), .second, .val (.long q2), .second, .val (.long q3), .second, .val (.long q4), .second, iv q5, .val (.long ca), .second, .val (.long cb), .second, iv 3, iv 0, rv b116, rv b137, iv 1, iv 0, iv 0]) rfl) (hb hby at_265) rfl
    refine own_leave X929 Bd (some (.int 1)) nofun g932 (fun fs hr => retN X929 hx (t := .boolean) Bd.returns (by simp) (hb hby at_267) hr) (by decide) (by decide) ?_
    exact ⟨rfl, N929⟩
  subst c725
  have g933 := show Go p e below T162 (mkF m 123 #[.val (.long q1), .second, .val (.long q2), .second, .val (.long q3), .second, .val (.long q4), .second, iv q5, .val (.long ca), .second, .val (.long cb), .second, iv 3, iv 1, rv b116, rv b137, iv 1, .unset, .unset] [(.long ca), (.long q1), (.ref b116)]) A0 from fun t kt => (show Go p e below T162 (mkF m 121 #[.val (.long q1), .second, .val (.long q2), .second, .val (.long q3), .second, .val (.long q4), .second, iv q5, .val (.long ca), .second, .val (.long cb), .second, iv 3, iv 1, rv b116, rv b137, iv 1, .unset, .unset] [(.long q1), (.ref b116)]) A0 from fun t kt => (ja X162 hx (jn X162 hx (jc X162 hx (ji X162 hx (jy X162 hx (jc X162 hx (ji X162 hx (jy X162 hx (jc X162 hx (ji X162 hx g164 (hb hby at_80) rfl) (hb hby at_82) 1 rfl) (hb hby at_83) rfl (by decide) (pc' := 95) (by decide)) (hb hby at_95) rfl) (hb hby at_97) 2 rfl) (hb hby at_98) rfl (by decide) (pc' := 112) (by decide)) (hb hby at_112) rfl) (hb hby at_114) 3 rfl) (hb hby at_115) rfl (by decide)) (hb hby at_118) rfl rfl) t (by refine XS.lloadN X162.here hx rfl (hb hby at_120) rfl ?_; exact kt)) t (by refine XS.lload X162.here hx rfl (hb hby at_121) rfl ?_; exact kt)
  have bb935 : (1 : Int) ≤ ((0 : Int64) + ca).toInt ∧ ((0 : Int64) + ca).toInt ≤ 1152921504606846976 := own_addb own_b0 b_ca (by decide) (by decide)
  have y936 := ((y127.ext E137).keep K144 (ninS (Nat.ne_of_lt (Nat.lt_of_lt_of_le (Nat.lt_of_lt_of_le A116.lt K123.1) (Nat.le_of_eq gb137.symm))) nin0))
  have ge937 : n0 ≤ r125 := Nat.le_trans (own_old_le O118) y126
  have y938 := ((y129.ext E137).keep K144)
  have y939 := ((y130.ext E137).keep K144 (ninS (Nat.ne_of_lt (Nat.lt_of_lt_of_le y129.lt (Nat.le_of_eq gb137.symm))) nin0))
  have y940 := ((y131.ext E137).keep K144 (ninS (Nat.ne_of_lt (Nat.lt_of_lt_of_le y129.lt (Nat.le_of_eq gb137.symm))) nin0))
  have y941 := ((y132.ext E137).keep K144 (ninS (Nat.ne_of_lt (Nat.lt_of_lt_of_le y129.lt (Nat.le_of_eq gb137.symm))) nin0))
  have y942 := ((y133.ext E137).keep K144 (ninS (Nat.ne_of_lt (Nat.lt_of_lt_of_le y129.lt (Nat.le_of_eq gb137.symm))) nin0))
  have y943 := ((y134.ext E137).keep K144 (ninS (Nat.ne_of_lt (Nat.lt_of_lt_of_le y129.lt (Nat.le_of_eq gb137.symm))) nin0))
  obtain ⟨_, L934, T934, ⟨r944, r945, r946, rfl, M934, K934, y947, y948, y949, y950, y951, y952, y953, y954, y955, y956, y957, y958, y959, y960, y961, y962, y963, y964, y965, y966, y967⟩, X934, st934⟩ := own_callV X162 hx hZ hown (hw _ (mi 38 rfl)) (wd17 hw) (notFace_of_selects (args := #[]) (mvT hZ (hw _ (mi 41 rfl)))) y159 (rm_ad0 hw b116 r125 (0 : Int64) (0 : Int32) (0 : Int32) q1 ca lc kc lcs T144.heap n0 O156 y159 y936 y160 ge124 ge937 (own_n1 b_ca (by decide)) (own_nneg own_b0 (by decide)) (own_nneg bb935 (by decide)) S0_ ZA1_ hlc y938 y939 y940 y941 y942 y943) g933 e162 [] rfl (lenOf pd_15 rfl) (hb hby at_123) hml.symm 0 rfl (by decide)
  have N934 := Fr.app N162 M934
  have O968 := O156.keep K934 (allS ge124 (allS ge937 all0))
  by_cases c969 : q3 < q1
  ·
    have g970 := show Go p e below T934 (mkF m 132 #[.val (.long q1), .second, .val (.long q2), .second, .val (.long q3), .second, .val (.long q4), .second, iv q5, .val (.long ca), .second, .val (.long cb), .second, iv 3, iv 1, rv b116, rv b137, iv 1, .unset, .unset] [(.long cb), (.long q3), (.ref b116)]) A0 from fun t kt => (show Go p e below T934 (mkF m 130 #[.val (.long q1), .second, .val (.long q2), .second, .val (.long q3), .second, .val (.long q4), .second, iv q5, .val (.long ca), .second, .val (.long cb), .second, iv 3, iv 1, rv b116, rv b137, iv 1, .unset, .unset] [(.long q3), (.ref b116)]) A0 from fun t kt => (ja X934 hx st934 (hb hby at_126) rfl rfl) t (by refine XS.lload X934.here hx rfl (hb hby at_128) rfl ?_; exact kt)) t (by refine XS.lload X934.here hx rfl (hb hby at_130) rfl ?_; exact kt)
    have bb972 : (2 : Int) ≤ (((0 : Int64) + ca) + cb).toInt ∧ (((0 : Int64) + ca) + cb).toInt ≤ 2305843009213693952 := own_addb bb935 b_cb (by decide) (by decide)
    have ge973 : n0 ≤ r944 := Nat.le_trans (own_old_le O156) y950
    obtain ⟨_, L971, T971, ⟨r974, r975, r976, rfl, M971, K971, y977, y978, y979, y980, y981, y982, y983, y984, y985, y986, y987, y988, y989, y990, y991, y992, y993, y994, y995, y996, y997, y998, y999, y1000, y1001, y1002, y1003, y1004⟩, X971, st971⟩ := own_callV X934 hx hZ hown (hw _ (mi 38 rfl)) (wd17 hw) (notFace_of_selects (args := #[]) (mvT hZ (hw _ (mi 41 rfl)))) y947 (rm_ad1L hw b116 r125 ((0 : Int64) + ca) (1 : Int32) (1 : Int32) q3 cb lc kc lcs r944 r945 r946 q1 ca T934.heap n0 O968 y947 y948 y949 ge124 ge937 (own_n1 b_cb (by decide)) (own_nneg bb935 (by decide)) (own_nneg bb972 (by decide)) S0_ ZA1_ hlc y951 y952 y953 y954 y955 y956 y957 y958 y959 y960 y961 y962 y963 y964 y965 y966 y967 ge973 c969) g970 rfl [] rfl (lenOf pd_15 rfl) (hb hby at_132) hml.symm 0 rfl (by decide)
    have N971 := Fr.app N934 M971
    have O1005 := O968.keep K971 (allS ge124 (allS ge937 (allS ge973 all0)))
    have g1006 := show Go p e below T971 (mkF m 146 #[.val (.long q1), .second, .val (.long q2), .second, .val (.long q3), .second, .val (.long q4), .second, iv q5, .val (.long ca), .second, .val (.long cb), .second, iv 3, iv 1, rv b116, rv b137, iv 1, .unset, .unset] [(.long cb), (.long q3), (.ref b137)]) A0 from fun t kt => (show Go p e below T971 (mkF m 144 #[.val (.long q1), .second, .val (.long q2), .second, .val (.long q3), .second, .val (.long q4), .second, iv q5, .val (.long ca), .second, .val (.long cb), .second, iv 3, iv 1, rv b116, rv b137, iv 1, .unset, .unset] [(.long q3), (.ref b137)]) A0 from fun t kt => (ja X971 hx (jN X971 hx (ji X971 hx st971 (hb hby at_135) rfl) (hb hby at_137) rfl (by decide)) (hb hby at_140) rfl rfl) t (by refine XS.lload X971.here hx rfl (hb hby at_142) rfl ?_; exact kt)) t (by refine XS.lload X971.here hx rfl (hb hby at_144) rfl ?_; exact kt)
    have y1008 := ((y163.keep K934).keep K971)
    have bb1009 : (1 : Int) ≤ ((0 : Int64) + cb).toInt ∧ ((0 : Int64) + cb).toInt ≤ 1152921504606846976 := own_addb own_b0 b_cb (by decide) (by decide)
    have y1010 := ((y148.keep K934 (ninS (Ne.symm (Nat.ne_of_lt (Nat.lt_of_lt_of_le (Nat.lt_of_lt_of_le A116.lt K123.1) (Nat.le_of_eq gb137.symm)))) (ninS (Ne.symm (Nat.ne_of_lt (Nat.lt_of_lt_of_le y129.lt (Nat.le_of_eq gb137.symm)))) nin0))).keep K971 (ninS (Ne.symm (Nat.ne_of_lt (Nat.lt_of_lt_of_le (Nat.lt_of_lt_of_le A116.lt K123.1) (Nat.le_of_eq gb137.symm)))) (ninS (Ne.symm (Nat.ne_of_lt (Nat.lt_of_lt_of_le y129.lt (Nat.le_of_eq gb137.symm)))) (ninS (Nat.ne_of_lt (Nat.lt_of_lt_of_le (Nat.lt_of_lt_of_le A137.lt K144.1) y950)) nin0))))
    have y1011 := ((y149.keep K934 (ninS (Ne.symm (Nat.ne_of_lt (Nat.lt_of_lt_of_le (Nat.lt_of_lt_of_le A116.lt K123.1) (Nat.le_of_eq gb137.symm)))) (ninS (Ne.symm (Nat.ne_of_lt (Nat.lt_of_lt_of_le y129.lt (Nat.le_of_eq gb137.symm)))) nin0))).keep K971 (ninS (Ne.symm (Nat.ne_of_lt (Nat.lt_of_lt_of_le (Nat.lt_of_lt_of_le A116.lt K123.1) (Nat.le_of_eq gb137.symm)))) (ninS (Ne.symm (Nat.ne_of_lt (Nat.lt_of_lt_of_le y129.lt (Nat.le_of_eq gb137.symm)))) (ninS (Nat.ne_of_lt (Nat.lt_of_lt_of_le (Nat.lt_of_lt_of_le A137.lt K144.1) y950)) nin0))))
    have ge1012 : n0 ≤ r146 := Nat.le_trans (own_old_le O139) y147
    have y1013 := ((y150.keep K934).keep K971)
    have y1014 := ((y151.keep K934 (ninS (Ne.symm (Nat.ne_of_lt (Nat.lt_of_lt_of_le (Nat.lt_of_lt_of_le A116.lt (Nat.le_trans K123.1 E137.1)) y147))) (ninS (Ne.symm (Nat.ne_of_lt (Nat.lt_of_lt_of_le (Nat.lt_of_lt_of_le y129.lt E137.1) y147))) nin0))).keep K971 (ninS (Ne.symm (Nat.ne_of_lt (Nat.lt_of_lt_of_le (Nat.lt_of_lt_of_le A116.lt (Nat.le_trans K123.1 E137.1)) y147))) (ninS (Ne.symm (Nat.ne_of_lt (Nat.lt_of_lt_of_le (Nat.lt_of_lt_of_le y129.lt E137.1) y147))) (ninS (Nat.ne_of_lt (Nat.lt_of_lt_of_le y150.lt y950)) nin0))))
    have y1015 := ((y152.keep K934 (ninS (Ne.symm (Nat.ne_of_lt (Nat.lt_of_lt_of_le (Nat.lt_of_lt_of_le A116.lt (Nat.le_trans K123.1 E137.1)) y147))) (ninS (Ne.symm (Nat.ne_of_lt (Nat.lt_of_lt_of_le (Nat.lt_of_lt_of_le y129.lt E137.1) y147))) nin0))).keep K971 (ninS (Ne.symm (Nat.ne_of_lt (Nat.lt_of_lt_of_le (Nat.lt_of_lt_of_le A116.lt (Nat.le_trans K123.1 E137.1)) y147))) (ninS (Ne.symm (Nat.ne_of_lt (Nat.lt_of_lt_of_le (Nat.lt_of_lt_of_le y129.lt E137.1) y147))) (ninS (Nat.ne_of_lt (Nat.lt_of_lt_of_le y150.lt y950)) nin0))))
    have y1016 := ((y153.keep K934 (ninS (Ne.symm (Nat.ne_of_lt (Nat.lt_of_lt_of_le (Nat.lt_of_lt_of_le A116.lt (Nat.le_trans K123.1 E137.1)) y147))) (ninS (Ne.symm (Nat.ne_of_lt (Nat.lt_of_lt_of_le (Nat.lt_of_lt_of_le y129.lt E137.1) y147))) nin0))).keep K971 (ninS (Ne.symm (Nat.ne_of_lt (Nat.lt_of_lt_of_le (Nat.lt_of_lt_of_le A116.lt (Nat.le_trans K123.1 E137.1)) y147))) (ninS (Ne.symm (Nat.ne_of_lt (Nat.lt_of_lt_of_le (Nat.lt_of_lt_of_le y129.lt E137.1) y147))) (ninS (Nat.ne_of_lt (Nat.lt_of_lt_of_le y150.lt y950)) nin0))))
    have y1017 := ((y154.keep K934 (ninS (Ne.symm (Nat.ne_of_lt (Nat.lt_of_lt_of_le (Nat.lt_of_lt_of_le A116.lt (Nat.le_trans K123.1 E137.1)) y147))) (ninS (Ne.symm (Nat.ne_of_lt (Nat.lt_of_lt_of_le (Nat.lt_of_lt_of_le y129.lt E137.1) y147))) nin0))).keep K971 (ninS (Ne.symm (Nat.ne_of_lt (Nat.lt_of_lt_of_le (Nat.lt_of_lt_of_le A116.lt (Nat.le_trans K123.1 E137.1)) y147))) (ninS (Ne.symm (Nat.ne_of_lt (Nat.lt_of_lt_of_le (Nat.lt_of_lt_of_le y129.lt E137.1) y147))) (ninS (Nat.ne_of_lt (Nat.lt_of_lt_of_le y150.lt y950)) nin0))))
    have y1018 := ((y155.keep K934 (ninS (Ne.symm (Nat.ne_of_lt (Nat.lt_of_lt_of_le (Nat.lt_of_lt_of_le A116.lt (Nat.le_trans K123.1 E137.1)) y147))) (ninS (Ne.symm (Nat.ne_of_lt (Nat.lt_of_lt_of_le (Nat.lt_of_lt_of_le y129.lt E137.1) y147))) nin0))).keep K971 (ninS (Ne.symm (Nat.ne_of_lt (Nat.lt_of_lt_of_le (Nat.lt_of_lt_of_le A116.lt (Nat.le_trans K123.1 E137.1)) y147))) (ninS (Ne.symm (Nat.ne_of_lt (Nat.lt_of_lt_of_le (Nat.lt_of_lt_of_le y129.lt E137.1) y147))) (ninS (Nat.ne_of_lt (Nat.lt_of_lt_of_le y150.lt y950)) nin0))))
    obtain ⟨_, L1007, T1007, ⟨r1019, r1020, r1021, rfl, M1007, K1007, y1022, y1023, y1024, y1025, y1026, y1027, y1028, y1029, y1030, y1031, y1032, y1033, y1034, y1035, y1036, y1037, y1038, y1039, y1040, y1041, y1042⟩, X1007, st1007⟩ := own_callV X971 hx hZ hown (hw _ (mi 38 rfl)) (wd17 hw) (notFace_of_selects (args := #[]) (mvT hZ (hw _ (mi 41 rfl)))) y1008 (rm_ad0 hw b137 r146 (0 : Int64) (0 : Int32) (0 : Int32) q3 cb lc kc lcs T971.heap n0 O1005 y1008 y1010 y1011 ge145 ge1012 (own_n1 b_cb (by decide)) (own_nneg own_b0 (by decide)) (own_nneg bb1009 (by decide)) S0_ ZA1_ hlc y1013 y1014 y1015 y1016 y1017 y1018) g1006 rfl [] rfl (lenOf pd_15 rfl) (hb hby at_146) hml.symm 0 rfl (by decide)
    have N1007 := Fr.app N971 M1007
    have O1043 := O1005.keep K1007 (allS ge145 (allS ge1012 all0))
    have g1044 := ja X1007 hx (jN X1007 hx (ji X1007 hx (js X1007 hx (jc X1007 hx (jY X1007 hx (ji X1007 hx st1007 (hb hby at_149) rfl) (hb hby at_151) rfl (by decide) (pc' := 158) (by decide)) (hb hby at_158) 0 rfl) (hb hby at_159) rfl (l' := #[.val (.long q1), .second, .val (.long q2), .second, .val (.long q3), .second, .val (.long q4), .second, iv q5, .val (.long ca), .second, .val (.long cb), .second, iv 3, iv 1, rv b116, rv b137, iv 1, iv 0, .unset]) rfl) (hb hby at_161) rfl) (hb hby at_163) rfl (by decide)) (hb hby at_166) rfl rfl
    have y1046 := (y977.keep K1007)
    have y1047 := (y979.keep K1007 (ninS (Nat.ne_of_lt (Nat.lt_of_lt_of_le (Nat.lt_of_lt_of_le A116.lt K123.1) (Nat.le_of_eq gb137.symm))) (ninS (Nat.ne_of_lt (Nat.lt_of_lt_of_le (Nat.lt_of_lt_of_le A116.lt (Nat.le_trans K123.1 E137.1)) y147)) nin0)))
    obtain ⟨_, L1045, T1045, ⟨rfl, M1045, e1045⟩, X1045, st1045⟩ := own_callV X1007 hx hZ hown (hw _ (mi 31 rfl)) (wd28 hw) (notFace_of_selects (args := #[]) (mvT hZ (hw _ (mi 34 rfl)))) y1046 (rm_isE1 hw b116 (((0 : Int64) + ca) + cb) T1007.heap n0 O1043 y1047 (own_n0 bb972 (by decide))) g1044 rfl [] rfl (lenOf pd_23 rfl) (hb hby at_168) hml.symm 0 rfl (by decide)
    have N1045 := Fr.app N1007 M1045
    have g1048 := ja X1045 hx (jn X1045 hx (ji X1045 hx st1045 (hb hby at_171) rfl) (hb hby at_173) rfl (by decide)) (hb hby at_176) rfl rfl
    obtain ⟨_, L1049, T1049, ⟨rfl, M1049, e1049⟩, X1049, st1049⟩ := own_callV X1045 hx hZ hown (hw _ (mi 31 rfl)) (wd28 hw) (notFace_of_selects (args := #[]) (mvT hZ (hw _ (mi 34 rfl)))) y1022 (rm_isE1 hw b137 ((0 : Int64) + cb) T1007.heap n0 O1043 y1024 (own_n0 bb1009 (by decide))) g1048 e1045 [] rfl (lenOf pd_23 rfl) (hb hby at_178) hml.symm 0 rfl (by decide)
    have N1049 := Fr.app N1045 M1049
    have g1050 := ja X1049 hx (ja X1049 hx (js X1049 hx (jg X1049 hx (jc X1049 hx (jn X1049 hx (jc X1049 hx (jY X1049 hx (ji X1049 hx st1049 (hb hby at_181) rfl) (hb hby at_183) rfl (by decide) (pc' := 190) (by decide)) (hb hby at_190) 0 rfl) (hb hby at_191) rfl (by decide)) (hb hby at_194) 1 rfl) (hb hby at_195) (pc' := 199) (by decide)) (hb hby at_199) rfl (l' := #[.val (.long q1), .second, .val (.long q2), .second, .val (.long q3), .second, .val (.long q4), .second, iv q5, .val (.long ca), .second, .val (.long cb), .second, iv 3, iv 1, rv b116, rv b137, iv 1, iv 0, .unset]) rfl) (hb hby at_201) rfl rfl) (hb hby at_203) rfl rfl
    have bb1052 : (3 : Int) ≤ ((((0 : Int64) + ca) + cb) + cb).toInt ∧ ((((0 : Int64) + ca) + cb) + cb).toInt ≤ 3458764513820540928 := own_addb bb972 b_cb (by decide) (by decide)
    have y1053 := (y978.keep K1007 (ninS (Nat.ne_of_lt (Nat.lt_of_lt_of_le (Nat.lt_of_lt_of_le A116.lt K123.1) (Nat.le_of_eq gb137.symm))) (ninS (Nat.ne_of_lt (Nat.lt_of_lt_of_le (Nat.lt_of_lt_of_le A116.lt (Nat.le_trans K123.1 E137.1)) y147)) nin0)))
    have y1054 := (y981.keep K1007)
    have y1055 := (y982.keep K1007 (ninS (Nat.ne_of_lt (Nat.lt_of_lt_of_le y129.lt (Nat.le_of_eq gb137.symm))) (ninS (Nat.ne_of_lt (Nat.lt_of_lt_of_le (Nat.lt_of_lt_of_le y129.lt E137.1) y147)) nin0)))
    have y1056 := (y983.keep K1007 (ninS (Nat.ne_of_lt (Nat.lt_of_lt_of_le y129.lt (Nat.le_of_eq gb137.symm))) (ninS (Nat.ne_of_lt (Nat.lt_of_lt_of_le (Nat.lt_of_lt_of_le y129.lt E137.1) y147)) nin0)))
    have y1057 := (y984.keep K1007 (ninS (Nat.ne_of_lt (Nat.lt_of_lt_of_le y129.lt (Nat.le_of_eq gb137.symm))) (ninS (Nat.ne_of_lt (Nat.lt_of_lt_of_le (Nat.lt_of_lt_of_le y129.lt E137.1) y147)) nin0)))
    have y1058 := (y985.keep K1007 (ninS (Nat.ne_of_lt (Nat.lt_of_lt_of_le y129.lt (Nat.le_of_eq gb137.symm))) (ninS (Nat.ne_of_lt (Nat.lt_of_lt_of_le (Nat.lt_of_lt_of_le y129.lt E137.1) y147)) nin0)))
    have y1059 := (y986.keep K1007 (ninS (Nat.ne_of_lt (Nat.lt_of_lt_of_le y129.lt (Nat.le_of_eq gb137.symm))) (ninS (Nat.ne_of_lt (Nat.lt_of_lt_of_le (Nat.lt_of_lt_of_le y129.lt E137.1) y147)) nin0)))
    have y1060 := (y987.keep K1007)
    have y1061 := (y988.keep K1007 (ninS (Ne.symm (Nat.ne_of_lt (Nat.lt_of_lt_of_le (Nat.lt_of_lt_of_le A137.lt K144.1) y950))) (ninS (Ne.symm (Nat.ne_of_lt (Nat.lt_of_lt_of_le y150.lt y950))) nin0)))
    have y1062 := (y989.keep K1007 (ninS (Ne.symm (Nat.ne_of_lt (Nat.lt_of_lt_of_le (Nat.lt_of_lt_of_le A137.lt K144.1) y950))) (ninS (Ne.symm (Nat.ne_of_lt (Nat.lt_of_lt_of_le y150.lt y950))) nin0)))
    have y1063 := (y990.keep K1007 (ninS (Ne.symm (Nat.ne_of_lt (Nat.lt_of_lt_of_le (Nat.lt_of_lt_of_le A137.lt K144.1) y950))) (ninS (Ne.symm (Nat.ne_of_lt (Nat.lt_of_lt_of_le y150.lt y950))) nin0)))
    have y1064 := (y991.keep K1007 (ninS (Ne.symm (Nat.ne_of_lt (Nat.lt_of_lt_of_le (Nat.lt_of_lt_of_le A137.lt K144.1) y950))) (ninS (Ne.symm (Nat.ne_of_lt (Nat.lt_of_lt_of_le y150.lt y950))) nin0)))
    have y1065 := (y992.keep K1007 (ninS (Ne.symm (Nat.ne_of_lt (Nat.lt_of_lt_of_le (Nat.lt_of_lt_of_le A137.lt K144.1) y950))) (ninS (Ne.symm (Nat.ne_of_lt (Nat.lt_of_lt_of_le y150.lt y950))) nin0)))
    have y1066 := (y993.keep K1007 (ninS (Ne.symm (Nat.ne_of_lt (Nat.lt_of_lt_of_le (Nat.lt_of_lt_of_le A137.lt K144.1) y950))) (ninS (Ne.symm (Nat.ne_of_lt (Nat.lt_of_lt_of_le y150.lt y950))) nin0)))
    have y1067 := (y994.keep K1007)
    have y1068 := (y995.keep K1007 (ninS (Ne.symm (Nat.ne_of_lt (Nat.lt_of_lt_of_le (Nat.lt_of_lt_of_le A137.lt (Nat.le_trans K144.1 K934.1)) y980))) (ninS (Ne.symm (Nat.ne_of_lt (Nat.lt_of_lt_of_le (Nat.lt_of_lt_of_le y150.lt K934.1) y980))) nin0)))
    have y1069 := (y996.keep K1007 (ninS (Ne.symm (Nat.ne_of_lt (Nat.lt_of_lt_of_le (Nat.lt_of_lt_of_le A137.lt (Nat.le_trans K144.1 K934.1)) y980))) (ninS (Ne.symm (Nat.ne_of_lt (Nat.lt_of_lt_of_le (Nat.lt_of_lt_of_le y150.lt K934.1) y980))) nin0)))
    have y1070 := (y997.keep K1007 (ninS (Ne.symm (Nat.ne_of_lt (Nat.lt_of_lt_of_le (Nat.lt_of_lt_of_le A137.lt (Nat.le_trans K144.1 K934.1)) y980))) (ninS (Ne.symm (Nat.ne_of_lt (Nat.lt_of_lt_of_le (Nat.lt_of_lt_of_le y150.lt K934.1) y980))) nin0)))
    have y1071 := (y998.keep K1007 (ninS (Ne.symm (Nat.ne_of_lt (Nat.lt_of_lt_of_le (Nat.lt_of_lt_of_le A137.lt (Nat.le_trans K144.1 K934.1)) y980))) (ninS (Ne.symm (Nat.ne_of_lt (Nat.lt_of_lt_of_le (Nat.lt_of_lt_of_le y150.lt K934.1) y980))) nin0)))
    have y1072 := (y999.keep K1007 (ninS (Ne.symm (Nat.ne_of_lt (Nat.lt_of_lt_of_le (Nat.lt_of_lt_of_le A137.lt (Nat.le_trans K144.1 K934.1)) y980))) (ninS (Ne.symm (Nat.ne_of_lt (Nat.lt_of_lt_of_le (Nat.lt_of_lt_of_le y150.lt K934.1) y980))) nin0)))
    have y1073 := (y1000.keep K1007 (ninS (Ne.symm (Nat.ne_of_lt (Nat.lt_of_lt_of_le (Nat.lt_of_lt_of_le A137.lt (Nat.le_trans K144.1 K934.1)) y980))) (ninS (Ne.symm (Nat.ne_of_lt (Nat.lt_of_lt_of_le (Nat.lt_of_lt_of_le y150.lt K934.1) y980))) nin0)))
    have y1074 := ((y964.keep K971).keep K1007)
    have y1075 := ((y965.keep K971 (ninS (ne_exa y1074 y1046 (by decide)) (ninS (ne_exa y1074 y1054 (by decide)) (ninS (ne_exa y1074 y1060 (by decide)) nin0)))).keep K1007 (ninS (ne_exa y1074 y1022 (by decide)) (ninS (ne_exa y1074 y1026 (by decide)) nin0)))
    have y1076 := ((y966.keep K971).keep K1007)
    have y1077 := ((y967.keep K971 (ninS (ne_exa y1076 y1046 (by decide)) (ninS (ne_exa y1076 y1054 (by decide)) (ninS (ne_exa y1076 y1060 (by decide)) nin0)))).keep K1007 (ninS (ne_exa y1076 y1022 (by decide)) (ninS (ne_exa y1076 y1026 (by decide)) nin0)))
    have y1078 := (y1001.keep K1007)
    have y1079 := (y1002.keep K1007 (ninS (ne_exa y1078 y1022 (by decide)) (ninS (ne_exa y1078 y1026 (by decide)) nin0)))
    have y1080 := (y1003.keep K1007)
    have y1081 := (y1004.keep K1007 (ninS (ne_exa y1080 y1022 (by decide)) (ninS (ne_exa y1080 y1026 (by decide)) nin0)))
    have ge1082 : n0 ≤ r974 := Nat.le_trans (own_old_le O968) y980
    obtain ⟨_, L1051, T1051, ⟨rfl, M1051, K1051, y1083, y1084⟩, X1051, st1051⟩ := own_callV X1049 hx hZ hown (hw _ (mi 142 rfl)) (wd29 hw) (notFace_of_selects (args := #[]) (mvT hZ (hw _ (mi 145 rfl)))) y1046 (rm_aa12L hw b116 r125 (((0 : Int64) + ca) + cb) (2 : Int32) (2 : Int32) q3 cb lc kc lcs b137 r146 (1 : Int32) (1 : Int32) r1019 r1020 r1021 r944 r945 r946 q1 ca r974 r975 r976 q3 cb T1007.heap n0 O1043 y1046 y1053 y1047 ge124 ge937 (own_n1 b_cb (by decide)) (own_nneg bb972 (by decide)) (own_nneg bb1052 (by decide)) S0_ ZA1_ hlc y1022 y1023 y1026 y1027 y1028 y1029 y1030 y1031 ge1012 y1032 y1033 y1034 y1035 y1036 y1037 y1038 y1039 y1040 y1041 y1042 (Nat.ne_of_lt (Nat.lt_of_lt_of_le (Nat.lt_of_lt_of_le y129.lt E137.1) y147)) y1054 y1055 y1056 y1057 y1058 y1059 y1060 y1061 y1062 y1063 y1064 y1065 y1066 y1067 y1068 y1069 y1070 y1071 y1072 y1073 y1074 y1075 y1076 y1077 y1078 y1079 y1080 y1081 ge973 ge1082 (Nat.ne_of_lt (Nat.lt_of_lt_of_le y957.lt y980)) c969 rfl) g1050 e1049 [] rfl (lenOf pd_26 rfl) (hb hby at_205) hml.symm 0 rfl (by decide)
    have N1051 := Fr.app N1049 M1051
    have O1085 := O1043.keep K1051 (allS ge124 (allS ge1012 (allS ge1082 all0)))
    have g1086 := ja X1051 hx (jN X1051 hx (ji X1051 hx (js X1051 hx (jc X1051 hx (jY X1051 hx (ji X1051 hx st1051 (hb hby at_208) rfl) (hb hby at_210) rfl (by decide) (pc' := 222) (by decide)) (hb hby at_222) 0 rfl) (hb hby at_223) rfl (l' := #[.val (.long q1), .second, .val (.long q2), .second, .val (.long q3), .second, .val (.long q4), .second, iv q5, .val (.long ca), .second, .val (.long cb), .second, iv 3, iv 1, rv b116, rv b137, iv 1, iv 0, iv 0]) rfl) (hb hby at_225) rfl) (hb hby at_227) rfl (by decide)) (hb hby at_230) rfl rfl
    obtain ⟨_, L1087, T1087, ⟨rfl, M1087, e1087⟩, X1087, st1087⟩ := own_callV X1051 hx hZ hown (hw _ (mi 31 rfl)) (wd28 hw) (notFace_of_selects (args := #[]) (mvT hZ (hw _ (mi 34 rfl)))) y1084 (rm_isE1 hw b116 ((((0 : Int64) + ca) + cb) + cb) T1051.heap n0 O1085 y1083 (own_n0 bb1052 (by decide))) g1086 rfl [] rfl (lenOf pd_23 rfl) (hb hby at_232) hml.symm 0 rfl (by decide)
    have N1087 := Fr.app N1051 M1087
    have g1088 := ja X1087 hx (jn X1087 hx (ji X1087 hx st1087 (hb hby at_235) rfl) (hb hby at_237) rfl (by decide)) (hb hby at_240) rfl rfl
    have y1090 := (y1022.keep K1051)
    have y1091 := (y1024.keep K1051 (ninS (Ne.symm (Nat.ne_of_lt (Nat.lt_of_lt_of_le (Nat.lt_of_lt_of_le A116.lt K123.1) (Nat.le_of_eq gb137.symm)))) (ninS (Nat.ne_of_lt (Nat.lt_of_lt_of_le A137.lt y147)) (ninS (Nat.ne_of_lt (Nat.lt_of_lt_of_le (Nat.lt_of_lt_of_le A137.lt (Nat.le_trans K144.1 K934.1)) y980)) nin0))))
    obtain ⟨_, L1089, T1089, ⟨rfl, M1089, e1089⟩, X1089, st1089⟩ := own_callV X1087 hx hZ hown (hw _ (mi 31 rfl)) (wd28 hw) (notFace_of_selects (args := #[]) (mvT hZ (hw _ (mi 34 rfl)))) y1090 (rm_isE1 hw b137 ((0 : Int64) + cb) T1051.heap n0 O1085 y1091 (own_n0 bb1009 (by decide))) g1088 e1087 [] rfl (lenOf pd_23 rfl) (hb hby at_242) hml.symm 0 rfl (by decide)
    have N1089 := Fr.app N1087 M1089
    have g1092 := ji X1089 hx (js X1089 hx (jg X1089 hx (jc X1089 hx (jn X1089 hx (jc X1089 hx (jY X1089 hx (ji X1089 hx st1089 (hb hby at_245) rfl) (hb hby at_247) rfl (by decide) (pc' := 254) (by decide)) (hb hby at_254) 0 rfl) (hb hby at_255) rfl (by decide)) (hb hby at_258) 1 rfl) (hb hby at_259) (pc' := 263) (by decide)) (hb hby at_263) rfl (l' := #[.val (.long q1), .second, .val (.long q2), .second, .val (.long q3), .second, .val (.long q4), .second, iv q5, .val (.long ca), .second, .val (.long cb), .second, iv 3, iv 1, rv b116, rv b137, iv 1, iv 0, iv 0]) rfl) (hb hby at_265) rfl
    refine own_leave X1089 Bd (some (.int 1)) nofun g1092 (fun fs hr => retN X1089 hx (t := .boolean) Bd.returns (by simp) (hb hby at_267) hr) (by decide) (by decide) ?_
    exact ⟨rfl, N1089⟩
  by_cases c1093 : q3 = q1
  ·
    have g1094 := show Go p e below T934 (mkF m 132 #[.val (.long q1), .second, .val (.long q2), .second, .val (.long q3), .second, .val (.long q4), .second, iv q5, .val (.long ca), .second, .val (.long cb), .second, iv 3, iv 1, rv b116, rv b137, iv 1, .unset, .unset] [(.long cb), (.long q3), (.ref b116)]) A0 from fun t kt => (show Go p e below T934 (mkF m 130 #[.val (.long q1), .second, .val (.long q2), .second, .val (.long q3), .second, .val (.long q4), .second, iv q5, .val (.long ca), .second, .val (.long cb), .second, iv 3, iv 1, rv b116, rv b137, iv 1, .unset, .unset] [(.long q3), (.ref b116)]) A0 from fun t kt => (ja X934 hx st934 (hb hby at_126) rfl rfl) t (by refine XS.lload X934.here hx rfl (hb hby at_128) rfl ?_; exact kt)) t (by refine XS.lload X934.here hx rfl (hb hby at_130) rfl ?_; exact kt)
    have bb1096 : (2 : Int) ≤ (((0 : Int64) + ca) + cb).toInt ∧ (((0 : Int64) + ca) + cb).toInt ≤ 2305843009213693952 := own_addb bb935 b_cb (by decide) (by decide)
    have ge1097 : n0 ≤ r944 := Nat.le_trans (own_old_le O156) y950
    obtain ⟨_, L1095, T1095, ⟨r1098, rfl, M1095, K1095, y1099, y1100, y1101, y1102, y1103, y1104, y1105, y1106, y1107, y1108, y1109, y1110⟩, X1095, st1095⟩ := own_callV X934 hx hZ hown (hw _ (mi 38 rfl)) (wd17 hw) (notFace_of_selects (args := #[]) (mvT hZ (hw _ (mi 41 rfl)))) y947 (rm_ad1E hw b116 r125 ((0 : Int64) + ca) (1 : Int32) (1 : Int32) q3 cb lc kc lcs r944 r945 r946 q1 ca T934.heap n0 O968 y947 y948 y949 ge124 ge937 (own_n1 b_cb (by decide)) (own_nneg bb935 (by decide)) (own_nneg bb1096 (by decide)) S0_ ZA1_ hlc y951 y952 y953 y954 y955 y956 y957 y958 y959 y960 y961 y962 y963 y964 y965 y966 y967 ge1097 c1093) g1094 rfl [] rfl (lenOf pd_15 rfl) (hb hby at_132) hml.symm 0 rfl (by decide)
    have N1095 := Fr.app N934 M1095
    have O1111 := O968.keep K1095 (allS ge124 (allS ge1097 all0))
    have g1112 := show Go p e below T1095 (mkF m 146 #[.val (.long q1), .second, .val (.long q2), .second, .val (.long q3), .second, .val (.long q4), .second, iv q5, .val (.long ca), .second, .val (.long cb), .second, iv 3, iv 1, rv b116, rv b137, iv 1, .unset, .unset] [(.long cb), (.long q3), (.ref b137)]) A0 from fun t kt => (show Go p e below T1095 (mkF m 144 #[.val (.long q1), .second, .val (.long q2), .second, .val (.long q3), .second, .val (.long q4), .second, iv q5, .val (.long ca), .second, .val (.long cb), .second, iv 3, iv 1, rv b116, rv b137, iv 1, .unset, .unset] [(.long q3), (.ref b137)]) A0 from fun t kt => (ja X1095 hx (jN X1095 hx (ji X1095 hx st1095 (hb hby at_135) rfl) (hb hby at_137) rfl (by decide)) (hb hby at_140) rfl rfl) t (by refine XS.lload X1095.here hx rfl (hb hby at_142) rfl ?_; exact kt)) t (by refine XS.lload X1095.here hx rfl (hb hby at_144) rfl ?_; exact kt)
    have y1114 := ((y163.keep K934).keep K1095)
    have bb1115 : (1 : Int) ≤ ((0 : Int64) + cb).toInt ∧ ((0 : Int64) + cb).toInt ≤ 1152921504606846976 := own_addb own_b0 b_cb (by decide) (by decide)
    have y1116 := ((y148.keep K934 (ninS (Ne.symm (Nat.ne_of_lt (Nat.lt_of_lt_of_le (Nat.lt_of_lt_of_le A116.lt K123.1) (Nat.le_of_eq gb137.symm)))) (ninS (Ne.symm (Nat.ne_of_lt (Nat.lt_of_lt_of_le y129.lt (Nat.le_of_eq gb137.symm)))) nin0))).keep K1095 (ninS (Ne.symm (Nat.ne_of_lt (Nat.lt_of_lt_of_le (Nat.lt_of_lt_of_le A116.lt K123.1) (Nat.le_of_eq gb137.symm)))) (ninS (Nat.ne_of_lt (Nat.lt_of_lt_of_le (Nat.lt_of_lt_of_le A137.lt K144.1) y950)) nin0)))
    have y1117 := ((y149.keep K934 (ninS (Ne.symm (Nat.ne_of_lt (Nat.lt_of_lt_of_le (Nat.lt_of_lt_of_le A116.lt K123.1) (Nat.le_of_eq gb137.symm)))) (ninS (Ne.symm (Nat.ne_of_lt (Nat.lt_of_lt_of_le y129.lt (Nat.le_of_eq gb137.symm)))) nin0))).keep K1095 (ninS (Ne.symm (Nat.ne_of_lt (Nat.lt_of_lt_of_le (Nat.lt_of_lt_of_le A116.lt K123.1) (Nat.le_of_eq gb137.symm)))) (ninS (Nat.ne_of_lt (Nat.lt_of_lt_of_le (Nat.lt_of_lt_of_le A137.lt K144.1) y950)) nin0)))
    have ge1118 : n0 ≤ r146 := Nat.le_trans (own_old_le O139) y147
    have y1119 := ((y150.keep K934).keep K1095)
    have y1120 := ((y151.keep K934 (ninS (Ne.symm (Nat.ne_of_lt (Nat.lt_of_lt_of_le (Nat.lt_of_lt_of_le A116.lt (Nat.le_trans K123.1 E137.1)) y147))) (ninS (Ne.symm (Nat.ne_of_lt (Nat.lt_of_lt_of_le (Nat.lt_of_lt_of_le y129.lt E137.1) y147))) nin0))).keep K1095 (ninS (Ne.symm (Nat.ne_of_lt (Nat.lt_of_lt_of_le (Nat.lt_of_lt_of_le A116.lt (Nat.le_trans K123.1 E137.1)) y147))) (ninS (Nat.ne_of_lt (Nat.lt_of_lt_of_le y150.lt y950)) nin0)))
    have y1121 := ((y152.keep K934 (ninS (Ne.symm (Nat.ne_of_lt (Nat.lt_of_lt_of_le (Nat.lt_of_lt_of_le A116.lt (Nat.le_trans K123.1 E137.1)) y147))) (ninS (Ne.symm (Nat.ne_of_lt (Nat.lt_of_lt_of_le (Nat.lt_of_lt_of_le y129.lt E137.1) y147))) nin0))).keep K1095 (ninS (Ne.symm (Nat.ne_of_lt (Nat.lt_of_lt_of_le (Nat.lt_of_lt_of_le A116.lt (Nat.le_trans K123.1 E137.1)) y147))) (ninS (Nat.ne_of_lt (Nat.lt_of_lt_of_le y150.lt y950)) nin0)))
    have y1122 := ((y153.keep K934 (ninS (Ne.symm (Nat.ne_of_lt (Nat.lt_of_lt_of_le (Nat.lt_of_lt_of_le A116.lt (Nat.le_trans K123.1 E137.1)) y147))) (ninS (Ne.symm (Nat.ne_of_lt (Nat.lt_of_lt_of_le (Nat.lt_of_lt_of_le y129.lt E137.1) y147))) nin0))).keep K1095 (ninS (Ne.symm (Nat.ne_of_lt (Nat.lt_of_lt_of_le (Nat.lt_of_lt_of_le A116.lt (Nat.le_trans K123.1 E137.1)) y147))) (ninS (Nat.ne_of_lt (Nat.lt_of_lt_of_le y150.lt y950)) nin0)))
    have y1123 := ((y154.keep K934 (ninS (Ne.symm (Nat.ne_of_lt (Nat.lt_of_lt_of_le (Nat.lt_of_lt_of_le A116.lt (Nat.le_trans K123.1 E137.1)) y147))) (ninS (Ne.symm (Nat.ne_of_lt (Nat.lt_of_lt_of_le (Nat.lt_of_lt_of_le y129.lt E137.1) y147))) nin0))).keep K1095 (ninS (Ne.symm (Nat.ne_of_lt (Nat.lt_of_lt_of_le (Nat.lt_of_lt_of_le A116.lt (Nat.le_trans K123.1 E137.1)) y147))) (ninS (Nat.ne_of_lt (Nat.lt_of_lt_of_le y150.lt y950)) nin0)))
    have y1124 := ((y155.keep K934 (ninS (Ne.symm (Nat.ne_of_lt (Nat.lt_of_lt_of_le (Nat.lt_of_lt_of_le A116.lt (Nat.le_trans K123.1 E137.1)) y147))) (ninS (Ne.symm (Nat.ne_of_lt (Nat.lt_of_lt_of_le (Nat.lt_of_lt_of_le y129.lt E137.1) y147))) nin0))).keep K1095 (ninS (Ne.symm (Nat.ne_of_lt (Nat.lt_of_lt_of_le (Nat.lt_of_lt_of_le A116.lt (Nat.le_trans K123.1 E137.1)) y147))) (ninS (Nat.ne_of_lt (Nat.lt_of_lt_of_le y150.lt y950)) nin0)))
    obtain ⟨_, L1113, T1113, ⟨r1125, r1126, r1127, rfl, M1113, K1113, y1128, y1129, y1130, y1131, y1132, y1133, y1134, y1135, y1136, y1137, y1138, y1139, y1140, y1141, y1142, y1143, y1144, y1145, y1146, y1147, y1148⟩, X1113, st1113⟩ := own_callV X1095 hx hZ hown (hw _ (mi 38 rfl)) (wd17 hw) (notFace_of_selects (args := #[]) (mvT hZ (hw _ (mi 41 rfl)))) y1114 (rm_ad0 hw b137 r146 (0 : Int64) (0 : Int32) (0 : Int32) q3 cb lc kc lcs T1095.heap n0 O1111 y1114 y1116 y1117 ge145 ge1118 (own_n1 b_cb (by decide)) (own_nneg own_b0 (by decide)) (own_nneg bb1115 (by decide)) S0_ ZA1_ hlc y1119 y1120 y1121 y1122 y1123 y1124) g1112 rfl [] rfl (lenOf pd_15 rfl) (hb hby at_146) hml.symm 0 rfl (by decide)
    have N1113 := Fr.app N1095 M1113
    have O1149 := O1111.keep K1113 (allS ge145 (allS ge1118 all0))
    have g1150 := ja X1113 hx (jN X1113 hx (ji X1113 hx (js X1113 hx (jc X1113 hx (jY X1113 hx (ji X1113 hx st1113 (hb hby at_149) rfl) (hb hby at_151) rfl (by decide) (pc' := 158) (by decide)) (hb hby at_158) 0 rfl) (hb hby at_159) rfl (l' := #[.val (.long q1), .second, .val (.long q2), .second, .val (.long q3), .second, .val (.long q4), .second, iv q5, .val (.long ca), .second, .val (.long cb), .second, iv 3, iv 1, rv b116, rv b137, iv 1, iv 0, .unset]) rfl) (hb hby at_161) rfl) (hb hby at_163) rfl (by decide)) (hb hby at_166) rfl rfl
    have y1152 := (y1099.keep K1113)
    have y1153 := (y1101.keep K1113 (ninS (Nat.ne_of_lt (Nat.lt_of_lt_of_le (Nat.lt_of_lt_of_le A116.lt K123.1) (Nat.le_of_eq gb137.symm))) (ninS (Nat.ne_of_lt (Nat.lt_of_lt_of_le (Nat.lt_of_lt_of_le A116.lt (Nat.le_trans K123.1 E137.1)) y147)) nin0)))
    obtain ⟨_, L1151, T1151, ⟨rfl, M1151, e1151⟩, X1151, st1151⟩ := own_callV X1113 hx hZ hown (hw _ (mi 31 rfl)) (wd28 hw) (notFace_of_selects (args := #[]) (mvT hZ (hw _ (mi 34 rfl)))) y1152 (rm_isE1 hw b116 (((0 : Int64) + ca) + cb) T1113.heap n0 O1149 y1153 (own_n0 bb1096 (by decide))) g1150 rfl [] rfl (lenOf pd_23 rfl) (hb hby at_168) hml.symm 0 rfl (by decide)
    have N1151 := Fr.app N1113 M1151
    have g1154 := ja X1151 hx (jn X1151 hx (ji X1151 hx st1151 (hb hby at_171) rfl) (hb hby at_173) rfl (by decide)) (hb hby at_176) rfl rfl
    obtain ⟨_, L1155, T1155, ⟨rfl, M1155, e1155⟩, X1155, st1155⟩ := own_callV X1151 hx hZ hown (hw _ (mi 31 rfl)) (wd28 hw) (notFace_of_selects (args := #[]) (mvT hZ (hw _ (mi 34 rfl)))) y1128 (rm_isE1 hw b137 ((0 : Int64) + cb) T1113.heap n0 O1149 y1130 (own_n0 bb1115 (by decide))) g1154 e1151 [] rfl (lenOf pd_23 rfl) (hb hby at_178) hml.symm 0 rfl (by decide)
    have N1155 := Fr.app N1151 M1155
    have g1156 := ja X1155 hx (ja X1155 hx (js X1155 hx (jg X1155 hx (jc X1155 hx (jn X1155 hx (jc X1155 hx (jY X1155 hx (ji X1155 hx st1155 (hb hby at_181) rfl) (hb hby at_183) rfl (by decide) (pc' := 190) (by decide)) (hb hby at_190) 0 rfl) (hb hby at_191) rfl (by decide)) (hb hby at_194) 1 rfl) (hb hby at_195) (pc' := 199) (by decide)) (hb hby at_199) rfl (l' := #[.val (.long q1), .second, .val (.long q2), .second, .val (.long q3), .second, .val (.long q4), .second, iv q5, .val (.long ca), .second, .val (.long cb), .second, iv 3, iv 1, rv b116, rv b137, iv 1, iv 0, .unset]) rfl) (hb hby at_201) rfl rfl) (hb hby at_203) rfl rfl
    have bb1158 : (3 : Int) ≤ ((((0 : Int64) + ca) + cb) + cb).toInt ∧ ((((0 : Int64) + ca) + cb) + cb).toInt ≤ 3458764513820540928 := own_addb bb1096 b_cb (by decide) (by decide)
    have y1159 := (y1100.keep K1113 (ninS (Nat.ne_of_lt (Nat.lt_of_lt_of_le (Nat.lt_of_lt_of_le A116.lt K123.1) (Nat.le_of_eq gb137.symm))) (ninS (Nat.ne_of_lt (Nat.lt_of_lt_of_le (Nat.lt_of_lt_of_le A116.lt (Nat.le_trans K123.1 E137.1)) y147)) nin0)))
    have y1160 := ((y951.keep K1095).keep K1113)
    have y1161 := ((y952.keep K1095 (ninS (Ne.symm (Nat.ne_of_lt (Nat.lt_of_lt_of_le A116.lt y126))) (ninS (Nat.ne_of_lt (Nat.lt_of_lt_of_le (Nat.lt_of_lt_of_le y129.lt (Nat.le_trans E137.1 K144.1)) y950)) nin0))).keep K1113 (ninS (Nat.ne_of_lt (Nat.lt_of_lt_of_le y129.lt (Nat.le_of_eq gb137.symm))) (ninS (Nat.ne_of_lt (Nat.lt_of_lt_of_le (Nat.lt_of_lt_of_le y129.lt E137.1) y147)) nin0)))
    have y1162 := ((y953.keep K1095 (ninS (Ne.symm (Nat.ne_of_lt (Nat.lt_of_lt_of_le A116.lt y126))) (ninS (Nat.ne_of_lt (Nat.lt_of_lt_of_le (Nat.lt_of_lt_of_le y129.lt (Nat.le_trans E137.1 K144.1)) y950)) nin0))).keep K1113 (ninS (Nat.ne_of_lt (Nat.lt_of_lt_of_le y129.lt (Nat.le_of_eq gb137.symm))) (ninS (Nat.ne_of_lt (Nat.lt_of_lt_of_le (Nat.lt_of_lt_of_le y129.lt E137.1) y147)) nin0)))
    have y1163 := ((y954.keep K1095 (ninS (Ne.symm (Nat.ne_of_lt (Nat.lt_of_lt_of_le A116.lt y126))) (ninS (Nat.ne_of_lt (Nat.lt_of_lt_of_le (Nat.lt_of_lt_of_le y129.lt (Nat.le_trans E137.1 K144.1)) y950)) nin0))).keep K1113 (ninS (Nat.ne_of_lt (Nat.lt_of_lt_of_le y129.lt (Nat.le_of_eq gb137.symm))) (ninS (Nat.ne_of_lt (Nat.lt_of_lt_of_le (Nat.lt_of_lt_of_le y129.lt E137.1) y147)) nin0)))
    have y1164 := ((y955.keep K1095 (ninS (Ne.symm (Nat.ne_of_lt (Nat.lt_of_lt_of_le A116.lt y126))) (ninS (Nat.ne_of_lt (Nat.lt_of_lt_of_le (Nat.lt_of_lt_of_le y129.lt (Nat.le_trans E137.1 K144.1)) y950)) nin0))).keep K1113 (ninS (Nat.ne_of_lt (Nat.lt_of_lt_of_le y129.lt (Nat.le_of_eq gb137.symm))) (ninS (Nat.ne_of_lt (Nat.lt_of_lt_of_le (Nat.lt_of_lt_of_le y129.lt E137.1) y147)) nin0)))
    have y1165 := ((y956.keep K1095 (ninS (Ne.symm (Nat.ne_of_lt (Nat.lt_of_lt_of_le A116.lt y126))) (ninS (Nat.ne_of_lt (Nat.lt_of_lt_of_le (Nat.lt_of_lt_of_le y129.lt (Nat.le_trans E137.1 K144.1)) y950)) nin0))).keep K1113 (ninS (Nat.ne_of_lt (Nat.lt_of_lt_of_le y129.lt (Nat.le_of_eq gb137.symm))) (ninS (Nat.ne_of_lt (Nat.lt_of_lt_of_le (Nat.lt_of_lt_of_le y129.lt E137.1) y147)) nin0)))
    have y1166 := (y1102.keep K1113)
    have y1167 := (y1103.keep K1113 (ninS (Ne.symm (Nat.ne_of_lt (Nat.lt_of_lt_of_le (Nat.lt_of_lt_of_le A137.lt K144.1) y950))) (ninS (Ne.symm (Nat.ne_of_lt (Nat.lt_of_lt_of_le y150.lt y950))) nin0)))
    have y1168 := (y1104.keep K1113 (ninS (Ne.symm (Nat.ne_of_lt (Nat.lt_of_lt_of_le (Nat.lt_of_lt_of_le A137.lt K144.1) y950))) (ninS (Ne.symm (Nat.ne_of_lt (Nat.lt_of_lt_of_le y150.lt y950))) nin0)))
    have y1169 := (y1105.keep K1113 (ninS (Ne.symm (Nat.ne_of_lt (Nat.lt_of_lt_of_le (Nat.lt_of_lt_of_le A137.lt K144.1) y950))) (ninS (Ne.symm (Nat.ne_of_lt (Nat.lt_of_lt_of_le y150.lt y950))) nin0)))
    have y1170 := (y1106.keep K1113 (ninS (Ne.symm (Nat.ne_of_lt (Nat.lt_of_lt_of_le (Nat.lt_of_lt_of_le A137.lt K144.1) y950))) (ninS (Ne.symm (Nat.ne_of_lt (Nat.lt_of_lt_of_le y150.lt y950))) nin0)))
    have y1171 := (y1107.keep K1113 (ninS (Ne.symm (Nat.ne_of_lt (Nat.lt_of_lt_of_le (Nat.lt_of_lt_of_le A137.lt K144.1) y950))) (ninS (Ne.symm (Nat.ne_of_lt (Nat.lt_of_lt_of_le y150.lt y950))) nin0)))
    have y1172 := (y1108.keep K1113 (ninS (Ne.symm (Nat.ne_of_lt (Nat.lt_of_lt_of_le (Nat.lt_of_lt_of_le A137.lt K144.1) y950))) (ninS (Ne.symm (Nat.ne_of_lt (Nat.lt_of_lt_of_le y150.lt y950))) nin0)))
    have y1173 := ((y964.keep K1095).keep K1113)
    have y1174 := ((y965.keep K1095 (ninS (ne_exa y1173 y1152 (by decide)) (ninS (ne_exa y1173 y1166 (by decide)) nin0))).keep K1113 (ninS (ne_exa y1173 y1128 (by decide)) (ninS (ne_exa y1173 y1132 (by decide)) nin0)))
    have y1175 := (y1109.keep K1113)
    have y1176 := (y1110.keep K1113 (ninS (ne_exa y1175 y1128 (by decide)) (ninS (ne_exa y1175 y1132 (by decide)) nin0)))
    obtain ⟨_, L1157, T1157, ⟨rfl, M1157, K1157, y1177, y1178⟩, X1157, st1157⟩ := own_callV X1155 hx hZ hown (hw _ (mi 142 rfl)) (wd29 hw) (notFace_of_selects (args := #[]) (mvT hZ (hw _ (mi 145 rfl)))) y1152 (rm_aa11E hw b116 r125 (((0 : Int64) + ca) + cb) (1 : Int32) (1 : Int32) q3 cb lc kc lcs b137 r146 (1 : Int32) (1 : Int32) r1125 r1126 r1127 r944 r945 r1098 q1 (ca + cb) T1113.heap n0 O1149 y1152 y1159 y1153 ge124 ge937 (own_n1 b_cb (by decide)) (own_nneg bb1096 (by decide)) (own_nneg bb1158 (by decide)) S0_ ZA1_ hlc y1128 y1129 y1132 y1133 y1134 y1135 y1136 y1137 ge1118 y1138 y1139 y1140 y1141 y1142 y1143 y1144 y1145 y1146 y1147 y1148 (Nat.ne_of_lt (Nat.lt_of_lt_of_le (Nat.lt_of_lt_of_le y129.lt E137.1) y147)) y1160 y1161 y1162 y1163 y1164 y1165 y1166 y1167 y1168 y1169 y1170 y1171 y1172 y1173 y1174 y1175 y1176 ge1097 c1093) g1156 e1155 [] rfl (lenOf pd_26 rfl) (hb hby at_205) hml.symm 0 rfl (by decide)
    have N1157 := Fr.app N1155 M1157
    have O1179 := O1149.keep K1157 (allS ge124 (allS ge1118 (allS ge1097 all0)))
    have g1180 := ja X1157 hx (jN X1157 hx (ji X1157 hx (js X1157 hx (jc X1157 hx (jY X1157 hx (ji X1157 hx st1157 (hb hby at_208) rfl) (hb hby at_210) rfl (by decide) (pc' := 222) (by decide)) (hb hby at_222) 0 rfl) (hb hby at_223) rfl (l' := #[.val (.long q1), .second, .val (.long q2), .second, .val (.long q3), .second, .val (.long q4), .second, iv q5, .val (.long ca), .second, .val (.long cb), .second, iv 3, iv 1, rv b116, rv b137, iv 1, iv 0, iv 0]) rfl) (hb hby at_225) rfl) (hb hby at_227) rfl (by decide)) (hb hby at_230) rfl rfl
    obtain ⟨_, L1181, T1181, ⟨rfl, M1181, e1181⟩, X1181, st1181⟩ := own_callV X1157 hx hZ hown (hw _ (mi 31 rfl)) (wd28 hw) (notFace_of_selects (args := #[]) (mvT hZ (hw _ (mi 34 rfl)))) y1178 (rm_isE1 hw b116 ((((0 : Int64) + ca) + cb) + cb) T1157.heap n0 O1179 y1177 (own_n0 bb1158 (by decide))) g1180 rfl [] rfl (lenOf pd_23 rfl) (hb hby at_232) hml.symm 0 rfl (by decide)
    have N1181 := Fr.app N1157 M1181
    have g1182 := ja X1181 hx (jn X1181 hx (ji X1181 hx st1181 (hb hby at_235) rfl) (hb hby at_237) rfl (by decide)) (hb hby at_240) rfl rfl
    have y1184 := (y1128.keep K1157)
    have y1185 := (y1130.keep K1157 (ninS (Ne.symm (Nat.ne_of_lt (Nat.lt_of_lt_of_le (Nat.lt_of_lt_of_le A116.lt K123.1) (Nat.le_of_eq gb137.symm)))) (ninS (Nat.ne_of_lt (Nat.lt_of_lt_of_le A137.lt y147)) (ninS (Nat.ne_of_lt (Nat.lt_of_lt_of_le (Nat.lt_of_lt_of_le A137.lt K144.1) y950)) nin0))))
    obtain ⟨_, L1183, T1183, ⟨rfl, M1183, e1183⟩, X1183, st1183⟩ := own_callV X1181 hx hZ hown (hw _ (mi 31 rfl)) (wd28 hw) (notFace_of_selects (args := #[]) (mvT hZ (hw _ (mi 34 rfl)))) y1184 (rm_isE1 hw b137 ((0 : Int64) + cb) T1157.heap n0 O1179 y1185 (own_n0 bb1115 (by decide))) g1182 e1181 [] rfl (lenOf pd_23 rfl) (hb hby at_242) hml.symm 0 rfl (by decide)
    have N1183 := Fr.app N1181 M1183
    have g1186 := ji X1183 hx (js X1183 hx (jg X1183 hx (jc X1183 hx (jn X1183 hx (jc X1183 hx (jY X1183 hx (ji X1183 hx st1183 (hb hby at_245) rfl) (hb hby at_247) rfl (by decide) (pc' := 254) (by decide)) (hb hby at_254) 0 rfl) (hb hby at_255) rfl (by decide)) (hb hby at_258) 1 rfl) (hb hby at_259) (pc' := 263) (by decide)) (hb hby at_263) rfl (l' := #[.val (.long q1), .second, .val (.long q2), .second, .val (.long q3), .second, .val (.long q4), .second, iv q5, .val (.long ca), .second, .val (.long cb), .second, iv 3, iv 1, rv b116, rv b137, iv 1, iv 0, iv 0]) rfl) (hb hby at_265) rfl
    refine own_leave X1183 Bd (some (.int 1)) nofun g1186 (fun fs hr => retN X1183 hx (t := .boolean) Bd.returns (by simp) (hb hby at_267) hr) (by decide) (by decide) ?_
    exact ⟨rfl, N1183⟩
  have hg1187 : q1 < q3 := own_gt64 c969 c1093
  have g1188 := show Go p e below T934 (mkF m 132 #[.val (.long q1), .second, .val (.long q2), .second, .val (.long q3), .second, .val (.long q4), .second, iv q5, .val (.long ca), .second, .val (.long cb), .second, iv 3, iv 1, rv b116, rv b137, iv 1, .unset, .unset] [(.long cb), (.long q3), (.ref b116)]) A0 from fun t kt => (show Go p e below T934 (mkF m 130 #[.val (.long q1), .second, .val (.long q2), .second, .val (.long q3), .second, .val (.long q4), .second, iv q5, .val (.long ca), .second, .val (.long cb), .second, iv 3, iv 1, rv b116, rv b137, iv 1, .unset, .unset] [(.long q3), (.ref b116)]) A0 from fun t kt => (ja X934 hx st934 (hb hby at_126) rfl rfl) t (by refine XS.lload X934.here hx rfl (hb hby at_128) rfl ?_; exact kt)) t (by refine XS.lload X934.here hx rfl (hb hby at_130) rfl ?_; exact kt)
  have bb1190 : (2 : Int) ≤ (((0 : Int64) + ca) + cb).toInt ∧ (((0 : Int64) + ca) + cb).toInt ≤ 2305843009213693952 := own_addb bb935 b_cb (by decide) (by decide)
  have ge1191 : n0 ≤ r944 := Nat.le_trans (own_old_le O156) y950
  obtain ⟨_, L1189, T1189, ⟨r1192, r1193, r1194, rfl, M1189, K1189, y1195, y1196, y1197, y1198, y1199, y1200, y1201, y1202, y1203, y1204, y1205, y1206, y1207, y1208, y1209, y1210, y1211, y1212, y1213, y1214, y1215, y1216, y1217, y1218, y1219, y1220, y1221, y1222⟩, X1189, st1189⟩ := own_callV X934 hx hZ hown (hw _ (mi 38 rfl)) (wd17 hw) (notFace_of_selects (args := #[]) (mvT hZ (hw _ (mi 41 rfl)))) y947 (rm_ad1R hw b116 r125 ((0 : Int64) + ca) (1 : Int32) (1 : Int32) q3 cb lc kc lcs r944 r945 r946 q1 ca T934.heap n0 O968 y947 y948 y949 ge124 ge937 (own_n1 b_cb (by decide)) (own_nneg bb935 (by decide)) (own_nneg bb1190 (by decide)) S0_ ZA1_ hlc y951 y952 y953 y954 y955 y956 y957 y958 y959 y960 y961 y962 y963 y964 y965 y966 y967 ge1191 hg1187) g1188 rfl [] rfl (lenOf pd_15 rfl) (hb hby at_132) hml.symm 0 rfl (by decide)
  have N1189 := Fr.app N934 M1189
  have O1223 := O968.keep K1189 (allS ge124 (allS ge937 (allS ge1191 all0)))
  have g1224 := show Go p e below T1189 (mkF m 146 #[.val (.long q1), .second, .val (.long q2), .second, .val (.long q3), .second, .val (.long q4), .second, iv q5, .val (.long ca), .second, .val (.long cb), .second, iv 3, iv 1, rv b116, rv b137, iv 1, .unset, .unset] [(.long cb), (.long q3), (.ref b137)]) A0 from fun t kt => (show Go p e below T1189 (mkF m 144 #[.val (.long q1), .second, .val (.long q2), .second, .val (.long q3), .second, .val (.long q4), .second, iv q5, .val (.long ca), .second, .val (.long cb), .second, iv 3, iv 1, rv b116, rv b137, iv 1, .unset, .unset] [(.long q3), (.ref b137)]) A0 from fun t kt => (ja X1189 hx (jN X1189 hx (ji X1189 hx st1189 (hb hby at_135) rfl) (hb hby at_137) rfl (by decide)) (hb hby at_140) rfl rfl) t (by refine XS.lload X1189.here hx rfl (hb hby at_142) rfl ?_; exact kt)) t (by refine XS.lload X1189.here hx rfl (hb hby at_144) rfl ?_; exact kt)
  have y1226 := ((y163.keep K934).keep K1189)
  have bb1227 : (1 : Int) ≤ ((0 : Int64) + cb).toInt ∧ ((0 : Int64) + cb).toInt ≤ 1152921504606846976 := own_addb own_b0 b_cb (by decide) (by decide)
  have y1228 := ((y148.keep K934 (ninS (Ne.symm (Nat.ne_of_lt (Nat.lt_of_lt_of_le (Nat.lt_of_lt_of_le A116.lt K123.1) (Nat.le_of_eq gb137.symm)))) (ninS (Ne.symm (Nat.ne_of_lt (Nat.lt_of_lt_of_le y129.lt (Nat.le_of_eq gb137.symm)))) nin0))).keep K1189 (ninS (Ne.symm (Nat.ne_of_lt (Nat.lt_of_lt_of_le (Nat.lt_of_lt_of_le A116.lt K123.1) (Nat.le_of_eq gb137.symm)))) (ninS (Ne.symm (Nat.ne_of_lt (Nat.lt_of_lt_of_le y129.lt (Nat.le_of_eq gb137.symm)))) (ninS (Nat.ne_of_lt (Nat.lt_of_lt_of_le (Nat.lt_of_lt_of_le A137.lt K144.1) y950)) nin0))))
  have y1229 := ((y149.keep K934 (ninS (Ne.symm (Nat.ne_of_lt (Nat.lt_of_lt_of_le (Nat.lt_of_lt_of_le A116.lt K123.1) (Nat.le_of_eq gb137.symm)))) (ninS (Ne.symm (Nat.ne_of_lt (Nat.lt_of_lt_of_le y129.lt (Nat.le_of_eq gb137.symm)))) nin0))).keep K1189 (ninS (Ne.symm (Nat.ne_of_lt (Nat.lt_of_lt_of_le (Nat.lt_of_lt_of_le A116.lt K123.1) (Nat.le_of_eq gb137.symm)))) (ninS (Ne.symm (Nat.ne_of_lt (Nat.lt_of_lt_of_le y129.lt (Nat.le_of_eq gb137.symm)))) (ninS (Nat.ne_of_lt (Nat.lt_of_lt_of_le (Nat.lt_of_lt_of_le A137.lt K144.1) y950)) nin0))))
  have ge1230 : n0 ≤ r146 := Nat.le_trans (own_old_le O139) y147
  have y1231 := ((y150.keep K934).keep K1189)
  have y1232 := ((y151.keep K934 (ninS (Ne.symm (Nat.ne_of_lt (Nat.lt_of_lt_of_le (Nat.lt_of_lt_of_le A116.lt (Nat.le_trans K123.1 E137.1)) y147))) (ninS (Ne.symm (Nat.ne_of_lt (Nat.lt_of_lt_of_le (Nat.lt_of_lt_of_le y129.lt E137.1) y147))) nin0))).keep K1189 (ninS (Ne.symm (Nat.ne_of_lt (Nat.lt_of_lt_of_le (Nat.lt_of_lt_of_le A116.lt (Nat.le_trans K123.1 E137.1)) y147))) (ninS (Ne.symm (Nat.ne_of_lt (Nat.lt_of_lt_of_le (Nat.lt_of_lt_of_le y129.lt E137.1) y147))) (ninS (Nat.ne_of_lt (Nat.lt_of_lt_of_le y150.lt y950)) nin0))))
  have y1233 := ((y152.keep K934 (ninS (Ne.symm (Nat.ne_of_lt (Nat.lt_of_lt_of_le (Nat.lt_of_lt_of_le A116.lt (Nat.le_trans K123.1 E137.1)) y147))) (ninS (Ne.symm (Nat.ne_of_lt (Nat.lt_of_lt_of_le (Nat.lt_of_lt_of_le y129.lt E137.1) y147))) nin0))).keep K1189 (ninS (Ne.symm (Nat.ne_of_lt (Nat.lt_of_lt_of_le (Nat.lt_of_lt_of_le A116.lt (Nat.le_trans K123.1 E137.1)) y147))) (ninS (Ne.symm (Nat.ne_of_lt (Nat.lt_of_lt_of_le (Nat.lt_of_lt_of_le y129.lt E137.1) y147))) (ninS (Nat.ne_of_lt (Nat.lt_of_lt_of_le y150.lt y950)) nin0))))
  have y1234 := ((y153.keep K934 (ninS (Ne.symm (Nat.ne_of_lt (Nat.lt_of_lt_of_le (Nat.lt_of_lt_of_le A116.lt (Nat.le_trans K123.1 E137.1)) y147))) (ninS (Ne.symm (Nat.ne_of_lt (Nat.lt_of_lt_of_le (Nat.lt_of_lt_of_le y129.lt E137.1) y147))) nin0))).keep K1189 (ninS (Ne.symm (Nat.ne_of_lt (Nat.lt_of_lt_of_le (Nat.lt_of_lt_of_le A116.lt (Nat.le_trans K123.1 E137.1)) y147))) (ninS (Ne.symm (Nat.ne_of_lt (Nat.lt_of_lt_of_le (Nat.lt_of_lt_of_le y129.lt E137.1) y147))) (ninS (Nat.ne_of_lt (Nat.lt_of_lt_of_le y150.lt y950)) nin0))))
  have y1235 := ((y154.keep K934 (ninS (Ne.symm (Nat.ne_of_lt (Nat.lt_of_lt_of_le (Nat.lt_of_lt_of_le A116.lt (Nat.le_trans K123.1 E137.1)) y147))) (ninS (Ne.symm (Nat.ne_of_lt (Nat.lt_of_lt_of_le (Nat.lt_of_lt_of_le y129.lt E137.1) y147))) nin0))).keep K1189 (ninS (Ne.symm (Nat.ne_of_lt (Nat.lt_of_lt_of_le (Nat.lt_of_lt_of_le A116.lt (Nat.le_trans K123.1 E137.1)) y147))) (ninS (Ne.symm (Nat.ne_of_lt (Nat.lt_of_lt_of_le (Nat.lt_of_lt_of_le y129.lt E137.1) y147))) (ninS (Nat.ne_of_lt (Nat.lt_of_lt_of_le y150.lt y950)) nin0))))
  have y1236 := ((y155.keep K934 (ninS (Ne.symm (Nat.ne_of_lt (Nat.lt_of_lt_of_le (Nat.lt_of_lt_of_le A116.lt (Nat.le_trans K123.1 E137.1)) y147))) (ninS (Ne.symm (Nat.ne_of_lt (Nat.lt_of_lt_of_le (Nat.lt_of_lt_of_le y129.lt E137.1) y147))) nin0))).keep K1189 (ninS (Ne.symm (Nat.ne_of_lt (Nat.lt_of_lt_of_le (Nat.lt_of_lt_of_le A116.lt (Nat.le_trans K123.1 E137.1)) y147))) (ninS (Ne.symm (Nat.ne_of_lt (Nat.lt_of_lt_of_le (Nat.lt_of_lt_of_le y129.lt E137.1) y147))) (ninS (Nat.ne_of_lt (Nat.lt_of_lt_of_le y150.lt y950)) nin0))))
  obtain ⟨_, L1225, T1225, ⟨r1237, r1238, r1239, rfl, M1225, K1225, y1240, y1241, y1242, y1243, y1244, y1245, y1246, y1247, y1248, y1249, y1250, y1251, y1252, y1253, y1254, y1255, y1256, y1257, y1258, y1259, y1260⟩, X1225, st1225⟩ := own_callV X1189 hx hZ hown (hw _ (mi 38 rfl)) (wd17 hw) (notFace_of_selects (args := #[]) (mvT hZ (hw _ (mi 41 rfl)))) y1226 (rm_ad0 hw b137 r146 (0 : Int64) (0 : Int32) (0 : Int32) q3 cb lc kc lcs T1189.heap n0 O1223 y1226 y1228 y1229 ge145 ge1230 (own_n1 b_cb (by decide)) (own_nneg own_b0 (by decide)) (own_nneg bb1227 (by decide)) S0_ ZA1_ hlc y1231 y1232 y1233 y1234 y1235 y1236) g1224 rfl [] rfl (lenOf pd_15 rfl) (hb hby at_146) hml.symm 0 rfl (by decide)
  have N1225 := Fr.app N1189 M1225
  have O1261 := O1223.keep K1225 (allS ge145 (allS ge1230 all0))
  have g1262 := ja X1225 hx (jN X1225 hx (ji X1225 hx (js X1225 hx (jc X1225 hx (jY X1225 hx (ji X1225 hx st1225 (hb hby at_149) rfl) (hb hby at_151) rfl (by decide) (pc' := 158) (by decide)) (hb hby at_158) 0 rfl) (hb hby at_159) rfl (l' := #[.val (.long q1), .second, .val (.long q2), .second, .val (.long q3), .second, .val (.long q4), .second, iv q5, .val (.long ca), .second, .val (.long cb), .second, iv 3, iv 1, rv b116, rv b137, iv 1, iv 0, .unset]) rfl) (hb hby at_161) rfl) (hb hby at_163) rfl (by decide)) (hb hby at_166) rfl rfl
  have y1264 := (y1195.keep K1225)
  have y1265 := (y1197.keep K1225 (ninS (Nat.ne_of_lt (Nat.lt_of_lt_of_le (Nat.lt_of_lt_of_le A116.lt K123.1) (Nat.le_of_eq gb137.symm))) (ninS (Nat.ne_of_lt (Nat.lt_of_lt_of_le (Nat.lt_of_lt_of_le A116.lt (Nat.le_trans K123.1 E137.1)) y147)) nin0)))
  obtain ⟨_, L1263, T1263, ⟨rfl, M1263, e1263⟩, X1263, st1263⟩ := own_callV X1225 hx hZ hown (hw _ (mi 31 rfl)) (wd28 hw) (notFace_of_selects (args := #[]) (mvT hZ (hw _ (mi 34 rfl)))) y1264 (rm_isE1 hw b116 (((0 : Int64) + ca) + cb) T1225.heap n0 O1261 y1265 (own_n0 bb1190 (by decide))) g1262 rfl [] rfl (lenOf pd_23 rfl) (hb hby at_168) hml.symm 0 rfl (by decide)
  have N1263 := Fr.app N1225 M1263
  have g1266 := ja X1263 hx (jn X1263 hx (ji X1263 hx st1263 (hb hby at_171) rfl) (hb hby at_173) rfl (by decide)) (hb hby at_176) rfl rfl
  obtain ⟨_, L1267, T1267, ⟨rfl, M1267, e1267⟩, X1267, st1267⟩ := own_callV X1263 hx hZ hown (hw _ (mi 31 rfl)) (wd28 hw) (notFace_of_selects (args := #[]) (mvT hZ (hw _ (mi 34 rfl)))) y1240 (rm_isE1 hw b137 ((0 : Int64) + cb) T1225.heap n0 O1261 y1242 (own_n0 bb1227 (by decide))) g1266 e1263 [] rfl (lenOf pd_23 rfl) (hb hby at_178) hml.symm 0 rfl (by decide)
  have N1267 := Fr.app N1263 M1267
  have g1268 := ja X1267 hx (ja X1267 hx (js X1267 hx (jg X1267 hx (jc X1267 hx (jn X1267 hx (jc X1267 hx (jY X1267 hx (ji X1267 hx st1267 (hb hby at_181) rfl) (hb hby at_183) rfl (by decide) (pc' := 190) (by decide)) (hb hby at_190) 0 rfl) (hb hby at_191) rfl (by decide)) (hb hby at_194) 1 rfl) (hb hby at_195) (pc' := 199) (by decide)) (hb hby at_199) rfl (l' := #[.val (.long q1), .second, .val (.long q2), .second, .val (.long q3), .second, .val (.long q4), .second, iv q5, .val (.long ca), .second, .val (.long cb), .second, iv 3, iv 1, rv b116, rv b137, iv 1, iv 0, .unset]) rfl) (hb hby at_201) rfl rfl) (hb hby at_203) rfl rfl
  have bb1270 : (3 : Int) ≤ ((((0 : Int64) + ca) + cb) + cb).toInt ∧ ((((0 : Int64) + ca) + cb) + cb).toInt ≤ 3458764513820540928 := own_addb bb1190 b_cb (by decide) (by decide)
  have y1271 := (y1196.keep K1225 (ninS (Nat.ne_of_lt (Nat.lt_of_lt_of_le (Nat.lt_of_lt_of_le A116.lt K123.1) (Nat.le_of_eq gb137.symm))) (ninS (Nat.ne_of_lt (Nat.lt_of_lt_of_le (Nat.lt_of_lt_of_le A116.lt (Nat.le_trans K123.1 E137.1)) y147)) nin0)))
  have y1272 := (y1199.keep K1225)
  have y1273 := (y1200.keep K1225 (ninS (Nat.ne_of_lt (Nat.lt_of_lt_of_le y129.lt (Nat.le_of_eq gb137.symm))) (ninS (Nat.ne_of_lt (Nat.lt_of_lt_of_le (Nat.lt_of_lt_of_le y129.lt E137.1) y147)) nin0)))
  have y1274 := (y1201.keep K1225 (ninS (Nat.ne_of_lt (Nat.lt_of_lt_of_le y129.lt (Nat.le_of_eq gb137.symm))) (ninS (Nat.ne_of_lt (Nat.lt_of_lt_of_le (Nat.lt_of_lt_of_le y129.lt E137.1) y147)) nin0)))
  have y1275 := (y1202.keep K1225 (ninS (Nat.ne_of_lt (Nat.lt_of_lt_of_le y129.lt (Nat.le_of_eq gb137.symm))) (ninS (Nat.ne_of_lt (Nat.lt_of_lt_of_le (Nat.lt_of_lt_of_le y129.lt E137.1) y147)) nin0)))
  have y1276 := (y1203.keep K1225 (ninS (Nat.ne_of_lt (Nat.lt_of_lt_of_le y129.lt (Nat.le_of_eq gb137.symm))) (ninS (Nat.ne_of_lt (Nat.lt_of_lt_of_le (Nat.lt_of_lt_of_le y129.lt E137.1) y147)) nin0)))
  have y1277 := (y1204.keep K1225 (ninS (Nat.ne_of_lt (Nat.lt_of_lt_of_le y129.lt (Nat.le_of_eq gb137.symm))) (ninS (Nat.ne_of_lt (Nat.lt_of_lt_of_le (Nat.lt_of_lt_of_le y129.lt E137.1) y147)) nin0)))
  have y1278 := (y1205.keep K1225)
  have y1279 := (y1206.keep K1225 (ninS (Ne.symm (Nat.ne_of_lt (Nat.lt_of_lt_of_le (Nat.lt_of_lt_of_le A137.lt K144.1) y950))) (ninS (Ne.symm (Nat.ne_of_lt (Nat.lt_of_lt_of_le y150.lt y950))) nin0)))
  have y1280 := (y1207.keep K1225 (ninS (Ne.symm (Nat.ne_of_lt (Nat.lt_of_lt_of_le (Nat.lt_of_lt_of_le A137.lt K144.1) y950))) (ninS (Ne.symm (Nat.ne_of_lt (Nat.lt_of_lt_of_le y150.lt y950))) nin0)))
  have y1281 := (y1208.keep K1225 (ninS (Ne.symm (Nat.ne_of_lt (Nat.lt_of_lt_of_le (Nat.lt_of_lt_of_le A137.lt K144.1) y950))) (ninS (Ne.symm (Nat.ne_of_lt (Nat.lt_of_lt_of_le y150.lt y950))) nin0)))
  have y1282 := (y1209.keep K1225 (ninS (Ne.symm (Nat.ne_of_lt (Nat.lt_of_lt_of_le (Nat.lt_of_lt_of_le A137.lt K144.1) y950))) (ninS (Ne.symm (Nat.ne_of_lt (Nat.lt_of_lt_of_le y150.lt y950))) nin0)))
  have y1283 := (y1210.keep K1225 (ninS (Ne.symm (Nat.ne_of_lt (Nat.lt_of_lt_of_le (Nat.lt_of_lt_of_le A137.lt K144.1) y950))) (ninS (Ne.symm (Nat.ne_of_lt (Nat.lt_of_lt_of_le y150.lt y950))) nin0)))
  have y1284 := (y1211.keep K1225 (ninS (Ne.symm (Nat.ne_of_lt (Nat.lt_of_lt_of_le (Nat.lt_of_lt_of_le A137.lt K144.1) y950))) (ninS (Ne.symm (Nat.ne_of_lt (Nat.lt_of_lt_of_le y150.lt y950))) nin0)))
  have y1285 := (y1212.keep K1225)
  have y1286 := (y1213.keep K1225 (ninS (Ne.symm (Nat.ne_of_lt (Nat.lt_of_lt_of_le (Nat.lt_of_lt_of_le A137.lt (Nat.le_trans K144.1 K934.1)) y1198))) (ninS (Ne.symm (Nat.ne_of_lt (Nat.lt_of_lt_of_le (Nat.lt_of_lt_of_le y150.lt K934.1) y1198))) nin0)))
  have y1287 := (y1214.keep K1225 (ninS (Ne.symm (Nat.ne_of_lt (Nat.lt_of_lt_of_le (Nat.lt_of_lt_of_le A137.lt (Nat.le_trans K144.1 K934.1)) y1198))) (ninS (Ne.symm (Nat.ne_of_lt (Nat.lt_of_lt_of_le (Nat.lt_of_lt_of_le y150.lt K934.1) y1198))) nin0)))
  have y1288 := (y1215.keep K1225 (ninS (Ne.symm (Nat.ne_of_lt (Nat.lt_of_lt_of_le (Nat.lt_of_lt_of_le A137.lt (Nat.le_trans K144.1 K934.1)) y1198))) (ninS (Ne.symm (Nat.ne_of_lt (Nat.lt_of_lt_of_le (Nat.lt_of_lt_of_le y150.lt K934.1) y1198))) nin0)))
  have y1289 := (y1216.keep K1225 (ninS (Ne.symm (Nat.ne_of_lt (Nat.lt_of_lt_of_le (Nat.lt_of_lt_of_le A137.lt (Nat.le_trans K144.1 K934.1)) y1198))) (ninS (Ne.symm (Nat.ne_of_lt (Nat.lt_of_lt_of_le (Nat.lt_of_lt_of_le y150.lt K934.1) y1198))) nin0)))
  have y1290 := (y1217.keep K1225 (ninS (Ne.symm (Nat.ne_of_lt (Nat.lt_of_lt_of_le (Nat.lt_of_lt_of_le A137.lt (Nat.le_trans K144.1 K934.1)) y1198))) (ninS (Ne.symm (Nat.ne_of_lt (Nat.lt_of_lt_of_le (Nat.lt_of_lt_of_le y150.lt K934.1) y1198))) nin0)))
  have y1291 := (y1218.keep K1225 (ninS (Ne.symm (Nat.ne_of_lt (Nat.lt_of_lt_of_le (Nat.lt_of_lt_of_le A137.lt (Nat.le_trans K144.1 K934.1)) y1198))) (ninS (Ne.symm (Nat.ne_of_lt (Nat.lt_of_lt_of_le (Nat.lt_of_lt_of_le y150.lt K934.1) y1198))) nin0)))
  have y1292 := ((y964.keep K1189).keep K1225)
  have y1293 := ((y965.keep K1189 (ninS (ne_exa y1292 y1264 (by decide)) (ninS (ne_exa y1292 y1272 (by decide)) (ninS (ne_exa y1292 y1278 (by decide)) nin0)))).keep K1225 (ninS (ne_exa y1292 y1240 (by decide)) (ninS (ne_exa y1292 y1244 (by decide)) nin0)))
  have y1294 := ((y966.keep K1189).keep K1225)
  have y1295 := ((y967.keep K1189 (ninS (ne_exa y1294 y1264 (by decide)) (ninS (ne_exa y1294 y1272 (by decide)) (ninS (ne_exa y1294 y1278 (by decide)) nin0)))).keep K1225 (ninS (ne_exa y1294 y1240 (by decide)) (ninS (ne_exa y1294 y1244 (by decide)) nin0)))
  have y1296 := (y1219.keep K1225)
  have y1297 := (y1220.keep K1225 (ninS (ne_exa y1296 y1240 (by decide)) (ninS (ne_exa y1296 y1244 (by decide)) nin0)))
  have y1298 := (y1221.keep K1225)
  have y1299 := (y1222.keep K1225 (ninS (ne_exa y1298 y1240 (by decide)) (ninS (ne_exa y1298 y1244 (by decide)) nin0)))
  have ge1300 : n0 ≤ r1192 := Nat.le_trans (own_old_le O968) y1198
  obtain ⟨_, L1269, T1269, ⟨rfl, M1269, K1269, y1301, y1302⟩, X1269, st1269⟩ := own_callV X1267 hx hZ hown (hw _ (mi 142 rfl)) (wd29 hw) (notFace_of_selects (args := #[]) (mvT hZ (hw _ (mi 145 rfl)))) y1264 (rm_aa12R hw b116 r125 (((0 : Int64) + ca) + cb) (2 : Int32) (2 : Int32) q3 cb lc kc lcs b137 r146 (1 : Int32) (1 : Int32) r1237 r1238 r1239 r944 r945 r946 q1 ca r1192 r1193 r1194 q3 cb T1225.heap n0 O1261 y1264 y1271 y1265 ge124 ge937 (own_n1 b_cb (by decide)) (own_nneg bb1190 (by decide)) (own_nneg bb1270 (by decide)) S0_ ZA1_ hlc y1240 y1241 y1244 y1245 y1246 y1247 y1248 y1249 ge1230 y1250 y1251 y1252 y1253 y1254 y1255 y1256 y1257 y1258 y1259 y1260 (Nat.ne_of_lt (Nat.lt_of_lt_of_le (Nat.lt_of_lt_of_le y129.lt E137.1) y147)) y1272 y1273 y1274 y1275 y1276 y1277 y1278 y1279 y1280 y1281 y1282 y1283 y1284 y1285 y1286 y1287 y1288 y1289 y1290 y1291 y1292 y1293 y1294 y1295 y1296 y1297 y1298 y1299 ge1191 ge1300 (Nat.ne_of_lt (Nat.lt_of_lt_of_le y957.lt y1198)) hg1187 rfl) g1268 e1267 [] rfl (lenOf pd_26 rfl) (hb hby at_205) hml.symm 0 rfl (by decide)
  have N1269 := Fr.app N1267 M1269
  have O1303 := O1261.keep K1269 (allS ge124 (allS ge1230 (allS ge1300 all0)))
  have g1304 := ja X1269 hx (jN X1269 hx (ji X1269 hx (js X1269 hx (jc X1269 hx (jY X1269 hx (ji X1269 hx st1269 (hb hby at_208) rfl) (hb hby at_210) rfl (by decide) (pc' := 222) (by decide)) (hb hby at_222) 0 rfl) (hb hby at_223) rfl (l' := #[.val (.long q1), .second, .val (.long q2), .second, .val (.long q3), .second, .val (.long q4), .second, iv q5, .val (.long ca), .second, .val (.long cb), .second, iv 3, iv 1, rv b116, rv b137, iv 1, iv 0, iv 0]) rfl) (hb hby at_225) rfl) (hb hby at_227) rfl (by decide)) (hb hby at_230) rfl rfl
  obtain ⟨_, L1305, T1305, ⟨rfl, M1305, e1305⟩, X1305, st1305⟩ := own_callV X1269 hx hZ hown (hw _ (mi 31 rfl)) (wd28 hw) (notFace_of_selects (args := #[]) (mvT hZ (hw _ (mi 34 rfl)))) y1302 (rm_isE1 hw b116 ((((0 : Int64) + ca) + cb) + cb) T1269.heap n0 O1303 y1301 (own_n0 bb1270 (by decide))) g1304 rfl [] rfl (lenOf pd_23 rfl) (hb hby at_232) hml.symm 0 rfl (by decide)
  have N1305 := Fr.app N1269 M1305
  have g1306 := ja X1305 hx (jn X1305 hx (ji X1305 hx st1305 (hb hby at_235) rfl) (hb hby at_237) rfl (by decide)) (hb hby at_240) rfl rfl
  have y1308 := (y1240.keep K1269)
  have y1309 := (y1242.keep K1269 (ninS (Ne.symm (Nat.ne_of_lt (Nat.lt_of_lt_of_le (Nat.lt_of_lt_of_le A116.lt K123.1) (Nat.le_of_eq gb137.symm)))) (ninS (Nat.ne_of_lt (Nat.lt_of_lt_of_le A137.lt y147)) (ninS (Nat.ne_of_lt (Nat.lt_of_lt_of_le (Nat.lt_of_lt_of_le A137.lt (Nat.le_trans K144.1 K934.1)) y1198)) nin0))))
  obtain ⟨_, L1307, T1307, ⟨rfl, M1307, e1307⟩, X1307, st1307⟩ := own_callV X1305 hx hZ hown (hw _ (mi 31 rfl)) (wd28 hw) (notFace_of_selects (args := #[]) (mvT hZ (hw _ (mi 34 rfl)))) y1308 (rm_isE1 hw b137 ((0 : Int64) + cb) T1269.heap n0 O1303 y1309 (own_n0 bb1227 (by decide))) g1306 e1305 [] rfl (lenOf pd_23 rfl) (hb hby at_242) hml.symm 0 rfl (by decide)
  have N1307 := Fr.app N1305 M1307
  have g1310 := ji X1307 hx (js X1307 hx (jg X1307 hx (jc X1307 hx (jn X1307 hx (jc X1307 hx (jY X1307 hx (ji X1307 hx st1307 (hb hby at_245) rfl) (hb hby at_247) rfl (by decide) (pc' := 254) (by decide)) (hb hby at_254) 0 rfl) (hb hby at_255) rfl (by decide)) (hb hby at_258) 1 rfl) (hb hby at_259) (pc' := 263) (by decide)) (hb hby at_263) rfl (l' := #[.val (.long q1), .second, .val (.long q2), .second, .val (.long q3), .second, .val (.long q4), .second, iv q5, .val (.long ca), .second, .val (.long cb), .second, iv 3, iv 1, rv b116, rv b137, iv 1, iv 0, iv 0]) rfl) (hb hby at_265) rfl
  refine own_leave X1307 Bd (some (.int 1)) nofun g1310 (fun fs hr => retN X1307 hx (t := .boolean) Bd.returns (by simp) (hb hby at_267) hr) (by decide) (by decide) ?_
  exact ⟨rfl, N1307⟩
theorem comes_1 {Post : Tables → Env → Array Value → State → Outcome → State → Prop} (hpost : ∀ tb e args s v u, (limb_1_1.after args s (.returned v) u = true ∧ limb_1_2.after args s (.returned v) u = true ∧ True) → ReturnedEndW s (.returned v) u (Jvm.fieldLocs frame_1_writes args s ++ Jvm.arrayLocs frame_1_arrays args s ++ Jvm.staticLocs frame_1_statics s) 48 192 → Post tb e args s (.returned v) u) :
    ArmFor flags0 classFile x code maxLocals ret World_1 tables_1 room_1 Calls_1 rest_1 Pre_1 Post := by
  intro l hfl _ _ p e ha hc hk s m args below hf hA hF happ hP
  obtain ⟨hcalls, hrest, hpre⟩ := hP
  obtain ⟨-, -, -, hnamed, -, -, -, hat⟩ := (Spec.applies_iff hf).mp happ
  obtain ⟨hg, hn⟩ := and_e (Cond.before_iff.mp (show (Jvm.Cond.and given_1 narrow_1).before args s = true from hpre))
  obtain ⟨hcount, hg⟩ := and_e hg
  obtain ⟨ha0, hg⟩ := and_e hg
  obtain ⟨ha1, hg⟩ := and_e hg
  obtain ⟨ha2, hg⟩ := and_e hg
  obtain ⟨ha3, hg⟩ := and_e hg
  have ha4 := hg
  obtain ⟨w0, w1, w2, w3, w4, rfl⟩ : ∃ w0 w1 w2 w3 w4 : Value, args = #[w0, w1, w2, w3, w4] := by
    have hs : args.size = 5 := by simpa [Cond.value, given_1] using hcount
    obtain ⟨L⟩ := args
    match L, hs with
    | [w0, w1, w2, w3, w4], _ => exact ⟨w0, w1, w2, w3, w4, rfl⟩
  have hw := fun d (hd : d ∈ tables_1) => atoms_spec (ws := Jvm.Cond.code x code maxLocals ret :: tables_1) hat d (List.mem_cons_of_mem _ hd)
  obtain ⟨hsets, hown0⟩ := atoms_of _ (rest_1_c_eq ▸ (show rest_1_c.before _ s = true from hrest))
  have hfit : Fit s := fun {y c} hc i hi => by
    obtain ⟨ha, rfl⟩ := Array.getElem?_eq_some_iff.mp hc
    have q := List.all_eq_true.mp ((Array.all_eq_true_iff_forall_mem.mp hF) _ (Array.getElem_mem ha)) i (List.mem_range.mpr hi)
    simpa [Array.getElem?_eq_getElem hi] using q
  obtain ⟨q1, ea0⟩ := isL_v ha0
  obtain rfl : w0 = (.long q1) := Option.some.inj ea0
  obtain ⟨q2, ea1⟩ := isL_v ha1
  obtain rfl : w1 = (.long q2) := Option.some.inj ea1
  obtain ⟨q3, ea2⟩ := isL_v ha2
  obtain rfl : w2 = (.long q3) := Option.some.inj ea2
  obtain ⟨q4, ea3⟩ := isL_v ha3
  obtain rfl : w3 = (.long q4) := Option.some.inj ea3
  obtain ⟨q5, ea4⟩ := is_v ha4
  obtain rfl : w4 = (.int q5) := Option.some.inj ea4
  obtain ⟨lc, kc, lcs, evl, Al, hlc⟩ := own_lcA (T := .static "java/lang/Long$LongCache" "cache" "[Ljava/lang/Long;") hfit (fun _ => rfl) (hsets _ (mi 2 rfl)) (hsets _ (mi 4 rfl)) (hsets _ (mi 5 rfl))
  have Sl : Sta s s.heap "java/lang/Long$LongCache" "cache" "[Ljava/lang/Long;" (.ref lc) := Sta.start evl (Or.inl (hsets _ (mi 1 rfl)))
  obtain ⟨n, o, h1, h2, h3, _, L, rfl, ⟨rfl, N⟩, hq⟩ := rm_law hw tables_1 q1 q2 q3 q4 q5 lc kc lcs s.heap s.heap.size (Old.start s) Sl Al hlc p e ha hc hk s m _ below hf ((Spec.applies_iff_loose hf).mp happ).1 ⟨rfl, State.Warmed39.refl s, rfl⟩ trivial
  have hq := own_wide hq
  refine ⟨n, _, h1, h2, h3, hpost _ _ _ _ _ _ ⟨Cond.after_iff.mpr rfl, Cond.after_iff.mpr (eq_i res_at (Term.int_eval (1)) rfl), trivial⟩ ⟨hq.1, hq.2.1, hq.2.2.1, (hq.2.2.2.sift fun y hy => Or.inr (N y hy)).mono (by decide) (by decide)⟩⟩
theorem main_1_1 : Claimed_1_1 := comes_1 fun _ _ _ _ _ _ h hF => ⟨h.1, hF⟩
theorem main_1_2 : Claimed_1_2 := comes_1 fun _ _ _ _ _ _ h hF => ⟨h.2.1, hF⟩
end Jvm.Pilot.@@N@@
@@BLOCK:LamKit.lean.txt@@
namespace Jvm.Pilot.@@N@@
open Jvm Jvm.ClassFile Sem Op Lib Jvm.Free Jvm.Stand Jvm.Pilot.@@N@@.Jvm.D
/-! MADE BY PROGRAM (witnessworld.py) out of the Statement's table words and the real class files: 37 classes; the members and pool entries that the words name. The judged class is class 1, her method 1. -/
namespace start1
open Jvm.ClassFile
def u (s : String) : CpInfo := .utf8 (stringToUtf16 s)
/-- a pool by its gaps: so many unusable entries, then the entry; so many at the end -/
def gap : Nat → List CpInfo → List CpInfo
  | 0, r => r
  | n + 1, r => .unusable :: gap n r
def poolList (es : List (Nat × CpInfo)) (last : Nat) : List CpInfo := es.foldr (fun e r => gap e.1 (e.2 :: r)) (gap last [])
def pool (es : List (Nat × CpInfo)) (last : Nat) : Array CpInfo := ⟨poolList es last⟩
def fileOf (pool : Array CpInfo) (this : Nat) (attrs : Array Attribute := #[]) (ms : Array MethodInfo := #[]) (fl : Nat := 33) (sup : Nat := 0) (ifs : Array Nat := #[]) (fds : Array FieldInfo := #[]) : ClassFile where
  minorVersion := 0
  majorVersion := 65
  constantPool := pool
  accessFlags := fl
  thisClass := this
  superClass := sup
  interfaces := ifs
  fields := fds
  methods := ms
  attributes := attrs
def plain (name : String) (sup : Option ClassId) : Class where
  name := name
  kind := .ordinary
  loader := none
  accessFlags := 33
  super := sup
  interfaces := #[]
  cf := none
  fields := #[]
  methods := #[]
  instanceTypes := #[]
  staticTypes := #[]
  resolved := #[]
  callSites := []
  init := .initialized
  statics := none
  mirror := none

def pool0 : Array CpInfo := pool [(5, u "<init>"), (0, u "()V"), (1, .class_ 10), (1, u "java/lang/Object")] 113

def k0c0 : Code := { maxStack := 0, maxLocals := 1, code := object_method_1_code, exceptionTable := #[], attributes := #[] }
def k0m0 : Method := { name := "<init>", desc := "()V", sig := { parameters := [], returnType := none }, accessFlags := 1, code := some k0c0 }
/-- java/lang/Object -/
def k0 : Class := { plain "java/lang/Object" none with
  accessFlags := 33
  interfaces := #[]
  cf := some (fileOf pool0 8 #[] #[{ accessFlags := 1, nameIndex := 5, descriptorIndex := 6, attributes := #[] }] 33 0 #[] #[])
  fields := #[]
  methods := #[k0m0]
  instanceTypes := #[]
  staticTypes := #[]
  resolved := Array.replicate 124 none
  statics := none }

def pool1 : Array CpInfo := pool [(2, .class_ 4), (0, .nameAndType 5 6), (0, u "java/lang/Object"), (0, u "<init>"), (0, u "()V"), (0, .long 1152921504606846975), (1, .class_ 10), (0, u "com/example/fetch_from_near/fetchfromnear/Histogram"), (0, .methodref 9 3), (0, .methodref 9 13), (0, .nameAndType 14 15), (0, u "isEmpty"), (0, u "()Z"), (0, .methodref 9 17), (0, .nameAndType 18 19), (0, u "add"), (0, u "(J)V"), (0, .methodref 9 21), (0, .nameAndType 18 22), (0, u "(JJ)V"), (0, .methodref 9 24), (0, .nameAndType 25 26), (0, u "addAll"), (0, u "(Lcom/example/fetch_from_near/fetchfromnear/Histogram;)V"), (0, .class_ 28), (0, u "com/example/fetch_from_near/fetchfromnear/HistogramIsEmptyPinLaw"), (2, u "law"), (0, u "(JJJJI)Z")] 3

def k1m0 : Method := { name := "<init>", desc := "()V", sig := { parameters := [], returnType := none }, accessFlags := 1, code := none }
def k1c1 : Code := { maxStack := 5, maxLocals := 20, code := code, exceptionTable := #[], attributes := #[] }
def k1m1 : Method := { name := "law", desc := "(JJJJI)Z", sig := { parameters := [.long, .long, .long, .long, .int], returnType := some .boolean }, accessFlags := 9, code := some k1c1 }
/-- com/example/fetch_from_near/fetchfromnear/HistogramIsEmptyPinLaw -/
def k1 : Class := { plain "com/example/fetch_from_near/fetchfromnear/HistogramIsEmptyPinLaw" (some 0) with
  accessFlags := 49
  interfaces := #[]
  cf := some (fileOf pool1 27 #[] #[{ accessFlags := 1, nameIndex := 5, descriptorIndex := 6, attributes := #[] }, { accessFlags := 9, nameIndex := 31, descriptorIndex := 32, attributes := #[] }] 49 2 #[] #[])
  fields := #[]
  methods := #[k1m0, k1m1]
  instanceTypes := #[]
  staticTypes := #[]
  resolved := Array.replicate 36 none
  statics := none }

def pool2 : Array CpInfo := pool [(1, .methodref 2 3), (0, .class_ 4), (0, .nameAndType 5 6), (0, u "java/lang/Object"), (0, u "<init>"), (0, u "()V"), (0, .class_ 8), (0, u "java/util/TreeMap"), (0, .methodref 7 3), (0, .fieldref 11 12), (0, .class_ 13), (0, .nameAndType 14 15), (0, u "com/example/fetch_from_near/fetchfromnear/Histogram"), (0, u "counts"), (0, u "Ljava/util/TreeMap;"), (0, .methodref 11 17), (0, .nameAndType 18 19), (0, u "add"), (0, u "(JJ)V"), (9, .fieldref 11 30), (0, .nameAndType 31 32), (0, u "total"), (0, u "J"), (0, .methodref 34 35), (0, .class_ 36), (0, .nameAndType 37 38), (0, u "java/lang/Math"), (0, u "addExact"), (0, u "(JJ)J"), (0, .methodref 40 41), (0, .class_ 42), (0, .nameAndType 43 44), (0, u "java/lang/Long"), (0, u "valueOf"), (0, u "(J)Ljava/lang/Long;"), (0, .invokeDynamic 1 46), (0, .nameAndType 47 48), (0, u "apply"), (0, u "()Ljava/util/function/BiFunction;"), (0, .methodref 7 50), (0, .nameAndType 51 52), (0, u "merge"), (0, u "(Ljava/lang/Object;Ljava/lang/Object;Ljava/util/function/BiFunction;)Ljava/lang/Object;"), (0, .methodref 7 54), (0, .nameAndType 55 56), (0, u "entrySet"), (0, u "()Ljava/util/Set;"), (0, .interfaceMethodref 58 59), (0, .class_ 60), (0, .nameAndType 61 62), (0, u "java/util/Set"), (0, u "iterator"), (0, u "()Ljava/util/Iterator;"), (0, .interfaceMethodref 64 65), (0, .class_ 66), (0, .nameAndType 67 68), (0, u "java/util/Iterator"), (0, u "hasNext"), (0, u "()Z"), (0, .interfaceMethodref 64 70), (0, .nameAndType 71 72), (0, u "next"), (0, u "()Ljava/lang/Object;"), (0, .class_ 74), (0, u "java/util/Map$Entry"), (0, .interfaceMethodref 73 76), (0, .nameAndType 77 72), (0, u "getKey"), (0, .methodref 40 79), (0, .nameAndType 80 81), (0, u "longValue"), (0, u "()J"), (0, .interfaceMethodref 73 83), (0, .nameAndType 84 72), (0, u "getValue"), (22, u "(J)V"), (1, u "addAll"), (0, u "(Lcom/example/fetch_from_near/fetchfromnear/Histogram;)V"), (0, u "isEmpty"), (9, .methodType 122), (0, u "(Ljava/lang/Object;Ljava/lang/Object;)Ljava/lang/Object;"), (0, .methodHandle 6 124), (0, .methodref 40 125), (0, .nameAndType 126 38), (0, u "sum"), (0, .methodType 128), (0, u "(Ljava/lang/Long;Ljava/lang/Long;)Ljava/lang/Long;"), (8, .methodHandle 6 138), (0, .methodref 139 140), (0, .class_ 141), (0, .nameAndType 142 143), (0, u "java/lang/invoke/LambdaMetafactory"), (0, u "metafactory"), (0, u "(Ljava/lang/invoke/MethodHandles$Lookup;Ljava/lang/String;Ljava/lang/invoke/MethodType;Ljava/lang/invoke/MethodType;Ljava/lang/invoke/MethodHandle;Ljava/lang/invoke/MethodType;)Ljava/lang/invoke/CallSite;")] 9

def k2c0 : Code := { maxStack := 3, maxLocals := 1, code := prog_10_method_1_code, exceptionTable := #[], attributes := #[] }
def k2m0 : Method := { name := "<init>", desc := "()V", sig := { parameters := [], returnType := none }, accessFlags := 0, code := some k2c0 }
def k2c1 : Code := { maxStack := 5, maxLocals := 3, code := prog_10_method_2_code, exceptionTable := #[], attributes := #[] }
def k2m1 : Method := { name := "add", desc := "(J)V", sig := { parameters := [.long], returnType := none }, accessFlags := 0, code := some k2c1 }
def k2c2 : Code := { maxStack := 5, maxLocals := 5, code := prog_10_method_3_code, exceptionTable := #[], attributes := #[] }
def k2m2 : Method := { name := "add", desc := "(JJ)V", sig := { parameters := [.long, .long], returnType := none }, accessFlags := 0, code := some k2c2 }
def k2c3 : Code := { maxStack := 5, maxLocals := 4, code := prog_10_method_4_code, exceptionTable := #[], attributes := #[] }
def k2m3 : Method := { name := "addAll", desc := "(Lcom/example/fetch_from_near/fetchfromnear/Histogram;)V", sig := { parameters := [(.object "com/example/fetch_from_near/fetchfromnear/Histogram")], returnType := none }, accessFlags := 0, code := some k2c3 }
def k2c4 : Code := { maxStack := 4, maxLocals := 1, code := prog_10_method_5_code, exceptionTable := #[], attributes := #[] }
def k2m4 : Method := { name := "isEmpty", desc := "()Z", sig := { parameters := [], returnType := some .boolean }, accessFlags := 0, code := some k2c4 }
/-- com/example/fetch_from_near/fetchfromnear/Histogram -/
def k2 : Class := { plain "com/example/fetch_from_near/fetchfromnear/Histogram" (some 0) with
  accessFlags := 32
  interfaces := #[]
  cf := some (fileOf pool2 11 #[.bootstrapMethods #[⟨0, #[]⟩, ⟨137, #[121, 123, 127]⟩, ⟨0, #[]⟩]] #[{ accessFlags := 0, nameIndex := 5, descriptorIndex := 6, attributes := #[] }, { accessFlags := 0, nameIndex := 18, descriptorIndex := 107, attributes := #[] }, { accessFlags := 0, nameIndex := 18, descriptorIndex := 19, attributes := #[] }, { accessFlags := 0, nameIndex := 109, descriptorIndex := 110, attributes := #[] }, { accessFlags := 0, nameIndex := 111, descriptorIndex := 68, attributes := #[] }] 32 2 #[] #[{ accessFlags := 18, nameIndex := 14, descriptorIndex := 15, attributes := #[] }, { accessFlags := 2, nameIndex := 31, descriptorIndex := 32, attributes := #[] }])
  fields := #[{ name := "counts", type := (.object "java/util/TreeMap"), accessFlags := 18, slot := 0, constantValue := 0 }, { name := "total", type := .long, accessFlags := 2, slot := 1, constantValue := 0 }]
  methods := #[k2m0, k2m1, k2m2, k2m3, k2m4]
  instanceTypes := #[(.object "java/util/TreeMap"), .long]
  staticTypes := #[]
  resolved := Array.replicate 153 none
  callSites := [(2, 44, .constant 1)]
  statics := none }

def pool3 : Array CpInfo := pool [(2, .class_ 4), (1, u "java/util/Map"), (31, .class_ 37), (0, u "java/util/Map$Entry"), (55, .class_ 94), (0, u "java/lang/Object")] 168

/-- java/util/Map -/
def k3 : Class := { plain "java/util/Map" (some 0) with
  accessFlags := 1537
  interfaces := #[]
  cf := some (fileOf pool3 2 #[.nestMembers #[36]] #[] 1537 93 #[] #[])
  fields := #[]
  methods := #[]
  instanceTypes := #[]
  staticTypes := #[]
  resolved := Array.replicate 263 none
  statics := none }

def pool4 : Array CpInfo := pool [(1, .methodref 2 3), (0, .class_ 4), (0, .nameAndType 5 6), (0, u "java/lang/Object"), (0, u "<init>"), (0, u "()V"), (1, .class_ 10), (1, u "java/util/AbstractMap"), (42, .class_ 54), (0, u "java/util/Map"), (9, u "keySet"), (0, u "Ljava/util/Set;"), (0, .class_ 67), (0, u "java/util/AbstractMap$1"), (5, u "values"), (0, u "Ljava/util/Collection;"), (0, .class_ 76), (0, u "java/util/AbstractMap$2"), (104, .class_ 182), (0, u "java/util/AbstractMap$ViewCollection"), (0, .class_ 184), (0, u "java/util/AbstractMap$SimpleImmutableEntry"), (0, .class_ 186), (0, u "java/util/AbstractMap$SimpleEntry"), (0, .class_ 188), (0, u "java/util/AbstractMap$2$1"), (0, .class_ 190), (0, u "java/util/AbstractMap$1$1")] 5

def k4c0 : Code := { maxStack := 1, maxLocals := 1, code := jdk_71_method_1_code, exceptionTable := #[], attributes := #[] }
def k4m0 : Method := { name := "<init>", desc := "()V", sig := { parameters := [], returnType := none }, accessFlags := 4, code := some k4c0 }
/-- java/util/AbstractMap -/
def k4 : Class := { plain "java/util/AbstractMap" (some 0) with
  accessFlags := 1057
  interfaces := #[3]
  cf := some (fileOf pool4 8 #[.nestMembers #[181, 183, 185, 75, 187, 66, 189]] #[{ accessFlags := 4, nameIndex := 5, descriptorIndex := 6, attributes := #[] }] 1057 2 #[53] #[{ accessFlags := 128, nameIndex := 64, descriptorIndex := 65, attributes := #[] }, { accessFlags := 128, nameIndex := 73, descriptorIndex := 74, attributes := #[] }])
  fields := #[{ name := "keySet", type := (.object "java/util/Set"), accessFlags := 128, slot := 0, constantValue := 0 }, { name := "values", type := (.object "java/util/Collection"), accessFlags := 128, slot := 1, constantValue := 0 }]
  methods := #[k4m0]
  instanceTypes := #[(.object "java/util/Set"), (.object "java/util/Collection")]
  staticTypes := #[]
  resolved := Array.replicate 196 none
  statics := none }

def pool5 : Array CpInfo := pool [(2, .class_ 4), (1, u "java/util/SequencedMap"), (38, .class_ 44), (0, u "java/util/SequencedMap$1SeqKeySet"), (3, .class_ 49), (0, u "java/util/SequencedMap$1SeqValues"), (1, .class_ 52), (0, u "java/util/SequencedMap$1SeqEntrySet"), (1, .class_ 55), (0, u "java/lang/Object"), (0, .class_ 57), (0, u "java/util/Map")] 48

/-- java/util/SequencedMap -/
def k5 : Class := { plain "java/util/SequencedMap" (some 0) with
  accessFlags := 1537
  interfaces := #[3]
  cf := some (fileOf pool5 2 #[.nestMembers #[51, 48, 43]] #[] 1537 54 #[56] #[])
  fields := #[]
  methods := #[]
  instanceTypes := #[]
  staticTypes := #[]
  resolved := Array.replicate 106 none
  statics := none }

def pool6 : Array CpInfo := pool [(14, .class_ 16), (1, u "java/util/SortedMap"), (2, .class_ 20), (0, u "java/lang/Object"), (0, .class_ 22), (0, u "java/util/SequencedMap")] 50

/-- java/util/SortedMap -/
def k6 : Class := { plain "java/util/SortedMap" (some 0) with
  accessFlags := 1537
  interfaces := #[5]
  cf := some (fileOf pool6 14 #[] #[] 1537 19 #[21] #[])
  fields := #[]
  methods := #[]
  instanceTypes := #[]
  staticTypes := #[]
  resolved := Array.replicate 73 none
  statics := none }

def pool7 : Array CpInfo := pool [(2, .class_ 4), (1, u "java/util/NavigableMap"), (5, .class_ 11), (0, u "java/lang/Object"), (0, .class_ 13), (0, u "java/util/SortedMap")] 53

/-- java/util/NavigableMap -/
def k7 : Class := { plain "java/util/NavigableMap" (some 0) with
  accessFlags := 1537
  interfaces := #[6]
  cf := some (fileOf pool7 2 #[] #[] 1537 10 #[12] #[])
  fields := #[]
  methods := #[]
  instanceTypes := #[]
  staticTypes := #[]
  resolved := Array.replicate 67 none
  statics := none }

def pool8 : Array CpInfo := pool [(1, .class_ 2), (0, u "java/lang/Cloneable"), (0, .class_ 4), (0, u "java/lang/Object")] 2

/-- java/lang/Cloneable -/
def k8 : Class := { plain "java/lang/Cloneable" (some 0) with
  accessFlags := 1537
  interfaces := #[]
  cf := some (fileOf pool8 1 #[] #[] 1537 3 #[] #[])
  fields := #[]
  methods := #[]
  instanceTypes := #[]
  staticTypes := #[]
  resolved := Array.replicate 7 none
  statics := none }

def pool9 : Array CpInfo := pool [(1, .class_ 2), (0, u "java/io/Serializable"), (0, .class_ 4), (0, u "java/lang/Object")] 2

/-- java/io/Serializable -/
def k9 : Class := { plain "java/io/Serializable" (some 0) with
  accessFlags := 1537
  interfaces := #[]
  cf := some (fileOf pool9 1 #[] #[] 1537 3 #[] #[])
  fields := #[]
  methods := #[]
  instanceTypes := #[]
  staticTypes := #[]
  resolved := Array.replicate 7 none
  statics := none }

def pool10 : Array CpInfo := pool [(1, .methodref 2 3), (0, .class_ 4), (0, .nameAndType 5 6), (0, u "java/util/AbstractMap"), (0, u "<init>"), (0, u "()V"), (0, .fieldref 8 9), (0, .class_ 10), (0, .nameAndType 11 12), (0, u "java/util/TreeMap"), (0, u "size"), (0, u "I"), (0, .fieldref 8 14), (0, .nameAndType 15 12), (0, u "modCount"), (0, .fieldref 8 17), (0, .nameAndType 18 19), (0, u "comparator"), (0, u "Ljava/util/Comparator;"), (14, u "entrySet"), (0, u "()Ljava/util/Set;"), (20, u "getFirstEntry"), (0, u "()Ljava/util/TreeMap$Entry;"), (0, .fieldref 59 60), (0, .class_ 61), (0, .nameAndType 62 63), (0, u "java/util/TreeMap$Entry"), (0, u "value"), (0, u "Ljava/lang/Object;"), (6, u "successor"), (0, u "(Ljava/util/TreeMap$Entry;)Ljava/util/TreeMap$Entry;"), (2, u "key"), (11, .class_ 88), (1, u "java/util/Objects"), (6, .methodref 86 96), (0, .nameAndType 97 98), (0, u "requireNonNull"), (0, u "(Ljava/lang/Object;)Ljava/lang/Object;"), (0, .class_ 100), (0, u "java/lang/Comparable"), (0, .fieldref 8 102), (0, .nameAndType 103 104), (0, u "root"), (0, u "Ljava/util/TreeMap$Entry;"), (0, .fieldref 59 106), (0, .nameAndType 74 63), (0, .interfaceMethodref 99 108), (0, .nameAndType 109 110), (0, u "compareTo"), (0, u "(Ljava/lang/Object;)I"), (0, .fieldref 59 112), (0, .nameAndType 113 104), (0, u "left"), (0, .fieldref 59 115), (0, .nameAndType 116 104), (0, u "right"), (2, .nameAndType 121 122), (1, u "compare"), (0, u "(Ljava/lang/Object;Ljava/lang/Object;)I"), (0, .methodref 8 119), (0, .fieldref 59 125), (0, .nameAndType 126 104), (0, u "parent"), (8, .methodref 8 136), (0, .nameAndType 137 138), (0, u "addEntryToEmptyMap"), (0, u "(Ljava/lang/Object;Ljava/lang/Object;)V"), (0, .methodref 8 140), (0, .nameAndType 141 142), (0, u "addEntry"), (0, u "(Ljava/lang/Object;Ljava/lang/Object;Ljava/util/TreeMap$Entry;Z)V"), (3, u "(Ljava/util/TreeMap$Entry;Ljava/lang/Object;Ljava/util/function/BiFunction;)Ljava/lang/Object;"), (3, u "(Ljava/lang/Object;Ljava/lang/Object;Ljava/util/function/BiFunction;)Ljava/lang/Object;"), (0, .methodref 8 152), (0, .nameAndType 153 146), (0, u "mergeValue"), (4, u "apply"), (3, .interfaceMethodref 163 164), (0, .class_ 165), (0, .nameAndType 158 166), (0, u "java/util/function/BiFunction"), (0, u "(Ljava/lang/Object;Ljava/lang/Object;)Ljava/lang/Object;"), (0, .methodref 59 168), (0, .nameAndType 5 169), (0, u "(Ljava/lang/Object;Ljava/lang/Object;Ljava/util/TreeMap$Entry;)V"), (0, .methodref 8 171), (0, .nameAndType 172 173), (0, u "fixAfterInsertion"), (0, u "(Ljava/util/TreeMap$Entry;)V"), (14, .fieldref 8 189), (0, .nameAndType 34 190), (0, u "Ljava/util/TreeMap$EntrySet;"), (2, u "navigableKeySet"), (0, u "Ljava/util/TreeMap$KeySet;"), (2, u "descendingMap"), (0, u "Ljava/util/NavigableMap;"), (23, .class_ 223), (0, u "java/util/TreeMap$KeySet"), (7, .class_ 232), (0, u "java/util/NavigableMap"), (4, .class_ 238), (0, u "java/util/TreeMap$Values"), (1, .nameAndType 5 241), (0, u "(Ljava/util/TreeMap;)V"), (0, .class_ 243), (0, u "java/util/TreeMap$EntrySet"), (0, .methodref 242 240), (0, .class_ 246), (0, u "java/util/TreeMap$DescendingSubMap"), (3, .class_ 251), (0, u "java/util/TreeMap$AscendingSubMap"), (17, .class_ 270), (0, u "java/util/TreeMap$KeyIterator"), (3, .class_ 275), (0, u "java/util/TreeMap$DescendingKeyIterator"), (14, .fieldref 59 291), (0, .nameAndType 292 293), (0, u "color"), (0, u "Z"), (94, .class_ 389), (0, u "java/util/TreeMap$NavigableSubMap"), (1, .class_ 392), (0, u "java/util/TreeMap$KeySpliterator"), (3, .class_ 397), (0, u "java/util/TreeMap$DescendingKeySpliterator"), (4, u "UNBOUNDED"), (0, .class_ 404), (0, u "java/lang/Cloneable"), (0, .class_ 406), (0, u "java/io/Serializable"), (6, u "RED"), (2, u "BLACK"), (1, u "serialVersionUID"), (0, u "J"), (62, u "merge"), (151, .class_ 635), (0, u "java/util/TreeMap$EntrySpliterator"), (0, .class_ 637), (0, u "java/util/TreeMap$ValueSpliterator"), (0, .class_ 639), (0, u "java/util/TreeMap$TreeMapSpliterator"), (0, .class_ 641), (0, u "java/util/TreeMap$SubMap"), (0, .class_ 643), (0, u "java/util/TreeMap$DescendingSubMap$DescendingEntrySetView"), (0, .class_ 645), (0, u "java/util/TreeMap$AscendingSubMap$AscendingEntrySetView"), (0, .class_ 647), (0, u "java/util/TreeMap$NavigableSubMap$DescendingSubMapKeyIterator"), (0, .class_ 649), (0, u "java/util/TreeMap$NavigableSubMap$SubMapKeyIterator"), (0, .class_ 651), (0, u "java/util/TreeMap$NavigableSubMap$DescendingSubMapEntryIterator"), (0, .class_ 653), (0, u "java/util/TreeMap$NavigableSubMap$SubMapEntryIterator"), (0, .class_ 655), (0, u "java/util/TreeMap$NavigableSubMap$SubMapIterator"), (0, .class_ 657), (0, u "java/util/TreeMap$NavigableSubMap$EntrySetView"), (0, .class_ 659), (0, u "java/util/TreeMap$ValueIterator"), (0, .class_ 661), (0, u "java/util/TreeMap$EntryIterator"), (0, .class_ 663), (0, u "java/util/TreeMap$PrivateEntryIterator")] 28

def k10c0 : Code := { maxStack := 2, maxLocals := 1, code := jdk_2729_method_1_code, exceptionTable := #[], attributes := #[] }
def k10m0 : Method := { name := "<init>", desc := "()V", sig := { parameters := [], returnType := none }, accessFlags := 1, code := some k10c0 }
def k10c1 : Code := { maxStack := 5, maxLocals := 9, code := jdk_2729_method_26_code, exceptionTable := #[], attributes := #[] }
def k10m1 : Method := { name := "merge", desc := "(Ljava/lang/Object;Ljava/lang/Object;Ljava/util/function/BiFunction;)Ljava/lang/Object;", sig := { parameters := [(.object "java/lang/Object"), (.object "java/lang/Object"), (.object "java/util/function/BiFunction")], returnType := some (.object "java/lang/Object") }, accessFlags := 1, code := some k10c1 }
def k10c2 : Code := { maxStack := 5, maxLocals := 6, code := jdk_2729_method_29_code, exceptionTable := #[], attributes := #[] }
def k10m2 : Method := { name := "addEntry", desc := "(Ljava/lang/Object;Ljava/lang/Object;Ljava/util/TreeMap$Entry;Z)V", sig := { parameters := [(.object "java/lang/Object"), (.object "java/lang/Object"), (.object "java/util/TreeMap$Entry"), .boolean], returnType := none }, accessFlags := 2, code := some k10c2 }
def k10c3 : Code := { maxStack := 6, maxLocals := 3, code := jdk_2729_method_30_code, exceptionTable := #[], attributes := #[] }
def k10m3 : Method := { name := "addEntryToEmptyMap", desc := "(Ljava/lang/Object;Ljava/lang/Object;)V", sig := { parameters := [(.object "java/lang/Object"), (.object "java/lang/Object")], returnType := none }, accessFlags := 2, code := some k10c3 }
def k10c4 : Code := { maxStack := 3, maxLocals := 7, code := jdk_2729_method_33_code, exceptionTable := #[], attributes := #[] }
def k10m4 : Method := { name := "mergeValue", desc := "(Ljava/util/TreeMap$Entry;Ljava/lang/Object;Ljava/util/function/BiFunction;)Ljava/lang/Object;", sig := { parameters := [(.object "java/util/TreeMap$Entry"), (.object "java/lang/Object"), (.object "java/util/function/BiFunction")], returnType := some (.object "java/lang/Object") }, accessFlags := 2, code := some k10c4 }
def k10c5 : Code := { maxStack := 4, maxLocals := 2, code := jdk_2729_method_53_code, exceptionTable := #[], attributes := #[] }
def k10m5 : Method := { name := "entrySet", desc := "()Ljava/util/Set;", sig := { parameters := [], returnType := some (.object "java/util/Set") }, accessFlags := 1, code := some k10c5 }
def k10c6 : Code := { maxStack := 3, maxLocals := 3, code := jdk_2729_method_67_code, exceptionTable := #[], attributes := #[] }
def k10m6 : Method := { name := "compare", desc := "(Ljava/lang/Object;Ljava/lang/Object;)I", sig := { parameters := [(.object "java/lang/Object"), (.object "java/lang/Object")], returnType := some .int }, accessFlags := 16, code := some k10c6 }
def k10c7 : Code := { maxStack := 1, maxLocals := 2, code := jdk_2729_method_72_code, exceptionTable := #[], attributes := #[] }
def k10m7 : Method := { name := "getFirstEntry", desc := "()Ljava/util/TreeMap$Entry;", sig := { parameters := [], returnType := some (.object "java/util/TreeMap$Entry") }, accessFlags := 16, code := some k10c7 }
def k10c8 : Code := { maxStack := 2, maxLocals := 3, code := jdk_2729_method_74_code, exceptionTable := #[], attributes := #[] }
def k10m8 : Method := { name := "successor", desc := "(Ljava/util/TreeMap$Entry;)Ljava/util/TreeMap$Entry;", sig := { parameters := [(.object "java/util/TreeMap$Entry")], returnType := some (.object "java/util/TreeMap$Entry") }, accessFlags := 8, code := some k10c8 }
def k10c9 : Code := { maxStack := 2, maxLocals := 3, code := jdk_2729_method_83_code, exceptionTable := #[], attributes := #[] }
def k10m9 : Method := { name := "fixAfterInsertion", desc := "(Ljava/util/TreeMap$Entry;)V", sig := { parameters := [(.object "java/util/TreeMap$Entry")], returnType := none }, accessFlags := 2, code := some k10c9 }
/-- java/util/TreeMap -/
def k10 : Class := { plain "java/util/TreeMap" (some 4) with
  accessFlags := 33
  interfaces := #[7, 8, 9]
  cf := some (fileOf pool10 8 #[.nestMembers #[634, 636, 396, 391, 638, 59, 640, 245, 642, 250, 644, 388, 646, 648, 650, 652, 654, 656, 274, 269, 658, 660, 662, 222, 242, 237]] #[{ accessFlags := 1, nameIndex := 5, descriptorIndex := 6, attributes := #[] }, { accessFlags := 1, nameIndex := 482, descriptorIndex := 150, attributes := #[] }, { accessFlags := 2, nameIndex := 141, descriptorIndex := 142, attributes := #[] }, { accessFlags := 2, nameIndex := 137, descriptorIndex := 138, attributes := #[] }, { accessFlags := 2, nameIndex := 153, descriptorIndex := 146, attributes := #[] }, { accessFlags := 1, nameIndex := 34, descriptorIndex := 35, attributes := #[] }, { accessFlags := 16, nameIndex := 121, descriptorIndex := 122, attributes := #[] }, { accessFlags := 16, nameIndex := 56, descriptorIndex := 57, attributes := #[] }, { accessFlags := 8, nameIndex := 70, descriptorIndex := 71, attributes := #[] }, { accessFlags := 2, nameIndex := 172, descriptorIndex := 173, attributes := #[] }] 33 2 #[231, 403, 405] #[{ accessFlags := 18, nameIndex := 18, descriptorIndex := 19, attributes := #[] }, { accessFlags := 130, nameIndex := 103, descriptorIndex := 104, attributes := #[] }, { accessFlags := 130, nameIndex := 11, descriptorIndex := 12, attributes := #[] }, { accessFlags := 130, nameIndex := 15, descriptorIndex := 12, attributes := #[] }, { accessFlags := 130, nameIndex := 34, descriptorIndex := 190, attributes := #[] }, { accessFlags := 130, nameIndex := 193, descriptorIndex := 194, attributes := #[] }, { accessFlags := 130, nameIndex := 197, descriptorIndex := 198, attributes := #[] }, { accessFlags := 26, nameIndex := 402, descriptorIndex := 63, attributes := #[] }, { accessFlags := 26, nameIndex := 413, descriptorIndex := 293, attributes := #[] }, { accessFlags := 26, nameIndex := 416, descriptorIndex := 293, attributes := #[] }, { accessFlags := 26, nameIndex := 418, descriptorIndex := 419, attributes := #[] }])
  fields := #[{ name := "comparator", type := (.object "java/util/Comparator"), accessFlags := 18, slot := 2, constantValue := 0 }, { name := "root", type := (.object "java/util/TreeMap$Entry"), accessFlags := 130, slot := 3, constantValue := 0 }, { name := "size", type := .int, accessFlags := 130, slot := 4, constantValue := 0 }, { name := "modCount", type := .int, accessFlags := 130, slot := 5, constantValue := 0 }, { name := "entrySet", type := (.object "java/util/TreeMap$EntrySet"), accessFlags := 130, slot := 6, constantValue := 0 }, { name := "navigableKeySet", type := (.object "java/util/TreeMap$KeySet"), accessFlags := 130, slot := 7, constantValue := 0 }, { name := "descendingMap", type := (.object "java/util/NavigableMap"), accessFlags := 130, slot := 8, constantValue := 0 }, { name := "UNBOUNDED", type := (.object "java/lang/Object"), accessFlags := 26, slot := 0, constantValue := 0 }, { name := "RED", type := .boolean, accessFlags := 26, slot := 1, constantValue := 0 }, { name := "BLACK", type := .boolean, accessFlags := 26, slot := 2, constantValue := 0 }, { name := "serialVersionUID", type := .long, accessFlags := 26, slot := 3, constantValue := 0 }]
  methods := #[k10m0, k10m1, k10m2, k10m3, k10m4, k10m5, k10m6, k10m7, k10m8, k10m9]
  instanceTypes := #[(.object "java/util/Set"), (.object "java/util/Collection"), (.object "java/util/Comparator"), (.object "java/util/TreeMap$Entry"), .int, .int, (.object "java/util/TreeMap$EntrySet"), (.object "java/util/TreeMap$KeySet"), (.object "java/util/NavigableMap")]
  staticTypes := #[(.object "java/lang/Object"), .boolean, .boolean, .long]
  resolved := Array.replicate 692 none
  statics := none }

def pool11 : Array CpInfo := pool [(1, .class_ 2), (0, u "java/lang/Math"), (1, .class_ 6), (1, u "java/lang/Object"), (0, u "<init>"), (0, u "()V"), (89, .class_ 100), (1, u "java/lang/Math$RandomNumberGeneratorHolder"), (20, u "(JJ)J"), (50, u "negativeZeroFloatBits"), (0, u "J"), (2, u "negativeZeroDoubleBits"), (68, u "$assertionsDisabled"), (0, u "Z"), (91, u "twoToTheDoubleScaleDown"), (0, u "D"), (4, u "twoToTheDoubleScaleUp"), (9, u "E"), (3, u "PI"), (2, u "TAU"), (2, u "DEGREES_TO_RADIANS"), (0, u "RADIANS_TO_DEGREES"), (27, u "addExact")] 66

def k11m0 : Method := { name := "<init>", desc := "()V", sig := { parameters := [], returnType := none }, accessFlags := 2, code := none }
def k11c1 : Code := { maxStack := 6, maxLocals := 6, code := jdk_29_method_25_code, exceptionTable := #[], attributes := #[] }
def k11m1 : Method := { name := "addExact", desc := "(JJ)J", sig := { parameters := [.long, .long], returnType := some .long }, accessFlags := 9, code := some k11c1 }
/-- java/lang/Math -/
def k11 : Class := { plain "java/lang/Math" (some 0) with
  accessFlags := 49
  interfaces := #[]
  cf := some (fileOf pool11 1 #[.nestMembers #[98]] #[{ accessFlags := 2, nameIndex := 7, descriptorIndex := 8, attributes := #[] }, { accessFlags := 9, nameIndex := 393, descriptorIndex := 121, attributes := #[] }] 49 4 #[] #[{ accessFlags := 25, nameIndex := 354, descriptorIndex := 339, attributes := #[] }, { accessFlags := 25, nameIndex := 358, descriptorIndex := 339, attributes := #[] }, { accessFlags := 25, nameIndex := 361, descriptorIndex := 339, attributes := #[] }, { accessFlags := 26, nameIndex := 364, descriptorIndex := 339, attributes := #[] }, { accessFlags := 26, nameIndex := 365, descriptorIndex := 339, attributes := #[] }, { accessFlags := 26, nameIndex := 172, descriptorIndex := 173, attributes := #[] }, { accessFlags := 26, nameIndex := 176, descriptorIndex := 173, attributes := #[] }, { accessFlags := 8, nameIndex := 344, descriptorIndex := 339, attributes := #[] }, { accessFlags := 8, nameIndex := 338, descriptorIndex := 339, attributes := #[] }, { accessFlags := 4120, nameIndex := 245, descriptorIndex := 246, attributes := #[] }])
  fields := #[{ name := "E", type := .double, accessFlags := 25, slot := 0, constantValue := 0 }, { name := "PI", type := .double, accessFlags := 25, slot := 1, constantValue := 0 }, { name := "TAU", type := .double, accessFlags := 25, slot := 2, constantValue := 0 }, { name := "DEGREES_TO_RADIANS", type := .double, accessFlags := 26, slot := 3, constantValue := 0 }, { name := "RADIANS_TO_DEGREES", type := .double, accessFlags := 26, slot := 4, constantValue := 0 }, { name := "negativeZeroFloatBits", type := .long, accessFlags := 26, slot := 5, constantValue := 0 }, { name := "negativeZeroDoubleBits", type := .long, accessFlags := 26, slot := 6, constantValue := 0 }, { name := "twoToTheDoubleScaleUp", type := .double, accessFlags := 8, slot := 7, constantValue := 0 }, { name := "twoToTheDoubleScaleDown", type := .double, accessFlags := 8, slot := 8, constantValue := 0 }, { name := "$assertionsDisabled", type := .boolean, accessFlags := 4120, slot := 9, constantValue := 0 }]
  methods := #[k11m0, k11m1]
  instanceTypes := #[]
  staticTypes := #[.double, .double, .double, .double, .double, .long, .long, .double, .double, .boolean]
  resolved := Array.replicate 460 none
  statics := none }

def pool12 : Array CpInfo := pool [(1, .methodref 2 3), (0, .class_ 4), (0, .nameAndType 5 6), (0, u "java/lang/Object"), (0, u "<init>"), (0, u "()V"), (1, .class_ 10), (1, u "java/lang/Number"), (2, .class_ 14), (0, u "java/io/Serializable"), (0, u "serialVersionUID"), (0, u "J")] 20

def k12c0 : Code := { maxStack := 1, maxLocals := 1, code := jdk_18_method_1_code, exceptionTable := #[], attributes := #[] }
def k12m0 : Method := { name := "<init>", desc := "()V", sig := { parameters := [], returnType := none }, accessFlags := 1, code := some k12c0 }
/-- java/lang/Number -/
def k12 : Class := { plain "java/lang/Number" (some 0) with
  accessFlags := 1057
  interfaces := #[9]
  cf := some (fileOf pool12 8 #[] #[{ accessFlags := 1, nameIndex := 5, descriptorIndex := 6, attributes := #[] }] 1057 2 #[13] #[{ accessFlags := 26, nameIndex := 15, descriptorIndex := 16, attributes := #[] }])
  fields := #[{ name := "serialVersionUID", type := .long, accessFlags := 26, slot := 0, constantValue := 0 }]
  methods := #[k12m0]
  instanceTypes := #[]
  staticTypes := #[.long]
  resolved := Array.replicate 37 none
  statics := none }

def pool13 : Array CpInfo := pool [(1, .class_ 2), (0, u "java/lang/Comparable"), (0, .class_ 4), (0, u "java/lang/Object"), (0, u "compareTo"), (0, u "(Ljava/lang/Object;)I")] 5

def k13m0 : Method := { name := "compareTo", desc := "(Ljava/lang/Object;)I", sig := { parameters := [(.object "java/lang/Object")], returnType := some .int }, accessFlags := 1025, code := none }
/-- java/lang/Comparable -/
def k13 : Class := { plain "java/lang/Comparable" (some 0) with
  accessFlags := 1537
  interfaces := #[]
  cf := some (fileOf pool13 1 #[] #[{ accessFlags := 1025, nameIndex := 5, descriptorIndex := 6, attributes := #[] }] 1537 3 #[] #[])
  fields := #[]
  methods := #[k13m0]
  instanceTypes := #[]
  staticTypes := #[]
  resolved := Array.replicate 12 none
  statics := none }

def pool14 : Array CpInfo := pool [(1, .class_ 2), (0, u "java/lang/constant/Constable"), (0, .class_ 4), (0, u "java/lang/Object")] 6

/-- java/lang/constant/Constable -/
def k14 : Class := { plain "java/lang/constant/Constable" (some 0) with
  accessFlags := 1537
  interfaces := #[]
  cf := some (fileOf pool14 1 #[] #[] 1537 3 #[] #[])
  fields := #[]
  methods := #[]
  instanceTypes := #[]
  staticTypes := #[]
  resolved := Array.replicate 11 none
  statics := none }

def pool15 : Array CpInfo := pool [(1, .class_ 2), (0, u "java/lang/constant/ConstantDesc"), (0, .class_ 4), (0, u "java/lang/Object")] 32

/-- java/lang/constant/ConstantDesc -/
def k15 : Class := { plain "java/lang/constant/ConstantDesc" (some 0) with
  accessFlags := 1537
  interfaces := #[]
  cf := some (fileOf pool15 1 #[] #[] 1537 3 #[] #[])
  fields := #[]
  methods := #[]
  instanceTypes := #[]
  staticTypes := #[]
  resolved := Array.replicate 37 none
  statics := none }

def pool16 : Array CpInfo := pool [(1, .class_ 2), (0, u "java/lang/Long"), (55, .nameAndType 59 60), (0, u "<init>"), (0, u "()V"), (24, u "valueOf"), (143, u "(J)Ljava/lang/Long;"), (0, .long 18446744073709551488), (1, .long 127), (1, .fieldref 235 236), (0, .class_ 237), (0, .nameAndType 238 239), (0, u "java/lang/Long$LongCache"), (0, u "cache"), (0, u "[Ljava/lang/Long;"), (0, .methodref 1 241), (0, .nameAndType 59 242), (0, u "(J)V"), (27, .methodref 271 58), (0, .class_ 272), (0, u "java/lang/Number"), (0, .fieldref 1 274), (0, .nameAndType 275 276), (0, u "value"), (0, u "J"), (5, u "longValue"), (0, u "()J"), (18, .methodref 1 303), (0, .nameAndType 304 305), (0, u "compare"), (0, u "(JJ)I"), (27, u "(JJ)J"), (9, .methodref 1 344), (0, .nameAndType 345 346), (0, u "compareTo"), (0, u "(Ljava/lang/Long;)I"), (14, u "TYPE"), (0, u "Ljava/lang/Class;"), (0, .class_ 364), (0, u "java/lang/Comparable"), (0, .class_ 366), (0, u "java/lang/constant/Constable"), (0, .class_ 368), (0, u "java/lang/constant/ConstantDesc"), (0, u "MIN_VALUE"), (1, u "MAX_VALUE"), (4, u "SIZE"), (0, u "I"), (1, u "BYTES"), (1, u "serialVersionUID"), (116, u "sum"), (7, u "(Ljava/lang/Object;)I")] 17

def k16c0 : Code := { maxStack := 4, maxLocals := 3, code := jdk_35_method_24_code, exceptionTable := #[], attributes := #[] }
def k16m0 : Method := { name := "valueOf", desc := "(J)Ljava/lang/Long;", sig := { parameters := [.long], returnType := some (.object "java/lang/Long") }, accessFlags := 9, code := some k16c0 }
def k16c1 : Code := { maxStack := 3, maxLocals := 3, code := jdk_35_method_26_code, exceptionTable := #[], attributes := #[] }
def k16m1 : Method := { name := "<init>", desc := "(J)V", sig := { parameters := [.long], returnType := none }, accessFlags := 1, code := some k16c1 }
def k16c2 : Code := { maxStack := 2, maxLocals := 1, code := jdk_35_method_31_code, exceptionTable := #[], attributes := #[] }
def k16m2 : Method := { name := "longValue", desc := "()J", sig := { parameters := [], returnType := some .long }, accessFlags := 1, code := some k16c2 }
def k16c3 : Code := { maxStack := 4, maxLocals := 2, code := jdk_35_method_41_code, exceptionTable := #[], attributes := #[] }
def k16m3 : Method := { name := "compareTo", desc := "(Ljava/lang/Long;)I", sig := { parameters := [(.object "java/lang/Long")], returnType := some .int }, accessFlags := 1, code := some k16c3 }
def k16c4 : Code := { maxStack := 4, maxLocals := 4, code := jdk_35_method_42_code, exceptionTable := #[], attributes := #[] }
def k16m4 : Method := { name := "compare", desc := "(JJ)I", sig := { parameters := [.long, .long], returnType := some .int }, accessFlags := 9, code := some k16c4 }
def k16c5 : Code := { maxStack := 4, maxLocals := 4, code := jdk_35_method_59_code, exceptionTable := #[], attributes := #[] }
def k16m5 : Method := { name := "sum", desc := "(JJ)J", sig := { parameters := [.long, .long], returnType := some .long }, accessFlags := 9, code := some k16c5 }
def k16c6 : Code := { maxStack := 2, maxLocals := 2, code := jdk_35_method_64_code, exceptionTable := #[], attributes := #[] }
def k16m6 : Method := { name := "compareTo", desc := "(Ljava/lang/Object;)I", sig := { parameters := [(.object "java/lang/Object")], returnType := some .int }, accessFlags := 4161, code := some k16c6 }
/-- java/lang/Long -/
def k16 : Class := { plain "java/lang/Long" (some 12) with
  accessFlags := 49
  interfaces := #[13, 14, 15]
  cf := some (fileOf pool16 1 #[.nestMembers #[235]] #[{ accessFlags := 9, nameIndex := 85, descriptorIndex := 229, attributes := #[] }, { accessFlags := 1, nameIndex := 59, descriptorIndex := 242, attributes := #[] }, { accessFlags := 1, nameIndex := 282, descriptorIndex := 283, attributes := #[] }, { accessFlags := 1, nameIndex := 345, descriptorIndex := 346, attributes := #[] }, { accessFlags := 9, nameIndex := 304, descriptorIndex := 305, attributes := #[] }, { accessFlags := 9, nameIndex := 498, descriptorIndex := 333, attributes := #[] }, { accessFlags := 4161, nameIndex := 345, descriptorIndex := 506, attributes := #[] }] 49 271 #[363, 365, 367] #[{ accessFlags := 25, nameIndex := 369, descriptorIndex := 276, attributes := #[] }, { accessFlags := 25, nameIndex := 371, descriptorIndex := 276, attributes := #[] }, { accessFlags := 25, nameIndex := 361, descriptorIndex := 362, attributes := #[] }, { accessFlags := 18, nameIndex := 275, descriptorIndex := 276, attributes := #[] }, { accessFlags := 25, nameIndex := 376, descriptorIndex := 377, attributes := #[] }, { accessFlags := 25, nameIndex := 379, descriptorIndex := 377, attributes := #[] }, { accessFlags := 26, nameIndex := 381, descriptorIndex := 276, attributes := #[] }])
  fields := #[{ name := "MIN_VALUE", type := .long, accessFlags := 25, slot := 0, constantValue := 0 }, { name := "MAX_VALUE", type := .long, accessFlags := 25, slot := 1, constantValue := 0 }, { name := "TYPE", type := (.object "java/lang/Class"), accessFlags := 25, slot := 2, constantValue := 0 }, { name := "value", type := .long, accessFlags := 18, slot := 0, constantValue := 0 }, { name := "SIZE", type := .int, accessFlags := 25, slot := 3, constantValue := 0 }, { name := "BYTES", type := .int, accessFlags := 25, slot := 4, constantValue := 0 }, { name := "serialVersionUID", type := .long, accessFlags := 26, slot := 5, constantValue := 0 }]
  methods := #[k16m0, k16m1, k16m2, k16m3, k16m4, k16m5, k16m6]
  instanceTypes := #[.long]
  staticTypes := #[.long, .long, (.object "java/lang/Class"), .int, .int, .long]
  resolved := Array.replicate 524 none
  statics := none }

def pool17 : Array CpInfo := pool [(2, .class_ 4), (1, u "java/lang/Object"), (0, u "<init>"), (0, u "()V"), (0, .class_ 8), (0, u "java/lang/Long"), (7, .class_ 18), (1, u "java/lang/Long$LongCache"), (0, u "$assertionsDisabled"), (0, u "Z"), (8, u "archivedCache"), (0, u "[Ljava/lang/Long;"), (7, u "cache")] 24

def k17m0 : Method := { name := "<init>", desc := "()V", sig := { parameters := [], returnType := none }, accessFlags := 2, code := none }
/-- java/lang/Long$LongCache -/
def k17 : Class := { plain "java/lang/Long$LongCache" (some 0) with
  accessFlags := 48
  interfaces := #[]
  cf := some (fileOf pool17 16 #[.nestHost 7] #[{ accessFlags := 2, nameIndex := 5, descriptorIndex := 6, attributes := #[] }] 48 2 #[] #[{ accessFlags := 24, nameIndex := 38, descriptorIndex := 30, attributes := #[] }, { accessFlags := 8, nameIndex := 29, descriptorIndex := 30, attributes := #[] }, { accessFlags := 4120, nameIndex := 19, descriptorIndex := 20, attributes := #[] }])
  fields := #[{ name := "cache", type := (.array (.object "java/lang/Long")), accessFlags := 24, slot := 0, constantValue := 0 }, { name := "archivedCache", type := (.array (.object "java/lang/Long")), accessFlags := 8, slot := 1, constantValue := 0 }, { name := "$assertionsDisabled", type := .boolean, accessFlags := 4120, slot := 2, constantValue := 0 }]
  methods := #[k17m0]
  instanceTypes := #[]
  staticTypes := #[(.array (.object "java/lang/Long")), (.array (.object "java/lang/Long")), .boolean]
  resolved := Array.replicate 63 none
  statics := some 0 }

def pool18 : Array CpInfo := pool [(9, u "apply"), (2, .class_ 14), (1, u "java/util/function/BiFunction"), (0, u "(Ljava/lang/Object;Ljava/lang/Object;)Ljava/lang/Object;"), (4, .class_ 21), (0, u "java/lang/Object")] 43

def k18m0 : Method := { name := "apply", desc := "(Ljava/lang/Object;Ljava/lang/Object;)Ljava/lang/Object;", sig := { parameters := [(.object "java/lang/Object"), (.object "java/lang/Object")], returnType := some (.object "java/lang/Object") }, accessFlags := 1025, code := none }
/-- java/util/function/BiFunction -/
def k18 : Class := { plain "java/util/function/BiFunction" (some 0) with
  accessFlags := 1537
  interfaces := #[]
  cf := some (fileOf pool18 12 #[] #[{ accessFlags := 1025, nameIndex := 9, descriptorIndex := 15, attributes := #[] }] 1537 20 #[] #[])
  fields := #[]
  methods := #[k18m0]
  instanceTypes := #[]
  staticTypes := #[]
  resolved := Array.replicate 65 none
  statics := none }

def pool19 : Array CpInfo := pool [(2, .class_ 4), (1, u "java/lang/Object"), (0, u "<init>"), (0, u "()V"), (35, .class_ 44), (1, u "java/util/Objects"), (0, u "requireNonNull"), (0, u "(Ljava/lang/Object;)Ljava/lang/Object;")] 137

def k19m0 : Method := { name := "<init>", desc := "()V", sig := { parameters := [], returnType := none }, accessFlags := 2, code := none }
def k19c1 : Code := { maxStack := 2, maxLocals := 1, code := jdk_31_method_10_code, exceptionTable := #[], attributes := #[] }
def k19m1 : Method := { name := "requireNonNull", desc := "(Ljava/lang/Object;)Ljava/lang/Object;", sig := { parameters := [(.object "java/lang/Object")], returnType := some (.object "java/lang/Object") }, accessFlags := 9, code := some k19c1 }
/-- java/util/Objects -/
def k19 : Class := { plain "java/util/Objects" (some 0) with
  accessFlags := 49
  interfaces := #[]
  cf := some (fileOf pool19 42 #[] #[{ accessFlags := 2, nameIndex := 5, descriptorIndex := 6, attributes := #[] }, { accessFlags := 9, nameIndex := 45, descriptorIndex := 46, attributes := #[] }] 49 2 #[] #[])
  fields := #[]
  methods := #[k19m0, k19m1]
  instanceTypes := #[]
  staticTypes := #[]
  resolved := Array.replicate 184 none
  statics := none }

def pool20 : Array CpInfo := pool [(23, .class_ 25), (1, u "java/util/Map$Entry"), (0, u "getKey"), (0, u "()Ljava/lang/Object;"), (2, u "getValue"), (1, .class_ 34), (1, u "java/util/Map"), (34, .class_ 70), (0, u "java/lang/Object")] 107

def k20m0 : Method := { name := "getKey", desc := "()Ljava/lang/Object;", sig := { parameters := [], returnType := some (.object "java/lang/Object") }, accessFlags := 1025, code := none }
def k20m1 : Method := { name := "getValue", desc := "()Ljava/lang/Object;", sig := { parameters := [], returnType := some (.object "java/lang/Object") }, accessFlags := 1025, code := none }
/-- java/util/Map$Entry -/
def k20 : Class := { plain "java/util/Map$Entry" (some 0) with
  accessFlags := 1537
  interfaces := #[]
  cf := some (fileOf pool20 23 #[.nestHost 32] #[{ accessFlags := 1025, nameIndex := 26, descriptorIndex := 27, attributes := #[] }, { accessFlags := 1025, nameIndex := 30, descriptorIndex := 27, attributes := #[] }] 1537 69 #[] #[])
  fields := #[]
  methods := #[k20m0, k20m1]
  instanceTypes := #[]
  staticTypes := #[]
  resolved := Array.replicate 178 none
  statics := none }

def pool21 : Array CpInfo := pool [(1, .class_ 2), (0, u "java/util/TreeMap"), (0, .methodref 4 5), (0, .class_ 6), (0, .nameAndType 7 8), (0, u "java/lang/Object"), (0, u "<init>"), (0, u "()V"), (0, .fieldref 10 11), (0, .class_ 12), (0, .nameAndType 13 14), (0, u "java/util/TreeMap$Entry"), (0, u "color"), (0, u "Z"), (0, .fieldref 10 16), (0, .nameAndType 17 18), (0, u "key"), (0, u "Ljava/lang/Object;"), (0, .fieldref 10 20), (0, .nameAndType 21 18), (0, u "value"), (0, .fieldref 10 23), (0, .nameAndType 24 25), (0, u "parent"), (0, u "Ljava/util/TreeMap$Entry;"), (0, .class_ 27), (0, u "java/util/Map$Entry"), (2, u "getKey"), (0, u "()Ljava/lang/Object;"), (6, u "getValue"), (23, u "left"), (1, u "right"), (0, u "(Ljava/lang/Object;Ljava/lang/Object;Ljava/util/TreeMap$Entry;)V")] 30

def k21c0 : Code := { maxStack := 2, maxLocals := 4, code := jdk_2736_method_1_code, exceptionTable := #[], attributes := #[] }
def k21m0 : Method := { name := "<init>", desc := "(Ljava/lang/Object;Ljava/lang/Object;Ljava/util/TreeMap$Entry;)V", sig := { parameters := [(.object "java/lang/Object"), (.object "java/lang/Object"), (.object "java/util/TreeMap$Entry")], returnType := none }, accessFlags := 0, code := some k21c0 }
def k21c1 : Code := { maxStack := 1, maxLocals := 1, code := jdk_2736_method_2_code, exceptionTable := #[], attributes := #[] }
def k21m1 : Method := { name := "getKey", desc := "()Ljava/lang/Object;", sig := { parameters := [], returnType := some (.object "java/lang/Object") }, accessFlags := 1, code := some k21c1 }
def k21c2 : Code := { maxStack := 1, maxLocals := 1, code := jdk_2736_method_3_code, exceptionTable := #[], attributes := #[] }
def k21m2 : Method := { name := "getValue", desc := "()Ljava/lang/Object;", sig := { parameters := [], returnType := some (.object "java/lang/Object") }, accessFlags := 1, code := some k21c2 }
/-- java/util/TreeMap$Entry -/
def k21 : Class := { plain "java/util/TreeMap$Entry" (some 0) with
  accessFlags := 48
  interfaces := #[20]
  cf := some (fileOf pool21 10 #[.nestHost 1] #[{ accessFlags := 0, nameIndex := 7, descriptorIndex := 65, attributes := #[] }, { accessFlags := 1, nameIndex := 30, descriptorIndex := 31, attributes := #[] }, { accessFlags := 1, nameIndex := 38, descriptorIndex := 31, attributes := #[] }] 48 4 #[26] #[{ accessFlags := 0, nameIndex := 17, descriptorIndex := 18, attributes := #[] }, { accessFlags := 0, nameIndex := 21, descriptorIndex := 18, attributes := #[] }, { accessFlags := 0, nameIndex := 62, descriptorIndex := 25, attributes := #[] }, { accessFlags := 0, nameIndex := 64, descriptorIndex := 25, attributes := #[] }, { accessFlags := 0, nameIndex := 24, descriptorIndex := 25, attributes := #[] }, { accessFlags := 0, nameIndex := 13, descriptorIndex := 14, attributes := #[] }])
  fields := #[{ name := "key", type := (.object "java/lang/Object"), accessFlags := 0, slot := 0, constantValue := 0 }, { name := "value", type := (.object "java/lang/Object"), accessFlags := 0, slot := 1, constantValue := 0 }, { name := "left", type := (.object "java/util/TreeMap$Entry"), accessFlags := 0, slot := 2, constantValue := 0 }, { name := "right", type := (.object "java/util/TreeMap$Entry"), accessFlags := 0, slot := 3, constantValue := 0 }, { name := "parent", type := (.object "java/util/TreeMap$Entry"), accessFlags := 0, slot := 4, constantValue := 0 }, { name := "color", type := .boolean, accessFlags := 0, slot := 5, constantValue := 0 }]
  methods := #[k21m0, k21m1, k21m2]
  instanceTypes := #[(.object "java/lang/Object"), (.object "java/lang/Object"), (.object "java/util/TreeMap$Entry"), (.object "java/util/TreeMap$Entry"), (.object "java/util/TreeMap$Entry"), .boolean]
  staticTypes := #[]
  resolved := Array.replicate 96 none
  statics := none }

def pool22 : Array CpInfo := pool [(8, .class_ 10), (1, u "java/lang/Iterable"), (24, .class_ 36), (0, u "java/lang/Object")] 25

/-- java/lang/Iterable -/
def k22 : Class := { plain "java/lang/Iterable" (some 0) with
  accessFlags := 1537
  interfaces := #[]
  cf := some (fileOf pool22 8 #[] #[] 1537 35 #[] #[])
  fields := #[]
  methods := #[]
  instanceTypes := #[]
  staticTypes := #[]
  resolved := Array.replicate 62 none
  statics := none }

def pool23 : Array CpInfo := pool [(10, .class_ 12), (1, u "java/util/Collection"), (47, .class_ 61), (0, u "java/lang/Object"), (0, .class_ 63), (0, u "java/lang/Iterable")] 51

/-- java/util/Collection -/
def k23 : Class := { plain "java/util/Collection" (some 0) with
  accessFlags := 1537
  interfaces := #[22]
  cf := some (fileOf pool23 10 #[] #[] 1537 60 #[62] #[])
  fields := #[]
  methods := #[]
  instanceTypes := #[]
  staticTypes := #[]
  resolved := Array.replicate 115 none
  statics := none }

def pool24 : Array CpInfo := pool [(1, .methodref 2 3), (0, .class_ 4), (0, .nameAndType 5 6), (0, u "java/lang/Object"), (0, u "<init>"), (0, u "()V"), (1, .class_ 10), (1, u "java/util/AbstractCollection"), (66, .class_ 78), (0, u "java/util/Collection")] 81

def k24c0 : Code := { maxStack := 1, maxLocals := 1, code := jdk_22_method_1_code, exceptionTable := #[], attributes := #[] }
def k24m0 : Method := { name := "<init>", desc := "()V", sig := { parameters := [], returnType := none }, accessFlags := 4, code := some k24c0 }
/-- java/util/AbstractCollection -/
def k24 : Class := { plain "java/util/AbstractCollection" (some 0) with
  accessFlags := 1057
  interfaces := #[23]
  cf := some (fileOf pool24 8 #[] #[{ accessFlags := 4, nameIndex := 5, descriptorIndex := 6, attributes := #[] }] 1057 2 #[77] #[])
  fields := #[]
  methods := #[k24m0]
  instanceTypes := #[]
  staticTypes := #[]
  resolved := Array.replicate 160 none
  statics := none }

def pool25 : Array CpInfo := pool [(26, .class_ 27), (0, u "java/lang/Object"), (5, .class_ 34), (0, u "java/util/Set"), (1, .class_ 38), (1, u "java/util/Collection"), (22, u "iterator"), (0, u "()Ljava/util/Iterator;")] 81

def k25m0 : Method := { name := "iterator", desc := "()Ljava/util/Iterator;", sig := { parameters := [], returnType := some (.object "java/util/Iterator") }, accessFlags := 1025, code := none }
/-- java/util/Set -/
def k25 : Class := { plain "java/util/Set" (some 0) with
  accessFlags := 1537
  interfaces := #[23]
  cf := some (fileOf pool25 33 #[] #[{ accessFlags := 1025, nameIndex := 61, descriptorIndex := 62, attributes := #[] }] 1537 26 #[36] #[])
  fields := #[]
  methods := #[k25m0]
  instanceTypes := #[]
  staticTypes := #[]
  resolved := Array.replicate 144 none
  statics := none }

def pool26 : Array CpInfo := pool [(1, .methodref 2 3), (0, .class_ 4), (0, .nameAndType 5 6), (0, u "java/util/AbstractCollection"), (0, u "<init>"), (0, u "()V"), (0, .class_ 8), (0, u "java/util/Set"), (7, .class_ 17), (0, u "java/util/AbstractSet")] 78

def k26c0 : Code := { maxStack := 1, maxLocals := 1, code := jdk_91_method_1_code, exceptionTable := #[], attributes := #[] }
def k26m0 : Method := { name := "<init>", desc := "()V", sig := { parameters := [], returnType := none }, accessFlags := 4, code := some k26c0 }
/-- java/util/AbstractSet -/
def k26 : Class := { plain "java/util/AbstractSet" (some 24) with
  accessFlags := 1057
  interfaces := #[25]
  cf := some (fileOf pool26 16 #[] #[{ accessFlags := 4, nameIndex := 5, descriptorIndex := 6, attributes := #[] }] 1057 2 #[7] #[])
  fields := #[]
  methods := #[k26m0]
  instanceTypes := #[]
  staticTypes := #[]
  resolved := Array.replicate 96 none
  statics := none }

def pool27 : Array CpInfo := pool [(1, .fieldref 2 3), (0, .class_ 4), (0, .nameAndType 5 6), (0, u "java/util/TreeMap$EntrySet"), (0, u "this$0"), (0, u "Ljava/util/TreeMap;"), (0, .methodref 8 9), (0, .class_ 10), (0, .nameAndType 11 12), (0, u "java/util/AbstractSet"), (0, u "<init>"), (0, u "()V"), (0, .class_ 14), (0, u "java/util/TreeMap$EntryIterator"), (0, .methodref 16 17), (0, .class_ 18), (0, .nameAndType 19 20), (0, u "java/util/TreeMap"), (0, u "getFirstEntry"), (0, u "()Ljava/util/TreeMap$Entry;"), (0, .methodref 13 22), (0, .nameAndType 11 23), (0, u "(Ljava/util/TreeMap;Ljava/util/TreeMap$Entry;)V"), (36, u "(Ljava/util/TreeMap;)V"), (8, u "iterator"), (0, u "()Ljava/util/Iterator;")] 31

def k27c0 : Code := { maxStack := 2, maxLocals := 2, code := jdk_2738_method_1_code, exceptionTable := #[], attributes := #[] }
def k27m0 : Method := { name := "<init>", desc := "(Ljava/util/TreeMap;)V", sig := { parameters := [(.object "java/util/TreeMap")], returnType := none }, accessFlags := 0, code := some k27c0 }
def k27c1 : Code := { maxStack := 4, maxLocals := 1, code := jdk_2738_method_2_code, exceptionTable := #[], attributes := #[] }
def k27m1 : Method := { name := "iterator", desc := "()Ljava/util/Iterator;", sig := { parameters := [], returnType := some (.object "java/util/Iterator") }, accessFlags := 1, code := some k27c1 }
/-- java/util/TreeMap$EntrySet -/
def k27 : Class := { plain "java/util/TreeMap$EntrySet" (some 26) with
  accessFlags := 32
  interfaces := #[]
  cf := some (fileOf pool27 2 #[.nestHost 16] #[{ accessFlags := 0, nameIndex := 11, descriptorIndex := 60, attributes := #[] }, { accessFlags := 1, nameIndex := 69, descriptorIndex := 70, attributes := #[] }] 32 8 #[] #[{ accessFlags := 4112, nameIndex := 5, descriptorIndex := 6, attributes := #[] }])
  fields := #[{ name := "this$0", type := (.object "java/util/TreeMap"), accessFlags := 4112, slot := 0, constantValue := 0 }]
  methods := #[k27m0, k27m1]
  instanceTypes := #[(.object "java/util/TreeMap")]
  staticTypes := #[]
  resolved := Array.replicate 102 none
  statics := none }

def pool28 : Array CpInfo := pool [(16, .class_ 18), (1, u "java/util/Iterator"), (0, u "hasNext"), (0, u "()Z"), (2, u "next"), (0, u "()Ljava/lang/Object;"), (6, .class_ 32), (0, u "java/lang/Object")] 20

def k28m0 : Method := { name := "hasNext", desc := "()Z", sig := { parameters := [], returnType := some .boolean }, accessFlags := 1025, code := none }
def k28m1 : Method := { name := "next", desc := "()Ljava/lang/Object;", sig := { parameters := [], returnType := some (.object "java/lang/Object") }, accessFlags := 1025, code := none }
/-- java/util/Iterator -/
def k28 : Class := { plain "java/util/Iterator" (some 0) with
  accessFlags := 1537
  interfaces := #[]
  cf := some (fileOf pool28 16 #[] #[{ accessFlags := 1025, nameIndex := 19, descriptorIndex := 20, attributes := #[] }, { accessFlags := 1025, nameIndex := 23, descriptorIndex := 24, attributes := #[] }] 1537 31 #[] #[])
  fields := #[]
  methods := #[k28m0, k28m1]
  instanceTypes := #[]
  staticTypes := #[]
  resolved := Array.replicate 53 none
  statics := none }

def pool29 : Array CpInfo := pool [(1, .fieldref 2 3), (0, .class_ 4), (0, .nameAndType 5 6), (0, u "java/util/TreeMap$PrivateEntryIterator"), (0, u "this$0"), (0, u "Ljava/util/TreeMap;"), (0, .methodref 8 9), (0, .class_ 10), (0, .nameAndType 11 12), (0, u "java/lang/Object"), (0, u "<init>"), (0, u "()V"), (0, .fieldref 14 15), (0, .class_ 16), (0, .nameAndType 17 18), (0, u "java/util/TreeMap"), (0, u "modCount"), (0, u "I"), (0, .fieldref 2 20), (0, .nameAndType 21 18), (0, u "expectedModCount"), (0, .fieldref 2 23), (0, .nameAndType 24 25), (0, u "lastReturned"), (0, u "Ljava/util/TreeMap$Entry;"), (0, .fieldref 2 27), (0, .nameAndType 28 25), (0, u "next"), (6, .methodref 14 36), (0, .nameAndType 37 38), (0, u "successor"), (0, u "(Ljava/util/TreeMap$Entry;)Ljava/util/TreeMap$Entry;"), (18, .class_ 58), (0, u "java/util/Iterator"), (2, u "(Ljava/util/TreeMap;Ljava/util/TreeMap$Entry;)V"), (10, u "hasNext"), (0, u "()Z"), (1, u "nextEntry"), (0, u "()Ljava/util/TreeMap$Entry;")] 11

def k29c0 : Code := { maxStack := 2, maxLocals := 3, code := jdk_2750_method_1_code, exceptionTable := #[], attributes := #[] }
def k29m0 : Method := { name := "<init>", desc := "(Ljava/util/TreeMap;Ljava/util/TreeMap$Entry;)V", sig := { parameters := [(.object "java/util/TreeMap"), (.object "java/util/TreeMap$Entry")], returnType := none }, accessFlags := 0, code := some k29c0 }
def k29c1 : Code := { maxStack := 1, maxLocals := 1, code := jdk_2750_method_2_code, exceptionTable := #[], attributes := #[] }
def k29m1 : Method := { name := "hasNext", desc := "()Z", sig := { parameters := [], returnType := some .boolean }, accessFlags := 17, code := some k29c1 }
def k29c2 : Code := { maxStack := 2, maxLocals := 2, code := jdk_2750_method_3_code, exceptionTable := #[], attributes := #[] }
def k29m2 : Method := { name := "nextEntry", desc := "()Ljava/util/TreeMap$Entry;", sig := { parameters := [], returnType := some (.object "java/util/TreeMap$Entry") }, accessFlags := 16, code := some k29c2 }
/-- java/util/TreeMap$PrivateEntryIterator -/
def k29 : Class := { plain "java/util/TreeMap$PrivateEntryIterator" (some 0) with
  accessFlags := 1056
  interfaces := #[28]
  cf := some (fileOf pool29 2 #[.nestHost 14] #[{ accessFlags := 0, nameIndex := 11, descriptorIndex := 61, attributes := #[] }, { accessFlags := 17, nameIndex := 72, descriptorIndex := 73, attributes := #[] }, { accessFlags := 16, nameIndex := 75, descriptorIndex := 76, attributes := #[] }] 1056 8 #[57] #[{ accessFlags := 0, nameIndex := 28, descriptorIndex := 25, attributes := #[] }, { accessFlags := 0, nameIndex := 24, descriptorIndex := 25, attributes := #[] }, { accessFlags := 0, nameIndex := 21, descriptorIndex := 18, attributes := #[] }, { accessFlags := 4112, nameIndex := 5, descriptorIndex := 6, attributes := #[] }])
  fields := #[{ name := "next", type := (.object "java/util/TreeMap$Entry"), accessFlags := 0, slot := 0, constantValue := 0 }, { name := "lastReturned", type := (.object "java/util/TreeMap$Entry"), accessFlags := 0, slot := 1, constantValue := 0 }, { name := "expectedModCount", type := .int, accessFlags := 0, slot := 2, constantValue := 0 }, { name := "this$0", type := (.object "java/util/TreeMap"), accessFlags := 4112, slot := 3, constantValue := 0 }]
  methods := #[k29m0, k29m1, k29m2]
  instanceTypes := #[(.object "java/util/TreeMap$Entry"), (.object "java/util/TreeMap$Entry"), .int, (.object "java/util/TreeMap")]
  staticTypes := #[]
  resolved := (Array.replicate 88 none).setIfInBounds 13 (some (.field 10 3))
  statics := none }

def pool30 : Array CpInfo := pool [(1, .methodref 2 3), (0, .class_ 4), (0, .nameAndType 5 6), (0, u "java/util/TreeMap$PrivateEntryIterator"), (0, u "<init>"), (0, u "(Ljava/util/TreeMap;Ljava/util/TreeMap$Entry;)V"), (0, .methodref 8 9), (0, .class_ 10), (0, .nameAndType 11 12), (0, u "java/util/TreeMap$EntryIterator"), (0, u "nextEntry"), (0, u "()Ljava/util/TreeMap$Entry;"), (0, .methodref 8 14), (0, .nameAndType 15 16), (0, u "next"), (0, u "()Ljava/util/Map$Entry;"), (16, u "()Ljava/lang/Object;"), (4, .class_ 39), (0, u "java/util/TreeMap")] 10

def k30c0 : Code := { maxStack := 3, maxLocals := 3, code := jdk_2737_method_1_code, exceptionTable := #[], attributes := #[] }
def k30m0 : Method := { name := "<init>", desc := "(Ljava/util/TreeMap;Ljava/util/TreeMap$Entry;)V", sig := { parameters := [(.object "java/util/TreeMap"), (.object "java/util/TreeMap$Entry")], returnType := none }, accessFlags := 0, code := some k30c0 }
def k30c1 : Code := { maxStack := 1, maxLocals := 1, code := jdk_2737_method_2_code, exceptionTable := #[], attributes := #[] }
def k30m1 : Method := { name := "next", desc := "()Ljava/util/Map$Entry;", sig := { parameters := [], returnType := some (.object "java/util/Map$Entry") }, accessFlags := 1, code := some k30c1 }
def k30c2 : Code := { maxStack := 1, maxLocals := 1, code := jdk_2737_method_3_code, exceptionTable := #[], attributes := #[] }
def k30m2 : Method := { name := "next", desc := "()Ljava/lang/Object;", sig := { parameters := [], returnType := some (.object "java/lang/Object") }, accessFlags := 4161, code := some k30c2 }
/-- java/util/TreeMap$EntryIterator -/
def k30 : Class := { plain "java/util/TreeMap$EntryIterator" (some 29) with
  accessFlags := 48
  interfaces := #[]
  cf := some (fileOf pool30 8 #[.nestHost 38] #[{ accessFlags := 0, nameIndex := 5, descriptorIndex := 6, attributes := #[] }, { accessFlags := 1, nameIndex := 15, descriptorIndex := 16, attributes := #[] }, { accessFlags := 4161, nameIndex := 15, descriptorIndex := 33, attributes := #[] }] 48 2 #[] #[])
  fields := #[]
  methods := #[k30m0, k30m1, k30m2]
  instanceTypes := #[(.object "java/util/TreeMap$Entry"), (.object "java/util/TreeMap$Entry"), .int, (.object "java/util/TreeMap")]
  staticTypes := #[]
  resolved := Array.replicate 50 none
  statics := none }

/-- the primitive byte -/
def k31 : Class := { plain "byte" none with kind := .primitive 'B', accessFlags := 0x411 }
/-- [B -/
def k32 : Class := { plain "[B" (some 0) with kind := .array 31 .byte, interfaces := #[8, 9], accessFlags := 1041 }

/-- the primitive int -/
def k33 : Class := { plain "int" none with kind := .primitive 'I', accessFlags := 0x411 }
/-- [I -/
def k34 : Class := { plain "[I" (some 0) with kind := .array 33 .int, interfaces := #[8, 9], accessFlags := 1041 }

/-- [Ljava/lang/Long; -/
def k35 : Class := { plain "[Ljava/lang/Long;" (some 0) with kind := .array 16 (.object "java/lang/Long"), interfaces := #[8, 9], accessFlags := 1041 }

def classes0 : Array Class := #[k0, k1, k2, k3, k4, k5, k6, k7, k8, k9, k10, k11, k12, k13, k14, k15, k16, k17, k18, k19, k20, k21, k22, k23, k24, k25, k26, k27, k28, k29, k30, k31, k32, k33, k34, k35]
/-- the class that the rule has made for the site at 44 of com/example/fetch_from_near/fetchfromnear/Histogram.add -/
def k36 : Class := Jvm.LamKit.madeRec { classes := classes0 } "com/example/fetch_from_near/fetchfromnear/Histogram" (Jvm.Lambda.Shape.mk "java/util/function/BiFunction" "apply" (Jvm.ClassFile.MethodDescriptor.mk ([(Jvm.ClassFile.FieldType.object "java/lang/Object"), (Jvm.ClassFile.FieldType.object "java/lang/Object")] : List Jvm.ClassFile.FieldType) (Option.some (Jvm.ClassFile.FieldType.object "java/lang/Object"))) ([] : List Jvm.ClassFile.FieldType) (6 : Nat) "java/lang/Long" "sum" (Jvm.ClassFile.MethodDescriptor.mk ([Jvm.ClassFile.FieldType.long, Jvm.ClassFile.FieldType.long] : List Jvm.ClassFile.FieldType) (Option.some Jvm.ClassFile.FieldType.long)) false (Jvm.ClassFile.MethodDescriptor.mk ([(Jvm.ClassFile.FieldType.object "java/lang/Long"), (Jvm.ClassFile.FieldType.object "java/lang/Long")] : List Jvm.ClassFile.FieldType) (Option.some (Jvm.ClassFile.FieldType.object "java/lang/Long")))) 36

def heap : Heap := #[{ cls := 17, slots := #[.ref 2, .null, .int 0], vm := .statics 17 },
  { cls := 36, slots := #[], vm := .none },
  { cls := 35, slots := #[.ref 3, .ref 4, .ref 5, .ref 6, .ref 7, .ref 8, .ref 9, .ref 10, .ref 11, .ref 12, .ref 13, .ref 14, .ref 15, .ref 16, .ref 17, .ref 18, .ref 19, .ref 20, .ref 21, .ref 22, .ref 23, .ref 24, .ref 25, .ref 26, .ref 27, .ref 28, .ref 29, .ref 30, .ref 31, .ref 32, .ref 33, .ref 34, .ref 35, .ref 36, .ref 37, .ref 38, .ref 39, .ref 40, .ref 41, .ref 42, .ref 43, .ref 44, .ref 45, .ref 46, .ref 47, .ref 48, .ref 49, .ref 50, .ref 51, .ref 52, .ref 53, .ref 54, .ref 55, .ref 56, .ref 57, .ref 58, .ref 59, .ref 60, .ref 61, .ref 62, .ref 63, .ref 64, .ref 65, .ref 66, .ref 67, .ref 68, .ref 69, .ref 70, .ref 71, .ref 72, .ref 73, .ref 74, .ref 75, .ref 76, .ref 77, .ref 78, .ref 79, .ref 80, .ref 81, .ref 82, .ref 83, .ref 84, .ref 85, .ref 86, .ref 87, .ref 88, .ref 89, .ref 90, .ref 91, .ref 92, .ref 93, .ref 94, .ref 95, .ref 96, .ref 97, .ref 98, .ref 99, .ref 100, .ref 101, .ref 102, .ref 103, .ref 104, .ref 105, .ref 106, .ref 107, .ref 108, .ref 109, .ref 110, .ref 111, .ref 112, .ref 113, .ref 114, .ref 115, .ref 116, .ref 117, .ref 118, .ref 119, .ref 120, .ref 121, .ref 122, .ref 123, .ref 124, .ref 125, .ref 126, .ref 127, .ref 128, .ref 129, .ref 130, .ref 131, .ref 132, .ref 133, .ref 134, .ref 135, .ref 136, .ref 137, .ref 138, .ref 139, .ref 140, .ref 141, .ref 142, .ref 143, .ref 144, .ref 145, .ref 146, .ref 147, .ref 148, .ref 149, .ref 150, .ref 151, .ref 152, .ref 153, .ref 154, .ref 155, .ref 156, .ref 157, .ref 158, .ref 159, .ref 160, .ref 161, .ref 162, .ref 163, .ref 164, .ref 165, .ref 166, .ref 167, .ref 168, .ref 169, .ref 170, .ref 171, .ref 172, .ref 173, .ref 174, .ref 175, .ref 176, .ref 177, .ref 178, .ref 179, .ref 180, .ref 181, .ref 182, .ref 183, .ref 184, .ref 185, .ref 186, .ref 187, .ref 188, .ref 189, .ref 190, .ref 191, .ref 192, .ref 193, .ref 194, .ref 195, .ref 196, .ref 197, .ref 198, .ref 199, .ref 200, .ref 201, .ref 202, .ref 203, .ref 204, .ref 205, .ref 206, .ref 207, .ref 208, .ref 209, .ref 210, .ref 211, .ref 212, .ref 213, .ref 214, .ref 215, .ref 216, .ref 217, .ref 218, .ref 219, .ref 220, .ref 221, .ref 222, .ref 223, .ref 224, .ref 225, .ref 226, .ref 227, .ref 228, .ref 229, .ref 230, .ref 231, .ref 232, .ref 233, .ref 234, .ref 235, .ref 236, .ref 237, .ref 238, .ref 239, .ref 240, .ref 241, .ref 242, .ref 243, .ref 244, .ref 245, .ref 246, .ref 247, .ref 248, .ref 249, .ref 250, .ref 251, .ref 252, .ref 253, .ref 254, .ref 255, .ref 256, .ref 257, .ref 258], vm := .none },
  { cls := 16, slots := #[.long (-128)], vm := .none },
  { cls := 16, slots := #[.long (-127)], vm := .none },
  { cls := 16, slots := #[.long (-126)], vm := .none },
  { cls := 16, slots := #[.long (-125)], vm := .none },
  { cls := 16, slots := #[.long (-124)], vm := .none },
  { cls := 16, slots := #[.long (-123)], vm := .none },
  { cls := 16, slots := #[.long (-122)], vm := .none },
  { cls := 16, slots := #[.long (-121)], vm := .none },
  { cls := 16, slots := #[.long (-120)], vm := .none },
  { cls := 16, slots := #[.long (-119)], vm := .none },
  { cls := 16, slots := #[.long (-118)], vm := .none },
  { cls := 16, slots := #[.long (-117)], vm := .none },
  { cls := 16, slots := #[.long (-116)], vm := .none },
  { cls := 16, slots := #[.long (-115)], vm := .none },
  { cls := 16, slots := #[.long (-114)], vm := .none },
  { cls := 16, slots := #[.long (-113)], vm := .none },
  { cls := 16, slots := #[.long (-112)], vm := .none },
  { cls := 16, slots := #[.long (-111)], vm := .none },
  { cls := 16, slots := #[.long (-110)], vm := .none },
  { cls := 16, slots := #[.long (-109)], vm := .none },
  { cls := 16, slots := #[.long (-108)], vm := .none },
  { cls := 16, slots := #[.long (-107)], vm := .none },
  { cls := 16, slots := #[.long (-106)], vm := .none },
  { cls := 16, slots := #[.long (-105)], vm := .none },
  { cls := 16, slots := #[.long (-104)], vm := .none },
  { cls := 16, slots := #[.long (-103)], vm := .none },
  { cls := 16, slots := #[.long (-102)], vm := .none },
  { cls := 16, slots := #[.long (-101)], vm := .none },
  { cls := 16, slots := #[.long (-100)], vm := .none },
  { cls := 16, slots := #[.long (-99)], vm := .none },
  { cls := 16, slots := #[.long (-98)], vm := .none },
  { cls := 16, slots := #[.long (-97)], vm := .none },
  { cls := 16, slots := #[.long (-96)], vm := .none },
  { cls := 16, slots := #[.long (-95)], vm := .none },
  { cls := 16, slots := #[.long (-94)], vm := .none },
  { cls := 16, slots := #[.long (-93)], vm := .none },
  { cls := 16, slots := #[.long (-92)], vm := .none },
  { cls := 16, slots := #[.long (-91)], vm := .none },
  { cls := 16, slots := #[.long (-90)], vm := .none },
  { cls := 16, slots := #[.long (-89)], vm := .none },
  { cls := 16, slots := #[.long (-88)], vm := .none },
  { cls := 16, slots := #[.long (-87)], vm := .none },
  { cls := 16, slots := #[.long (-86)], vm := .none },
  { cls := 16, slots := #[.long (-85)], vm := .none },
  { cls := 16, slots := #[.long (-84)], vm := .none },
  { cls := 16, slots := #[.long (-83)], vm := .none },
  { cls := 16, slots := #[.long (-82)], vm := .none },
  { cls := 16, slots := #[.long (-81)], vm := .none },
  { cls := 16, slots := #[.long (-80)], vm := .none },
  { cls := 16, slots := #[.long (-79)], vm := .none },
  { cls := 16, slots := #[.long (-78)], vm := .none },
  { cls := 16, slots := #[.long (-77)], vm := .none },
  { cls := 16, slots := #[.long (-76)], vm := .none },
  { cls := 16, slots := #[.long (-75)], vm := .none },
  { cls := 16, slots := #[.long (-74)], vm := .none },
  { cls := 16, slots := #[.long (-73)], vm := .none },
  { cls := 16, slots := #[.long (-72)], vm := .none },
  { cls := 16, slots := #[.long (-71)], vm := .none },
  { cls := 16, slots := #[.long (-70)], vm := .none },
  { cls := 16, slots := #[.long (-69)], vm := .none },
  { cls := 16, slots := #[.long (-68)], vm := .none },
  { cls := 16, slots := #[.long (-67)], vm := .none },
  { cls := 16, slots := #[.long (-66)], vm := .none },
  { cls := 16, slots := #[.long (-65)], vm := .none },
  { cls := 16, slots := #[.long (-64)], vm := .none },
  { cls := 16, slots := #[.long (-63)], vm := .none },
  { cls := 16, slots := #[.long (-62)], vm := .none },
  { cls := 16, slots := #[.long (-61)], vm := .none },
  { cls := 16, slots := #[.long (-60)], vm := .none },
  { cls := 16, slots := #[.long (-59)], vm := .none },
  { cls := 16, slots := #[.long (-58)], vm := .none },
  { cls := 16, slots := #[.long (-57)], vm := .none },
  { cls := 16, slots := #[.long (-56)], vm := .none },
  { cls := 16, slots := #[.long (-55)], vm := .none },
  { cls := 16, slots := #[.long (-54)], vm := .none },
  { cls := 16, slots := #[.long (-53)], vm := .none },
  { cls := 16, slots := #[.long (-52)], vm := .none },
  { cls := 16, slots := #[.long (-51)], vm := .none },
  { cls := 16, slots := #[.long (-50)], vm := .none },
  { cls := 16, slots := #[.long (-49)], vm := .none },
  { cls := 16, slots := #[.long (-48)], vm := .none },
  { cls := 16, slots := #[.long (-47)], vm := .none },
  { cls := 16, slots := #[.long (-46)], vm := .none },
  { cls := 16, slots := #[.long (-45)], vm := .none },
  { cls := 16, slots := #[.long (-44)], vm := .none },
  { cls := 16, slots := #[.long (-43)], vm := .none },
  { cls := 16, slots := #[.long (-42)], vm := .none },
  { cls := 16, slots := #[.long (-41)], vm := .none },
  { cls := 16, slots := #[.long (-40)], vm := .none },
  { cls := 16, slots := #[.long (-39)], vm := .none },
  { cls := 16, slots := #[.long (-38)], vm := .none },
  { cls := 16, slots := #[.long (-37)], vm := .none },
  { cls := 16, slots := #[.long (-36)], vm := .none },
  { cls := 16, slots := #[.long (-35)], vm := .none },
  { cls := 16, slots := #[.long (-34)], vm := .none },
  { cls := 16, slots := #[.long (-33)], vm := .none },
  { cls := 16, slots := #[.long (-32)], vm := .none },
  { cls := 16, slots := #[.long (-31)], vm := .none },
  { cls := 16, slots := #[.long (-30)], vm := .none },
  { cls := 16, slots := #[.long (-29)], vm := .none },
  { cls := 16, slots := #[.long (-28)], vm := .none },
  { cls := 16, slots := #[.long (-27)], vm := .none },
  { cls := 16, slots := #[.long (-26)], vm := .none },
  { cls := 16, slots := #[.long (-25)], vm := .none },
  { cls := 16, slots := #[.long (-24)], vm := .none },
  { cls := 16, slots := #[.long (-23)], vm := .none },
  { cls := 16, slots := #[.long (-22)], vm := .none },
  { cls := 16, slots := #[.long (-21)], vm := .none },
  { cls := 16, slots := #[.long (-20)], vm := .none },
  { cls := 16, slots := #[.long (-19)], vm := .none },
  { cls := 16, slots := #[.long (-18)], vm := .none },
  { cls := 16, slots := #[.long (-17)], vm := .none },
  { cls := 16, slots := #[.long (-16)], vm := .none },
  { cls := 16, slots := #[.long (-15)], vm := .none },
  { cls := 16, slots := #[.long (-14)], vm := .none },
  { cls := 16, slots := #[.long (-13)], vm := .none },
  { cls := 16, slots := #[.long (-12)], vm := .none },
  { cls := 16, slots := #[.long (-11)], vm := .none },
  { cls := 16, slots := #[.long (-10)], vm := .none },
  { cls := 16, slots := #[.long (-9)], vm := .none },
  { cls := 16, slots := #[.long (-8)], vm := .none },
  { cls := 16, slots := #[.long (-7)], vm := .none },
  { cls := 16, slots := #[.long (-6)], vm := .none },
  { cls := 16, slots := #[.long (-5)], vm := .none },
  { cls := 16, slots := #[.long (-4)], vm := .none },
  { cls := 16, slots := #[.long (-3)], vm := .none },
  { cls := 16, slots := #[.long (-2)], vm := .none },
  { cls := 16, slots := #[.long (-1)], vm := .none },
  { cls := 16, slots := #[.long 0], vm := .none },
  { cls := 16, slots := #[.long 1], vm := .none },
  { cls := 16, slots := #[.long 2], vm := .none },
  { cls := 16, slots := #[.long 3], vm := .none },
  { cls := 16, slots := #[.long 4], vm := .none },
  { cls := 16, slots := #[.long 5], vm := .none },
  { cls := 16, slots := #[.long 6], vm := .none },
  { cls := 16, slots := #[.long 7], vm := .none },
  { cls := 16, slots := #[.long 8], vm := .none },
  { cls := 16, slots := #[.long 9], vm := .none },
  { cls := 16, slots := #[.long 10], vm := .none },
  { cls := 16, slots := #[.long 11], vm := .none },
  { cls := 16, slots := #[.long 12], vm := .none },
  { cls := 16, slots := #[.long 13], vm := .none },
  { cls := 16, slots := #[.long 14], vm := .none },
  { cls := 16, slots := #[.long 15], vm := .none },
  { cls := 16, slots := #[.long 16], vm := .none },
  { cls := 16, slots := #[.long 17], vm := .none },
  { cls := 16, slots := #[.long 18], vm := .none },
  { cls := 16, slots := #[.long 19], vm := .none },
  { cls := 16, slots := #[.long 20], vm := .none },
  { cls := 16, slots := #[.long 21], vm := .none },
  { cls := 16, slots := #[.long 22], vm := .none },
  { cls := 16, slots := #[.long 23], vm := .none },
  { cls := 16, slots := #[.long 24], vm := .none },
  { cls := 16, slots := #[.long 25], vm := .none },
  { cls := 16, slots := #[.long 26], vm := .none },
  { cls := 16, slots := #[.long 27], vm := .none },
  { cls := 16, slots := #[.long 28], vm := .none },
  { cls := 16, slots := #[.long 29], vm := .none },
  { cls := 16, slots := #[.long 30], vm := .none },
  { cls := 16, slots := #[.long 31], vm := .none },
  { cls := 16, slots := #[.long 32], vm := .none },
  { cls := 16, slots := #[.long 33], vm := .none },
  { cls := 16, slots := #[.long 34], vm := .none },
  { cls := 16, slots := #[.long 35], vm := .none },
  { cls := 16, slots := #[.long 36], vm := .none },
  { cls := 16, slots := #[.long 37], vm := .none },
  { cls := 16, slots := #[.long 38], vm := .none },
  { cls := 16, slots := #[.long 39], vm := .none },
  { cls := 16, slots := #[.long 40], vm := .none },
  { cls := 16, slots := #[.long 41], vm := .none },
  { cls := 16, slots := #[.long 42], vm := .none },
  { cls := 16, slots := #[.long 43], vm := .none },
  { cls := 16, slots := #[.long 44], vm := .none },
  { cls := 16, slots := #[.long 45], vm := .none },
  { cls := 16, slots := #[.long 46], vm := .none },
  { cls := 16, slots := #[.long 47], vm := .none },
  { cls := 16, slots := #[.long 48], vm := .none },
  { cls := 16, slots := #[.long 49], vm := .none },
  { cls := 16, slots := #[.long 50], vm := .none },
  { cls := 16, slots := #[.long 51], vm := .none },
  { cls := 16, slots := #[.long 52], vm := .none },
  { cls := 16, slots := #[.long 53], vm := .none },
  { cls := 16, slots := #[.long 54], vm := .none },
  { cls := 16, slots := #[.long 55], vm := .none },
  { cls := 16, slots := #[.long 56], vm := .none },
  { cls := 16, slots := #[.long 57], vm := .none },
  { cls := 16, slots := #[.long 58], vm := .none },
  { cls := 16, slots := #[.long 59], vm := .none },
  { cls := 16, slots := #[.long 60], vm := .none },
  { cls := 16, slots := #[.long 61], vm := .none },
  { cls := 16, slots := #[.long 62], vm := .none },
  { cls := 16, slots := #[.long 63], vm := .none },
  { cls := 16, slots := #[.long 64], vm := .none },
  { cls := 16, slots := #[.long 65], vm := .none },
  { cls := 16, slots := #[.long 66], vm := .none },
  { cls := 16, slots := #[.long 67], vm := .none },
  { cls := 16, slots := #[.long 68], vm := .none },
  { cls := 16, slots := #[.long 69], vm := .none },
  { cls := 16, slots := #[.long 70], vm := .none },
  { cls := 16, slots := #[.long 71], vm := .none },
  { cls := 16, slots := #[.long 72], vm := .none },
  { cls := 16, slots := #[.long 73], vm := .none },
  { cls := 16, slots := #[.long 74], vm := .none },
  { cls := 16, slots := #[.long 75], vm := .none },
  { cls := 16, slots := #[.long 76], vm := .none },
  { cls := 16, slots := #[.long 77], vm := .none },
  { cls := 16, slots := #[.long 78], vm := .none },
  { cls := 16, slots := #[.long 79], vm := .none },
  { cls := 16, slots := #[.long 80], vm := .none },
  { cls := 16, slots := #[.long 81], vm := .none },
  { cls := 16, slots := #[.long 82], vm := .none },
  { cls := 16, slots := #[.long 83], vm := .none },
  { cls := 16, slots := #[.long 84], vm := .none },
  { cls := 16, slots := #[.long 85], vm := .none },
  { cls := 16, slots := #[.long 86], vm := .none },
  { cls := 16, slots := #[.long 87], vm := .none },
  { cls := 16, slots := #[.long 88], vm := .none },
  { cls := 16, slots := #[.long 89], vm := .none },
  { cls := 16, slots := #[.long 90], vm := .none },
  { cls := 16, slots := #[.long 91], vm := .none },
  { cls := 16, slots := #[.long 92], vm := .none },
  { cls := 16, slots := #[.long 93], vm := .none },
  { cls := 16, slots := #[.long 94], vm := .none },
  { cls := 16, slots := #[.long 95], vm := .none },
  { cls := 16, slots := #[.long 96], vm := .none },
  { cls := 16, slots := #[.long 97], vm := .none },
  { cls := 16, slots := #[.long 98], vm := .none },
  { cls := 16, slots := #[.long 99], vm := .none },
  { cls := 16, slots := #[.long 100], vm := .none },
  { cls := 16, slots := #[.long 101], vm := .none },
  { cls := 16, slots := #[.long 102], vm := .none },
  { cls := 16, slots := #[.long 103], vm := .none },
  { cls := 16, slots := #[.long 104], vm := .none },
  { cls := 16, slots := #[.long 105], vm := .none },
  { cls := 16, slots := #[.long 106], vm := .none },
  { cls := 16, slots := #[.long 107], vm := .none },
  { cls := 16, slots := #[.long 108], vm := .none },
  { cls := 16, slots := #[.long 109], vm := .none },
  { cls := 16, slots := #[.long 110], vm := .none },
  { cls := 16, slots := #[.long 111], vm := .none },
  { cls := 16, slots := #[.long 112], vm := .none },
  { cls := 16, slots := #[.long 113], vm := .none },
  { cls := 16, slots := #[.long 114], vm := .none },
  { cls := 16, slots := #[.long 115], vm := .none },
  { cls := 16, slots := #[.long 116], vm := .none },
  { cls := 16, slots := #[.long 117], vm := .none },
  { cls := 16, slots := #[.long 118], vm := .none },
  { cls := 16, slots := #[.long 119], vm := .none },
  { cls := 16, slots := #[.long 120], vm := .none },
  { cls := 16, slots := #[.long 121], vm := .none },
  { cls := 16, slots := #[.long 122], vm := .none },
  { cls := 16, slots := #[.long 123], vm := .none },
  { cls := 16, slots := #[.long 124], vm := .none },
  { cls := 16, slots := #[.long 125], vm := .none },
  { cls := 16, slots := #[.long 126], vm := .none },
  { cls := 16, slots := #[.long 127], vm := .none }]
def classes : Array Class := #[k0, k1, k2, k3, k4, k5, k6, k7, k8, k9, k10, k11, k12, k13, k14, k15, k16, k17, k18, k19, k20, k21, k22, k23, k24, k25, k26, k27, k28, k29, k30, k31, k32, k33, k34, k35, k36]
def interned : List (Array UInt16 × Addr) := []
def slotsUsed : Nat := 515
def theMethod : MethodId := ⟨1, 1⟩
def args0 : Array Value := #[.long 5, .long 2, .long 7, .long 3, .int 7]
def aboutOver (below : List Frame) : State where
  vm := { classes := classes, interned := interned.toArray }
  heap := heap
  slotsUsed := slotsUsed
  threads := #[{ frames := .invoking theMethod args0 :: below }]
def below0 : List Frame := [.native { method := ⟨0, 0⟩, args := #[] }]
def about1 : State := aboutOver below0
def p0 : Program := .bare "" "" ""
def e0 : Env := launch0.env 0 0 0
theorem w_frames : about1.frames = Frame.invoking theMethod args0 :: below0 := rfl
set_option maxRecDepth 65536 in
theorem w_args : argsFit about1.vm theMethod args0 = true := by decide +kernel
set_option maxRecDepth 65536 in
theorem w_heap : heapFits about1 = true := by decide +kernel
set_option maxRecDepth 65536 in
theorem w_runnable : about1.curStatus? = some .runnable := by decide +kernel
set_option maxRecDepth 65536 in
theorem w_alone : about1.alone = true := by decide +kernel
set_option maxRecDepth 65536 in
theorem w_named : about1.methodNamed? x = some theMethod := by decide +kernel
set_option maxRecDepth 65536 in
theorem w_hears : about1.hears theMethod below0 = true := by decide +kernel
set_option maxRecDepth 65536 in
theorem w_ripe : about1.ripe theMethod args0 below0 = true := by decide +kernel
theorem w_running : about1.status = .running := rfl
set_option maxRecDepth 65536 in
theorem w_room : about1.hasRoom e0.platform room_1 = true :=
  launch0.hasRoom_least _ room_1 (by decide +kernel) (by decide +kernel) (by decide +kernel) (by decide +kernel) (by decide +kernel) (by decide +kernel)
theorem allAtoms_all (ts : List Jvm.Cond) (a : Array Jvm.Value) (st : Jvm.State) : (allAtoms ts).before a st = ts.all (fun c => c.before a st) := by
  induction ts with
  | nil => rfl
  | cons c t ih =>
    show (Jvm.Cond.and c (allAtoms t)).before a st = _
    rw [Jvm.Cond.before_and, ih, List.all_cons]
def words1 : List Jvm.Cond := Jvm.Cond.code x code maxLocals ret :: tables_1
/-- a 'code' word, met by the world's own term for the bytes: nothing is compared byte by byte -/
theorem code_word {y : MethodName} {bytes : ByteArray} {mx : Nat} {rt : Option FieldType} {a : Array Value} {s : State} {m : MethodId} {meth : Method} {c : Code} (h1 : s.methodNamed? y = some m) (h2 : s.vm.method? m = some meth) (h3 : meth.code = some c) (h4 : c.code = bytes)
    (h5 : (c.maxLocals == mx && c.exceptionTable.isEmpty && decide (c.maxStack ≤ mostOperands) && decide (meth.sig.returnType = rt) && !meth.locks && decide (parseMethodDescriptor y.desc = some meth.sig)) = true) : (Jvm.Cond.code y bytes mx rt).before a s = true := by
  simp only [Bool.and_eq_true, beq_iff_eq, Bool.not_eq_true', decide_eq_true_eq] at h5
  obtain ⟨⟨⟨⟨⟨g1, g2⟩, g3⟩, g4⟩, g5⟩, g6⟩ := h5
  simp [Cond.before, Cond.holds, Cond.value, h1, h2, h3, h4, g1, g2, g3, g4, g5, g6]
def isCode : Jvm.Cond → Bool
  | .code _ _ _ _ => true
  | _ => false
theorem all_split {L : List Jvm.Cond} {P : Jvm.Cond → Bool} (h1 : L.all (fun c => isCode c || P c) = true) (h2 : ∀ c ∈ L.filter isCode, P c = true) : L.all P = true := by
  refine List.all_eq_true.mpr fun c hc => ?_
  have h := List.all_eq_true.mp h1 c hc
  rcases Bool.eq_false_or_eq_true (isCode c) with hi | hi
  · exact h2 c (List.mem_filter.mpr ⟨hc, hi⟩)
  · simpa [hi] using h
set_option maxRecDepth 65536 in
theorem w_c0 : (Jvm.Cond.code x code maxLocals ret).before args0 about1 = true := code_word (m := ⟨1, 1⟩) (meth := k1m1) (c := k1c1) (by decide +kernel) rfl rfl rfl (by decide +kernel)
set_option maxRecDepth 65536 in
theorem w_c1 : (Jvm.Cond.code ({ cls := "com/example/fetch_from_near/fetchfromnear/Histogram", name := "<init>", desc := "()V" } : Jvm.MethodName) prog_10_method_1_code (1 : Nat) (Option.none : Option Jvm.ClassFile.FieldType)).before args0 about1 = true := code_word (m := ⟨2, 0⟩) (meth := k2m0) (c := k2c0) (by decide +kernel) rfl rfl rfl (by decide +kernel)
set_option maxRecDepth 65536 in
theorem w_c2 : (Jvm.Cond.code ({ cls := "java/lang/Object", name := "<init>", desc := "()V" } : Jvm.MethodName) object_method_1_code (1 : Nat) (Option.none : Option Jvm.ClassFile.FieldType)).before args0 about1 = true := code_word (m := ⟨0, 0⟩) (meth := k0m0) (c := k0c0) (by decide +kernel) rfl rfl rfl (by decide +kernel)
set_option maxRecDepth 65536 in
theorem w_c3 : (Jvm.Cond.code ({ cls := "java/util/TreeMap", name := "<init>", desc := "()V" } : Jvm.MethodName) jdk_2729_method_1_code (1 : Nat) (Option.none : Option Jvm.ClassFile.FieldType)).before args0 about1 = true := code_word (m := ⟨10, 0⟩) (meth := k10m0) (c := k10c0) (by decide +kernel) rfl rfl rfl (by decide +kernel)
set_option maxRecDepth 65536 in
theorem w_c4 : (Jvm.Cond.code ({ cls := "java/util/AbstractMap", name := "<init>", desc := "()V" } : Jvm.MethodName) jdk_71_method_1_code (1 : Nat) (Option.none : Option Jvm.ClassFile.FieldType)).before args0 about1 = true := code_word (m := ⟨4, 0⟩) (meth := k4m0) (c := k4c0) (by decide +kernel) rfl rfl rfl (by decide +kernel)
set_option maxRecDepth 65536 in
theorem w_c5 : (Jvm.Cond.code ({ cls := "com/example/fetch_from_near/fetchfromnear/Histogram", name := "isEmpty", desc := "()Z" } : Jvm.MethodName) prog_10_method_5_code (1 : Nat) (Option.some Jvm.ClassFile.FieldType.boolean)).before args0 about1 = true := code_word (m := ⟨2, 4⟩) (meth := k2m4) (c := k2c4) (by decide +kernel) rfl rfl rfl (by decide +kernel)
set_option maxRecDepth 65536 in
theorem w_c6 : (Jvm.Cond.code ({ cls := "com/example/fetch_from_near/fetchfromnear/Histogram", name := "add", desc := "(JJ)V" } : Jvm.MethodName) prog_10_method_3_code (5 : Nat) (Option.none : Option Jvm.ClassFile.FieldType)).before args0 about1 = true := code_word (m := ⟨2, 2⟩) (meth := k2m2) (c := k2c2) (by decide +kernel) rfl rfl rfl (by decide +kernel)
set_option maxRecDepth 65536 in
theorem w_c7 : (Jvm.Cond.code ({ cls := "java/lang/Math", name := "addExact", desc := "(JJ)J" } : Jvm.MethodName) jdk_29_method_25_code (6 : Nat) (Option.some Jvm.ClassFile.FieldType.long)).before args0 about1 = true := code_word (m := ⟨11, 1⟩) (meth := k11m1) (c := k11c1) (by decide +kernel) rfl rfl rfl (by decide +kernel)
set_option maxRecDepth 65536 in
theorem w_c8 : (Jvm.Cond.code ({ cls := "java/lang/Long", name := "valueOf", desc := "(J)Ljava/lang/Long;" } : Jvm.MethodName) jdk_35_method_24_code (3 : Nat) (Option.some (Jvm.ClassFile.FieldType.object "java/lang/Long"))).before args0 about1 = true := code_word (m := ⟨16, 0⟩) (meth := k16m0) (c := k16c0) (by decide +kernel) rfl rfl rfl (by decide +kernel)
set_option maxRecDepth 65536 in
theorem w_c9 : (Jvm.Cond.code ({ cls := "java/util/TreeMap", name := "merge", desc := "(Ljava/lang/Object;Ljava/lang/Object;Ljava/util/function/BiFunction;)Ljava/lang/Object;" } : Jvm.MethodName) jdk_2729_method_26_code (9 : Nat) (Option.some (Jvm.ClassFile.FieldType.object "java/lang/Object"))).before args0 about1 = true := code_word (m := ⟨10, 1⟩) (meth := k10m1) (c := k10c1) (by decide +kernel) rfl rfl rfl (by decide +kernel)
set_option maxRecDepth 65536 in
theorem w_c10 : (Jvm.Cond.code ({ cls := "java/util/Objects", name := "requireNonNull", desc := "(Ljava/lang/Object;)Ljava/lang/Object;" } : Jvm.MethodName) jdk_31_method_10_code (1 : Nat) (Option.some (Jvm.ClassFile.FieldType.object "java/lang/Object"))).before args0 about1 = true := code_word (m := ⟨19, 1⟩) (meth := k19m1) (c := k19c1) (by decide +kernel) rfl rfl rfl (by decide +kernel)
set_option maxRecDepth 65536 in
theorem w_c11 : (Jvm.Cond.code ({ cls := "java/util/TreeMap", name := "addEntryToEmptyMap", desc := "(Ljava/lang/Object;Ljava/lang/Object;)V" } : Jvm.MethodName) jdk_2729_method_30_code (3 : Nat) (Option.none : Option Jvm.ClassFile.FieldType)).before args0 about1 = true := code_word (m := ⟨10, 3⟩) (meth := k10m3) (c := k10c3) (by decide +kernel) rfl rfl rfl (by decide +kernel)
set_option maxRecDepth 65536 in
theorem w_c12 : (Jvm.Cond.code ({ cls := "java/util/TreeMap", name := "compare", desc := "(Ljava/lang/Object;Ljava/lang/Object;)I" } : Jvm.MethodName) jdk_2729_method_67_code (3 : Nat) (Option.some Jvm.ClassFile.FieldType.int)).before args0 about1 = true := code_word (m := ⟨10, 6⟩) (meth := k10m6) (c := k10c6) (by decide +kernel) rfl rfl rfl (by decide +kernel)
set_option maxRecDepth 65536 in
theorem w_c13 : (Jvm.Cond.code ({ cls := "java/lang/Long", name := "compareTo", desc := "(Ljava/lang/Object;)I" } : Jvm.MethodName) jdk_35_method_64_code (2 : Nat) (Option.some Jvm.ClassFile.FieldType.int)).before args0 about1 = true := code_word (m := ⟨16, 6⟩) (meth := k16m6) (c := k16c6) (by decide +kernel) rfl rfl rfl (by decide +kernel)
set_option maxRecDepth 65536 in
theorem w_c14 : (Jvm.Cond.code ({ cls := "java/lang/Long", name := "compareTo", desc := "(Ljava/lang/Long;)I" } : Jvm.MethodName) jdk_35_method_41_code (2 : Nat) (Option.some Jvm.ClassFile.FieldType.int)).before args0 about1 = true := code_word (m := ⟨16, 3⟩) (meth := k16m3) (c := k16c3) (by decide +kernel) rfl rfl rfl (by decide +kernel)
set_option maxRecDepth 65536 in
theorem w_c15 : (Jvm.Cond.code ({ cls := "java/lang/Long", name := "compare", desc := "(JJ)I" } : Jvm.MethodName) jdk_35_method_42_code (4 : Nat) (Option.some Jvm.ClassFile.FieldType.int)).before args0 about1 = true := code_word (m := ⟨16, 4⟩) (meth := k16m4) (c := k16c4) (by decide +kernel) rfl rfl rfl (by decide +kernel)
set_option maxRecDepth 65536 in
theorem w_c16 : (Jvm.Cond.code ({ cls := "java/util/TreeMap$Entry", name := "<init>", desc := "(Ljava/lang/Object;Ljava/lang/Object;Ljava/util/TreeMap$Entry;)V" } : Jvm.MethodName) jdk_2736_method_1_code (4 : Nat) (Option.none : Option Jvm.ClassFile.FieldType)).before args0 about1 = true := code_word (m := ⟨21, 0⟩) (meth := k21m0) (c := k21c0) (by decide +kernel) rfl rfl rfl (by decide +kernel)
set_option maxRecDepth 65536 in
theorem w_c17 : (Jvm.Cond.code ({ cls := "java/lang/Long", name := "<init>", desc := "(J)V" } : Jvm.MethodName) jdk_35_method_26_code (3 : Nat) (Option.none : Option Jvm.ClassFile.FieldType)).before args0 about1 = true := code_word (m := ⟨16, 1⟩) (meth := k16m1) (c := k16c1) (by decide +kernel) rfl rfl rfl (by decide +kernel)
set_option maxRecDepth 65536 in
theorem w_c18 : (Jvm.Cond.code ({ cls := "java/lang/Number", name := "<init>", desc := "()V" } : Jvm.MethodName) jdk_18_method_1_code (1 : Nat) (Option.none : Option Jvm.ClassFile.FieldType)).before args0 about1 = true := code_word (m := ⟨12, 0⟩) (meth := k12m0) (c := k12c0) (by decide +kernel) rfl rfl rfl (by decide +kernel)
set_option maxRecDepth 65536 in
theorem w_c19 : (Jvm.Cond.code ({ cls := "java/util/TreeMap", name := "addEntry", desc := "(Ljava/lang/Object;Ljava/lang/Object;Ljava/util/TreeMap$Entry;Z)V" } : Jvm.MethodName) jdk_2729_method_29_code (6 : Nat) (Option.none : Option Jvm.ClassFile.FieldType)).before args0 about1 = true := code_word (m := ⟨10, 2⟩) (meth := k10m2) (c := k10c2) (by decide +kernel) rfl rfl rfl (by decide +kernel)
set_option maxRecDepth 65536 in
theorem w_c20 : (Jvm.Cond.code ({ cls := "java/util/TreeMap", name := "fixAfterInsertion", desc := "(Ljava/util/TreeMap$Entry;)V" } : Jvm.MethodName) jdk_2729_method_83_code (3 : Nat) (Option.none : Option Jvm.ClassFile.FieldType)).before args0 about1 = true := code_word (m := ⟨10, 9⟩) (meth := k10m9) (c := k10c9) (by decide +kernel) rfl rfl rfl (by decide +kernel)
set_option maxRecDepth 65536 in
theorem w_c21 : (Jvm.Cond.code ({ cls := "com/example/fetch_from_near/fetchfromnear/Histogram", name := "addAll", desc := "(Lcom/example/fetch_from_near/fetchfromnear/Histogram;)V" } : Jvm.MethodName) prog_10_method_4_code (4 : Nat) (Option.none : Option Jvm.ClassFile.FieldType)).before args0 about1 = true := code_word (m := ⟨2, 3⟩) (meth := k2m3) (c := k2c3) (by decide +kernel) rfl rfl rfl (by decide +kernel)
set_option maxRecDepth 65536 in
theorem w_c22 : (Jvm.Cond.code ({ cls := "java/util/TreeMap", name := "entrySet", desc := "()Ljava/util/Set;" } : Jvm.MethodName) jdk_2729_method_53_code (2 : Nat) (Option.some (Jvm.ClassFile.FieldType.object "java/util/Set"))).before args0 about1 = true := code_word (m := ⟨10, 5⟩) (meth := k10m5) (c := k10c5) (by decide +kernel) rfl rfl rfl (by decide +kernel)
set_option maxRecDepth 65536 in
theorem w_c23 : (Jvm.Cond.code ({ cls := "java/util/TreeMap$EntrySet", name := "<init>", desc := "(Ljava/util/TreeMap;)V" } : Jvm.MethodName) jdk_2738_method_1_code (2 : Nat) (Option.none : Option Jvm.ClassFile.FieldType)).before args0 about1 = true := code_word (m := ⟨27, 0⟩) (meth := k27m0) (c := k27c0) (by decide +kernel) rfl rfl rfl (by decide +kernel)
set_option maxRecDepth 65536 in
theorem w_c24 : (Jvm.Cond.code ({ cls := "java/util/AbstractSet", name := "<init>", desc := "()V" } : Jvm.MethodName) jdk_91_method_1_code (1 : Nat) (Option.none : Option Jvm.ClassFile.FieldType)).before args0 about1 = true := code_word (m := ⟨26, 0⟩) (meth := k26m0) (c := k26c0) (by decide +kernel) rfl rfl rfl (by decide +kernel)
set_option maxRecDepth 65536 in
theorem w_c25 : (Jvm.Cond.code ({ cls := "java/util/AbstractCollection", name := "<init>", desc := "()V" } : Jvm.MethodName) jdk_22_method_1_code (1 : Nat) (Option.none : Option Jvm.ClassFile.FieldType)).before args0 about1 = true := code_word (m := ⟨24, 0⟩) (meth := k24m0) (c := k24c0) (by decide +kernel) rfl rfl rfl (by decide +kernel)
set_option maxRecDepth 65536 in
theorem w_c26 : (Jvm.Cond.code ({ cls := "java/util/TreeMap$EntrySet", name := "iterator", desc := "()Ljava/util/Iterator;" } : Jvm.MethodName) jdk_2738_method_2_code (1 : Nat) (Option.some (Jvm.ClassFile.FieldType.object "java/util/Iterator"))).before args0 about1 = true := code_word (m := ⟨27, 1⟩) (meth := k27m1) (c := k27c1) (by decide +kernel) rfl rfl rfl (by decide +kernel)
set_option maxRecDepth 65536 in
theorem w_c27 : (Jvm.Cond.code ({ cls := "java/util/TreeMap", name := "getFirstEntry", desc := "()Ljava/util/TreeMap$Entry;" } : Jvm.MethodName) jdk_2729_method_72_code (2 : Nat) (Option.some (Jvm.ClassFile.FieldType.object "java/util/TreeMap$Entry"))).before args0 about1 = true := code_word (m := ⟨10, 7⟩) (meth := k10m7) (c := k10c7) (by decide +kernel) rfl rfl rfl (by decide +kernel)
set_option maxRecDepth 65536 in
theorem w_c28 : (Jvm.Cond.code ({ cls := "java/util/TreeMap$EntryIterator", name := "<init>", desc := "(Ljava/util/TreeMap;Ljava/util/TreeMap$Entry;)V" } : Jvm.MethodName) jdk_2737_method_1_code (3 : Nat) (Option.none : Option Jvm.ClassFile.FieldType)).before args0 about1 = true := code_word (m := ⟨30, 0⟩) (meth := k30m0) (c := k30c0) (by decide +kernel) rfl rfl rfl (by decide +kernel)
set_option maxRecDepth 65536 in
theorem w_c29 : (Jvm.Cond.code ({ cls := "java/util/TreeMap$PrivateEntryIterator", name := "<init>", desc := "(Ljava/util/TreeMap;Ljava/util/TreeMap$Entry;)V" } : Jvm.MethodName) jdk_2750_method_1_code (3 : Nat) (Option.none : Option Jvm.ClassFile.FieldType)).before args0 about1 = true := code_word (m := ⟨29, 0⟩) (meth := k29m0) (c := k29c0) (by decide +kernel) rfl rfl rfl (by decide +kernel)
set_option maxRecDepth 65536 in
theorem w_c30 : (Jvm.Cond.code ({ cls := "java/util/TreeMap$PrivateEntryIterator", name := "hasNext", desc := "()Z" } : Jvm.MethodName) jdk_2750_method_2_code (1 : Nat) (Option.some Jvm.ClassFile.FieldType.boolean)).before args0 about1 = true := code_word (m := ⟨29, 1⟩) (meth := k29m1) (c := k29c1) (by decide +kernel) rfl rfl rfl (by decide +kernel)
set_option maxRecDepth 65536 in
theorem w_c31 : (Jvm.Cond.code ({ cls := "com/example/fetch_from_near/fetchfromnear/Histogram", name := "add", desc := "(J)V" } : Jvm.MethodName) prog_10_method_2_code (3 : Nat) (Option.none : Option Jvm.ClassFile.FieldType)).before args0 about1 = true := code_word (m := ⟨2, 1⟩) (meth := k2m1) (c := k2c1) (by decide +kernel) rfl rfl rfl (by decide +kernel)
set_option maxRecDepth 65536 in
theorem w_c32 : (Jvm.Cond.code ({ cls := "java/util/TreeMap$EntryIterator", name := "next", desc := "()Ljava/lang/Object;" } : Jvm.MethodName) jdk_2737_method_3_code (1 : Nat) (Option.some (Jvm.ClassFile.FieldType.object "java/lang/Object"))).before args0 about1 = true := code_word (m := ⟨30, 2⟩) (meth := k30m2) (c := k30c2) (by decide +kernel) rfl rfl rfl (by decide +kernel)
set_option maxRecDepth 65536 in
theorem w_c33 : (Jvm.Cond.code ({ cls := "java/util/TreeMap$EntryIterator", name := "next", desc := "()Ljava/util/Map$Entry;" } : Jvm.MethodName) jdk_2737_method_2_code (1 : Nat) (Option.some (Jvm.ClassFile.FieldType.object "java/util/Map$Entry"))).before args0 about1 = true := code_word (m := ⟨30, 1⟩) (meth := k30m1) (c := k30c1) (by decide +kernel) rfl rfl rfl (by decide +kernel)
set_option maxRecDepth 65536 in
theorem w_c34 : (Jvm.Cond.code ({ cls := "java/util/TreeMap$PrivateEntryIterator", name := "nextEntry", desc := "()Ljava/util/TreeMap$Entry;" } : Jvm.MethodName) jdk_2750_method_3_code (2 : Nat) (Option.some (Jvm.ClassFile.FieldType.object "java/util/TreeMap$Entry"))).before args0 about1 = true := code_word (m := ⟨29, 2⟩) (meth := k29m2) (c := k29c2) (by decide +kernel) rfl rfl rfl (by decide +kernel)
set_option maxRecDepth 65536 in
theorem w_c35 : (Jvm.Cond.code ({ cls := "java/util/TreeMap", name := "successor", desc := "(Ljava/util/TreeMap$Entry;)Ljava/util/TreeMap$Entry;" } : Jvm.MethodName) jdk_2729_method_74_code (3 : Nat) (Option.some (Jvm.ClassFile.FieldType.object "java/util/TreeMap$Entry"))).before args0 about1 = true := code_word (m := ⟨10, 8⟩) (meth := k10m8) (c := k10c8) (by decide +kernel) rfl rfl rfl (by decide +kernel)
set_option maxRecDepth 65536 in
theorem w_c36 : (Jvm.Cond.code ({ cls := "java/util/TreeMap$Entry", name := "getKey", desc := "()Ljava/lang/Object;" } : Jvm.MethodName) jdk_2736_method_2_code (1 : Nat) (Option.some (Jvm.ClassFile.FieldType.object "java/lang/Object"))).before args0 about1 = true := code_word (m := ⟨21, 1⟩) (meth := k21m1) (c := k21c1) (by decide +kernel) rfl rfl rfl (by decide +kernel)
set_option maxRecDepth 65536 in
theorem w_c37 : (Jvm.Cond.code ({ cls := "java/lang/Long", name := "longValue", desc := "()J" } : Jvm.MethodName) jdk_35_method_31_code (1 : Nat) (Option.some Jvm.ClassFile.FieldType.long)).before args0 about1 = true := code_word (m := ⟨16, 2⟩) (meth := k16m2) (c := k16c2) (by decide +kernel) rfl rfl rfl (by decide +kernel)
set_option maxRecDepth 65536 in
theorem w_c38 : (Jvm.Cond.code ({ cls := "java/util/TreeMap$Entry", name := "getValue", desc := "()Ljava/lang/Object;" } : Jvm.MethodName) jdk_2736_method_3_code (1 : Nat) (Option.some (Jvm.ClassFile.FieldType.object "java/lang/Object"))).before args0 about1 = true := code_word (m := ⟨21, 2⟩) (meth := k21m2) (c := k21c2) (by decide +kernel) rfl rfl rfl (by decide +kernel)
set_option maxRecDepth 65536 in
theorem w_c39 : (Jvm.Cond.code ({ cls := "java/util/TreeMap", name := "mergeValue", desc := "(Ljava/util/TreeMap$Entry;Ljava/lang/Object;Ljava/util/function/BiFunction;)Ljava/lang/Object;" } : Jvm.MethodName) jdk_2729_method_33_code (7 : Nat) (Option.some (Jvm.ClassFile.FieldType.object "java/lang/Object"))).before args0 about1 = true := code_word (m := ⟨10, 4⟩) (meth := k10m4) (c := k10c4) (by decide +kernel) rfl rfl rfl (by decide +kernel)
set_option maxRecDepth 65536 in
theorem w_c40 : (Jvm.Cond.code ({ cls := "java/lang/Long", name := "sum", desc := "(JJ)J" } : Jvm.MethodName) jdk_35_method_59_code (4 : Nat) (Option.some Jvm.ClassFile.FieldType.long)).before args0 about1 = true := code_word (m := ⟨16, 5⟩) (meth := k16m5) (c := k16c5) (by decide +kernel) rfl rfl rfl (by decide +kernel)
def codes1 : List Jvm.Cond := [Jvm.Cond.code x code maxLocals ret, Jvm.Cond.code ({ cls := "com/example/fetch_from_near/fetchfromnear/Histogram", name := "<init>", desc := "()V" } : Jvm.MethodName) prog_10_method_1_code (1 : Nat) (Option.none : Option Jvm.ClassFile.FieldType), Jvm.Cond.code ({ cls := "java/lang/Object", name := "<init>", desc := "()V" } : Jvm.MethodName) object_method_1_code (1 : Nat) (Option.none : Option Jvm.ClassFile.FieldType), Jvm.Cond.code ({ cls := "java/util/TreeMap", name := "<init>", desc := "()V" } : Jvm.MethodName) jdk_2729_method_1_code (1 : Nat) (Option.none : Option Jvm.ClassFile.FieldType), Jvm.Cond.code ({ cls := "java/util/AbstractMap", name := "<init>", desc := "()V" } : Jvm.MethodName) jdk_71_method_1_code (1 : Nat) (Option.none : Option Jvm.ClassFile.FieldType), Jvm.Cond.code ({ cls := "com/example/fetch_from_near/fetchfromnear/Histogram", name := "isEmpty", desc := "()Z" } : Jvm.MethodName) prog_10_method_5_code (1 : Nat) (Option.some Jvm.ClassFile.FieldType.boolean), Jvm.Cond.code ({ cls := "com/example/fetch_from_near/fetchfromnear/Histogram", name := "add", desc := "(JJ)V" } : Jvm.MethodName) prog_10_method_3_code (5 : Nat) (Option.none : Option Jvm.ClassFile.FieldType), Jvm.Cond.code ({ cls := "java/lang/Math", name := "addExact", desc := "(JJ)J" } : Jvm.MethodName) jdk_29_method_25_code (6 : Nat) (Option.some Jvm.ClassFile.FieldType.long), Jvm.Cond.code ({ cls := "java/lang/Long", name := "valueOf", desc := "(J)Ljava/lang/Long;" } : Jvm.MethodName) jdk_35_method_24_code (3 : Nat) (Option.some (Jvm.ClassFile.FieldType.object "java/lang/Long")), Jvm.Cond.code ({ cls := "java/util/TreeMap", name := "merge", desc := "(Ljava/lang/Object;Ljava/lang/Object;Ljava/util/function/BiFunction;)Ljava/lang/Object;" } : Jvm.MethodName) jdk_2729_method_26_code (9 : Nat) (Option.some (Jvm.ClassFile.FieldType.object "java/lang/Object")), Jvm.Cond.code ({ cls := "java/util/Objects", name := "requireNonNull", desc := "(Ljava/lang/Object;)Ljava/lang/Object;" } : Jvm.MethodName) jdk_31_method_10_code (1 : Nat) (Option.some (Jvm.ClassFile.FieldType.object "java/lang/Object")), Jvm.Cond.code ({ cls := "java/util/TreeMap", name := "addEntryToEmptyMap", desc := "(Ljava/lang/Object;Ljava/lang/Object;)V" } : Jvm.MethodName) jdk_2729_method_30_code (3 : Nat) (Option.none : Option Jvm.ClassFile.FieldType), Jvm.Cond.code ({ cls := "java/util/TreeMap", name := "compare", desc := "(Ljava/lang/Object;Ljava/lang/Object;)I" } : Jvm.MethodName) jdk_2729_method_67_code (3 : Nat) (Option.some Jvm.ClassFile.FieldType.int), Jvm.Cond.code ({ cls := "java/lang/Long", name := "compareTo", desc := "(Ljava/lang/Object;)I" } : Jvm.MethodName) jdk_35_method_64_code (2 : Nat) (Option.some Jvm.ClassFile.FieldType.int), Jvm.Cond.code ({ cls := "java/lang/Long", name := "compareTo", desc := "(Ljava/lang/Long;)I" } : Jvm.MethodName) jdk_35_method_41_code (2 : Nat) (Option.some Jvm.ClassFile.FieldType.int), Jvm.Cond.code ({ cls := "java/lang/Long", name := "compare", desc := "(JJ)I" } : Jvm.MethodName) jdk_35_method_42_code (4 : Nat) (Option.some Jvm.ClassFile.FieldType.int), Jvm.Cond.code ({ cls := "java/util/TreeMap$Entry", name := "<init>", desc := "(Ljava/lang/Object;Ljava/lang/Object;Ljava/util/TreeMap$Entry;)V" } : Jvm.MethodName) jdk_2736_method_1_code (4 : Nat) (Option.none : Option Jvm.ClassFile.FieldType), Jvm.Cond.code ({ cls := "java/lang/Long", name := "<init>", desc := "(J)V" } : Jvm.MethodName) jdk_35_method_26_code (3 : Nat) (Option.none : Option Jvm.ClassFile.FieldType), Jvm.Cond.code ({ cls := "java/lang/Number", name := "<init>", desc := "()V" } : Jvm.MethodName) jdk_18_method_1_code (1 : Nat) (Option.none : Option Jvm.ClassFile.FieldType), Jvm.Cond.code ({ cls := "java/util/TreeMap", name := "addEntry", desc := "(Ljava/lang/Object;Ljava/lang/Object;Ljava/util/TreeMap$Entry;Z)V" } : Jvm.MethodName) jdk_2729_method_29_code (6 : Nat) (Option.none : Option Jvm.ClassFile.FieldType), Jvm.Cond.code ({ cls := "java/util/TreeMap", name := "fixAfterInsertion", desc := "(Ljava/util/TreeMap$Entry;)V" } : Jvm.MethodName) jdk_2729_method_83_code (3 : Nat) (Option.none : Option Jvm.ClassFile.FieldType), Jvm.Cond.code ({ cls := "com/example/fetch_from_near/fetchfromnear/Histogram", name := "addAll", desc := "(Lcom/example/fetch_from_near/fetchfromnear/Histogram;)V" } : Jvm.MethodName) prog_10_method_4_code (4 : Nat) (Option.none : Option Jvm.ClassFile.FieldType), Jvm.Cond.code ({ cls := "java/util/TreeMap", name := "entrySet", desc := "()Ljava/util/Set;" } : Jvm.MethodName) jdk_2729_method_53_code (2 : Nat) (Option.some (Jvm.ClassFile.FieldType.object "java/util/Set")), Jvm.Cond.code ({ cls := "java/util/TreeMap$EntrySet", name := "<init>", desc := "(Ljava/util/TreeMap;)V" } : Jvm.MethodName) jdk_2738_method_1_code (2 : Nat) (Option.none : Option Jvm.ClassFile.FieldType), Jvm.Cond.code ({ cls := "java/util/AbstractSet", name := "<init>", desc := "()V" } : Jvm.MethodName) jdk_91_method_1_code (1 : Nat) (Option.none : Option Jvm.ClassFile.FieldType), Jvm.Cond.code ({ cls := "java/util/AbstractCollection", name := "<init>", desc := "()V" } : Jvm.MethodName) jdk_22_method_1_code (1 : Nat) (Option.none : Option Jvm.ClassFile.FieldType), Jvm.Cond.code ({ cls := "java/util/TreeMap$EntrySet", name := "iterator", desc := "()Ljava/util/Iterator;" } : Jvm.MethodName) jdk_2738_method_2_code (1 : Nat) (Option.some (Jvm.ClassFile.FieldType.object "java/util/Iterator")), Jvm.Cond.code ({ cls := "java/util/TreeMap", name := "getFirstEntry", desc := "()Ljava/util/TreeMap$Entry;" } : Jvm.MethodName) jdk_2729_method_72_code (2 : Nat) (Option.some (Jvm.ClassFile.FieldType.object "java/util/TreeMap$Entry")), Jvm.Cond.code ({ cls := "java/util/TreeMap$EntryIterator", name := "<init>", desc := "(Ljava/util/TreeMap;Ljava/util/TreeMap$Entry;)V" } : Jvm.MethodName) jdk_2737_method_1_code (3 : Nat) (Option.none : Option Jvm.ClassFile.FieldType), Jvm.Cond.code ({ cls := "java/util/TreeMap$PrivateEntryIterator", name := "<init>", desc := "(Ljava/util/TreeMap;Ljava/util/TreeMap$Entry;)V" } : Jvm.MethodName) jdk_2750_method_1_code (3 : Nat) (Option.none : Option Jvm.ClassFile.FieldType), Jvm.Cond.code ({ cls := "java/util/TreeMap$PrivateEntryIterator", name := "hasNext", desc := "()Z" } : Jvm.MethodName) jdk_2750_method_2_code (1 : Nat) (Option.some Jvm.ClassFile.FieldType.boolean), Jvm.Cond.code ({ cls := "com/example/fetch_from_near/fetchfromnear/Histogram", name := "add", desc := "(J)V" } : Jvm.MethodName) prog_10_method_2_code (3 : Nat) (Option.none : Option Jvm.ClassFile.FieldType), Jvm.Cond.code ({ cls := "java/util/TreeMap$EntryIterator", name := "next", desc := "()Ljava/lang/Object;" } : Jvm.MethodName) jdk_2737_method_3_code (1 : Nat) (Option.some (Jvm.ClassFile.FieldType.object "java/lang/Object")), Jvm.Cond.code ({ cls := "java/util/TreeMap$EntryIterator", name := "next", desc := "()Ljava/util/Map$Entry;" } : Jvm.MethodName) jdk_2737_method_2_code (1 : Nat) (Option.some (Jvm.ClassFile.FieldType.object "java/util/Map$Entry")), Jvm.Cond.code ({ cls := "java/util/TreeMap$PrivateEntryIterator", name := "nextEntry", desc := "()Ljava/util/TreeMap$Entry;" } : Jvm.MethodName) jdk_2750_method_3_code (2 : Nat) (Option.some (Jvm.ClassFile.FieldType.object "java/util/TreeMap$Entry")), Jvm.Cond.code ({ cls := "java/util/TreeMap", name := "successor", desc := "(Ljava/util/TreeMap$Entry;)Ljava/util/TreeMap$Entry;" } : Jvm.MethodName) jdk_2729_method_74_code (3 : Nat) (Option.some (Jvm.ClassFile.FieldType.object "java/util/TreeMap$Entry")), Jvm.Cond.code ({ cls := "java/util/TreeMap$Entry", name := "getKey", desc := "()Ljava/lang/Object;" } : Jvm.MethodName) jdk_2736_method_2_code (1 : Nat) (Option.some (Jvm.ClassFile.FieldType.object "java/lang/Object")), Jvm.Cond.code ({ cls := "java/lang/Long", name := "longValue", desc := "()J" } : Jvm.MethodName) jdk_35_method_31_code (1 : Nat) (Option.some Jvm.ClassFile.FieldType.long), Jvm.Cond.code ({ cls := "java/util/TreeMap$Entry", name := "getValue", desc := "()Ljava/lang/Object;" } : Jvm.MethodName) jdk_2736_method_3_code (1 : Nat) (Option.some (Jvm.ClassFile.FieldType.object "java/lang/Object")), Jvm.Cond.code ({ cls := "java/util/TreeMap", name := "mergeValue", desc := "(Ljava/util/TreeMap$Entry;Ljava/lang/Object;Ljava/util/function/BiFunction;)Ljava/lang/Object;" } : Jvm.MethodName) jdk_2729_method_33_code (7 : Nat) (Option.some (Jvm.ClassFile.FieldType.object "java/lang/Object")), Jvm.Cond.code ({ cls := "java/lang/Long", name := "sum", desc := "(JJ)J" } : Jvm.MethodName) jdk_35_method_59_code (4 : Nat) (Option.some Jvm.ClassFile.FieldType.long)]
set_option maxRecDepth 65536 in
theorem codes_eq : words1.filter isCode = codes1 := rfl
theorem w_codes : ∀ c ∈ words1.filter isCode, c.before args0 about1 = true := by
  rw [codes_eq]
  intro c hc
  simp only [codes1, List.mem_cons, List.not_mem_nil, or_false] at hc
  rcases hc with rfl | rfl | rfl | rfl | rfl | rfl | rfl | rfl | rfl | rfl | rfl | rfl | rfl | rfl | rfl | rfl | rfl | rfl | rfl | rfl | rfl | rfl | rfl | rfl | rfl | rfl | rfl | rfl | rfl | rfl | rfl | rfl | rfl | rfl | rfl | rfl | rfl | rfl | rfl | rfl | rfl
  · exact w_c0
  · exact w_c1
  · exact w_c2
  · exact w_c3
  · exact w_c4
  · exact w_c5
  · exact w_c6
  · exact w_c7
  · exact w_c8
  · exact w_c9
  · exact w_c10
  · exact w_c11
  · exact w_c12
  · exact w_c13
  · exact w_c14
  · exact w_c15
  · exact w_c16
  · exact w_c17
  · exact w_c18
  · exact w_c19
  · exact w_c20
  · exact w_c21
  · exact w_c22
  · exact w_c23
  · exact w_c24
  · exact w_c25
  · exact w_c26
  · exact w_c27
  · exact w_c28
  · exact w_c29
  · exact w_c30
  · exact w_c31
  · exact w_c32
  · exact w_c33
  · exact w_c34
  · exact w_c35
  · exact w_c36
  · exact w_c37
  · exact w_c38
  · exact w_c39
  · exact w_c40
set_option maxRecDepth 65536 in
theorem w_t1 : (words1.take 24).all (fun c => isCode c || c.before args0 about1) = true := by decide +kernel
set_option maxRecDepth 65536 in
theorem w_t2 : ((words1.drop 24).take 24).all (fun c => isCode c || c.before args0 about1) = true := by decide +kernel
set_option maxRecDepth 65536 in
theorem w_t3 : (((words1.drop 24).drop 24).take 24).all (fun c => isCode c || c.before args0 about1) = true := by decide +kernel
set_option maxRecDepth 65536 in
theorem w_t4 : ((((words1.drop 24).drop 24).drop 24).take 24).all (fun c => isCode c || c.before args0 about1) = true := by decide +kernel
set_option maxRecDepth 65536 in
theorem w_t5 : (((((words1.drop 24).drop 24).drop 24).drop 24).take 24).all (fun c => isCode c || c.before args0 about1) = true := by decide +kernel
set_option maxRecDepth 65536 in
theorem w_t6 : ((((((words1.drop 24).drop 24).drop 24).drop 24).drop 24).take 24).all (fun c => isCode c || c.before args0 about1) = true := by decide +kernel
set_option maxRecDepth 65536 in
theorem w_t7 : (((((((words1.drop 24).drop 24).drop 24).drop 24).drop 24).drop 24).take 24).all (fun c => isCode c || c.before args0 about1) = true := by decide +kernel
set_option maxRecDepth 65536 in
theorem w_t8 : ((((((((words1.drop 24).drop 24).drop 24).drop 24).drop 24).drop 24).drop 24).take 24).all (fun c => isCode c || c.before args0 about1) = true := by decide +kernel
set_option maxRecDepth 65536 in
theorem w_t9 : (((((((((words1.drop 24).drop 24).drop 24).drop 24).drop 24).drop 24).drop 24).drop 24).take 24).all (fun c => isCode c || c.before args0 about1) = true := by decide +kernel
set_option maxRecDepth 65536 in
theorem w_t10 : ((((((((((words1.drop 24).drop 24).drop 24).drop 24).drop 24).drop 24).drop 24).drop 24).drop 24).take 24).all (fun c => isCode c || c.before args0 about1) = true := by decide +kernel
set_option maxRecDepth 65536 in
theorem w_t11 : (((((((((((words1.drop 24).drop 24).drop 24).drop 24).drop 24).drop 24).drop 24).drop 24).drop 24).drop 24).take 24).all (fun c => isCode c || c.before args0 about1) = true := by decide +kernel
set_option maxRecDepth 65536 in
theorem w_t12 : (((((((((((words1.drop 24).drop 24).drop 24).drop 24).drop 24).drop 24).drop 24).drop 24).drop 24).drop 24).drop 24).all (fun c => isCode c || c.before args0 about1) = true := by decide +kernel
theorem w_tables : (allAtoms (Jvm.Cond.code x code maxLocals ret :: tables_1)).before args0 about1 = true := by
  rw [allAtoms_all]
  show words1.all (fun c => c.before args0 about1) = true
  refine all_split ?_ w_codes
  rw [← List.take_append_drop 24 words1, List.all_append, w_t1, ← List.take_append_drop 24 (words1.drop 24), List.all_append, w_t2, ← List.take_append_drop 24 ((words1.drop 24).drop 24), List.all_append, w_t3, ← List.take_append_drop 24 (((words1.drop 24).drop 24).drop 24), List.all_append, w_t4, ← List.take_append_drop 24 ((((words1.drop 24).drop 24).drop 24).drop 24), List.all_append, w_t5, ← List.take_append_drop 24 (((((words1.drop 24).drop 24).drop 24).drop 24).drop 24), List.all_append, w_t6, ← List.take_append_drop 24 ((((((words1.drop 24).drop 24).drop 24).drop 24).drop 24).drop 24), List.all_append, w_t7, ← List.take_append_drop 24 (((((((words1.drop 24).drop 24).drop 24).drop 24).drop 24).drop 24).drop 24), List.all_append, w_t8, ← List.take_append_drop 24 ((((((((words1.drop 24).drop 24).drop 24).drop 24).drop 24).drop 24).drop 24).drop 24), List.all_append, w_t9, ← List.take_append_drop 24 (((((((((words1.drop 24).drop 24).drop 24).drop 24).drop 24).drop 24).drop 24).drop 24).drop 24), List.all_append, w_t10, ← List.take_append_drop 24 ((((((((((words1.drop 24).drop 24).drop 24).drop 24).drop 24).drop 24).drop 24).drop 24).drop 24).drop 24), List.all_append, w_t11, w_t12]
  rfl
set_option maxRecDepth 65536 in
theorem w_rest : rest_1_c.before args0 about1 = true := by decide +kernel
set_option maxRecDepth 65536 in
theorem w_case : (Jvm.Cond.and given_1 narrow_1).before args0 about1 = true := by decide +kernel
theorem w_applies : (headSpec (Jvm.Cond.code x code maxLocals ret :: tables_1) room_1).applies x e0.platform about1 = true :=
  (Spec.applies_iff w_frames).mpr ⟨w_running, w_runnable, w_alone, w_named, w_hears, w_ripe, w_room, w_tables⟩
theorem atStart : AtStart classFile x code maxLocals ret World_1 tables_1 room_1 Calls_1 rest_1 Pre_1 launch0 p0 e0 about1 theMethod args0 below0 :=
  ⟨lists_1, trivial, launch0.admits_env _ _ _, launch0.least_env, fairChoices_fair.cas, fairChoices_fair.clock, w_frames, w_args, w_heap, w_applies, trivial, w_rest, w_case⟩
end start1
theorem witness_1 : WitnessClaimed_1 := ⟨start1.p0, start1.e0, start1.about1, start1.theMethod, start1.args0, start1.below0, start1.atStart⟩
end Jvm.Pilot.@@N@@
