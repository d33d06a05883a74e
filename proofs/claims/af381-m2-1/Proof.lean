import JvmDerived
import JvmDerived.Pilot.@@N@@Statement
import JvmDerived.Pilot.@@N@@Code
set_option linter.unusedVariables false
set_option linter.unusedSimpArgs false
namespace Jvm.RoadKit
open Sem ClassFile Op Lib Jvm.Stand Jvm.Free Jvm.LawKit
section New
variable {p : Program} {l : Launch} {e : Env} {R : Room} {s : State} {m : MethodId} {args : Array Value} {below : List Frame} {meth : Method} {c : Code} {T : State} {locs : List Loc} {cells slots : Nat}
theorem retI (X : Stand p l e R s m args below meth c T locs cells slots) (hx : p.tables.exec = Jvm.exec) {pc : Nat} {Ls : Array Slot} {z : Int32} {rest : List Value} (hret : meth.sig.returnType = some .int) (hd : decode c.code pc = .ok (.ireturn, 1)) {fs : List Frame}
    (hl : ∀ (f : JFrame) (acts : List Action), f.method = m → f.locked = none → f.entered = [] → (doReturn e (T.setTop f) acts (some (.int z))).1 = T.setFrames fs) : Steps p.tables e below (T.setTop (mkF m pc Ls (.int z :: rest))) (T.setFrames fs) := by
  have hm' : T.vm.method? m = some meth := X.method'
  have hn : narrow .int (.int z) = .int z := rfl
  show Steps p.tables e below (T.setTop { method := m, pc := pc, locals := Ls, stack := _ :: rest, locked := none }) _
  jvm_step X.here [X.here.top, hx, hd, hm', hret, hn]
  first | (intro acts; rw [hl _ acts rfl rfl rfl]) | rw [hl _ _ rfl rfl rfl]
  exact Steps.refl _
end New
abbrev Go (p : Program) (e : Env) (below : List Frame) (T : State) (f : JFrame) (A : State) : Prop := ∀ t, Steps p.tables e below (T.setTop f) t → Steps p.tables e below A t
theorem own_retA (w : Value) (h : w.isRef = true) (t : FieldType) (ht : t.isReference = true) : narrow t w = w := by
  cases w <;> simp [Value.isRef] at h <;> cases t <;> simp [FieldType.isReference] at ht <;> rfl
theorem own_fitA (w : Value) (h : w.isRef = true) (t : FieldType) (ht : t.isReference = true) : fits t w = true := by
  cases w <;> simp [Value.isRef] at h <;> cases t <;> simp [FieldType.isReference] at ht <;> rfl
theorem own_narb (x : Int32) : nar .byte (x.toInt8.toInt32) = x.toInt8.toInt32 := by
  show x.toInt8.toInt32.toInt8.toInt32 = _
  simp
theorem own_ft_byte {z y : Int32} (e : nar .byte z = y) : fits .byte (.int y) = true := by rw [← e]; exact fits_nar_byte z
theorem own_ft_char {z y : Int32} (e : nar .char z = y) : fits .char (.int y) = true := by rw [← e]; exact fits_nar_char z
theorem own_ft_short {z y : Int32} (e : nar .short z = y) : fits .short (.int y) = true := by rw [← e]; exact fits_nar_short z
theorem own_ft_boolean {z y : Int32} (e : nar .boolean z = y) : fits .boolean (.int y) = true := by rw [← e]; exact fits_nar_bool z
theorem own_nw_byte {z y : Int32} (e : nar .byte z = y) : narrow .byte (.int z) = .int y := by rw [← e]; rfl
theorem own_nw_char {z y : Int32} (e : nar .char z = y) : narrow .char (.int z) = .int y := by rw [← e]; rfl
theorem own_nw_short {z y : Int32} (e : nar .short z = y) : narrow .short (.int z) = .int y := by rw [← e]; rfl
theorem own_nw_boolean {z y : Int32} (e : nar .boolean z = y) : narrow .boolean (.int z) = .int y := by rw [← e]; rfl
theorem own_narc (x : Int32) : nar .char (x.toUInt32.toUInt16.toUInt32.toInt32) = x.toUInt32.toUInt16.toUInt32.toInt32 := by
  show x.toUInt32.toUInt16.toUInt32.toInt32.toUInt32.toUInt16.toUInt32.toInt32 = _
  have q := c_i2c x
  have r := c_i2c x.toUInt32.toUInt16.toUInt32.toInt32
  apply Int32.toInt_inj.mp
  omega
theorem own_ext_refl {h : Heap} : Ext h h := ⟨Nat.le_refl _, fun _ _ q => q⟩
theorem own_ext_trans {h h' h2 : Heap} (A : Ext h h') (B : Ext h' h2) : Ext h h2 := ⟨Nat.le_trans A.1 B.1, fun a c q => B.2 a c (A.2 a c q)⟩
theorem own_ext_keep {h h' : Heap} (K : Keep h h' []) : Ext h h' := ⟨K.1, fun a c q => K.2.1 a c q nin0⟩
theorem own_lcmp_self (x : Int64) : lcmpW x x = (0 : Int32) := by rw [lcW]; exact (lc_eq x x).mpr rfl
theorem own_catV {v : Value} (h : v.isRef = true) : v.category = 1 := by cases v <;> simp [Value.isRef] at h <;> rfl
end Jvm.RoadKit
namespace Jvm.RoadKit
open Sem ClassFile Op Lib Jvm.Stand Jvm.Free Jvm.LawKit
theorem own_old_le {Z : State} {n0 : Nat} {h : Heap} (O : Old Z n0 h) : n0 ≤ h.size := O.1 ▸ O.2.1
theorem own_fld_int {args : Array Value} {s : State} {t : Term} {C n d : String} {k : Int32} {a : Addr} (h : (Cond.eq (.field t C n d) (.int k)).value args s none s [] = some true) (ev : t.eval args s none [] s = some (.ref a)) : Fld s s.heap a C n d (.int k) := by
  obtain ⟨x, y, h1, h2, -, k2⟩ := cmp_v (Or.inl h)
  cases h2.symm.trans (Term.int_eval k)
  obtain ⟨z, rfl⟩ := k2
  have e : z = k := gotT (Cond.eq_ints h1 h2) h
  subst e
  exact Fld.start ((fld_at ev).symm.trans h1)
theorem own_eqint {args : Array Value} {s : State} {t : Term} {k : Int32} (h : (Cond.eq t (.int k)).value args s none s [] = some true) : t.eval args s none [] s = some (.int k) := by
  obtain ⟨x, y, h1, h2, -, k2⟩ := cmp_v (Or.inl h)
  cases h2.symm.trans (Term.int_eval k)
  obtain ⟨z, rfl⟩ := k2
  have e : z = k := gotT (Cond.eq_ints h1 h2) h
  subst e
  exact h1
end Jvm.RoadKit
namespace Jvm.RoadKit
open Sem ClassFile Op Lib Jvm.Stand Jvm.Free Jvm.LawKit
theorem own_c255 (x : Int32) : ¬ ((255 : Int32) < ((x &&& (255 : Int32)).toUInt32.toUInt16.toUInt32.toInt32)) := by
  rw [i2c_mask, Int32.lt_iff_toInt_lt]
  have h : (x &&& 255).toInt ≤ 255 := (c_and x 255 (by decide)).2
  show ¬ (255 < (x &&& 255).toInt)
  omega
theorem own_c0 (x : Int32) : ¬ (((x &&& (255 : Int32)).toUInt32.toUInt16.toUInt32.toInt32) < (0 : Int32)) := by
  rw [i2c_mask, Int32.lt_iff_toInt_lt]
  have h : 0 ≤ (x &&& 255).toInt := (c_and x 255 (by decide)).1
  show ¬ ((x &&& 255).toInt < 0)
  omega
end Jvm.RoadKit
namespace Jvm.RoadKit
open Sem ClassFile Op Lib Jvm.Stand Jvm.Free Jvm.LawKit
theorem own_safe_null {Z : State} {EL : List (String × Nat)} {vm : Vm} {h : Heap} {x : Addr} (hal : Z.vm.Alike vm) (E : Exa Z h x "java/lang/String") (F : Fld Z h x "java/lang/String" "value" "[B" .null) : Safe Z EL vm h x := fun B => by
  obtain ⟨p, -, u, a, -, q, -, G, rfl | rfl⟩ := B
  · obtain ⟨cS, ⟨⟨s1, s2, s3, ⟨cv, kv, iv, s4, s4'⟩, -, s6, s7, s8, -⟩, hfS, hcS⟩, -⟩ := G
    obtain ⟨cell, cf, k, i, f, h1, h2, h3, h4, h5, h6, h7⟩ := F
    obtain ⟨k', z4⟩ := ff_back (U := Wst Z vm h) hal s4
    cases (show h[q.sa]? = some q.sC from s1).symm.trans h1
    cases h2.symm.trans z4
    cases h7.symm.trans s8
  · obtain ⟨cell, k, e1, e2, e3, -, -⟩ := E
    cases (show h[q.sd]? = some q.SA from G.hd).symm.trans e1
    obtain ⟨cS, -, -, f, -⟩ := G
    have f : vm.findClass "[B" = some q.SA.cls := f
    rw [hal.findClass] at f
    obtain ⟨k1, q1, q2⟩ := Vm.findClass_spec f
    obtain ⟨k2, q3, q4⟩ := Vm.findClass_spec e2
    cases q1.symm.trans q3
    exact absurd (q2.symm.trans q4) (by decide)
end Jvm.RoadKit
namespace Jvm.RoadKit
theorem own_byte_ne {x : Int32} (k : Int32) (h0 : 0 ≤ k.toInt) (h1 : k.toInt < 128) (a : ¬ (x < (0 : Int32))) (b : ¬ ((255 : Int32) < x)) (h : ¬ (x = k)) : ¬ (x.toInt8.toInt32 = k) := by
  intro q
  apply h
  have a' : ¬ (x.toInt < 0) := fun z => a (Int32.lt_iff_toInt_lt.mpr z)
  have b' : ¬ (255 < x.toInt) := fun z => b (Int32.lt_iff_toInt_lt.mpr z)
  have q' : x.toInt8.toInt32.toInt = k.toInt := by rw [q]
  have c1 := c_i2b x
  apply Int32.toInt_inj.mp
  omega
end Jvm.RoadKit
namespace Jvm.Pilot.@@N@@
open Jvm Jvm.ClassFile Sem Op Lib Jvm.Free Jvm.Stand Jvm.LawKit Jvm.RoadKit Bundle Jvm.Pilot.@@N@@.Jvm.D
theorem own_EW {Z : State} {a0 : Array Value} (hw : ∀ d ∈ tables_1, d.before a0 Z = true) : EW Z a0 consts_1 := (EW.cons (hw _ (List.mem_of_getElem? (i := 35) rfl)) (by decide) EW.nil)
theorem own_wS {Z : State} {a0 : Array Value} (hw : ∀ d ∈ tables_1, d.before a0 Z = true) : ∀ a ∈ Bundle.stringAtoms, a.before a0 Z = true := by
  intro a ha
  simp only [Bundle.stringAtoms, Bundle.sN, List.mem_cons, List.not_mem_nil, or_false] at ha
  rcases ha with rfl | rfl | rfl | rfl | rfl | rfl | rfl
  · exact (hw _ (List.mem_of_getElem? (i := 2) rfl))
  · exact (hw _ (List.mem_of_getElem? (i := 10) rfl))
  · exact (hw _ (List.mem_of_getElem? (i := 14) rfl))
  · exact (hw _ (List.mem_of_getElem? (i := 23) rfl))
  · exact (hw _ (List.mem_of_getElem? (i := 25) rfl))
  · exact (hw _ (List.mem_of_getElem? (i := 36) rfl))
  · exact (hw _ (List.mem_of_getElem? (i := 37) rfl))
theorem own_compact {Z : State} {a0 : Array Value} (hsets : ∀ d ∈ jdkStatics_1, d.before a0 Z = true) : Jvm.Lit.compactW.before a0 Z = true := hsets _ (List.mem_of_getElem? (i := 2) rfl)
theorem d2_0 : decode jdk_43_method_3_code 0 = .ok (.iload_n 0, 1) := by decide +kernel
theorem d2_1 : decode jdk_43_method_3_code 1 = .ok (.sipush 255, 3) := by decide +kernel
theorem d2_4 : decode jdk_43_method_3_code 4 = .ok (.if_icmp .gt 7, 3) := by decide +kernel
theorem d2_7 : decode jdk_43_method_3_code 7 = .ok (.iconst 1, 1) := by decide +kernel
theorem d2_8 : decode jdk_43_method_3_code 8 = .ok (.goto 4, 3) := by decide +kernel
theorem d2_12 : decode jdk_43_method_3_code 12 = .ok (.ireturn, 1) := by decide +kernel
theorem pn_java_lang_StringLatin1 : plainName "java/lang/StringLatin1" = true := by first | (simp [plainName, overriddenIn]; done) | decide +kernel
theorem ef_canE (m : MethodId) (x0 : Int32)  : entryFrame m #[(.int x0)] 1 = mkF m 0 #[.val (.int x0)] [] := by first | (simp [entryFrame, mkF, argsToLocals, Value.category]; done) | rfl
def Q_canE (Z : State) (ch : Int32) (h0 : Heap) (n0 : Nat) (v : Option Value) (h : Heap) (L : List Loc) : Prop := v = some (.int (1 : Int32)) ∧ Fr n0 L ∧ h = h0
set_option maxRecDepth 65536 in
set_option maxHeartbeats 40000000 in
theorem rm_canE (l : Launch) (Z : State) (a0 : Array Value) (hw : ∀ d ∈ tables_1, d.before a0 Z = true) (ws : List Jvm.Cond) (ch : Int32) (h0 : Heap) (n0 : Nat) (O0 : Old Z n0 h0) (h1 : ¬ ((255 : Int32) < ch)) :
    MetFree l (⟨"java/lang/StringLatin1", "canEncode", "(C)Z"⟩ : MethodName) (head1 (Jvm.Cond.code (⟨"java/lang/StringLatin1", "canEncode", "(C)Z"⟩ : MethodName) jdk_43_method_3_code 1 (some .boolean) :: ws) ({ frames := 0, cells := 0, slots := 0, locals := 0 } : Room)) (fun a U => a = #[(.int ch)] ∧ Z.Warmed39 U.vm ∧ U.heap = h0) (fun _ _ _ _ _ => True) (fun _ U o U' => ∃ v L, o = .returned v ∧ Q_canE Z ch h0 n0 v U'.heap L ∧ FrameEnd U o U' L ({ frames := 0, cells := 0, slots := 0, locals := 0 } : Room).cells ({ frames := 0, cells := 0, slots := 0, locals := 0 } : Room).slots) := by
  refine MetFree.of_bodySF (plainFor_of_name pn_java_lang_StringLatin1) hisR ?_
  intro p e s m args below meth c s₁ Bd hml0 hP hK
  obtain ⟨rfl, hZ, hh⟩ := hP
  have hx := Bd.exec
  have hby := Bd.bytes
  have hml : c.maxLocals = 1 := hml0
  have hown : s.vm.findClass "java/lang/StringLatin1" = some m.cls := findClass_of_methodNamed Bd.named
  have hnm := (name_of_methodNamed Bd.named Bd.method).1
  have X0 : Stand p l e ({ frames := 0, cells := 0, slots := 0, locals := 0 } : Room) s m #[(.int ch)] below meth c s₁ [] 0 0 := Stand.of_body Bd
  have e0 : s₁.heap = h0 := by rw [← hh, Bd.state]; rfl
  have N0 := Fr.nil n0
  have g0 : Go p e below s₁ (mkF m 0 #[iv ch] []) (s₁.setTop (entryFrame m #[(.int ch)] 1)) := fun t kont => castTop (ef_canE m ch ) kont
  generalize s₁.setTop (entryFrame m #[(.int ch)] 1) = A0 at g0 ⊢
  have g101 : Go p e below s₁ (mkF m 12 #[iv ch] [(.int (1 : Int32))]) A0 := by
    intro t kont
    refine g0 t ?_
    refine XS.iloadN X0.here hx rfl (hb hby d2_0) rfl ?_
    show Steps p.tables e below (s₁.setTop (mkF m 1 #[iv ch] [(.int ch)])) _
    refine XS.sipush X0.here hx rfl (hb hby d2_1) ?_
    show Steps p.tables e below (s₁.setTop (mkF m 4 #[iv ch] [(.int (255 : Int32)), (.int ch)])) _
    refine XS.icmpNo X0.here hx rfl (hb hby d2_4) rfl (flt h1).2.2.1 ?_
    show Steps p.tables e below (s₁.setTop (mkF m 7 #[iv ch] [])) _
    refine XS.iconst X0.here hx rfl (hb hby d2_7) ?_
    show Steps p.tables e below (s₁.setTop (mkF m 8 #[iv ch] [(.int (1 : Int32))])) _
    refine XS.goto X0.here hx rfl (pc0 := 8) (pc' := 12) rfl (hb hby d2_8) (by decide) (by decide) ?_
    show Steps p.tables e below (s₁.setTop (mkF m 12 #[iv ch] [(.int (1 : Int32))])) _
    exact kont
  obtain ⟨fs, hr, hrun, hended, hW, hsame⟩ := X0.leave (v := some (.int (1 : Int32))) (fun h => by rw [Bd.returns] at h; cases h)
  refine ⟨_, _, g101 _ (retN X0 hx (t := .boolean) Bd.returns (by simp) (hb hby d2_12) hr), hrun, hended, _, _, rfl, ?_, ⟨_, rfl⟩, hW, hsame.mono (by decide) (by decide)⟩
  show Q_canE Z ch h0 n0 _ s₁.heap _
  rw [e0]
  exact ⟨rfl, N0, rfl⟩
theorem d3_0 : decode jdk_43_method_46_code 0 = .ok (.iconst 1, 1) := by decide +kernel
theorem d3_1 : decode jdk_43_method_46_code 1 = .ok (.newarray .byte, 2) := by decide +kernel
theorem d3_3 : decode jdk_43_method_46_code 3 = .ok (.dup, 1) := by decide +kernel
theorem d3_4 : decode jdk_43_method_46_code 4 = .ok (.iconst 0, 1) := by decide +kernel
theorem d3_5 : decode jdk_43_method_46_code 5 = .ok (.iload_n 0, 1) := by decide +kernel
theorem d3_6 : decode jdk_43_method_46_code 6 = .ok (.i2b, 1) := by decide +kernel
theorem d3_7 : decode jdk_43_method_46_code 7 = .ok (.bastore, 1) := by decide +kernel
theorem d3_8 : decode jdk_43_method_46_code 8 = .ok (.areturn, 1) := by decide +kernel
theorem ef_toB (m : MethodId) (x0 : Int32)  : entryFrame m #[(.int x0)] 1 = mkF m 0 #[.val (.int x0)] [] := by first | (simp [entryFrame, mkF, argsToLocals, Value.category]; done) | rfl
def Q_toB (Z : State) (ch : Int32) (h0 : Heap) (n0 : Nat) (v : Option Value) (h : Heap) (L : List Loc) : Prop := ∃ (r : Addr), ∃ (kid : ClassId), v = some (.ref r) ∧ Fr n0 L ∧ Keep h0 h [] ∧ h0.size ≤ r ∧ (Exa Z h r "[B") ∧ (Arv Z h r kid .byte (1 : Int32) [(.int (ch.toInt8.toInt32))] (.int (0 : Int32)))
set_option maxRecDepth 65536 in
set_option maxHeartbeats 40000000 in
theorem rm_toB (l : Launch) (Z : State) (a0 : Array Value) (hw : ∀ d ∈ tables_1, d.before a0 Z = true) (ws : List Jvm.Cond) (ch : Int32) (h0 : Heap) (n0 : Nat) (O0 : Old Z n0 h0)  :
    MetFree l (⟨"java/lang/StringLatin1", "toBytes", "(C)[B"⟩ : MethodName) (head1 (Jvm.Cond.code (⟨"java/lang/StringLatin1", "toBytes", "(C)[B"⟩ : MethodName) jdk_43_method_46_code 1 (some (.array .byte)) :: ws) ({ frames := 0, cells := 1, slots := 1, locals := 0 } : Room)) (fun a U => a = #[(.int ch)] ∧ Z.Warmed39 U.vm ∧ U.heap = h0) (fun _ _ _ _ _ => True) (fun _ U o U' => ∃ v L, o = .returned v ∧ Q_toB Z ch h0 n0 v U'.heap L ∧ FrameEnd U o U' L ({ frames := 0, cells := 1, slots := 1, locals := 0 } : Room).cells ({ frames := 0, cells := 1, slots := 1, locals := 0 } : Room).slots) := by
  refine MetFree.of_bodySF (plainFor_of_name pn_java_lang_StringLatin1) hisR ?_
  intro p e s m args below meth c s₁ Bd hml0 hP hK
  obtain ⟨rfl, hZ, hh⟩ := hP
  have hx := Bd.exec
  have hby := Bd.bytes
  have hml : c.maxLocals = 1 := hml0
  have hown : s.vm.findClass "java/lang/StringLatin1" = some m.cls := findClass_of_methodNamed Bd.named
  have hnm := (name_of_methodNamed Bd.named Bd.method).1
  have X0 : Stand p l e ({ frames := 0, cells := 1, slots := 1, locals := 0 } : Room) s m #[(.int ch)] below meth c s₁ [] 0 0 := Stand.of_body Bd
  have e0 : s₁.heap = h0 := by rw [← hh, Bd.state]; rfl
  have N0 := Fr.nil n0
  have g0 : Go p e below s₁ (mkF m 0 #[iv ch] []) (s₁.setTop (entryFrame m #[(.int ch)] 1)) := fun t kont => castTop (ef_toB m ch ) kont
  generalize s₁.setTop (entryFrame m #[(.int ch)] 1) = A0 at g0 ⊢
  have g101 : Go p e below s₁ (mkF m 1 #[iv ch] [(.int (1 : Int32))]) A0 := by
    intro t kont
    refine g0 t ?_
    refine XS.iconst X0.here hx rfl (hb hby d3_0) ?_
    show Steps p.tables e below (s₁.setTop (mkF m 1 #[iv ch] [(.int (1 : Int32))])) _
    exact kont
  obtain ⟨T102, h102, k102, X102, e102, E102, A102, F102, st102⟩ := newPE X0 hx hZ (hw _ (List.mem_of_getElem? (i := 14) rfl)) e0 (g := (mkF m 1 #[iv ch] [(.int (1 : Int32))])) rfl (hb hby d3_1) rfl (by decide) (cap := 1) (by decide) (by decide) (by decide) (by decide) (ad := "[B") (by decide)
  obtain ⟨b102, gb102⟩ : ∃ z, z = h0.size := ⟨_, rfl⟩
  rw [← gb102] at A102 F102 st102
  have O103 := O0.ext E102
  have y104 : Arv Z h102 b102 k102 .byte (1 : Int32) [(.int (0 : Int32))] (.int (0 : Int32)) := (Arv.new A102 (by decide)).pad (pad_rep [] (.int (0 : Int32)) 1)
  have g105 : Go p e below T102 (mkF m 3 #[iv ch] [(.ref b102)]) A0 := fun t kont => g101 t (st102 t kont)
  have g106 : Go p e below T102 (mkF m 7 #[iv ch] [(.int (ch.toInt8.toInt32)), (.int (0 : Int32)), (.ref b102), (.ref b102)]) A0 := by
    intro t kont
    refine g105 t ?_
    refine XS.dup X102.here hx rfl (hb hby d3_3) rfl rfl ?_
    show Steps p.tables e below (T102.setTop (mkF m 4 #[iv ch] [(.ref b102), (.ref b102)])) _
    refine XS.iconst X102.here hx rfl (hb hby d3_4) ?_
    show Steps p.tables e below (T102.setTop (mkF m 5 #[iv ch] [(.int (0 : Int32)), (.ref b102), (.ref b102)])) _
    refine XS.iloadN X102.here hx rfl (hb hby d3_5) rfl ?_
    show Steps p.tables e below (T102.setTop (mkF m 6 #[iv ch] [(.int ch), (.int (0 : Int32)), (.ref b102), (.ref b102)])) _
    refine XS.i2b X102.here hx rfl (hb hby d3_6) rfl ?_
    show Steps p.tables e below (T102.setTop (mkF m 7 #[iv ch] [(.int (ch.toInt8.toInt32)), (.int (0 : Int32)), (.ref b102), (.ref b102)])) _
    exact kont
  have ge108 : n0 ≤ b102 := Nat.le_trans (own_old_le O0) (Nat.le_of_eq gb102.symm)
  have zz107 := y104
  obtain ⟨cl107, Ar107, q107, S107, M107, H107, G107⟩ := zz107
  have in107 : ¬ ((0 : Int32) < 0 ∨ cl107.slots.size ≤ ((0 : Int32)).toNatClampNeg) := inb_of S107 ⟨by decide, by decide⟩
  obtain ⟨T107, h107, X107, e107, W107, st107⟩ := stB X102 hx hZ e102 Ar107 (j := (0 : Int32)) in107 (g := (mkF m 7 #[iv ch] [(.int (ch.toInt8.toInt32)), (.int (0 : Int32)), (.ref b102), (.ref b102)])) rfl rfl (hb hby d3_7)
  rw [show nar .byte (ch.toInt8.toInt32) = (ch.toInt8.toInt32) from (own_narb _)] at W107
  have O109 := O103.wr W107 ge108
  have y110 : Arv Z h107 b102 k102 .byte (1 : Int32) [(.int (ch.toInt8.toInt32))] (.int (0 : Int32)) := Arv.set Ar107 q107 S107 M107 H107 G107 (own_ft_byte (z := (ch.toInt8.toInt32)) (own_narb _)) W107 0 rfl (Nat.le_of_ble_eq_true rfl)
  have N107 := Fr.snoc X107 N0 ge108
  have g111 : Go p e below T107 (mkF m 8 #[iv ch] [(.ref b102)]) A0 := fun t kont => g106 t (st107 t kont)
  have K112 : Keep h0 h107 [] := (((Keep.refl h0 []).ext E102).wr W107 (Or.inr (Nat.le_of_eq gb102.symm)))
  have y113 : Exa Z h107 b102 "[B" := (F102.wr W107)
  obtain ⟨fs, hr, hrun, hended, hW, hsame⟩ := X107.leave (v := some (.ref b102)) (fun h => by rw [Bd.returns] at h; cases h)
  refine ⟨_, _, g111 _ (retOut X107 hx Bd.returns rfl (Or.inr (Or.inr (Or.inr (Or.inr ⟨rfl, rfl, rfl⟩)))) (hb hby d3_8) hr), hrun, hended, _, _, rfl, ?_, ⟨_, rfl⟩, hW, hsame.mono (by decide) (by decide)⟩
  show Q_toB Z ch h0 n0 _ T107.heap _
  rw [e107]
  exact ⟨b102, k102, rfl, N107, K112, (Nat.le_of_eq gb102.symm), y113, y110⟩
theorem d4_0 : decode jdk_42_method_151_code 0 = .ok (.aload_n 0, 1) := by decide +kernel
theorem d4_1 : decode jdk_42_method_151_code 1 = .ok (.invokespecial 1, 3) := by decide +kernel
theorem d4_4 : decode jdk_42_method_151_code 4 = .ok (.aload_n 0, 1) := by decide +kernel
theorem d4_5 : decode jdk_42_method_151_code 5 = .ok (.aload_n 1, 1) := by decide +kernel
theorem d4_6 : decode jdk_42_method_151_code 6 = .ok (.putfield 9, 3) := by decide +kernel
theorem d4_9 : decode jdk_42_method_151_code 9 = .ok (.aload_n 0, 1) := by decide +kernel
theorem d4_10 : decode jdk_42_method_151_code 10 = .ok (.iload_n 2, 1) := by decide +kernel
theorem d4_11 : decode jdk_42_method_151_code 11 = .ok (.putfield 15, 3) := by decide +kernel
theorem d4_14 : decode jdk_42_method_151_code 14 = .ok (.return_, 1) := by decide +kernel
theorem pn_java_lang_String : plainName "java/lang/String" = true := by first | (simp [plainName, overriddenIn]; done) | decide +kernel
theorem ef_strI (m : MethodId) (x0 : Addr) (x1 : Addr) (x2 : Int32)  : entryFrame m #[(.ref x0), (.ref x1), (.int x2)] 3 = mkF m 0 #[.val (.ref x0), .val (.ref x1), .val (.int x2)] [] := by first | (simp [entryFrame, mkF, argsToLocals, Value.category]; done) | rfl
def Q_strI (Z : State) (a1 : Addr) (b1 : Addr) (h0 : Heap) (n0 : Nat) (v : Option Value) (h : Heap) (L : List Loc) : Prop := v = none ∧ Fr n0 L ∧ Keep h0 h [a1] ∧ (Exa Z h a1 "java/lang/String") ∧ (Fld Z h a1 "java/lang/String" "value" "[B" (.ref b1)) ∧ (Fld Z h a1 "java/lang/String" "coder" "B" (.int (0 : Int32)))
set_option maxRecDepth 65536 in
set_option maxHeartbeats 40000000 in
theorem rm_strI (l : Launch) (Z : State) (a0 : Array Value) (hw : ∀ d ∈ tables_1, d.before a0 Z = true) (ws : List Jvm.Cond) (a1 : Addr) (b1 : Addr) (h0 : Heap) (n0 : Nat) (O0 : Old Z n0 h0) (F0_ : Fld Z h0 a1 "java/lang/String" "value" "[B" .null) (F1_ : Fld Z h0 a1 "java/lang/String" "coder" "B" (.int (0 : Int32))) (E2_ : Exa Z h0 a1 "java/lang/String") (G3_ : n0 ≤ a1) :
    MetFree l (⟨"java/lang/String", "<init>", "([BB)V"⟩ : MethodName) (head1 (Jvm.Cond.code (⟨"java/lang/String", "<init>", "([BB)V"⟩ : MethodName) jdk_42_method_151_code 3 none :: ws) ({ frames := 1, cells := 0, slots := 0, locals := 12 } : Room)) (fun a U => a = #[(.ref a1), (.ref b1), (.int (0 : Int32))] ∧ Z.Warmed39 U.vm ∧ U.heap = h0) (fun _ _ _ _ _ => True) (fun _ U o U' => ∃ v L, o = .returned v ∧ Q_strI Z a1 b1 h0 n0 v U'.heap L ∧ FrameEnd U o U' L ({ frames := 1, cells := 0, slots := 0, locals := 12 } : Room).cells ({ frames := 1, cells := 0, slots := 0, locals := 12 } : Room).slots) := by
  refine MetFree.of_bodySF (plainFor_of_name pn_java_lang_String) hisR ?_
  intro p e s m args below meth c s₁ Bd hml0 hP hK
  obtain ⟨rfl, hZ, hh⟩ := hP
  have hx := Bd.exec
  have hby := Bd.bytes
  have hml : c.maxLocals = 3 := hml0
  have hown : s.vm.findClass "java/lang/String" = some m.cls := findClass_of_methodNamed Bd.named
  have hnm := (name_of_methodNamed Bd.named Bd.method).1
  have X0 : Stand p l e ({ frames := 1, cells := 0, slots := 0, locals := 12 } : Room) s m #[(.ref a1), (.ref b1), (.int (0 : Int32))] below meth c s₁ [] 0 0 := Stand.of_body Bd
  have e0 : s₁.heap = h0 := by rw [← hh, Bd.state]; rfl
  have N0 := Fr.nil n0
  have g0 : Go p e below s₁ (mkF m 0 #[rv a1, rv b1, iv (0 : Int32)] []) (s₁.setTop (entryFrame m #[(.ref a1), (.ref b1), (.int (0 : Int32))] 3)) := fun t kont => castTop (ef_strI m a1 b1 (0 : Int32) ) kont
  generalize s₁.setTop (entryFrame m #[(.ref a1), (.ref b1), (.int (0 : Int32))] 3) = A0 at g0 ⊢
  have g101 : Go p e below s₁ (mkF m 1 #[rv a1, rv b1, iv (0 : Int32)] [(.ref a1)]) A0 := by
    intro t kont
    refine g0 t ?_
    refine XS.aloadN X0.here hx rfl (hb hby d4_0) rfl rfl ?_
    show Steps p.tables e below (s₁.setTop (mkF m 1 #[rv a1, rv b1, iv (0 : Int32)] [(.ref a1)])) _
    exact kont
  obtain ⟨T102, X102, e102, st102⟩ := initO X0 hx hZ hown (hw _ (List.mem_of_getElem? (i := 19) rfl)) (hw _ (List.mem_of_getElem? (i := 20) rfl)) (hw _ (List.mem_of_getElem? (i := 21) rfl)) e0 (g := (mkF m 1 #[rv a1, rv b1, iv (0 : Int32)] [(.ref a1)])) rfl (by rw [hml]; rfl) rfl (hb hby d4_1) (by decide) (W := 0) (by show 2 * 0 + _ ≤ _; exact Nat.le_of_eq rfl) (by decide)
  have g103 : Go p e below T102 (mkF m 4 #[rv a1, rv b1, iv (0 : Int32)] []) A0 := fun t kont => g101 t (st102 t kont)
  have g104 : Go p e below T102 (mkF m 6 #[rv a1, rv b1, iv (0 : Int32)] [(.ref b1), (.ref a1)]) A0 := by
    intro t kont
    refine g103 t ?_
    refine XS.aloadN X102.here hx rfl (hb hby d4_4) rfl rfl ?_
    show Steps p.tables e below (T102.setTop (mkF m 5 #[rv a1, rv b1, iv (0 : Int32)] [(.ref a1)])) _
    refine XS.aloadN X102.here hx rfl (hb hby d4_5) rfl rfl ?_
    show Steps p.tables e below (T102.setTop (mkF m 6 #[rv a1, rv b1, iv (0 : Int32)] [(.ref b1), (.ref a1)])) _
    exact kont
  obtain ⟨T105, h105, X105, e105, W105, st105⟩ := putF X102 hx hZ hown (host := "") (Or.inl (hw _ (List.mem_of_getElem? (i := 22) rfl))) Via.refl e102 F0_ E2_ (Or.inr ⟨(hw _ (List.mem_of_getElem? (i := 23) rfl)), rfl, hnm⟩) (hw _ (List.mem_of_getElem? (i := 10) rfl)) (ty := (.array .byte)) (by decide) rfl rfl (g := (mkF m 6 #[rv a1, rv b1, iv (0 : Int32)] [(.ref b1), (.ref a1)])) rfl rfl (hb hby d4_6)
  have O106 := O0.wr W105 G3_
  have y107 : Fld Z h105 a1 "java/lang/String" "value" "[B" (.ref b1) := F0_.same W105
  have N105 := Fr.snoc X105 N0 G3_
  have g108 : Go p e below T105 (mkF m 9 #[rv a1, rv b1, iv (0 : Int32)] []) A0 := fun t kont => g104 t (st105 t kont)
  have g109 : Go p e below T105 (mkF m 11 #[rv a1, rv b1, iv (0 : Int32)] [(.int (0 : Int32)), (.ref a1)]) A0 := by
    intro t kont
    refine g108 t ?_
    refine XS.aloadN X105.here hx rfl (hb hby d4_9) rfl rfl ?_
    show Steps p.tables e below (T105.setTop (mkF m 10 #[rv a1, rv b1, iv (0 : Int32)] [(.ref a1)])) _
    refine XS.iloadN X105.here hx rfl (hb hby d4_10) rfl ?_
    show Steps p.tables e below (T105.setTop (mkF m 11 #[rv a1, rv b1, iv (0 : Int32)] [(.int (0 : Int32)), (.ref a1)])) _
    exact kont
  have y110 : Exa Z h105 a1 "java/lang/String" := (E2_.wr W105)
  have y111 : Fld Z h105 a1 "java/lang/String" "coder" "B" (.int (0 : Int32)) := (F1_.other W105 (Or.inr (slot_ne (Or.inr (hw _ (List.mem_of_getElem? (i := 25) rfl))) (Or.inr (hw _ (List.mem_of_getElem? (i := 23) rfl))) (by decide) (t := .byte) (t' := (.array .byte)) (by decide) (by decide))))
  obtain ⟨T112, h112, X112, e112, W112, st112⟩ := putFN X105 hx hZ hown (hw _ (List.mem_of_getElem? (i := 24) rfl)) Via.refl e105 y111 y110 (Or.inr ⟨(hw _ (List.mem_of_getElem? (i := 25) rfl)), rfl, hnm⟩) (hw _ (List.mem_of_getElem? (i := 10) rfl)) (ty := .byte) (v := (.int (0 : Int32))) (v' := (.int (0 : Int32))) (by decide) (own_nw_byte (by decide : nar .byte (0 : Int32) = (0 : Int32))) (own_ft_byte (by decide : nar .byte (0 : Int32) = (0 : Int32))) (g := (mkF m 11 #[rv a1, rv b1, iv (0 : Int32)] [(.int (0 : Int32)), (.ref a1)])) rfl rfl (hb hby d4_11)
  have O113 := O106.wr W112 G3_
  have y114 : Fld Z h112 a1 "java/lang/String" "coder" "B" (.int (0 : Int32)) := y111.same W112
  have N112 := Fr.snoc X112 N105 G3_
  have g115 : Go p e below T112 (mkF m 14 #[rv a1, rv b1, iv (0 : Int32)] []) A0 := fun t kont => g109 t (st112 t kont)
  have K116 : Keep h0 h112 [a1] := (((Keep.refl h0 [a1]).wr W105 (Or.inl (List.mem_of_getElem? (i := 0) rfl))).wr W112 (Or.inl (List.mem_of_getElem? (i := 0) rfl)))
  have y117 : Exa Z h112 a1 "java/lang/String" := (y110.wr W112)
  have y118 : Fld Z h112 a1 "java/lang/String" "value" "[B" (.ref b1) := (y107.other W112 (Or.inr (slot_ne (Or.inr (hw _ (List.mem_of_getElem? (i := 23) rfl))) (Or.inr (hw _ (List.mem_of_getElem? (i := 25) rfl))) (by decide) (t := (.array .byte)) (t' := .byte) (by decide) (by decide))))
  obtain ⟨fs, hr, hrun, hended, hW, hsame⟩ := X112.leave (v := none) (fun _ => rfl)
  refine ⟨_, _, g115 _ (X112.returnOut hx Bd.returns (hb hby d4_14) hr), hrun, hended, _, _, rfl, ?_, ⟨_, rfl⟩, hW, hsame.mono (by decide) (by decide)⟩
  show Q_strI Z a1 b1 h0 n0 _ T112.heap _
  rw [e112]
  exact ⟨rfl, N112, K116, y117, y118, y114⟩
theorem d1_0 : decode jdk_42_method_139_code 0 = .ok (.getstatic 38, 3) := by decide +kernel
theorem d1_3 : decode jdk_42_method_139_code 3 = .ok (.ifCond .eq 23, 3) := by decide +kernel
theorem d1_6 : decode jdk_42_method_139_code 6 = .ok (.iload_n 0, 1) := by decide +kernel
theorem d1_7 : decode jdk_42_method_139_code 7 = .ok (.invokestatic 1015, 3) := by decide +kernel
theorem pd_0 : parseMethodDescriptor "(C)Z" = some ⟨[.char], some .boolean⟩ := by decide +kernel
theorem d1_10 : decode jdk_42_method_139_code 10 = .ok (.ifCond .eq 16, 3) := by decide +kernel
theorem d1_13 : decode jdk_42_method_139_code 13 = .ok (.new 10, 3) := by decide +kernel
theorem d1_16 : decode jdk_42_method_139_code 16 = .ok (.dup, 1) := by decide +kernel
theorem d1_17 : decode jdk_42_method_139_code 17 = .ok (.iload_n 0, 1) := by decide +kernel
theorem d1_18 : decode jdk_42_method_139_code 18 = .ok (.invokestatic 1018, 3) := by decide +kernel
theorem pd_1 : parseMethodDescriptor "(C)[B" = some ⟨[.char], some (.array .byte)⟩ := by decide +kernel
theorem d1_21 : decode jdk_42_method_139_code 21 = .ok (.iconst 0, 1) := by decide +kernel
theorem d1_22 : decode jdk_42_method_139_code 22 = .ok (.invokespecial 209, 3) := by decide +kernel
theorem pd_2 : parseMethodDescriptor "([BB)V" = some ⟨[(.array .byte), .byte], none⟩ := by decide +kernel
theorem d1_25 : decode jdk_42_method_139_code 25 = .ok (.areturn, 1) := by decide +kernel
theorem ef_valC (m : MethodId) (x0 : Int32)  : entryFrame m #[(.int x0)] 1 = mkF m 0 #[.val (.int x0)] [] := by first | (simp [entryFrame, mkF, argsToLocals, Value.category]; done) | rfl
def Q_valC (Z : State) (ch : Int32) (cs : Int32) (h0 : Heap) (n0 : Nat) (v : Option Value) (h : Heap) (L : List Loc) : Prop := ∃ (r : Addr), ∃ (b : Addr), ∃ (kid : ClassId), v = some (.ref r) ∧ Fr n0 L ∧ Keep h0 h [] ∧ h0.size ≤ r ∧ (Exa Z h r "java/lang/String") ∧ (Fld Z h r "java/lang/String" "coder" "B" (.int (0 : Int32))) ∧ (Fld Z h r "java/lang/String" "value" "[B" (.ref b)) ∧ h0.size ≤ b ∧ (Arv Z h b kid .byte (1 : Int32) [(.int (ch.toInt8.toInt32))] (.int (0 : Int32)))
set_option maxRecDepth 65536 in
set_option maxHeartbeats 40000000 in
theorem rm_valC (l : Launch) (Z : State) (a0 : Array Value) (hw : ∀ d ∈ tables_1, d.before a0 Z = true) (ws : List Jvm.Cond) (ch : Int32) (cs : Int32) (h0 : Heap) (n0 : Nat) (O0 : Old Z n0 h0) (S0_ : Sta Z Z.heap "java/lang/String" "COMPACT_STRINGS" "Z" (.int cs)) (hcs : ¬ (cs = (0 : Int32))) (h1 : ¬ ((255 : Int32) < ch)) :
    MetFree l (⟨"java/lang/String", "valueOf", "(C)Ljava/lang/String;"⟩ : MethodName) (head1 (Jvm.Cond.code (⟨"java/lang/String", "valueOf", "(C)Ljava/lang/String;"⟩ : MethodName) jdk_42_method_139_code 1 (some (.object "java/lang/String")) :: ws) ({ frames := 2, cells := 2, slots := 5, locals := 27 } : Room)) (fun a U => a = #[(.int ch)] ∧ Z.Warmed39 U.vm ∧ U.heap = h0) (fun _ _ _ _ _ => True) (fun _ U o U' => ∃ v L, o = .returned v ∧ Q_valC Z ch cs h0 n0 v U'.heap L ∧ FrameEnd U o U' L ({ frames := 2, cells := 2, slots := 5, locals := 27 } : Room).cells ({ frames := 2, cells := 2, slots := 5, locals := 27 } : Room).slots) := by
  refine MetFree.of_bodySF (plainFor_of_name pn_java_lang_String) hisR ?_
  intro p e s m args below meth c s₁ Bd hml0 hP hK
  obtain ⟨rfl, hZ, hh⟩ := hP
  have hx := Bd.exec
  have hby := Bd.bytes
  have hml : c.maxLocals = 1 := hml0
  have hown : s.vm.findClass "java/lang/String" = some m.cls := findClass_of_methodNamed Bd.named
  have hnm := (name_of_methodNamed Bd.named Bd.method).1
  have X0 : Stand p l e ({ frames := 2, cells := 2, slots := 5, locals := 27 } : Room) s m #[(.int ch)] below meth c s₁ [] 0 0 := Stand.of_body Bd
  have e0 : s₁.heap = h0 := by rw [← hh, Bd.state]; rfl
  have N0 := Fr.nil n0
  have g0 : Go p e below s₁ (mkF m 0 #[iv ch] []) (s₁.setTop (entryFrame m #[(.int ch)] 1)) := fun t kont => castTop (ef_valC m ch ) kont
  generalize s₁.setTop (entryFrame m #[(.int ch)] 1) = A0 at g0 ⊢
  have y101 : Sta Z h0 "java/lang/String" "COMPACT_STRINGS" "Z" (.int cs) := S0_.ext O0.2
  obtain ⟨T102, X102, e102, st102⟩ := getS2 X0 hx hZ hown (host := "") (Or.inl (hw _ (List.mem_of_getElem? (i := 4) rfl))) Via.refl e0 y101 (g := (mkF m 0 #[iv ch] [])) rfl (hb hby d1_0)
  have g103 : Go p e below T102 (mkF m 3 #[iv ch] [(.int cs)]) A0 := fun t kont => g0 t (st102 t kont)
  have g104 : Go p e below T102 (mkF m 7 #[iv ch] [(.int ch)]) A0 := by
    intro t kont
    refine g103 t ?_
    refine XS.ifNo X102.here hx rfl (hb hby d1_3) rfl ((if0 _ _).trans (feq hcs).1) ?_
    show Steps p.tables e below (T102.setTop (mkF m 6 #[iv ch] [])) _
    refine XS.iloadN X102.here hx rfl (hb hby d1_6) rfl ?_
    show Steps p.tables e below (T102.setTop (mkF m 7 #[iv ch] [(.int ch)])) _
    exact kont
  obtain ⟨_, _, ⟨T105, L105, k105, n105⟩, -, X105, ⟨Lc105, hQ105, l105, y105, z105⟩, st105⟩ := Jvm.LawKit.callS X102 hx (y := (⟨"java/lang/StringLatin1", "canEncode", "(C)Z"⟩ : MethodName)) hown (mvT hZ (hw _ (List.mem_of_getElem? (i := 5) rfl))) (mvT hZ (hw _ (List.mem_of_getElem? (i := 6) rfl))) (mvT hZ (hw _ (List.mem_of_getElem? (i := 7) rfl))) (mvT hZ (hw _ (List.mem_of_getElem? (i := 8) rfl))) (by decide) (backOf (W := 0) (rm_canE l Z a0 hw [] ch h0 n0 O0 h1) hZ (hw _ (List.mem_of_getElem? (i := 8) rfl)) (hw _ (List.mem_of_getElem? (i := 7) rfl)) (by decide) (by decide)) (g := (mkF m 7 #[iv ch] [(.int ch)])) rfl (by rw [hml]; rfl) (argsL := [(.int ch)]) (rest := []) (lenOf pd_0 rfl) rfl (by show 2 * 0 + _ ≤ _; exact Nat.le_of_eq rfl) (hb hby d1_7) (fun _ _ => ⟨rfl, e102, (by decide : 0 + 0 ≤ _), (by decide : 0 + 0 ≤ _)⟩)
  dsimp only [Pt.U, Pt.locs, Pt.cells, Pt.slots] at X105 l105 y105 z105 st105 hQ105
  subst l105 y105 z105
  obtain ⟨rfl, M105, e105⟩ := hQ105
  have N105 := Fr.app N0 M105
  have g106 : Go p e below T105 (mkF m 10 #[iv ch] [(.int (1 : Int32))]) A0 := fun t kont => g104 t (st105 t kont)
  have g107 : Go p e below T105 (mkF m 13 #[iv ch] []) A0 := by
    intro t kont
    refine g106 t ?_
    refine XS.ifNo X105.here hx rfl (hb hby d1_10) rfl ((if0 _ _).trans (feq (by decide : ¬ ((1 : Int32) = (0 : Int32)))).1) ?_
    show Steps p.tables e below (T105.setTop (mkF m 13 #[iv ch] [])) _
    exact kont
  obtain ⟨T108, h108, X108, e108, E108, A108, D108, -, st108⟩ := newO X105 hx hZ hown (hw _ (List.mem_of_getElem? (i := 9) rfl)) (hw _ (List.mem_of_getElem? (i := 10) rfl)) (hw _ (List.mem_of_getElem? (i := 2) rfl)) e105 (g := (mkF m 13 #[iv ch] [])) rfl (hb hby d1_13) (by decide) (by decide)
  obtain ⟨b108, gb108⟩ : ∃ z, z = h0.size := ⟨_, rfl⟩
  rw [← gb108] at A108 D108 st108
  have O109 := O0.ext E108
  have y110 : Fld Z h108 b108 "java/lang/String" "value" "[B" .null := D108 (Or.inr (hw _ (List.mem_of_getElem? (i := 23) rfl))) (ty := (.array .byte)) (by decide)
  have y111 : Fld Z h108 b108 "java/lang/String" "coder" "B" (.int (0 : Int32)) := D108 (Or.inr (hw _ (List.mem_of_getElem? (i := 25) rfl))) (ty := .byte) (by decide)
  have g112 : Go p e below T108 (mkF m 16 #[iv ch] [(.ref b108)]) A0 := fun t kont => g107 t (st108 t kont)
  have g113 : Go p e below T108 (mkF m 18 #[iv ch] [(.int ch), (.ref b108), (.ref b108)]) A0 := by
    intro t kont
    refine g112 t ?_
    refine XS.dup X108.here hx rfl (hb hby d1_16) rfl rfl ?_
    show Steps p.tables e below (T108.setTop (mkF m 17 #[iv ch] [(.ref b108), (.ref b108)])) _
    refine XS.iloadN X108.here hx rfl (hb hby d1_17) rfl ?_
    show Steps p.tables e below (T108.setTop (mkF m 18 #[iv ch] [(.int ch), (.ref b108), (.ref b108)])) _
    exact kont
  obtain ⟨_, _, ⟨T114, L114, k114, n114⟩, -, X114, ⟨Lc114, hQ114, l114, y114, z114⟩, st114⟩ := Jvm.LawKit.callS X108 hx (y := (⟨"java/lang/StringLatin1", "toBytes", "(C)[B"⟩ : MethodName)) hown (mvT hZ (hw _ (List.mem_of_getElem? (i := 11) rfl))) (mvT hZ (hw _ (List.mem_of_getElem? (i := 12) rfl))) (mvT hZ (hw _ (List.mem_of_getElem? (i := 7) rfl))) (mvT hZ (hw _ (List.mem_of_getElem? (i := 13) rfl))) (by decide) (backOf (W := 2) (rm_toB l Z a0 hw [] ch h108 n0 O109 ) hZ (hw _ (List.mem_of_getElem? (i := 13) rfl)) (hw _ (List.mem_of_getElem? (i := 7) rfl)) (by decide) (by decide)) (g := (mkF m 18 #[iv ch] [(.int ch), (.ref b108), (.ref b108)])) rfl (by rw [hml]; rfl) (argsL := [(.int ch)]) (rest := [(.ref b108), (.ref b108)]) (lenOf pd_1 rfl) rfl (by show 2 * 0 + _ ≤ _; exact Nat.le_of_eq rfl) (hb hby d1_18) (fun _ _ => ⟨rfl, e108, (by decide : 1 + 1 ≤ _), (by decide : 4 + 1 ≤ _)⟩)
  dsimp only [Pt.U, Pt.locs, Pt.cells, Pt.slots] at X114 l114 y114 z114 st114 hQ114
  subst l114 y114 z114
  obtain ⟨r115, r116, rfl, M114, K114, y117, y118, y119⟩ := hQ114
  have N114 := Fr.app N105 M114
  have O120 := O109.keep K114 all0
  have g121 : Go p e below T114 (mkF m 21 #[iv ch] [(.ref r115), (.ref b108), (.ref b108)]) A0 := fun t kont => g113 t (st114 t kont)
  have g122 : Go p e below T114 (mkF m 22 #[iv ch] [(.int (0 : Int32)), (.ref r115), (.ref b108), (.ref b108)]) A0 := by
    intro t kont
    refine g121 t ?_
    refine XS.iconst X114.here hx rfl (hb hby d1_21) ?_
    show Steps p.tables e below (T114.setTop (mkF m 22 #[iv ch] [(.int (0 : Int32)), (.ref r115), (.ref b108), (.ref b108)])) _
    exact kont
  have y124 : Fld Z T114.heap b108 "java/lang/String" "value" "[B" .null := (y110.keep K114 nin0)
  have y125 : Fld Z T114.heap b108 "java/lang/String" "coder" "B" (.int (0 : Int32)) := (y111.keep K114 nin0)
  have y126 : Exa Z T114.heap b108 "java/lang/String" := (A108.keep K114)
  have ge127 : n0 ≤ b108 := Nat.le_trans (own_old_le O0) (Nat.le_of_eq gb108.symm)
  obtain ⟨_, _, ⟨T123, L123, k123, n123⟩, -, X123, ⟨Lc123, hQ123, l123, y123, z123⟩, st123⟩ := X114.specialBack hx (y := (⟨"java/lang/String", "<init>", "([BB)V"⟩ : MethodName)) rfl hown (mvT hZ (hw _ (List.mem_of_getElem? (i := 15) rfl))) (mvT hZ (hw _ (List.mem_of_getElem? (i := 16) rfl))) (mvT hZ (hw _ (List.mem_of_getElem? (i := 18) rfl))) (by decide) (backOf (W := 1) (rm_strI l Z a0 hw [] b108 r115 T114.heap n0 O120 y124 y125 y126 ge127) hZ (hw _ (List.mem_of_getElem? (i := 18) rfl)) (hw _ (List.mem_of_getElem? (i := 2) rfl)) (by decide) (by decide)) (g := (mkF m 22 #[iv ch] [(.int (0 : Int32)), (.ref r115), (.ref b108), (.ref b108)])) rfl (by rw [hml]; rfl) (Steps.refl _) (a := b108) (argsL := [(.ref r115), (.int (0 : Int32))]) (rest := [(.ref b108)]) (lenOf pd_2 rfl) rfl (by show 2 * 0 + _ ≤ _; exact Nat.le_of_eq rfl) (hb hby d1_22) (fun _ _ => ⟨rfl, rfl, (by decide : 2 + 0 ≤ _), (by decide : 5 + 0 ≤ _)⟩)
  dsimp only [Pt.U, Pt.locs, Pt.cells, Pt.slots] at X123 l123 y123 z123 st123 hQ123
  subst l123 y123 z123
  obtain ⟨rfl, M123, K123, y128, y129, y130⟩ := hQ123
  have N123 := Fr.app N114 M123
  have O131 := O120.keep K123 (allS ge127 all0)
  have g132 : Go p e below T123 (mkF m 25 #[iv ch] [(.ref b108)]) A0 := fun t kont => g122 t (st123.trans kont)
  have K133 : Keep h0 T123.heap [] := ((((Keep.refl h0 []).ext E108).trans K114 (fun x hx => nomatch hx)).trans K123 (allS (P := fun x => x ∈ [] ∨ h0.size ≤ x) (Or.inr (Nat.le_of_eq gb108.symm)) all0))
  have y134 : Arv Z T123.heap r115 r116 .byte (1 : Int32) [(.int (ch.toInt8.toInt32))] (.int (0 : Int32)) := (y119.keep K123 (ninS (Ne.symm (Nat.ne_of_lt (Nat.lt_of_lt_of_le A108.lt y117))) nin0))
  obtain ⟨fs, hr, hrun, hended, hW, hsame⟩ := X123.leave (v := some (.ref b108)) (fun h => by rw [Bd.returns] at h; cases h)
  refine ⟨_, _, g132 _ (retOut X123 hx Bd.returns rfl (Or.inr (Or.inr (Or.inr (Or.inr ⟨rfl, rfl, rfl⟩)))) (hb hby d1_25) hr), hrun, hended, _, _, rfl, ?_, ⟨_, rfl⟩, hW, hsame.mono (by decide) (by decide)⟩
  show Q_valC Z ch cs h0 n0 _ T123.heap _
  exact ⟨b108, r115, r116, rfl, N123, K133, (Nat.le_of_eq gb108.symm), y128, y130, y129, (Nat.le_trans E108.1 y117), y134⟩
theorem d13_0 : decode jdk_52_method_21_code 0 = .ok (.iconst 0, 1) := by decide +kernel
theorem d13_1 : decode jdk_52_method_21_code 1 = .ok (.istore 5, 2) := by decide +kernel
theorem d13_3 : decode jdk_52_method_21_code 3 = .ok (.iload 5, 2) := by decide +kernel
theorem d13_5 : decode jdk_52_method_21_code 5 = .ok (.iload 4, 2) := by decide +kernel
theorem d13_7 : decode jdk_52_method_21_code 7 = .ok (.if_icmp .ge 37, 3) := by decide +kernel
theorem d13_10 : decode jdk_52_method_21_code 10 = .ok (.aload_n 0, 1) := by decide +kernel
theorem d13_11 : decode jdk_52_method_21_code 11 = .ok (.iload_n 1, 1) := by decide +kernel
theorem d13_12 : decode jdk_52_method_21_code 12 = .ok (.caload, 1) := by decide +kernel
theorem d13_13 : decode jdk_52_method_21_code 13 = .ok (.istore 6, 2) := by decide +kernel
theorem d13_15 : decode jdk_52_method_21_code 15 = .ok (.iload 6, 2) := by decide +kernel
theorem d13_17 : decode jdk_52_method_21_code 17 = .ok (.sipush 255, 3) := by decide +kernel
theorem d13_20 : decode jdk_52_method_21_code 20 = .ok (.if_icmp .le 6, 3) := by decide +kernel
theorem d13_26 : decode jdk_52_method_21_code 26 = .ok (.aload_n 2, 1) := by decide +kernel
theorem d13_27 : decode jdk_52_method_21_code 27 = .ok (.iload_n 3, 1) := by decide +kernel
theorem d13_28 : decode jdk_52_method_21_code 28 = .ok (.iload 6, 2) := by decide +kernel
theorem d13_30 : decode jdk_52_method_21_code 30 = .ok (.i2b, 1) := by decide +kernel
theorem d13_31 : decode jdk_52_method_21_code 31 = .ok (.bastore, 1) := by decide +kernel
theorem d13_32 : decode jdk_52_method_21_code 32 = .ok (.iinc 1 1, 3) := by decide +kernel
theorem d13_35 : decode jdk_52_method_21_code 35 = .ok (.iinc 3 1, 3) := by decide +kernel
theorem d13_38 : decode jdk_52_method_21_code 38 = .ok (.iinc 5 1, 3) := by decide +kernel
theorem d13_41 : decode jdk_52_method_21_code 41 = .ok (.goto (-38), 3) := by decide +kernel
theorem d13_44 : decode jdk_52_method_21_code 44 = .ok (.iload 4, 2) := by decide +kernel
theorem d13_46 : decode jdk_52_method_21_code 46 = .ok (.ireturn, 1) := by decide +kernel
theorem pn_java_lang_StringUTF16 : plainName "java/lang/StringUTF16" = true := by first | (simp [plainName, overriddenIn]; done) | decide +kernel
theorem ef_cmp2 (m : MethodId) (x0 : Addr) (x1 : Int32) (x2 : Addr) (x3 : Int32) (x4 : Int32)  : entryFrame m #[(.ref x0), (.int x1), (.ref x2), (.int x3), (.int x4)] 7 = mkF m 0 #[.val (.ref x0), .val (.int x1), .val (.ref x2), .val (.int x3), .val (.int x4), .unset, .unset] [] := by first | (simp [entryFrame, mkF, argsToLocals, Value.category]; done) | rfl
def Q_cmp2 (Z : State) (s1 : Addr) (d1 : Addr) (ks : ClassId) (kd : ClassId) (c0_ : Int32) (c1_ : Int32) (h0 : Heap) (n0 : Nat) (v : Option Value) (h : Heap) (L : List Loc) : Prop := v = some (.int (2 : Int32)) ∧ Fr n0 L ∧ Keep h0 h [d1] ∧ (Arv Z h d1 kd .byte (2 : Int32) [(.int (c0_.toInt8.toInt32)), (.int (c1_.toInt8.toInt32))] (.int (0 : Int32)))
set_option maxRecDepth 65536 in
set_option maxHeartbeats 40000000 in
theorem rm_cmp2 (l : Launch) (Z : State) (a0 : Array Value) (hw : ∀ d ∈ tables_1, d.before a0 Z = true) (ws : List Jvm.Cond) (s1 : Addr) (d1 : Addr) (ks : ClassId) (kd : ClassId) (c0_ : Int32) (c1_ : Int32) (h0 : Heap) (n0 : Nat) (O0 : Old Z n0 h0) (A0_ : Arv Z h0 s1 ks .char (2 : Int32) [(.int c0_), (.int c1_)] (.int (0 : Int32))) (A1_ : Arv Z h0 d1 kd .byte (2 : Int32) [(.int (0 : Int32)), (.int (0 : Int32))] (.int (0 : Int32))) (G2_ : n0 ≤ d1) (NE3_ : ¬ (s1 = d1)) (hc0 : ¬ ((255 : Int32) < c0_)) (hc1 : ¬ ((255 : Int32) < c1_)) :
    MetFree l (⟨"java/lang/StringUTF16", "compress", "([CI[BII)I"⟩ : MethodName) (head1 (Jvm.Cond.code (⟨"java/lang/StringUTF16", "compress", "([CI[BII)I"⟩ : MethodName) jdk_52_method_21_code 7 (some .int) :: ws) ({ frames := 0, cells := 0, slots := 0, locals := 0 } : Room)) (fun a U => a = #[(.ref s1), (.int (0 : Int32)), (.ref d1), (.int (0 : Int32)), (.int (2 : Int32))] ∧ Z.Warmed39 U.vm ∧ U.heap = h0) (fun _ _ _ _ _ => True) (fun _ U o U' => ∃ v L, o = .returned v ∧ Q_cmp2 Z s1 d1 ks kd c0_ c1_ h0 n0 v U'.heap L ∧ FrameEnd U o U' L ({ frames := 0, cells := 0, slots := 0, locals := 0 } : Room).cells ({ frames := 0, cells := 0, slots := 0, locals := 0 } : Room).slots) := by
  refine MetFree.of_bodySF (plainFor_of_name pn_java_lang_StringUTF16) hisR ?_
  intro p e s m args below meth c s₁ Bd hml0 hP hK
  obtain ⟨rfl, hZ, hh⟩ := hP
  have hx := Bd.exec
  have hby := Bd.bytes
  have hml : c.maxLocals = 7 := hml0
  have hown : s.vm.findClass "java/lang/StringUTF16" = some m.cls := findClass_of_methodNamed Bd.named
  have hnm := (name_of_methodNamed Bd.named Bd.method).1
  have X0 : Stand p l e ({ frames := 0, cells := 0, slots := 0, locals := 0 } : Room) s m #[(.ref s1), (.int (0 : Int32)), (.ref d1), (.int (0 : Int32)), (.int (2 : Int32))] below meth c s₁ [] 0 0 := Stand.of_body Bd
  have e0 : s₁.heap = h0 := by rw [← hh, Bd.state]; rfl
  have N0 := Fr.nil n0
  have g0 : Go p e below s₁ (mkF m 0 #[rv s1, iv (0 : Int32), rv d1, iv (0 : Int32), iv (2 : Int32), .unset, .unset] []) (s₁.setTop (entryFrame m #[(.ref s1), (.int (0 : Int32)), (.ref d1), (.int (0 : Int32)), (.int (2 : Int32))] 7)) := fun t kont => castTop (ef_cmp2 m s1 (0 : Int32) d1 (0 : Int32) (2 : Int32) ) kont
  generalize s₁.setTop (entryFrame m #[(.ref s1), (.int (0 : Int32)), (.ref d1), (.int (0 : Int32)), (.int (2 : Int32))] 7) = A0 at g0 ⊢
  have g101 : Go p e below s₁ (mkF m 12 #[rv s1, iv (0 : Int32), rv d1, iv (0 : Int32), iv (2 : Int32), iv (0 : Int32), .unset] [(.int (0 : Int32)), (.ref s1)]) A0 := by
    intro t kont
    refine g0 t ?_
    refine XS.iconst X0.here hx rfl (hb hby d13_0) ?_
    show Steps p.tables e below (s₁.setTop (mkF m 1 #[rv s1, iv (0 : Int32), rv d1, iv (0 : Int32), iv (2 : Int32), .unset, .unset] [(.int (0 : Int32))])) _
    refine XS.istore X0.here hx rfl (hb hby d13_1) rfl (l' := #[rv s1, iv (0 : Int32), rv d1, iv (0 : Int32), iv (2 : Int32), iv (0 : Int32), .unset]) rfl ?_
    show Steps p.tables e below (s₁.setTop (mkF m 3 #[rv s1, iv (0 : Int32), rv d1, iv (0 : Int32), iv (2 : Int32), iv (0 : Int32), .unset] [])) _
    refine XS.iload X0.here hx rfl (hb hby d13_3) rfl ?_
    show Steps p.tables e below (s₁.setTop (mkF m 5 #[rv s1, iv (0 : Int32), rv d1, iv (0 : Int32), iv (2 : Int32), iv (0 : Int32), .unset] [(.int (0 : Int32))])) _
    refine XS.iload X0.here hx rfl (hb hby d13_5) rfl ?_
    show Steps p.tables e below (s₁.setTop (mkF m 7 #[rv s1, iv (0 : Int32), rv d1, iv (0 : Int32), iv (2 : Int32), iv (0 : Int32), .unset] [(.int (2 : Int32)), (.int (0 : Int32))])) _
    refine XS.icmpNo X0.here hx rfl (hb hby d13_7) rfl (tlt (by decide : (0 : Int32) < (2 : Int32))).2.1 ?_
    show Steps p.tables e below (s₁.setTop (mkF m 10 #[rv s1, iv (0 : Int32), rv d1, iv (0 : Int32), iv (2 : Int32), iv (0 : Int32), .unset] [])) _
    refine XS.aloadN X0.here hx rfl (hb hby d13_10) rfl rfl ?_
    show Steps p.tables e below (s₁.setTop (mkF m 11 #[rv s1, iv (0 : Int32), rv d1, iv (0 : Int32), iv (2 : Int32), iv (0 : Int32), .unset] [(.ref s1)])) _
    refine XS.iloadN X0.here hx rfl (hb hby d13_11) rfl ?_
    show Steps p.tables e below (s₁.setTop (mkF m 12 #[rv s1, iv (0 : Int32), rv d1, iv (0 : Int32), iv (2 : Int32), iv (0 : Int32), .unset] [(.int (0 : Int32)), (.ref s1)])) _
    exact kont
  have zz102 := A0_
  obtain ⟨cl102, Ar102, q102, S102, M102, H102, G102⟩ := zz102
  have in102 : ¬ ((0 : Int32) < 0 ∨ cl102.slots.size ≤ ((0 : Int32)).toNatClampNeg) := inb_of S102 ⟨by decide, by decide⟩
  have at102 : cl102.slots[((0 : Int32)).toNatClampNeg]? = some (.int c0_) := Has.at H102 in102 rfl
  have g103 : Go p e below s₁ (mkF m 13 #[rv s1, iv (0 : Int32), rv d1, iv (0 : Int32), iv (2 : Int32), iv (0 : Int32), .unset] [(.int c0_)]) A0 := fun t kont => g101 t (X0.caload hx (j := (0 : Int32)) (v := (.int c0_)) (by rw [e0]; exact Ar102.1) (State.isArrayOf_alike hZ.alike Ar102.2.1) Ar102.2.2 in102 at102 (g := (mkF m 12 #[rv s1, iv (0 : Int32), rv d1, iv (0 : Int32), iv (2 : Int32), iv (0 : Int32), .unset] [(.int (0 : Int32)), (.ref s1)])) rfl rfl (hb hby d13_12) t kont)
  have g104 : Go p e below s₁ (mkF m 31 #[rv s1, iv (0 : Int32), rv d1, iv (0 : Int32), iv (2 : Int32), iv (0 : Int32), iv c0_] [(.int (c0_.toInt8.toInt32)), (.int (0 : Int32)), (.ref d1)]) A0 := by
    intro t kont
    refine g103 t ?_
    refine XS.istore X0.here hx rfl (hb hby d13_13) rfl (l' := #[rv s1, iv (0 : Int32), rv d1, iv (0 : Int32), iv (2 : Int32), iv (0 : Int32), iv c0_]) rfl ?_
    show Steps p.tables e below (s₁.setTop (mkF m 15 #[rv s1, iv (0 : Int32), rv d1, iv (0 : Int32), iv (2 : Int32), iv (0 : Int32), iv c0_] [])) _
    refine XS.iload X0.here hx rfl (hb hby d13_15) rfl ?_
    show Steps p.tables e below (s₁.setTop (mkF m 17 #[rv s1, iv (0 : Int32), rv d1, iv (0 : Int32), iv (2 : Int32), iv (0 : Int32), iv c0_] [(.int c0_)])) _
    refine XS.sipush X0.here hx rfl (hb hby d13_17) ?_
    show Steps p.tables e below (s₁.setTop (mkF m 20 #[rv s1, iv (0 : Int32), rv d1, iv (0 : Int32), iv (2 : Int32), iv (0 : Int32), iv c0_] [(.int (255 : Int32)), (.int c0_)])) _
    refine XS.icmpYes X0.here hx rfl (pc0 := 20) (pc' := 26) rfl (hb hby d13_20) rfl (flt hc0).2.2.2 (by decide) (by decide) ?_
    show Steps p.tables e below (s₁.setTop (mkF m 26 #[rv s1, iv (0 : Int32), rv d1, iv (0 : Int32), iv (2 : Int32), iv (0 : Int32), iv c0_] [])) _
    refine XS.aloadN X0.here hx rfl (hb hby d13_26) rfl rfl ?_
    show Steps p.tables e below (s₁.setTop (mkF m 27 #[rv s1, iv (0 : Int32), rv d1, iv (0 : Int32), iv (2 : Int32), iv (0 : Int32), iv c0_] [(.ref d1)])) _
    refine XS.iloadN X0.here hx rfl (hb hby d13_27) rfl ?_
    show Steps p.tables e below (s₁.setTop (mkF m 28 #[rv s1, iv (0 : Int32), rv d1, iv (0 : Int32), iv (2 : Int32), iv (0 : Int32), iv c0_] [(.int (0 : Int32)), (.ref d1)])) _
    refine XS.iload X0.here hx rfl (hb hby d13_28) rfl ?_
    show Steps p.tables e below (s₁.setTop (mkF m 30 #[rv s1, iv (0 : Int32), rv d1, iv (0 : Int32), iv (2 : Int32), iv (0 : Int32), iv c0_] [(.int c0_), (.int (0 : Int32)), (.ref d1)])) _
    refine XS.i2b X0.here hx rfl (hb hby d13_30) rfl ?_
    show Steps p.tables e below (s₁.setTop (mkF m 31 #[rv s1, iv (0 : Int32), rv d1, iv (0 : Int32), iv (2 : Int32), iv (0 : Int32), iv c0_] [(.int (c0_.toInt8.toInt32)), (.int (0 : Int32)), (.ref d1)])) _
    exact kont
  have zz105 := A1_
  obtain ⟨cl105, Ar105, q105, S105, M105, H105, G105⟩ := zz105
  have in105 : ¬ ((0 : Int32) < 0 ∨ cl105.slots.size ≤ ((0 : Int32)).toNatClampNeg) := inb_of S105 ⟨by decide, by decide⟩
  obtain ⟨T105, h105, X105, e105, W105, st105⟩ := stB X0 hx hZ e0 Ar105 (j := (0 : Int32)) in105 (g := (mkF m 31 #[rv s1, iv (0 : Int32), rv d1, iv (0 : Int32), iv (2 : Int32), iv (0 : Int32), iv c0_] [(.int (c0_.toInt8.toInt32)), (.int (0 : Int32)), (.ref d1)])) rfl rfl (hb hby d13_31)
  rw [show nar .byte (c0_.toInt8.toInt32) = (c0_.toInt8.toInt32) from (own_narb _)] at W105
  have O106 := O0.wr W105 G2_
  have y107 : Arv Z h105 d1 kd .byte (2 : Int32) [(.int (c0_.toInt8.toInt32)), (.int (0 : Int32))] (.int (0 : Int32)) := Arv.set Ar105 q105 S105 M105 H105 G105 (own_ft_byte (z := (c0_.toInt8.toInt32)) (own_narb _)) W105 0 rfl (Nat.le_of_ble_eq_true rfl)
  have N105 := Fr.snoc X105 N0 G2_
  have g108 : Go p e below T105 (mkF m 32 #[rv s1, iv (0 : Int32), rv d1, iv (0 : Int32), iv (2 : Int32), iv (0 : Int32), iv c0_] []) A0 := fun t kont => g104 t (st105 t kont)
  have g109 : Go p e below T105 (mkF m 12 #[rv s1, iv (1 : Int32), rv d1, iv (1 : Int32), iv (2 : Int32), iv (1 : Int32), iv c0_] [(.int (1 : Int32)), (.ref s1)]) A0 := by
    intro t kont
    refine g108 t ?_
    refine XS.iinc X105.here hx rfl (hb hby d13_32) rfl (l' := #[rv s1, iv (1 : Int32), rv d1, iv (0 : Int32), iv (2 : Int32), iv (0 : Int32), iv c0_]) rfl ?_
    show Steps p.tables e below (T105.setTop (mkF m 35 #[rv s1, iv (1 : Int32), rv d1, iv (0 : Int32), iv (2 : Int32), iv (0 : Int32), iv c0_] [])) _
    refine XS.iinc X105.here hx rfl (hb hby d13_35) rfl (l' := #[rv s1, iv (1 : Int32), rv d1, iv (1 : Int32), iv (2 : Int32), iv (0 : Int32), iv c0_]) rfl ?_
    show Steps p.tables e below (T105.setTop (mkF m 38 #[rv s1, iv (1 : Int32), rv d1, iv (1 : Int32), iv (2 : Int32), iv (0 : Int32), iv c0_] [])) _
    refine XS.iinc X105.here hx rfl (hb hby d13_38) rfl (l' := #[rv s1, iv (1 : Int32), rv d1, iv (1 : Int32), iv (2 : Int32), iv (1 : Int32), iv c0_]) rfl ?_
    show Steps p.tables e below (T105.setTop (mkF m 41 #[rv s1, iv (1 : Int32), rv d1, iv (1 : Int32), iv (2 : Int32), iv (1 : Int32), iv c0_] [])) _
    refine XS.goto X105.here hx rfl (pc0 := 41) (pc' := 3) rfl (hb hby d13_41) (by decide) (by decide) ?_
    show Steps p.tables e below (T105.setTop (mkF m 3 #[rv s1, iv (1 : Int32), rv d1, iv (1 : Int32), iv (2 : Int32), iv (1 : Int32), iv c0_] [])) _
    refine XS.iload X105.here hx rfl (hb hby d13_3) rfl ?_
    show Steps p.tables e below (T105.setTop (mkF m 5 #[rv s1, iv (1 : Int32), rv d1, iv (1 : Int32), iv (2 : Int32), iv (1 : Int32), iv c0_] [(.int (1 : Int32))])) _
    refine XS.iload X105.here hx rfl (hb hby d13_5) rfl ?_
    show Steps p.tables e below (T105.setTop (mkF m 7 #[rv s1, iv (1 : Int32), rv d1, iv (1 : Int32), iv (2 : Int32), iv (1 : Int32), iv c0_] [(.int (2 : Int32)), (.int (1 : Int32))])) _
    refine XS.icmpNo X105.here hx rfl (hb hby d13_7) rfl (tlt (by decide : (1 : Int32) < (2 : Int32))).2.1 ?_
    show Steps p.tables e below (T105.setTop (mkF m 10 #[rv s1, iv (1 : Int32), rv d1, iv (1 : Int32), iv (2 : Int32), iv (1 : Int32), iv c0_] [])) _
    refine XS.aloadN X105.here hx rfl (hb hby d13_10) rfl rfl ?_
    show Steps p.tables e below (T105.setTop (mkF m 11 #[rv s1, iv (1 : Int32), rv d1, iv (1 : Int32), iv (2 : Int32), iv (1 : Int32), iv c0_] [(.ref s1)])) _
    refine XS.iloadN X105.here hx rfl (hb hby d13_11) rfl ?_
    show Steps p.tables e below (T105.setTop (mkF m 12 #[rv s1, iv (1 : Int32), rv d1, iv (1 : Int32), iv (2 : Int32), iv (1 : Int32), iv c0_] [(.int (1 : Int32)), (.ref s1)])) _
    exact kont
  have y110 : Arv Z h105 s1 ks .char (2 : Int32) [(.int c0_), (.int c1_)] (.int (0 : Int32)) := (A0_.other W105 NE3_)
  have zz111 := y110
  obtain ⟨cl111, Ar111, q111, S111, M111, H111, G111⟩ := zz111
  have in111 : ¬ ((1 : Int32) < 0 ∨ cl111.slots.size ≤ ((1 : Int32)).toNatClampNeg) := inb_of S111 ⟨by decide, by decide⟩
  have at111 : cl111.slots[((1 : Int32)).toNatClampNeg]? = some (.int c1_) := Has.at H111 in111 rfl
  have g112 : Go p e below T105 (mkF m 13 #[rv s1, iv (1 : Int32), rv d1, iv (1 : Int32), iv (2 : Int32), iv (1 : Int32), iv c0_] [(.int c1_)]) A0 := fun t kont => g109 t (X105.caload hx (j := (1 : Int32)) (v := (.int c1_)) (by rw [e105]; exact Ar111.1) (State.isArrayOf_alike hZ.alike Ar111.2.1) Ar111.2.2 in111 at111 (g := (mkF m 12 #[rv s1, iv (1 : Int32), rv d1, iv (1 : Int32), iv (2 : Int32), iv (1 : Int32), iv c0_] [(.int (1 : Int32)), (.ref s1)])) rfl rfl (hb hby d13_12) t kont)
  have g113 : Go p e below T105 (mkF m 31 #[rv s1, iv (1 : Int32), rv d1, iv (1 : Int32), iv (2 : Int32), iv (1 : Int32), iv c1_] [(.int (c1_.toInt8.toInt32)), (.int (1 : Int32)), (.ref d1)]) A0 := by
    intro t kont
    refine g112 t ?_
    refine XS.istore X105.here hx rfl (hb hby d13_13) rfl (l' := #[rv s1, iv (1 : Int32), rv d1, iv (1 : Int32), iv (2 : Int32), iv (1 : Int32), iv c1_]) rfl ?_
    show Steps p.tables e below (T105.setTop (mkF m 15 #[rv s1, iv (1 : Int32), rv d1, iv (1 : Int32), iv (2 : Int32), iv (1 : Int32), iv c1_] [])) _
    refine XS.iload X105.here hx rfl (hb hby d13_15) rfl ?_
    show Steps p.tables e below (T105.setTop (mkF m 17 #[rv s1, iv (1 : Int32), rv d1, iv (1 : Int32), iv (2 : Int32), iv (1 : Int32), iv c1_] [(.int c1_)])) _
    refine XS.sipush X105.here hx rfl (hb hby d13_17) ?_
    show Steps p.tables e below (T105.setTop (mkF m 20 #[rv s1, iv (1 : Int32), rv d1, iv (1 : Int32), iv (2 : Int32), iv (1 : Int32), iv c1_] [(.int (255 : Int32)), (.int c1_)])) _
    refine XS.icmpYes X105.here hx rfl (pc0 := 20) (pc' := 26) rfl (hb hby d13_20) rfl (flt hc1).2.2.2 (by decide) (by decide) ?_
    show Steps p.tables e below (T105.setTop (mkF m 26 #[rv s1, iv (1 : Int32), rv d1, iv (1 : Int32), iv (2 : Int32), iv (1 : Int32), iv c1_] [])) _
    refine XS.aloadN X105.here hx rfl (hb hby d13_26) rfl rfl ?_
    show Steps p.tables e below (T105.setTop (mkF m 27 #[rv s1, iv (1 : Int32), rv d1, iv (1 : Int32), iv (2 : Int32), iv (1 : Int32), iv c1_] [(.ref d1)])) _
    refine XS.iloadN X105.here hx rfl (hb hby d13_27) rfl ?_
    show Steps p.tables e below (T105.setTop (mkF m 28 #[rv s1, iv (1 : Int32), rv d1, iv (1 : Int32), iv (2 : Int32), iv (1 : Int32), iv c1_] [(.int (1 : Int32)), (.ref d1)])) _
    refine XS.iload X105.here hx rfl (hb hby d13_28) rfl ?_
    show Steps p.tables e below (T105.setTop (mkF m 30 #[rv s1, iv (1 : Int32), rv d1, iv (1 : Int32), iv (2 : Int32), iv (1 : Int32), iv c1_] [(.int c1_), (.int (1 : Int32)), (.ref d1)])) _
    refine XS.i2b X105.here hx rfl (hb hby d13_30) rfl ?_
    show Steps p.tables e below (T105.setTop (mkF m 31 #[rv s1, iv (1 : Int32), rv d1, iv (1 : Int32), iv (2 : Int32), iv (1 : Int32), iv c1_] [(.int (c1_.toInt8.toInt32)), (.int (1 : Int32)), (.ref d1)])) _
    exact kont
  have zz114 := y107
  obtain ⟨cl114, Ar114, q114, S114, M114, H114, G114⟩ := zz114
  have in114 : ¬ ((1 : Int32) < 0 ∨ cl114.slots.size ≤ ((1 : Int32)).toNatClampNeg) := inb_of S114 ⟨by decide, by decide⟩
  obtain ⟨T114, h114, X114, e114, W114, st114⟩ := stB X105 hx hZ e105 Ar114 (j := (1 : Int32)) in114 (g := (mkF m 31 #[rv s1, iv (1 : Int32), rv d1, iv (1 : Int32), iv (2 : Int32), iv (1 : Int32), iv c1_] [(.int (c1_.toInt8.toInt32)), (.int (1 : Int32)), (.ref d1)])) rfl rfl (hb hby d13_31)
  rw [show nar .byte (c1_.toInt8.toInt32) = (c1_.toInt8.toInt32) from (own_narb _)] at W114
  have O115 := O106.wr W114 G2_
  have y116 : Arv Z h114 d1 kd .byte (2 : Int32) [(.int (c0_.toInt8.toInt32)), (.int (c1_.toInt8.toInt32))] (.int (0 : Int32)) := Arv.set Ar114 q114 S114 M114 H114 G114 (own_ft_byte (z := (c1_.toInt8.toInt32)) (own_narb _)) W114 1 rfl (Nat.le_of_ble_eq_true rfl)
  have N114 := Fr.snoc X114 N105 G2_
  have g117 : Go p e below T114 (mkF m 32 #[rv s1, iv (1 : Int32), rv d1, iv (1 : Int32), iv (2 : Int32), iv (1 : Int32), iv c1_] []) A0 := fun t kont => g113 t (st114 t kont)
  have g118 : Go p e below T114 (mkF m 46 #[rv s1, iv (2 : Int32), rv d1, iv (2 : Int32), iv (2 : Int32), iv (2 : Int32), iv c1_] [(.int (2 : Int32))]) A0 := by
    intro t kont
    refine g117 t ?_
    refine XS.iinc X114.here hx rfl (hb hby d13_32) rfl (l' := #[rv s1, iv (2 : Int32), rv d1, iv (1 : Int32), iv (2 : Int32), iv (1 : Int32), iv c1_]) rfl ?_
    show Steps p.tables e below (T114.setTop (mkF m 35 #[rv s1, iv (2 : Int32), rv d1, iv (1 : Int32), iv (2 : Int32), iv (1 : Int32), iv c1_] [])) _
    refine XS.iinc X114.here hx rfl (hb hby d13_35) rfl (l' := #[rv s1, iv (2 : Int32), rv d1, iv (2 : Int32), iv (2 : Int32), iv (1 : Int32), iv c1_]) rfl ?_
    show Steps p.tables e below (T114.setTop (mkF m 38 #[rv s1, iv (2 : Int32), rv d1, iv (2 : Int32), iv (2 : Int32), iv (1 : Int32), iv c1_] [])) _
    refine XS.iinc X114.here hx rfl (hb hby d13_38) rfl (l' := #[rv s1, iv (2 : Int32), rv d1, iv (2 : Int32), iv (2 : Int32), iv (2 : Int32), iv c1_]) rfl ?_
    show Steps p.tables e below (T114.setTop (mkF m 41 #[rv s1, iv (2 : Int32), rv d1, iv (2 : Int32), iv (2 : Int32), iv (2 : Int32), iv c1_] [])) _
    refine XS.goto X114.here hx rfl (pc0 := 41) (pc' := 3) rfl (hb hby d13_41) (by decide) (by decide) ?_
    show Steps p.tables e below (T114.setTop (mkF m 3 #[rv s1, iv (2 : Int32), rv d1, iv (2 : Int32), iv (2 : Int32), iv (2 : Int32), iv c1_] [])) _
    refine XS.iload X114.here hx rfl (hb hby d13_3) rfl ?_
    show Steps p.tables e below (T114.setTop (mkF m 5 #[rv s1, iv (2 : Int32), rv d1, iv (2 : Int32), iv (2 : Int32), iv (2 : Int32), iv c1_] [(.int (2 : Int32))])) _
    refine XS.iload X114.here hx rfl (hb hby d13_5) rfl ?_
    show Steps p.tables e below (T114.setTop (mkF m 7 #[rv s1, iv (2 : Int32), rv d1, iv (2 : Int32), iv (2 : Int32), iv (2 : Int32), iv c1_] [(.int (2 : Int32)), (.int (2 : Int32))])) _
    refine XS.icmpYes X114.here hx rfl (pc0 := 7) (pc' := 44) rfl (hb hby d13_7) rfl (flt (by decide : ¬ ((2 : Int32) < (2 : Int32)))).2.1 (by decide) (by decide) ?_
    show Steps p.tables e below (T114.setTop (mkF m 44 #[rv s1, iv (2 : Int32), rv d1, iv (2 : Int32), iv (2 : Int32), iv (2 : Int32), iv c1_] [])) _
    refine XS.iload X114.here hx rfl (hb hby d13_44) rfl ?_
    show Steps p.tables e below (T114.setTop (mkF m 46 #[rv s1, iv (2 : Int32), rv d1, iv (2 : Int32), iv (2 : Int32), iv (2 : Int32), iv c1_] [(.int (2 : Int32))])) _
    exact kont
  have K119 : Keep h0 h114 [d1] := (((Keep.refl h0 [d1]).wr W105 (Or.inl (List.mem_of_getElem? (i := 0) rfl))).wr W114 (Or.inl (List.mem_of_getElem? (i := 0) rfl)))
  obtain ⟨fs, hr, hrun, hended, hW, hsame⟩ := X114.leave (v := some (.int (2 : Int32))) (fun h => by rw [Bd.returns] at h; cases h)
  refine ⟨_, _, g118 _ (retI X114 hx Bd.returns (hb hby d13_46) hr), hrun, hended, _, _, rfl, ?_, ⟨_, rfl⟩, hW, hsame.mono (by decide) (by decide)⟩
  show Q_cmp2 Z s1 d1 ks kd c0_ c1_ h0 n0 _ T114.heap _
  rw [e114]
  exact ⟨rfl, N114, K119, y116⟩
theorem d12_0 : decode jdk_52_method_16_code 0 = .ok (.iload_n 2, 1) := by decide +kernel
theorem d12_1 : decode jdk_52_method_16_code 1 = .ok (.newarray .byte, 2) := by decide +kernel
theorem d12_3 : decode jdk_52_method_16_code 3 = .ok (.astore_n 3, 1) := by decide +kernel
theorem d12_4 : decode jdk_52_method_16_code 4 = .ok (.aload_n 0, 1) := by decide +kernel
theorem d12_5 : decode jdk_52_method_16_code 5 = .ok (.iload_n 1, 1) := by decide +kernel
theorem d12_6 : decode jdk_52_method_16_code 6 = .ok (.aload_n 3, 1) := by decide +kernel
theorem d12_7 : decode jdk_52_method_16_code 7 = .ok (.iconst 0, 1) := by decide +kernel
theorem d12_8 : decode jdk_52_method_16_code 8 = .ok (.iload_n 2, 1) := by decide +kernel
theorem d12_9 : decode jdk_52_method_16_code 9 = .ok (.invokestatic 115, 3) := by decide +kernel
theorem pd_3 : parseMethodDescriptor "([CI[BII)I" = some ⟨[(.array .char), .int, (.array .byte), .int, .int], some .int⟩ := by decide +kernel
theorem d12_12 : decode jdk_52_method_16_code 12 = .ok (.istore 4, 2) := by decide +kernel
theorem d12_14 : decode jdk_52_method_16_code 14 = .ok (.iload 4, 2) := by decide +kernel
theorem d12_16 : decode jdk_52_method_16_code 16 = .ok (.iload_n 2, 1) := by decide +kernel
theorem d12_17 : decode jdk_52_method_16_code 17 = .ok (.if_icmp .eq 40, 3) := by decide +kernel
theorem d12_57 : decode jdk_52_method_16_code 57 = .ok (.aload_n 3, 1) := by decide +kernel
theorem d12_58 : decode jdk_52_method_16_code 58 = .ok (.areturn, 1) := by decide +kernel
theorem ef_com2 (m : MethodId) (x0 : Addr) (x1 : Int32) (x2 : Int32)  : entryFrame m #[(.ref x0), (.int x1), (.int x2)] 6 = mkF m 0 #[.val (.ref x0), .val (.int x1), .val (.int x2), .unset, .unset, .unset] [] := by first | (simp [entryFrame, mkF, argsToLocals, Value.category]; done) | rfl
def Q_com2 (Z : State) (s1 : Addr) (ks : ClassId) (c0_ : Int32) (c1_ : Int32) (h0 : Heap) (n0 : Nat) (v : Option Value) (h : Heap) (L : List Loc) : Prop := ∃ (r : Addr), ∃ (kid : ClassId), v = some (.ref r) ∧ Fr n0 L ∧ Keep h0 h [] ∧ h0.size ≤ r ∧ (Exa Z h r "[B") ∧ (Arv Z h r kid .byte (2 : Int32) [(.int (c0_.toInt8.toInt32)), (.int (c1_.toInt8.toInt32))] (.int (0 : Int32)))
set_option maxRecDepth 65536 in
set_option maxHeartbeats 40000000 in
theorem rm_com2 (l : Launch) (Z : State) (a0 : Array Value) (hw : ∀ d ∈ tables_1, d.before a0 Z = true) (ws : List Jvm.Cond) (s1 : Addr) (ks : ClassId) (c0_ : Int32) (c1_ : Int32) (h0 : Heap) (n0 : Nat) (O0 : Old Z n0 h0) (A0_ : Arv Z h0 s1 ks .char (2 : Int32) [(.int c0_), (.int c1_)] (.int (0 : Int32))) (hc0 : ¬ ((255 : Int32) < c0_)) (hc1 : ¬ ((255 : Int32) < c1_)) :
    MetFree l (⟨"java/lang/StringUTF16", "compress", "([CII)[B"⟩ : MethodName) (head1 (Jvm.Cond.code (⟨"java/lang/StringUTF16", "compress", "([CII)[B"⟩ : MethodName) jdk_52_method_16_code 6 (some (.array .byte)) :: ws) ({ frames := 1, cells := 1, slots := 2, locals := 18 } : Room)) (fun a U => a = #[(.ref s1), (.int (0 : Int32)), (.int (2 : Int32))] ∧ Z.Warmed39 U.vm ∧ U.heap = h0) (fun _ _ _ _ _ => True) (fun _ U o U' => ∃ v L, o = .returned v ∧ Q_com2 Z s1 ks c0_ c1_ h0 n0 v U'.heap L ∧ FrameEnd U o U' L ({ frames := 1, cells := 1, slots := 2, locals := 18 } : Room).cells ({ frames := 1, cells := 1, slots := 2, locals := 18 } : Room).slots) := by
  refine MetFree.of_bodySF (plainFor_of_name pn_java_lang_StringUTF16) hisR ?_
  intro p e s m args below meth c s₁ Bd hml0 hP hK
  obtain ⟨rfl, hZ, hh⟩ := hP
  have hx := Bd.exec
  have hby := Bd.bytes
  have hml : c.maxLocals = 6 := hml0
  have hown : s.vm.findClass "java/lang/StringUTF16" = some m.cls := findClass_of_methodNamed Bd.named
  have hnm := (name_of_methodNamed Bd.named Bd.method).1
  have X0 : Stand p l e ({ frames := 1, cells := 1, slots := 2, locals := 18 } : Room) s m #[(.ref s1), (.int (0 : Int32)), (.int (2 : Int32))] below meth c s₁ [] 0 0 := Stand.of_body Bd
  have e0 : s₁.heap = h0 := by rw [← hh, Bd.state]; rfl
  have N0 := Fr.nil n0
  have g0 : Go p e below s₁ (mkF m 0 #[rv s1, iv (0 : Int32), iv (2 : Int32), .unset, .unset, .unset] []) (s₁.setTop (entryFrame m #[(.ref s1), (.int (0 : Int32)), (.int (2 : Int32))] 6)) := fun t kont => castTop (ef_com2 m s1 (0 : Int32) (2 : Int32) ) kont
  generalize s₁.setTop (entryFrame m #[(.ref s1), (.int (0 : Int32)), (.int (2 : Int32))] 6) = A0 at g0 ⊢
  have g101 : Go p e below s₁ (mkF m 1 #[rv s1, iv (0 : Int32), iv (2 : Int32), .unset, .unset, .unset] [(.int (2 : Int32))]) A0 := by
    intro t kont
    refine g0 t ?_
    refine XS.iloadN X0.here hx rfl (hb hby d12_0) rfl ?_
    show Steps p.tables e below (s₁.setTop (mkF m 1 #[rv s1, iv (0 : Int32), iv (2 : Int32), .unset, .unset, .unset] [(.int (2 : Int32))])) _
    exact kont
  obtain ⟨T102, h102, k102, X102, e102, E102, A102, F102, st102⟩ := newPE X0 hx hZ (hw _ (List.mem_of_getElem? (i := 14) rfl)) e0 (g := (mkF m 1 #[rv s1, iv (0 : Int32), iv (2 : Int32), .unset, .unset, .unset] [(.int (2 : Int32))])) rfl (hb hby d12_1) rfl (by decide) (cap := 2) (by decide) (by decide) (by decide) (by decide) (ad := "[B") (by decide)
  obtain ⟨b102, gb102⟩ : ∃ z, z = h0.size := ⟨_, rfl⟩
  rw [← gb102] at A102 F102 st102
  have O103 := O0.ext E102
  have y104 : Arv Z h102 b102 k102 .byte (2 : Int32) [(.int (0 : Int32)), (.int (0 : Int32))] (.int (0 : Int32)) := (Arv.new A102 (by decide)).pad (pad_rep [] (.int (0 : Int32)) 2)
  have g105 : Go p e below T102 (mkF m 3 #[rv s1, iv (0 : Int32), iv (2 : Int32), .unset, .unset, .unset] [(.ref b102)]) A0 := fun t kont => g101 t (st102 t kont)
  have g106 : Go p e below T102 (mkF m 9 #[rv s1, iv (0 : Int32), iv (2 : Int32), rv b102, .unset, .unset] [(.int (2 : Int32)), (.int (0 : Int32)), (.ref b102), (.int (0 : Int32)), (.ref s1)]) A0 := by
    intro t kont
    refine g105 t ?_
    refine XS.astoreN X102.here hx rfl (hb hby d12_3) rfl rfl (l' := #[rv s1, iv (0 : Int32), iv (2 : Int32), rv b102, .unset, .unset]) rfl ?_
    show Steps p.tables e below (T102.setTop (mkF m 4 #[rv s1, iv (0 : Int32), iv (2 : Int32), rv b102, .unset, .unset] [])) _
    refine XS.aloadN X102.here hx rfl (hb hby d12_4) rfl rfl ?_
    show Steps p.tables e below (T102.setTop (mkF m 5 #[rv s1, iv (0 : Int32), iv (2 : Int32), rv b102, .unset, .unset] [(.ref s1)])) _
    refine XS.iloadN X102.here hx rfl (hb hby d12_5) rfl ?_
    show Steps p.tables e below (T102.setTop (mkF m 6 #[rv s1, iv (0 : Int32), iv (2 : Int32), rv b102, .unset, .unset] [(.int (0 : Int32)), (.ref s1)])) _
    refine XS.aloadN X102.here hx rfl (hb hby d12_6) rfl rfl ?_
    show Steps p.tables e below (T102.setTop (mkF m 7 #[rv s1, iv (0 : Int32), iv (2 : Int32), rv b102, .unset, .unset] [(.ref b102), (.int (0 : Int32)), (.ref s1)])) _
    refine XS.iconst X102.here hx rfl (hb hby d12_7) ?_
    show Steps p.tables e below (T102.setTop (mkF m 8 #[rv s1, iv (0 : Int32), iv (2 : Int32), rv b102, .unset, .unset] [(.int (0 : Int32)), (.ref b102), (.int (0 : Int32)), (.ref s1)])) _
    refine XS.iloadN X102.here hx rfl (hb hby d12_8) rfl ?_
    show Steps p.tables e below (T102.setTop (mkF m 9 #[rv s1, iv (0 : Int32), iv (2 : Int32), rv b102, .unset, .unset] [(.int (2 : Int32)), (.int (0 : Int32)), (.ref b102), (.int (0 : Int32)), (.ref s1)])) _
    exact kont
  have y108 : Arv Z h102 s1 ks .char (2 : Int32) [(.int c0_), (.int c1_)] (.int (0 : Int32)) := (A0_.ext E102)
  have ge109 : n0 ≤ b102 := Nat.le_trans (own_old_le O0) (Nat.le_of_eq gb102.symm)
  obtain ⟨_, _, ⟨T107, L107, k107, n107⟩, -, X107, ⟨Lc107, hQ107, l107, y107, z107⟩, st107⟩ := Jvm.LawKit.callS X102 hx (y := (⟨"java/lang/StringUTF16", "compress", "([CI[BII)I"⟩ : MethodName)) hown (mvT hZ (hw _ (List.mem_of_getElem? (i := 58) rfl))) (mvT hZ (hw _ (List.mem_of_getElem? (i := 59) rfl))) (mvT hZ (hw _ (List.mem_of_getElem? (i := 56) rfl))) (mvT hZ (hw _ (List.mem_of_getElem? (i := 60) rfl))) (by decide) (backOf (W := 0) (rm_cmp2 l Z a0 hw [] s1 b102 ks k102 c0_ c1_ h102 n0 O103 y108 y104 ge109 (Nat.ne_of_lt (Nat.lt_of_lt_of_le A0_.lt (Nat.le_of_eq gb102.symm))) hc0 hc1) hZ (hw _ (List.mem_of_getElem? (i := 60) rfl)) (hw _ (List.mem_of_getElem? (i := 56) rfl)) (by decide) (by decide)) (g := (mkF m 9 #[rv s1, iv (0 : Int32), iv (2 : Int32), rv b102, .unset, .unset] [(.int (2 : Int32)), (.int (0 : Int32)), (.ref b102), (.int (0 : Int32)), (.ref s1)])) rfl (by rw [hml]; rfl) (argsL := [(.ref s1), (.int (0 : Int32)), (.ref b102), (.int (0 : Int32)), (.int (2 : Int32))]) (rest := []) (lenOf pd_3 rfl) rfl (by show 2 * 0 + _ ≤ _; exact Nat.le_of_eq rfl) (hb hby d12_9) (fun _ _ => ⟨rfl, e102, (by decide : 1 + 0 ≤ _), (by decide : 2 + 0 ≤ _)⟩)
  dsimp only [Pt.U, Pt.locs, Pt.cells, Pt.slots] at X107 l107 y107 z107 st107 hQ107
  subst l107 y107 z107
  obtain ⟨rfl, M107, K107, y110⟩ := hQ107
  have N107 := Fr.app N0 M107
  have O111 := O103.keep K107 (allS ge109 all0)
  have g112 : Go p e below T107 (mkF m 12 #[rv s1, iv (0 : Int32), iv (2 : Int32), rv b102, .unset, .unset] [(.int (2 : Int32))]) A0 := fun t kont => g106 t (st107 t kont)
  have g113 : Go p e below T107 (mkF m 58 #[rv s1, iv (0 : Int32), iv (2 : Int32), rv b102, iv (2 : Int32), .unset] [(.ref b102)]) A0 := by
    intro t kont
    refine g112 t ?_
    refine XS.istore X107.here hx rfl (hb hby d12_12) rfl (l' := #[rv s1, iv (0 : Int32), iv (2 : Int32), rv b102, iv (2 : Int32), .unset]) rfl ?_
    show Steps p.tables e below (T107.setTop (mkF m 14 #[rv s1, iv (0 : Int32), iv (2 : Int32), rv b102, iv (2 : Int32), .unset] [])) _
    refine XS.iload X107.here hx rfl (hb hby d12_14) rfl ?_
    show Steps p.tables e below (T107.setTop (mkF m 16 #[rv s1, iv (0 : Int32), iv (2 : Int32), rv b102, iv (2 : Int32), .unset] [(.int (2 : Int32))])) _
    refine XS.iloadN X107.here hx rfl (hb hby d12_16) rfl ?_
    show Steps p.tables e below (T107.setTop (mkF m 17 #[rv s1, iv (0 : Int32), iv (2 : Int32), rv b102, iv (2 : Int32), .unset] [(.int (2 : Int32)), (.int (2 : Int32))])) _
    refine XS.icmpYes X107.here hx rfl (pc0 := 17) (pc' := 57) rfl (hb hby d12_17) rfl (teq (by decide : (2 : Int32) = (2 : Int32))).1 (by decide) (by decide) ?_
    show Steps p.tables e below (T107.setTop (mkF m 57 #[rv s1, iv (0 : Int32), iv (2 : Int32), rv b102, iv (2 : Int32), .unset] [])) _
    refine XS.aloadN X107.here hx rfl (hb hby d12_57) rfl rfl ?_
    show Steps p.tables e below (T107.setTop (mkF m 58 #[rv s1, iv (0 : Int32), iv (2 : Int32), rv b102, iv (2 : Int32), .unset] [(.ref b102)])) _
    exact kont
  have K114 : Keep h0 T107.heap [] := (((Keep.refl h0 []).ext E102).trans K107 (allS (P := fun x => x ∈ [] ∨ h0.size ≤ x) (Or.inr (Nat.le_of_eq gb102.symm)) all0))
  have y115 : Exa Z T107.heap b102 "[B" := (F102.keep K107)
  obtain ⟨fs, hr, hrun, hended, hW, hsame⟩ := X107.leave (v := some (.ref b102)) (fun h => by rw [Bd.returns] at h; cases h)
  refine ⟨_, _, g113 _ (retOut X107 hx Bd.returns rfl (Or.inr (Or.inr (Or.inr (Or.inr ⟨rfl, rfl, rfl⟩)))) (hb hby d12_58) hr), hrun, hended, _, _, rfl, ?_, ⟨_, rfl⟩, hW, hsame.mono (by decide) (by decide)⟩
  show Q_com2 Z s1 ks c0_ c1_ h0 n0 _ T107.heap _
  exact ⟨b102, k102, rfl, N107, K114, (Nat.le_of_eq gb102.symm), y115, y110⟩
theorem d14_0 : decode jdk_52_method_15_code 0 = .ok (.iload_n 1, 1) := by decide +kernel
theorem d14_1 : decode jdk_52_method_15_code 1 = .ok (.aload_n 0, 1) := by decide +kernel
theorem d14_2 : decode jdk_52_method_15_code 2 = .ok (.arraylength, 1) := by decide +kernel
theorem d14_3 : decode jdk_52_method_15_code 3 = .ok (.isub, 1) := by decide +kernel
theorem d14_4 : decode jdk_52_method_15_code 4 = .ok (.bipush 31, 2) := by decide +kernel
theorem d14_6 : decode jdk_52_method_15_code 6 = .ok (.iushr, 1) := by decide +kernel
theorem d14_7 : decode jdk_52_method_15_code 7 = .ok (.i2b, 1) := by decide +kernel
theorem d14_8 : decode jdk_52_method_15_code 8 = .ok (.ireturn, 1) := by decide +kernel
theorem ef_cfa2 (m : MethodId) (x0 : Addr) (x1 : Int32)  : entryFrame m #[(.ref x0), (.int x1)] 2 = mkF m 0 #[.val (.ref x0), .val (.int x1)] [] := by first | (simp [entryFrame, mkF, argsToLocals, Value.category]; done) | rfl
def Q_cfa2 (Z : State) (b1 : Addr) (kid : ClassId) (vs : List Value) (h0 : Heap) (n0 : Nat) (v : Option Value) (h : Heap) (L : List Loc) : Prop := v = some (.int (0 : Int32)) ∧ Fr n0 L ∧ h = h0
set_option maxRecDepth 65536 in
set_option maxHeartbeats 40000000 in
theorem rm_cfa2 (l : Launch) (Z : State) (a0 : Array Value) (hw : ∀ d ∈ tables_1, d.before a0 Z = true) (ws : List Jvm.Cond) (b1 : Addr) (kid : ClassId) (vs : List Value) (h0 : Heap) (n0 : Nat) (O0 : Old Z n0 h0) (A0_ : Arv Z h0 b1 kid .byte (2 : Int32) vs (.int (0 : Int32))) :
    MetFree l (⟨"java/lang/StringUTF16", "coderFromArrayLen", "([BI)B"⟩ : MethodName) (head1 (Jvm.Cond.code (⟨"java/lang/StringUTF16", "coderFromArrayLen", "([BI)B"⟩ : MethodName) jdk_52_method_15_code 2 (some .byte) :: ws) ({ frames := 0, cells := 0, slots := 0, locals := 0 } : Room)) (fun a U => a = #[(.ref b1), (.int (2 : Int32))] ∧ Z.Warmed39 U.vm ∧ U.heap = h0) (fun _ _ _ _ _ => True) (fun _ U o U' => ∃ v L, o = .returned v ∧ Q_cfa2 Z b1 kid vs h0 n0 v U'.heap L ∧ FrameEnd U o U' L ({ frames := 0, cells := 0, slots := 0, locals := 0 } : Room).cells ({ frames := 0, cells := 0, slots := 0, locals := 0 } : Room).slots) := by
  refine MetFree.of_bodySF (plainFor_of_name pn_java_lang_StringUTF16) hisR ?_
  intro p e s m args below meth c s₁ Bd hml0 hP hK
  obtain ⟨rfl, hZ, hh⟩ := hP
  have hx := Bd.exec
  have hby := Bd.bytes
  have hml : c.maxLocals = 2 := hml0
  have hown : s.vm.findClass "java/lang/StringUTF16" = some m.cls := findClass_of_methodNamed Bd.named
  have hnm := (name_of_methodNamed Bd.named Bd.method).1
  have X0 : Stand p l e ({ frames := 0, cells := 0, slots := 0, locals := 0 } : Room) s m #[(.ref b1), (.int (2 : Int32))] below meth c s₁ [] 0 0 := Stand.of_body Bd
  have e0 : s₁.heap = h0 := by rw [← hh, Bd.state]; rfl
  have N0 := Fr.nil n0
  have g0 : Go p e below s₁ (mkF m 0 #[rv b1, iv (2 : Int32)] []) (s₁.setTop (entryFrame m #[(.ref b1), (.int (2 : Int32))] 2)) := fun t kont => castTop (ef_cfa2 m b1 (2 : Int32) ) kont
  generalize s₁.setTop (entryFrame m #[(.ref b1), (.int (2 : Int32))] 2) = A0 at g0 ⊢
  have g101 : Go p e below s₁ (mkF m 2 #[rv b1, iv (2 : Int32)] [(.ref b1), (.int (2 : Int32))]) A0 := by
    intro t kont
    refine g0 t ?_
    refine XS.iloadN X0.here hx rfl (hb hby d14_0) rfl ?_
    show Steps p.tables e below (s₁.setTop (mkF m 1 #[rv b1, iv (2 : Int32)] [(.int (2 : Int32))])) _
    refine XS.aloadN X0.here hx rfl (hb hby d14_1) rfl rfl ?_
    show Steps p.tables e below (s₁.setTop (mkF m 2 #[rv b1, iv (2 : Int32)] [(.ref b1), (.int (2 : Int32))])) _
    exact kont
  have zz102 := A0_
  obtain ⟨cl102, Ar102, -, S102, M102, -, -⟩ := zz102
  have g103 : Go p e below s₁ (mkF m 3 #[rv b1, iv (2 : Int32)] [(.int (2 : Int32)), (.int (2 : Int32))]) A0 := by
    intro t kont
    refine g101 t ?_
    refine X0.arraylength hx (by rw [e0]; exact Ar102.1) (State.isArrayOf_alike hZ.alike Ar102.2.1) (g := (mkF m 2 #[rv b1, iv (2 : Int32)] [(.ref b1), (.int (2 : Int32))])) rfl rfl (hb hby d14_2) _ ?_
    rw [len_of S102 M102]
    exact kont
  have g104 : Go p e below s₁ (mkF m 8 #[rv b1, iv (2 : Int32)] [(.int (0 : Int32))]) A0 := by
    intro t kont
    refine g103 t ?_
    refine XS.isub X0.here hx rfl (hb hby d14_3) rfl ?_
    show Steps p.tables e below (s₁.setTop (mkF m 4 #[rv b1, iv (2 : Int32)] [(.int (0 : Int32))])) _
    refine XS.bipush X0.here hx rfl (hb hby d14_4) ?_
    show Steps p.tables e below (s₁.setTop (mkF m 6 #[rv b1, iv (2 : Int32)] [(.int (31 : Int32)), (.int (0 : Int32))])) _
    refine XS.iushr X0.here hx rfl (hb hby d14_6) rfl ?_
    show Steps p.tables e below (s₁.setTop (mkF m 7 #[rv b1, iv (2 : Int32)] [(.int (0 : Int32))])) _
    refine XS.i2b X0.here hx rfl (hb hby d14_7) rfl ?_
    show Steps p.tables e below (s₁.setTop (mkF m 8 #[rv b1, iv (2 : Int32)] [(.int (0 : Int32))])) _
    exact kont
  obtain ⟨fs, hr, hrun, hended, hW, hsame⟩ := X0.leave (v := some (.int (0 : Int32))) (fun h => by rw [Bd.returns] at h; cases h)
  refine ⟨_, _, g104 _ (retN X0 hx (t := .byte) Bd.returns (by simp) (hb hby d14_8) hr), hrun, hended, _, _, rfl, ?_, ⟨_, rfl⟩, hW, hsame.mono (by decide) (by decide)⟩
  show Q_cfa2 Z b1 kid vs h0 n0 _ s₁.heap _
  rw [e0]
  exact ⟨rfl, N0, rfl⟩
theorem d11_0 : decode jdk_42_method_149_code 0 = .ok (.aload_n 0, 1) := by decide +kernel
theorem d11_1 : decode jdk_42_method_149_code 1 = .ok (.invokespecial 1, 3) := by decide +kernel
theorem d11_4 : decode jdk_42_method_149_code 4 = .ok (.iload_n 3, 1) := by decide +kernel
theorem d11_5 : decode jdk_42_method_149_code 5 = .ok (.ifCond .ne 22, 3) := by decide +kernel
theorem d11_27 : decode jdk_42_method_149_code 27 = .ok (.getstatic 38, 3) := by decide +kernel
theorem d11_30 : decode jdk_42_method_149_code 30 = .ok (.ifCond .eq 28, 3) := by decide +kernel
theorem d11_33 : decode jdk_42_method_149_code 33 = .ok (.aload_n 1, 1) := by decide +kernel
theorem d11_34 : decode jdk_42_method_149_code 34 = .ok (.iload_n 2, 1) := by decide +kernel
theorem d11_35 : decode jdk_42_method_149_code 35 = .ok (.iload_n 3, 1) := by decide +kernel
theorem d11_36 : decode jdk_42_method_149_code 36 = .ok (.invokestatic 177, 3) := by decide +kernel
theorem pd_4 : parseMethodDescriptor "([CII)[B" = some ⟨[(.array .char), .int, .int], some (.array .byte)⟩ := by decide +kernel
theorem d11_39 : decode jdk_42_method_149_code 39 = .ok (.astore 5, 2) := by decide +kernel
theorem d11_41 : decode jdk_42_method_149_code 41 = .ok (.aload_n 0, 1) := by decide +kernel
theorem d11_42 : decode jdk_42_method_149_code 42 = .ok (.aload 5, 2) := by decide +kernel
theorem d11_44 : decode jdk_42_method_149_code 44 = .ok (.iload_n 3, 1) := by decide +kernel
theorem d11_45 : decode jdk_42_method_149_code 45 = .ok (.invokestatic 47, 3) := by decide +kernel
theorem pd_5 : parseMethodDescriptor "([BI)B" = some ⟨[(.array .byte), .int], some .byte⟩ := by decide +kernel
theorem d11_48 : decode jdk_42_method_149_code 48 = .ok (.putfield 15, 3) := by decide +kernel
theorem d11_51 : decode jdk_42_method_149_code 51 = .ok (.aload_n 0, 1) := by decide +kernel
theorem d11_52 : decode jdk_42_method_149_code 52 = .ok (.aload 5, 2) := by decide +kernel
theorem d11_54 : decode jdk_42_method_149_code 54 = .ok (.putfield 9, 3) := by decide +kernel
theorem d11_57 : decode jdk_42_method_149_code 57 = .ok (.return_, 1) := by decide +kernel
theorem ef_sin2 (m : MethodId) (x0 : Addr) (x1 : Addr) (x2 : Int32) (x3 : Int32)  : entryFrame m #[(.ref x0), (.ref x1), (.int x2), (.int x3), .null] 6 = mkF m 0 #[.val (.ref x0), .val (.ref x1), .val (.int x2), .val (.int x3), .val .null, .unset] [] := by first | (simp [entryFrame, mkF, argsToLocals, Value.category]; done) | rfl
def Q_sin2 (Z : State) (a1 : Addr) (s1 : Addr) (ks : ClassId) (c0_ : Int32) (c1_ : Int32) (cs : Int32) (h0 : Heap) (n0 : Nat) (v : Option Value) (h : Heap) (L : List Loc) : Prop := ∃ (r : Addr), ∃ (kid : ClassId), v = none ∧ Fr n0 L ∧ Keep h0 h [a1] ∧ (Exa Z h a1 "java/lang/String") ∧ (Fld Z h a1 "java/lang/String" "coder" "B" (.int (0 : Int32))) ∧ (Fld Z h a1 "java/lang/String" "value" "[B" (.ref r)) ∧ h0.size ≤ r ∧ (Arv Z h r kid .byte (2 : Int32) [(.int (c0_.toInt8.toInt32)), (.int (c1_.toInt8.toInt32))] (.int (0 : Int32)))
set_option maxRecDepth 65536 in
set_option maxHeartbeats 40000000 in
theorem rm_sin2 (l : Launch) (Z : State) (a0 : Array Value) (hw : ∀ d ∈ tables_1, d.before a0 Z = true) (ws : List Jvm.Cond) (a1 : Addr) (s1 : Addr) (ks : ClassId) (c0_ : Int32) (c1_ : Int32) (cs : Int32) (h0 : Heap) (n0 : Nat) (O0 : Old Z n0 h0) (F0_ : Fld Z h0 a1 "java/lang/String" "value" "[B" .null) (F1_ : Fld Z h0 a1 "java/lang/String" "coder" "B" (.int (0 : Int32))) (E2_ : Exa Z h0 a1 "java/lang/String") (G3_ : n0 ≤ a1) (A4_ : Arv Z h0 s1 ks .char (2 : Int32) [(.int c0_), (.int c1_)] (.int (0 : Int32))) (hc0 : ¬ ((255 : Int32) < c0_)) (hc1 : ¬ ((255 : Int32) < c1_)) (S7_ : Sta Z Z.heap "java/lang/String" "COMPACT_STRINGS" "Z" (.int cs)) (hcs : ¬ (cs = (0 : Int32))) :
    MetFree l (⟨"java/lang/String", "<init>", "([CIILjava/lang/Void;)V"⟩ : MethodName) (head1 (Jvm.Cond.code (⟨"java/lang/String", "<init>", "([CIILjava/lang/Void;)V"⟩ : MethodName) jdk_42_method_149_code 6 none :: ws) ({ frames := 2, cells := 1, slots := 2, locals := 35 } : Room)) (fun a U => a = #[(.ref a1), (.ref s1), (.int (0 : Int32)), (.int (2 : Int32)), .null] ∧ Z.Warmed39 U.vm ∧ U.heap = h0) (fun _ _ _ _ _ => True) (fun _ U o U' => ∃ v L, o = .returned v ∧ Q_sin2 Z a1 s1 ks c0_ c1_ cs h0 n0 v U'.heap L ∧ FrameEnd U o U' L ({ frames := 2, cells := 1, slots := 2, locals := 35 } : Room).cells ({ frames := 2, cells := 1, slots := 2, locals := 35 } : Room).slots) := by
  refine MetFree.of_bodySF (plainFor_of_name pn_java_lang_String) hisR ?_
  intro p e s m args below meth c s₁ Bd hml0 hP hK
  obtain ⟨rfl, hZ, hh⟩ := hP
  have hx := Bd.exec
  have hby := Bd.bytes
  have hml : c.maxLocals = 6 := hml0
  have hown : s.vm.findClass "java/lang/String" = some m.cls := findClass_of_methodNamed Bd.named
  have hnm := (name_of_methodNamed Bd.named Bd.method).1
  have X0 : Stand p l e ({ frames := 2, cells := 1, slots := 2, locals := 35 } : Room) s m #[(.ref a1), (.ref s1), (.int (0 : Int32)), (.int (2 : Int32)), .null] below meth c s₁ [] 0 0 := Stand.of_body Bd
  have e0 : s₁.heap = h0 := by rw [← hh, Bd.state]; rfl
  have N0 := Fr.nil n0
  have g0 : Go p e below s₁ (mkF m 0 #[rv a1, rv s1, iv (0 : Int32), iv (2 : Int32), .val .null, .unset] []) (s₁.setTop (entryFrame m #[(.ref a1), (.ref s1), (.int (0 : Int32)), (.int (2 : Int32)), .null] 6)) := fun t kont => castTop (ef_sin2 m a1 s1 (0 : Int32) (2 : Int32) ) kont
  generalize s₁.setTop (entryFrame m #[(.ref a1), (.ref s1), (.int (0 : Int32)), (.int (2 : Int32)), .null] 6) = A0 at g0 ⊢
  have g101 : Go p e below s₁ (mkF m 1 #[rv a1, rv s1, iv (0 : Int32), iv (2 : Int32), .val .null, .unset] [(.ref a1)]) A0 := by
    intro t kont
    refine g0 t ?_
    refine XS.aloadN X0.here hx rfl (hb hby d11_0) rfl rfl ?_
    show Steps p.tables e below (s₁.setTop (mkF m 1 #[rv a1, rv s1, iv (0 : Int32), iv (2 : Int32), .val .null, .unset] [(.ref a1)])) _
    exact kont
  obtain ⟨T102, X102, e102, st102⟩ := initO X0 hx hZ hown (hw _ (List.mem_of_getElem? (i := 19) rfl)) (hw _ (List.mem_of_getElem? (i := 20) rfl)) (hw _ (List.mem_of_getElem? (i := 21) rfl)) e0 (g := (mkF m 1 #[rv a1, rv s1, iv (0 : Int32), iv (2 : Int32), .val .null, .unset] [(.ref a1)])) rfl (by rw [hml]; rfl) rfl (hb hby d11_1) (by decide) (W := 0) (by show 2 * 0 + _ ≤ _; exact Nat.le_of_eq rfl) (by decide)
  have g103 : Go p e below T102 (mkF m 4 #[rv a1, rv s1, iv (0 : Int32), iv (2 : Int32), .val .null, .unset] []) A0 := fun t kont => g101 t (st102 t kont)
  have g104 : Go p e below T102 (mkF m 27 #[rv a1, rv s1, iv (0 : Int32), iv (2 : Int32), .val .null, .unset] []) A0 := by
    intro t kont
    refine g103 t ?_
    refine XS.iloadN X102.here hx rfl (hb hby d11_4) rfl ?_
    show Steps p.tables e below (T102.setTop (mkF m 5 #[rv a1, rv s1, iv (0 : Int32), iv (2 : Int32), .val .null, .unset] [(.int (2 : Int32))])) _
    refine XS.ifYes X102.here hx rfl (pc0 := 5) (pc' := 27) rfl (hb hby d11_5) rfl ((if0 _ _).trans (feq (by decide : ¬ ((2 : Int32) = (0 : Int32)))).2) (by decide) (by decide) ?_
    show Steps p.tables e below (T102.setTop (mkF m 27 #[rv a1, rv s1, iv (0 : Int32), iv (2 : Int32), .val .null, .unset] [])) _
    exact kont
  have y105 : Sta Z h0 "java/lang/String" "COMPACT_STRINGS" "Z" (.int cs) := S7_.ext O0.2
  obtain ⟨T106, X106, e106, st106⟩ := getS2 X102 hx hZ hown (host := "") (Or.inl (hw _ (List.mem_of_getElem? (i := 4) rfl))) Via.refl e102 y105 (g := (mkF m 27 #[rv a1, rv s1, iv (0 : Int32), iv (2 : Int32), .val .null, .unset] [])) rfl (hb hby d11_27)
  have g107 : Go p e below T106 (mkF m 30 #[rv a1, rv s1, iv (0 : Int32), iv (2 : Int32), .val .null, .unset] [(.int cs)]) A0 := fun t kont => g104 t (st106 t kont)
  have g108 : Go p e below T106 (mkF m 36 #[rv a1, rv s1, iv (0 : Int32), iv (2 : Int32), .val .null, .unset] [(.int (2 : Int32)), (.int (0 : Int32)), (.ref s1)]) A0 := by
    intro t kont
    refine g107 t ?_
    refine XS.ifNo X106.here hx rfl (hb hby d11_30) rfl ((if0 _ _).trans (feq hcs).1) ?_
    show Steps p.tables e below (T106.setTop (mkF m 33 #[rv a1, rv s1, iv (0 : Int32), iv (2 : Int32), .val .null, .unset] [])) _
    refine XS.aloadN X106.here hx rfl (hb hby d11_33) rfl rfl ?_
    show Steps p.tables e below (T106.setTop (mkF m 34 #[rv a1, rv s1, iv (0 : Int32), iv (2 : Int32), .val .null, .unset] [(.ref s1)])) _
    refine XS.iloadN X106.here hx rfl (hb hby d11_34) rfl ?_
    show Steps p.tables e below (T106.setTop (mkF m 35 #[rv a1, rv s1, iv (0 : Int32), iv (2 : Int32), .val .null, .unset] [(.int (0 : Int32)), (.ref s1)])) _
    refine XS.iloadN X106.here hx rfl (hb hby d11_35) rfl ?_
    show Steps p.tables e below (T106.setTop (mkF m 36 #[rv a1, rv s1, iv (0 : Int32), iv (2 : Int32), .val .null, .unset] [(.int (2 : Int32)), (.int (0 : Int32)), (.ref s1)])) _
    exact kont
  obtain ⟨_, _, ⟨T109, L109, k109, n109⟩, -, X109, ⟨Lc109, hQ109, l109, y109, z109⟩, st109⟩ := Jvm.LawKit.callS X106 hx (y := (⟨"java/lang/StringUTF16", "compress", "([CII)[B"⟩ : MethodName)) hown (mvT hZ (hw _ (List.mem_of_getElem? (i := 54) rfl))) (mvT hZ (hw _ (List.mem_of_getElem? (i := 55) rfl))) (mvT hZ (hw _ (List.mem_of_getElem? (i := 56) rfl))) (mvT hZ (hw _ (List.mem_of_getElem? (i := 57) rfl))) (by decide) (backOf (W := 0) (rm_com2 l Z a0 hw [] s1 ks c0_ c1_ h0 n0 O0 A4_ hc0 hc1) hZ (hw _ (List.mem_of_getElem? (i := 57) rfl)) (hw _ (List.mem_of_getElem? (i := 56) rfl)) (by decide) (by decide)) (g := (mkF m 36 #[rv a1, rv s1, iv (0 : Int32), iv (2 : Int32), .val .null, .unset] [(.int (2 : Int32)), (.int (0 : Int32)), (.ref s1)])) rfl (by rw [hml]; rfl) (argsL := [(.ref s1), (.int (0 : Int32)), (.int (2 : Int32))]) (rest := []) (lenOf pd_4 rfl) rfl (by show 2 * 0 + _ ≤ _; exact Nat.le_of_eq rfl) (hb hby d11_36) (fun _ _ => ⟨rfl, e106, (by decide : 0 + 1 ≤ _), (by decide : 0 + 2 ≤ _)⟩)
  dsimp only [Pt.U, Pt.locs, Pt.cells, Pt.slots] at X109 l109 y109 z109 st109 hQ109
  subst l109 y109 z109
  obtain ⟨r110, r111, rfl, M109, K109, y112, y113, y114⟩ := hQ109
  have N109 := Fr.app N0 M109
  have O115 := O0.keep K109 all0
  have g116 : Go p e below T109 (mkF m 39 #[rv a1, rv s1, iv (0 : Int32), iv (2 : Int32), .val .null, .unset] [(.ref r110)]) A0 := fun t kont => g108 t (st109 t kont)
  have g117 : Go p e below T109 (mkF m 45 #[rv a1, rv s1, iv (0 : Int32), iv (2 : Int32), .val .null, rv r110] [(.int (2 : Int32)), (.ref r110), (.ref a1)]) A0 := by
    intro t kont
    refine g116 t ?_
    refine XS.astore X109.here hx rfl (hb hby d11_39) rfl rfl (l' := #[rv a1, rv s1, iv (0 : Int32), iv (2 : Int32), .val .null, rv r110]) rfl ?_
    show Steps p.tables e below (T109.setTop (mkF m 41 #[rv a1, rv s1, iv (0 : Int32), iv (2 : Int32), .val .null, rv r110] [])) _
    refine XS.aloadN X109.here hx rfl (hb hby d11_41) rfl rfl ?_
    show Steps p.tables e below (T109.setTop (mkF m 42 #[rv a1, rv s1, iv (0 : Int32), iv (2 : Int32), .val .null, rv r110] [(.ref a1)])) _
    refine XS.aload X109.here hx rfl (hb hby d11_42) rfl rfl ?_
    show Steps p.tables e below (T109.setTop (mkF m 44 #[rv a1, rv s1, iv (0 : Int32), iv (2 : Int32), .val .null, rv r110] [(.ref r110), (.ref a1)])) _
    refine XS.iloadN X109.here hx rfl (hb hby d11_44) rfl ?_
    show Steps p.tables e below (T109.setTop (mkF m 45 #[rv a1, rv s1, iv (0 : Int32), iv (2 : Int32), .val .null, rv r110] [(.int (2 : Int32)), (.ref r110), (.ref a1)])) _
    exact kont
  obtain ⟨_, _, ⟨T118, L118, k118, n118⟩, -, X118, ⟨Lc118, hQ118, l118, y118, z118⟩, st118⟩ := Jvm.LawKit.callS X109 hx (y := (⟨"java/lang/StringUTF16", "coderFromArrayLen", "([BI)B"⟩ : MethodName)) hown (mvT hZ (hw _ (List.mem_of_getElem? (i := 61) rfl))) (mvT hZ (hw _ (List.mem_of_getElem? (i := 62) rfl))) (mvT hZ (hw _ (List.mem_of_getElem? (i := 56) rfl))) (mvT hZ (hw _ (List.mem_of_getElem? (i := 63) rfl))) (by decide) (backOf (W := 1) (rm_cfa2 l Z a0 hw [] r110 r111 [(.int (c0_.toInt8.toInt32)), (.int (c1_.toInt8.toInt32))] T109.heap n0 O115 y114) hZ (hw _ (List.mem_of_getElem? (i := 63) rfl)) (hw _ (List.mem_of_getElem? (i := 56) rfl)) (by decide) (by decide)) (g := (mkF m 45 #[rv a1, rv s1, iv (0 : Int32), iv (2 : Int32), .val .null, rv r110] [(.int (2 : Int32)), (.ref r110), (.ref a1)])) rfl (by rw [hml]; rfl) (argsL := [(.ref r110), (.int (2 : Int32))]) (rest := [(.ref a1)]) (lenOf pd_5 rfl) rfl (by show 2 * 0 + _ ≤ _; exact Nat.le_of_eq rfl) (hb hby d11_45) (fun _ _ => ⟨rfl, rfl, (by decide : 1 + 0 ≤ _), (by decide : 2 + 0 ≤ _)⟩)
  dsimp only [Pt.U, Pt.locs, Pt.cells, Pt.slots] at X118 l118 y118 z118 st118 hQ118
  subst l118 y118 z118
  obtain ⟨rfl, M118, e118⟩ := hQ118
  have N118 := Fr.app N109 M118
  have g119 : Go p e below T118 (mkF m 48 #[rv a1, rv s1, iv (0 : Int32), iv (2 : Int32), .val .null, rv r110] [(.int (0 : Int32)), (.ref a1)]) A0 := fun t kont => g117 t (st118 t kont)
  have y120 : Exa Z T109.heap a1 "java/lang/String" := (E2_.keep K109)
  have y121 : Fld Z T109.heap a1 "java/lang/String" "coder" "B" (.int (0 : Int32)) := (F1_.keep K109 nin0)
  obtain ⟨T122, h122, X122, e122, W122, st122⟩ := putFN X118 hx hZ hown (hw _ (List.mem_of_getElem? (i := 24) rfl)) Via.refl e118 y121 y120 (Or.inr ⟨(hw _ (List.mem_of_getElem? (i := 25) rfl)), rfl, hnm⟩) (hw _ (List.mem_of_getElem? (i := 10) rfl)) (ty := .byte) (v := (.int (0 : Int32))) (v' := (.int (0 : Int32))) (by decide) (own_nw_byte (by decide : nar .byte (0 : Int32) = (0 : Int32))) (own_ft_byte (by decide : nar .byte (0 : Int32) = (0 : Int32))) (g := (mkF m 48 #[rv a1, rv s1, iv (0 : Int32), iv (2 : Int32), .val .null, rv r110] [(.int (0 : Int32)), (.ref a1)])) rfl rfl (hb hby d11_48)
  have O123 := O115.wr W122 G3_
  have y124 : Fld Z h122 a1 "java/lang/String" "coder" "B" (.int (0 : Int32)) := y121.same W122
  have N122 := Fr.snoc X122 N118 G3_
  have g125 : Go p e below T122 (mkF m 51 #[rv a1, rv s1, iv (0 : Int32), iv (2 : Int32), .val .null, rv r110] []) A0 := fun t kont => g119 t (st122 t kont)
  have g126 : Go p e below T122 (mkF m 54 #[rv a1, rv s1, iv (0 : Int32), iv (2 : Int32), .val .null, rv r110] [(.ref r110), (.ref a1)]) A0 := by
    intro t kont
    refine g125 t ?_
    refine XS.aloadN X122.here hx rfl (hb hby d11_51) rfl rfl ?_
    show Steps p.tables e below (T122.setTop (mkF m 52 #[rv a1, rv s1, iv (0 : Int32), iv (2 : Int32), .val .null, rv r110] [(.ref a1)])) _
    refine XS.aload X122.here hx rfl (hb hby d11_52) rfl rfl ?_
    show Steps p.tables e below (T122.setTop (mkF m 54 #[rv a1, rv s1, iv (0 : Int32), iv (2 : Int32), .val .null, rv r110] [(.ref r110), (.ref a1)])) _
    exact kont
  have y127 : Exa Z h122 a1 "java/lang/String" := (y120.wr W122)
  have y128 : Fld Z h122 a1 "java/lang/String" "value" "[B" .null := ((F0_.keep K109 nin0).other W122 (Or.inr (slot_ne (Or.inr (hw _ (List.mem_of_getElem? (i := 23) rfl))) (Or.inr (hw _ (List.mem_of_getElem? (i := 25) rfl))) (by decide) (t := (.array .byte)) (t' := .byte) (by decide) (by decide))))
  obtain ⟨T129, h129, X129, e129, W129, st129⟩ := putF X122 hx hZ hown (host := "") (Or.inl (hw _ (List.mem_of_getElem? (i := 22) rfl))) Via.refl e122 y128 y127 (Or.inr ⟨(hw _ (List.mem_of_getElem? (i := 23) rfl)), rfl, hnm⟩) (hw _ (List.mem_of_getElem? (i := 10) rfl)) (ty := (.array .byte)) (by decide) rfl rfl (g := (mkF m 54 #[rv a1, rv s1, iv (0 : Int32), iv (2 : Int32), .val .null, rv r110] [(.ref r110), (.ref a1)])) rfl rfl (hb hby d11_54)
  have O130 := O123.wr W129 G3_
  have y131 : Fld Z h129 a1 "java/lang/String" "value" "[B" (.ref r110) := y128.same W129
  have N129 := Fr.snoc X129 N122 G3_
  have g132 : Go p e below T129 (mkF m 57 #[rv a1, rv s1, iv (0 : Int32), iv (2 : Int32), .val .null, rv r110] []) A0 := fun t kont => g126 t (st129 t kont)
  have K133 : Keep h0 h129 [a1] := ((((Keep.refl h0 [a1]).trans K109 (fun x hx => nomatch hx)).wr W122 (Or.inl (List.mem_of_getElem? (i := 0) rfl))).wr W129 (Or.inl (List.mem_of_getElem? (i := 0) rfl)))
  have y134 : Exa Z h129 a1 "java/lang/String" := (y127.wr W129)
  have y135 : Fld Z h129 a1 "java/lang/String" "coder" "B" (.int (0 : Int32)) := (y124.other W129 (Or.inr (slot_ne (Or.inr (hw _ (List.mem_of_getElem? (i := 25) rfl))) (Or.inr (hw _ (List.mem_of_getElem? (i := 23) rfl))) (by decide) (t := .byte) (t' := (.array .byte)) (by decide) (by decide))))
  have y136 : Arv Z h129 r110 r111 .byte (2 : Int32) [(.int (c0_.toInt8.toInt32)), (.int (c1_.toInt8.toInt32))] (.int (0 : Int32)) := ((y114.other W122 (Ne.symm (Nat.ne_of_lt (Nat.lt_of_lt_of_le F0_.lt y112)))).other W129 (Ne.symm (Nat.ne_of_lt (Nat.lt_of_lt_of_le F0_.lt y112))))
  obtain ⟨fs, hr, hrun, hended, hW, hsame⟩ := X129.leave (v := none) (fun _ => rfl)
  refine ⟨_, _, g132 _ (X129.returnOut hx Bd.returns (hb hby d11_57) hr), hrun, hended, _, _, rfl, ?_, ⟨_, rfl⟩, hW, hsame.mono (by decide) (by decide)⟩
  show Q_sin2 Z a1 s1 ks c0_ c1_ cs h0 n0 _ T129.heap _
  rw [e129]
  exact ⟨r110, r111, rfl, N129, K133, y134, y135, y131, y112, y136⟩
theorem d10_0 : decode jdk_42_method_3_code 0 = .ok (.aload_n 0, 1) := by decide +kernel
theorem d10_1 : decode jdk_42_method_3_code 1 = .ok (.aload_n 1, 1) := by decide +kernel
theorem d10_2 : decode jdk_42_method_3_code 2 = .ok (.iconst 0, 1) := by decide +kernel
theorem d10_3 : decode jdk_42_method_3_code 3 = .ok (.aload_n 1, 1) := by decide +kernel
theorem d10_4 : decode jdk_42_method_3_code 4 = .ok (.arraylength, 1) := by decide +kernel
theorem d10_5 : decode jdk_42_method_3_code 5 = .ok (.aconst_null, 1) := by decide +kernel
theorem d10_6 : decode jdk_42_method_3_code 6 = .ok (.invokespecial 27, 3) := by decide +kernel
theorem pd_6 : parseMethodDescriptor "([CIILjava/lang/Void;)V" = some ⟨[(.array .char), .int, .int, (.object "java/lang/Void")], none⟩ := by decide +kernel
theorem d10_9 : decode jdk_42_method_3_code 9 = .ok (.return_, 1) := by decide +kernel
theorem ef_sIni2 (m : MethodId) (x0 : Addr) (x1 : Addr)  : entryFrame m #[(.ref x0), (.ref x1)] 2 = mkF m 0 #[.val (.ref x0), .val (.ref x1)] [] := by first | (simp [entryFrame, mkF, argsToLocals, Value.category]; done) | rfl
def Q_sIni2 (Z : State) (a1 : Addr) (s1 : Addr) (ks : ClassId) (c0_ : Int32) (c1_ : Int32) (cs : Int32) (h0 : Heap) (n0 : Nat) (v : Option Value) (h : Heap) (L : List Loc) : Prop := ∃ (r : Addr), ∃ (kid : ClassId), v = none ∧ Fr n0 L ∧ Keep h0 h [a1] ∧ (Exa Z h a1 "java/lang/String") ∧ (Fld Z h a1 "java/lang/String" "coder" "B" (.int (0 : Int32))) ∧ (Fld Z h a1 "java/lang/String" "value" "[B" (.ref r)) ∧ h0.size ≤ r ∧ (Arv Z h r kid .byte (2 : Int32) [(.int (c0_.toInt8.toInt32)), (.int (c1_.toInt8.toInt32))] (.int (0 : Int32)))
set_option maxRecDepth 65536 in
set_option maxHeartbeats 40000000 in
theorem rm_sIni2 (l : Launch) (Z : State) (a0 : Array Value) (hw : ∀ d ∈ tables_1, d.before a0 Z = true) (ws : List Jvm.Cond) (a1 : Addr) (s1 : Addr) (ks : ClassId) (c0_ : Int32) (c1_ : Int32) (cs : Int32) (h0 : Heap) (n0 : Nat) (O0 : Old Z n0 h0) (F0_ : Fld Z h0 a1 "java/lang/String" "value" "[B" .null) (F1_ : Fld Z h0 a1 "java/lang/String" "coder" "B" (.int (0 : Int32))) (E2_ : Exa Z h0 a1 "java/lang/String") (G3_ : n0 ≤ a1) (A4_ : Arv Z h0 s1 ks .char (2 : Int32) [(.int c0_), (.int c1_)] (.int (0 : Int32))) (hc0 : ¬ ((255 : Int32) < c0_)) (hc1 : ¬ ((255 : Int32) < c1_)) (S7_ : Sta Z Z.heap "java/lang/String" "COMPACT_STRINGS" "Z" (.int cs)) (hcs : ¬ (cs = (0 : Int32))) :
    MetFree l (⟨"java/lang/String", "<init>", "([C)V"⟩ : MethodName) (head1 (Jvm.Cond.code (⟨"java/lang/String", "<init>", "([C)V"⟩ : MethodName) jdk_42_method_3_code 2 none :: ws) ({ frames := 3, cells := 1, slots := 2, locals := 52 } : Room)) (fun a U => a = #[(.ref a1), (.ref s1)] ∧ Z.Warmed39 U.vm ∧ U.heap = h0) (fun _ _ _ _ _ => True) (fun _ U o U' => ∃ v L, o = .returned v ∧ Q_sIni2 Z a1 s1 ks c0_ c1_ cs h0 n0 v U'.heap L ∧ FrameEnd U o U' L ({ frames := 3, cells := 1, slots := 2, locals := 52 } : Room).cells ({ frames := 3, cells := 1, slots := 2, locals := 52 } : Room).slots) := by
  refine MetFree.of_bodySF (plainFor_of_name pn_java_lang_String) hisR ?_
  intro p e s m args below meth c s₁ Bd hml0 hP hK
  obtain ⟨rfl, hZ, hh⟩ := hP
  have hx := Bd.exec
  have hby := Bd.bytes
  have hml : c.maxLocals = 2 := hml0
  have hown : s.vm.findClass "java/lang/String" = some m.cls := findClass_of_methodNamed Bd.named
  have hnm := (name_of_methodNamed Bd.named Bd.method).1
  have X0 : Stand p l e ({ frames := 3, cells := 1, slots := 2, locals := 52 } : Room) s m #[(.ref a1), (.ref s1)] below meth c s₁ [] 0 0 := Stand.of_body Bd
  have e0 : s₁.heap = h0 := by rw [← hh, Bd.state]; rfl
  have N0 := Fr.nil n0
  have g0 : Go p e below s₁ (mkF m 0 #[rv a1, rv s1] []) (s₁.setTop (entryFrame m #[(.ref a1), (.ref s1)] 2)) := fun t kont => castTop (ef_sIni2 m a1 s1 ) kont
  generalize s₁.setTop (entryFrame m #[(.ref a1), (.ref s1)] 2) = A0 at g0 ⊢
  have g101 : Go p e below s₁ (mkF m 4 #[rv a1, rv s1] [(.ref s1), (.int (0 : Int32)), (.ref s1), (.ref a1)]) A0 := by
    intro t kont
    refine g0 t ?_
    refine XS.aloadN X0.here hx rfl (hb hby d10_0) rfl rfl ?_
    show Steps p.tables e below (s₁.setTop (mkF m 1 #[rv a1, rv s1] [(.ref a1)])) _
    refine XS.aloadN X0.here hx rfl (hb hby d10_1) rfl rfl ?_
    show Steps p.tables e below (s₁.setTop (mkF m 2 #[rv a1, rv s1] [(.ref s1), (.ref a1)])) _
    refine XS.iconst X0.here hx rfl (hb hby d10_2) ?_
    show Steps p.tables e below (s₁.setTop (mkF m 3 #[rv a1, rv s1] [(.int (0 : Int32)), (.ref s1), (.ref a1)])) _
    refine XS.aloadN X0.here hx rfl (hb hby d10_3) rfl rfl ?_
    show Steps p.tables e below (s₁.setTop (mkF m 4 #[rv a1, rv s1] [(.ref s1), (.int (0 : Int32)), (.ref s1), (.ref a1)])) _
    exact kont
  have zz102 := A4_
  obtain ⟨cl102, Ar102, -, S102, M102, -, -⟩ := zz102
  have g103 : Go p e below s₁ (mkF m 5 #[rv a1, rv s1] [(.int (2 : Int32)), (.int (0 : Int32)), (.ref s1), (.ref a1)]) A0 := by
    intro t kont
    refine g101 t ?_
    refine X0.arraylength hx (by rw [e0]; exact Ar102.1) (State.isArrayOf_alike hZ.alike Ar102.2.1) (g := (mkF m 4 #[rv a1, rv s1] [(.ref s1), (.int (0 : Int32)), (.ref s1), (.ref a1)])) rfl rfl (hb hby d10_4) _ ?_
    rw [len_of S102 M102]
    exact kont
  have g104 : Go p e below s₁ (mkF m 6 #[rv a1, rv s1] [.null, (.int (2 : Int32)), (.int (0 : Int32)), (.ref s1), (.ref a1)]) A0 := by
    intro t kont
    refine g103 t ?_
    refine XS.aconstNull X0.here hx rfl (hb hby d10_5) ?_
    show Steps p.tables e below (s₁.setTop (mkF m 6 #[rv a1, rv s1] [.null, (.int (2 : Int32)), (.int (0 : Int32)), (.ref s1), (.ref a1)])) _
    exact kont
  obtain ⟨_, _, ⟨T105, L105, k105, n105⟩, -, X105, ⟨Lc105, hQ105, l105, y105, z105⟩, st105⟩ := X0.specialBack hx (y := (⟨"java/lang/String", "<init>", "([CIILjava/lang/Void;)V"⟩ : MethodName)) rfl hown (mvT hZ (hw _ (List.mem_of_getElem? (i := 51) rfl))) (mvT hZ (hw _ (List.mem_of_getElem? (i := 52) rfl))) (mvT hZ (hw _ (List.mem_of_getElem? (i := 53) rfl))) (by decide) (backOf (W := 0) (rm_sin2 l Z a0 hw [] a1 s1 ks c0_ c1_ cs h0 n0 O0 F0_ F1_ E2_ G3_ A4_ hc0 hc1 S7_ hcs) hZ (hw _ (List.mem_of_getElem? (i := 53) rfl)) (hw _ (List.mem_of_getElem? (i := 2) rfl)) (by decide) (by decide)) (g := (mkF m 6 #[rv a1, rv s1] [.null, (.int (2 : Int32)), (.int (0 : Int32)), (.ref s1), (.ref a1)])) rfl (by rw [hml]; rfl) (Steps.refl _) (a := a1) (argsL := [(.ref s1), (.int (0 : Int32)), (.int (2 : Int32)), .null]) (rest := []) (lenOf pd_6 rfl) rfl (by show 2 * 0 + _ ≤ _; exact Nat.le_of_eq rfl) (hb hby d10_6) (fun _ _ => ⟨rfl, e0, (by decide : 0 + 1 ≤ _), (by decide : 0 + 2 ≤ _)⟩)
  dsimp only [Pt.U, Pt.locs, Pt.cells, Pt.slots] at X105 l105 y105 z105 st105 hQ105
  subst l105 y105 z105
  obtain ⟨r106, r107, rfl, M105, K105, y108, y109, y110, y111, y112⟩ := hQ105
  have N105 := Fr.app N0 M105
  have O113 := O0.keep K105 (allS G3_ all0)
  have g114 : Go p e below T105 (mkF m 9 #[rv a1, rv s1] []) A0 := fun t kont => g104 t (st105.trans kont)
  have K115 : Keep h0 T105.heap [a1] := ((Keep.refl h0 [a1]).trans K105 (allS (P := fun x => x ∈ [a1] ∨ h0.size ≤ x) (Or.inl (List.mem_of_getElem? (i := 0) rfl)) all0))
  obtain ⟨fs, hr, hrun, hended, hW, hsame⟩ := X105.leave (v := none) (fun _ => rfl)
  refine ⟨_, _, g114 _ (X105.returnOut hx Bd.returns (hb hby d10_9) hr), hrun, hended, _, _, rfl, ?_, ⟨_, rfl⟩, hW, hsame.mono (by decide) (by decide)⟩
  show Q_sIni2 Z a1 s1 ks c0_ c1_ cs h0 n0 _ T105.heap _
  exact ⟨r106, r107, rfl, N105, K115, y108, y109, y110, y111, y112⟩
theorem ef_cmp3 (m : MethodId) (x0 : Addr) (x1 : Int32) (x2 : Addr) (x3 : Int32) (x4 : Int32)  : entryFrame m #[(.ref x0), (.int x1), (.ref x2), (.int x3), (.int x4)] 7 = mkF m 0 #[.val (.ref x0), .val (.int x1), .val (.ref x2), .val (.int x3), .val (.int x4), .unset, .unset] [] := by first | (simp [entryFrame, mkF, argsToLocals, Value.category]; done) | rfl
def Q_cmp3 (Z : State) (s1 : Addr) (d1 : Addr) (ks : ClassId) (kd : ClassId) (c0_ : Int32) (c1_ : Int32) (c2_ : Int32) (h0 : Heap) (n0 : Nat) (v : Option Value) (h : Heap) (L : List Loc) : Prop := v = some (.int (3 : Int32)) ∧ Fr n0 L ∧ Keep h0 h [d1] ∧ (Arv Z h d1 kd .byte (3 : Int32) [(.int (c0_.toInt8.toInt32)), (.int (c1_.toInt8.toInt32)), (.int (c2_.toInt8.toInt32))] (.int (0 : Int32)))
set_option maxRecDepth 65536 in
set_option maxHeartbeats 40000000 in
theorem rm_cmp3 (l : Launch) (Z : State) (a0 : Array Value) (hw : ∀ d ∈ tables_1, d.before a0 Z = true) (ws : List Jvm.Cond) (s1 : Addr) (d1 : Addr) (ks : ClassId) (kd : ClassId) (c0_ : Int32) (c1_ : Int32) (c2_ : Int32) (h0 : Heap) (n0 : Nat) (O0 : Old Z n0 h0) (A0_ : Arv Z h0 s1 ks .char (3 : Int32) [(.int c0_), (.int c1_), (.int c2_)] (.int (0 : Int32))) (A1_ : Arv Z h0 d1 kd .byte (3 : Int32) [(.int (0 : Int32)), (.int (0 : Int32)), (.int (0 : Int32))] (.int (0 : Int32))) (G2_ : n0 ≤ d1) (NE3_ : ¬ (s1 = d1)) (hc0 : ¬ ((255 : Int32) < c0_)) (hc1 : ¬ ((255 : Int32) < c1_)) (hc2 : ¬ ((255 : Int32) < c2_)) :
    MetFree l (⟨"java/lang/StringUTF16", "compress", "([CI[BII)I"⟩ : MethodName) (head1 (Jvm.Cond.code (⟨"java/lang/StringUTF16", "compress", "([CI[BII)I"⟩ : MethodName) jdk_52_method_21_code 7 (some .int) :: ws) ({ frames := 0, cells := 0, slots := 0, locals := 0 } : Room)) (fun a U => a = #[(.ref s1), (.int (0 : Int32)), (.ref d1), (.int (0 : Int32)), (.int (3 : Int32))] ∧ Z.Warmed39 U.vm ∧ U.heap = h0) (fun _ _ _ _ _ => True) (fun _ U o U' => ∃ v L, o = .returned v ∧ Q_cmp3 Z s1 d1 ks kd c0_ c1_ c2_ h0 n0 v U'.heap L ∧ FrameEnd U o U' L ({ frames := 0, cells := 0, slots := 0, locals := 0 } : Room).cells ({ frames := 0, cells := 0, slots := 0, locals := 0 } : Room).slots) := by
  refine MetFree.of_bodySF (plainFor_of_name pn_java_lang_StringUTF16) hisR ?_
  intro p e s m args below meth c s₁ Bd hml0 hP hK
  obtain ⟨rfl, hZ, hh⟩ := hP
  have hx := Bd.exec
  have hby := Bd.bytes
  have hml : c.maxLocals = 7 := hml0
  have hown : s.vm.findClass "java/lang/StringUTF16" = some m.cls := findClass_of_methodNamed Bd.named
  have hnm := (name_of_methodNamed Bd.named Bd.method).1
  have X0 : Stand p l e ({ frames := 0, cells := 0, slots := 0, locals := 0 } : Room) s m #[(.ref s1), (.int (0 : Int32)), (.ref d1), (.int (0 : Int32)), (.int (3 : Int32))] below meth c s₁ [] 0 0 := Stand.of_body Bd
  have e0 : s₁.heap = h0 := by rw [← hh, Bd.state]; rfl
  have N0 := Fr.nil n0
  have g0 : Go p e below s₁ (mkF m 0 #[rv s1, iv (0 : Int32), rv d1, iv (0 : Int32), iv (3 : Int32), .unset, .unset] []) (s₁.setTop (entryFrame m #[(.ref s1), (.int (0 : Int32)), (.ref d1), (.int (0 : Int32)), (.int (3 : Int32))] 7)) := fun t kont => castTop (ef_cmp3 m s1 (0 : Int32) d1 (0 : Int32) (3 : Int32) ) kont
  generalize s₁.setTop (entryFrame m #[(.ref s1), (.int (0 : Int32)), (.ref d1), (.int (0 : Int32)), (.int (3 : Int32))] 7) = A0 at g0 ⊢
  have g101 : Go p e below s₁ (mkF m 12 #[rv s1, iv (0 : Int32), rv d1, iv (0 : Int32), iv (3 : Int32), iv (0 : Int32), .unset] [(.int (0 : Int32)), (.ref s1)]) A0 := by
    intro t kont
    refine g0 t ?_
    refine XS.iconst X0.here hx rfl (hb hby d13_0) ?_
    show Steps p.tables e below (s₁.setTop (mkF m 1 #[rv s1, iv (0 : Int32), rv d1, iv (0 : Int32), iv (3 : Int32), .unset, .unset] [(.int (0 : Int32))])) _
    refine XS.istore X0.here hx rfl (hb hby d13_1) rfl (l' := #[rv s1, iv (0 : Int32), rv d1, iv (0 : Int32), iv (3 : Int32), iv (0 : Int32), .unset]) rfl ?_
    show Steps p.tables e below (s₁.setTop (mkF m 3 #[rv s1, iv (0 : Int32), rv d1, iv (0 : Int32), iv (3 : Int32), iv (0 : Int32), .unset] [])) _
    refine XS.iload X0.here hx rfl (hb hby d13_3) rfl ?_
    show Steps p.tables e below (s₁.setTop (mkF m 5 #[rv s1, iv (0 : Int32), rv d1, iv (0 : Int32), iv (3 : Int32), iv (0 : Int32), .unset] [(.int (0 : Int32))])) _
    refine XS.iload X0.here hx rfl (hb hby d13_5) rfl ?_
    show Steps p.tables e below (s₁.setTop (mkF m 7 #[rv s1, iv (0 : Int32), rv d1, iv (0 : Int32), iv (3 : Int32), iv (0 : Int32), .unset] [(.int (3 : Int32)), (.int (0 : Int32))])) _
    refine XS.icmpNo X0.here hx rfl (hb hby d13_7) rfl (tlt (by decide : (0 : Int32) < (3 : Int32))).2.1 ?_
    show Steps p.tables e below (s₁.setTop (mkF m 10 #[rv s1, iv (0 : Int32), rv d1, iv (0 : Int32), iv (3 : Int32), iv (0 : Int32), .unset] [])) _
    refine XS.aloadN X0.here hx rfl (hb hby d13_10) rfl rfl ?_
    show Steps p.tables e below (s₁.setTop (mkF m 11 #[rv s1, iv (0 : Int32), rv d1, iv (0 : Int32), iv (3 : Int32), iv (0 : Int32), .unset] [(.ref s1)])) _
    refine XS.iloadN X0.here hx rfl (hb hby d13_11) rfl ?_
    show Steps p.tables e below (s₁.setTop (mkF m 12 #[rv s1, iv (0 : Int32), rv d1, iv (0 : Int32), iv (3 : Int32), iv (0 : Int32), .unset] [(.int (0 : Int32)), (.ref s1)])) _
    exact kont
  have zz102 := A0_
  obtain ⟨cl102, Ar102, q102, S102, M102, H102, G102⟩ := zz102
  have in102 : ¬ ((0 : Int32) < 0 ∨ cl102.slots.size ≤ ((0 : Int32)).toNatClampNeg) := inb_of S102 ⟨by decide, by decide⟩
  have at102 : cl102.slots[((0 : Int32)).toNatClampNeg]? = some (.int c0_) := Has.at H102 in102 rfl
  have g103 : Go p e below s₁ (mkF m 13 #[rv s1, iv (0 : Int32), rv d1, iv (0 : Int32), iv (3 : Int32), iv (0 : Int32), .unset] [(.int c0_)]) A0 := fun t kont => g101 t (X0.caload hx (j := (0 : Int32)) (v := (.int c0_)) (by rw [e0]; exact Ar102.1) (State.isArrayOf_alike hZ.alike Ar102.2.1) Ar102.2.2 in102 at102 (g := (mkF m 12 #[rv s1, iv (0 : Int32), rv d1, iv (0 : Int32), iv (3 : Int32), iv (0 : Int32), .unset] [(.int (0 : Int32)), (.ref s1)])) rfl rfl (hb hby d13_12) t kont)
  have g104 : Go p e below s₁ (mkF m 31 #[rv s1, iv (0 : Int32), rv d1, iv (0 : Int32), iv (3 : Int32), iv (0 : Int32), iv c0_] [(.int (c0_.toInt8.toInt32)), (.int (0 : Int32)), (.ref d1)]) A0 := by
    intro t kont
    refine g103 t ?_
    refine XS.istore X0.here hx rfl (hb hby d13_13) rfl (l' := #[rv s1, iv (0 : Int32), rv d1, iv (0 : Int32), iv (3 : Int32), iv (0 : Int32), iv c0_]) rfl ?_
    show Steps p.tables e below (s₁.setTop (mkF m 15 #[rv s1, iv (0 : Int32), rv d1, iv (0 : Int32), iv (3 : Int32), iv (0 : Int32), iv c0_] [])) _
    refine XS.iload X0.here hx rfl (hb hby d13_15) rfl ?_
    show Steps p.tables e below (s₁.setTop (mkF m 17 #[rv s1, iv (0 : Int32), rv d1, iv (0 : Int32), iv (3 : Int32), iv (0 : Int32), iv c0_] [(.int c0_)])) _
    refine XS.sipush X0.here hx rfl (hb hby d13_17) ?_
    show Steps p.tables e below (s₁.setTop (mkF m 20 #[rv s1, iv (0 : Int32), rv d1, iv (0 : Int32), iv (3 : Int32), iv (0 : Int32), iv c0_] [(.int (255 : Int32)), (.int c0_)])) _
    refine XS.icmpYes X0.here hx rfl (pc0 := 20) (pc' := 26) rfl (hb hby d13_20) rfl (flt hc0).2.2.2 (by decide) (by decide) ?_
    show Steps p.tables e below (s₁.setTop (mkF m 26 #[rv s1, iv (0 : Int32), rv d1, iv (0 : Int32), iv (3 : Int32), iv (0 : Int32), iv c0_] [])) _
    refine XS.aloadN X0.here hx rfl (hb hby d13_26) rfl rfl ?_
    show Steps p.tables e below (s₁.setTop (mkF m 27 #[rv s1, iv (0 : Int32), rv d1, iv (0 : Int32), iv (3 : Int32), iv (0 : Int32), iv c0_] [(.ref d1)])) _
    refine XS.iloadN X0.here hx rfl (hb hby d13_27) rfl ?_
    show Steps p.tables e below (s₁.setTop (mkF m 28 #[rv s1, iv (0 : Int32), rv d1, iv (0 : Int32), iv (3 : Int32), iv (0 : Int32), iv c0_] [(.int (0 : Int32)), (.ref d1)])) _
    refine XS.iload X0.here hx rfl (hb hby d13_28) rfl ?_
    show Steps p.tables e below (s₁.setTop (mkF m 30 #[rv s1, iv (0 : Int32), rv d1, iv (0 : Int32), iv (3 : Int32), iv (0 : Int32), iv c0_] [(.int c0_), (.int (0 : Int32)), (.ref d1)])) _
    refine XS.i2b X0.here hx rfl (hb hby d13_30) rfl ?_
    show Steps p.tables e below (s₁.setTop (mkF m 31 #[rv s1, iv (0 : Int32), rv d1, iv (0 : Int32), iv (3 : Int32), iv (0 : Int32), iv c0_] [(.int (c0_.toInt8.toInt32)), (.int (0 : Int32)), (.ref d1)])) _
    exact kont
  have zz105 := A1_
  obtain ⟨cl105, Ar105, q105, S105, M105, H105, G105⟩ := zz105
  have in105 : ¬ ((0 : Int32) < 0 ∨ cl105.slots.size ≤ ((0 : Int32)).toNatClampNeg) := inb_of S105 ⟨by decide, by decide⟩
  obtain ⟨T105, h105, X105, e105, W105, st105⟩ := stB X0 hx hZ e0 Ar105 (j := (0 : Int32)) in105 (g := (mkF m 31 #[rv s1, iv (0 : Int32), rv d1, iv (0 : Int32), iv (3 : Int32), iv (0 : Int32), iv c0_] [(.int (c0_.toInt8.toInt32)), (.int (0 : Int32)), (.ref d1)])) rfl rfl (hb hby d13_31)
  rw [show nar .byte (c0_.toInt8.toInt32) = (c0_.toInt8.toInt32) from (own_narb _)] at W105
  have O106 := O0.wr W105 G2_
  have y107 : Arv Z h105 d1 kd .byte (3 : Int32) [(.int (c0_.toInt8.toInt32)), (.int (0 : Int32)), (.int (0 : Int32))] (.int (0 : Int32)) := Arv.set Ar105 q105 S105 M105 H105 G105 (own_ft_byte (z := (c0_.toInt8.toInt32)) (own_narb _)) W105 0 rfl (Nat.le_of_ble_eq_true rfl)
  have N105 := Fr.snoc X105 N0 G2_
  have g108 : Go p e below T105 (mkF m 32 #[rv s1, iv (0 : Int32), rv d1, iv (0 : Int32), iv (3 : Int32), iv (0 : Int32), iv c0_] []) A0 := fun t kont => g104 t (st105 t kont)
  have g109 : Go p e below T105 (mkF m 12 #[rv s1, iv (1 : Int32), rv d1, iv (1 : Int32), iv (3 : Int32), iv (1 : Int32), iv c0_] [(.int (1 : Int32)), (.ref s1)]) A0 := by
    intro t kont
    refine g108 t ?_
    refine XS.iinc X105.here hx rfl (hb hby d13_32) rfl (l' := #[rv s1, iv (1 : Int32), rv d1, iv (0 : Int32), iv (3 : Int32), iv (0 : Int32), iv c0_]) rfl ?_
    show Steps p.tables e below (T105.setTop (mkF m 35 #[rv s1, iv (1 : Int32), rv d1, iv (0 : Int32), iv (3 : Int32), iv (0 : Int32), iv c0_] [])) _
    refine XS.iinc X105.here hx rfl (hb hby d13_35) rfl (l' := #[rv s1, iv (1 : Int32), rv d1, iv (1 : Int32), iv (3 : Int32), iv (0 : Int32), iv c0_]) rfl ?_
    show Steps p.tables e below (T105.setTop (mkF m 38 #[rv s1, iv (1 : Int32), rv d1, iv (1 : Int32), iv (3 : Int32), iv (0 : Int32), iv c0_] [])) _
    refine XS.iinc X105.here hx rfl (hb hby d13_38) rfl (l' := #[rv s1, iv (1 : Int32), rv d1, iv (1 : Int32), iv (3 : Int32), iv (1 : Int32), iv c0_]) rfl ?_
    show Steps p.tables e below (T105.setTop (mkF m 41 #[rv s1, iv (1 : Int32), rv d1, iv (1 : Int32), iv (3 : Int32), iv (1 : Int32), iv c0_] [])) _
    refine XS.goto X105.here hx rfl (pc0 := 41) (pc' := 3) rfl (hb hby d13_41) (by decide) (by decide) ?_
    show Steps p.tables e below (T105.setTop (mkF m 3 #[rv s1, iv (1 : Int32), rv d1, iv (1 : Int32), iv (3 : Int32), iv (1 : Int32), iv c0_] [])) _
    refine XS.iload X105.here hx rfl (hb hby d13_3) rfl ?_
    show Steps p.tables e below (T105.setTop (mkF m 5 #[rv s1, iv (1 : Int32), rv d1, iv (1 : Int32), iv (3 : Int32), iv (1 : Int32), iv c0_] [(.int (1 : Int32))])) _
    refine XS.iload X105.here hx rfl (hb hby d13_5) rfl ?_
    show Steps p.tables e below (T105.setTop (mkF m 7 #[rv s1, iv (1 : Int32), rv d1, iv (1 : Int32), iv (3 : Int32), iv (1 : Int32), iv c0_] [(.int (3 : Int32)), (.int (1 : Int32))])) _
    refine XS.icmpNo X105.here hx rfl (hb hby d13_7) rfl (tlt (by decide : (1 : Int32) < (3 : Int32))).2.1 ?_
    show Steps p.tables e below (T105.setTop (mkF m 10 #[rv s1, iv (1 : Int32), rv d1, iv (1 : Int32), iv (3 : Int32), iv (1 : Int32), iv c0_] [])) _
    refine XS.aloadN X105.here hx rfl (hb hby d13_10) rfl rfl ?_
    show Steps p.tables e below (T105.setTop (mkF m 11 #[rv s1, iv (1 : Int32), rv d1, iv (1 : Int32), iv (3 : Int32), iv (1 : Int32), iv c0_] [(.ref s1)])) _
    refine XS.iloadN X105.here hx rfl (hb hby d13_11) rfl ?_
    show Steps p.tables e below (T105.setTop (mkF m 12 #[rv s1, iv (1 : Int32), rv d1, iv (1 : Int32), iv (3 : Int32), iv (1 : Int32), iv c0_] [(.int (1 : Int32)), (.ref s1)])) _
    exact kont
  have y110 : Arv Z h105 s1 ks .char (3 : Int32) [(.int c0_), (.int c1_), (.int c2_)] (.int (0 : Int32)) := (A0_.other W105 NE3_)
  have zz111 := y110
  obtain ⟨cl111, Ar111, q111, S111, M111, H111, G111⟩ := zz111
  have in111 : ¬ ((1 : Int32) < 0 ∨ cl111.slots.size ≤ ((1 : Int32)).toNatClampNeg) := inb_of S111 ⟨by decide, by decide⟩
  have at111 : cl111.slots[((1 : Int32)).toNatClampNeg]? = some (.int c1_) := Has.at H111 in111 rfl
  have g112 : Go p e below T105 (mkF m 13 #[rv s1, iv (1 : Int32), rv d1, iv (1 : Int32), iv (3 : Int32), iv (1 : Int32), iv c0_] [(.int c1_)]) A0 := fun t kont => g109 t (X105.caload hx (j := (1 : Int32)) (v := (.int c1_)) (by rw [e105]; exact Ar111.1) (State.isArrayOf_alike hZ.alike Ar111.2.1) Ar111.2.2 in111 at111 (g := (mkF m 12 #[rv s1, iv (1 : Int32), rv d1, iv (1 : Int32), iv (3 : Int32), iv (1 : Int32), iv c0_] [(.int (1 : Int32)), (.ref s1)])) rfl rfl (hb hby d13_12) t kont)
  have g113 : Go p e below T105 (mkF m 31 #[rv s1, iv (1 : Int32), rv d1, iv (1 : Int32), iv (3 : Int32), iv (1 : Int32), iv c1_] [(.int (c1_.toInt8.toInt32)), (.int (1 : Int32)), (.ref d1)]) A0 := by
    intro t kont
    refine g112 t ?_
    refine XS.istore X105.here hx rfl (hb hby d13_13) rfl (l' := #[rv s1, iv (1 : Int32), rv d1, iv (1 : Int32), iv (3 : Int32), iv (1 : Int32), iv c1_]) rfl ?_
    show Steps p.tables e below (T105.setTop (mkF m 15 #[rv s1, iv (1 : Int32), rv d1, iv (1 : Int32), iv (3 : Int32), iv (1 : Int32), iv c1_] [])) _
    refine XS.iload X105.here hx rfl (hb hby d13_15) rfl ?_
    show Steps p.tables e below (T105.setTop (mkF m 17 #[rv s1, iv (1 : Int32), rv d1, iv (1 : Int32), iv (3 : Int32), iv (1 : Int32), iv c1_] [(.int c1_)])) _
    refine XS.sipush X105.here hx rfl (hb hby d13_17) ?_
    show Steps p.tables e below (T105.setTop (mkF m 20 #[rv s1, iv (1 : Int32), rv d1, iv (1 : Int32), iv (3 : Int32), iv (1 : Int32), iv c1_] [(.int (255 : Int32)), (.int c1_)])) _
    refine XS.icmpYes X105.here hx rfl (pc0 := 20) (pc' := 26) rfl (hb hby d13_20) rfl (flt hc1).2.2.2 (by decide) (by decide) ?_
    show Steps p.tables e below (T105.setTop (mkF m 26 #[rv s1, iv (1 : Int32), rv d1, iv (1 : Int32), iv (3 : Int32), iv (1 : Int32), iv c1_] [])) _
    refine XS.aloadN X105.here hx rfl (hb hby d13_26) rfl rfl ?_
    show Steps p.tables e below (T105.setTop (mkF m 27 #[rv s1, iv (1 : Int32), rv d1, iv (1 : Int32), iv (3 : Int32), iv (1 : Int32), iv c1_] [(.ref d1)])) _
    refine XS.iloadN X105.here hx rfl (hb hby d13_27) rfl ?_
    show Steps p.tables e below (T105.setTop (mkF m 28 #[rv s1, iv (1 : Int32), rv d1, iv (1 : Int32), iv (3 : Int32), iv (1 : Int32), iv c1_] [(.int (1 : Int32)), (.ref d1)])) _
    refine XS.iload X105.here hx rfl (hb hby d13_28) rfl ?_
    show Steps p.tables e below (T105.setTop (mkF m 30 #[rv s1, iv (1 : Int32), rv d1, iv (1 : Int32), iv (3 : Int32), iv (1 : Int32), iv c1_] [(.int c1_), (.int (1 : Int32)), (.ref d1)])) _
    refine XS.i2b X105.here hx rfl (hb hby d13_30) rfl ?_
    show Steps p.tables e below (T105.setTop (mkF m 31 #[rv s1, iv (1 : Int32), rv d1, iv (1 : Int32), iv (3 : Int32), iv (1 : Int32), iv c1_] [(.int (c1_.toInt8.toInt32)), (.int (1 : Int32)), (.ref d1)])) _
    exact kont
  have zz114 := y107
  obtain ⟨cl114, Ar114, q114, S114, M114, H114, G114⟩ := zz114
  have in114 : ¬ ((1 : Int32) < 0 ∨ cl114.slots.size ≤ ((1 : Int32)).toNatClampNeg) := inb_of S114 ⟨by decide, by decide⟩
  obtain ⟨T114, h114, X114, e114, W114, st114⟩ := stB X105 hx hZ e105 Ar114 (j := (1 : Int32)) in114 (g := (mkF m 31 #[rv s1, iv (1 : Int32), rv d1, iv (1 : Int32), iv (3 : Int32), iv (1 : Int32), iv c1_] [(.int (c1_.toInt8.toInt32)), (.int (1 : Int32)), (.ref d1)])) rfl rfl (hb hby d13_31)
  rw [show nar .byte (c1_.toInt8.toInt32) = (c1_.toInt8.toInt32) from (own_narb _)] at W114
  have O115 := O106.wr W114 G2_
  have y116 : Arv Z h114 d1 kd .byte (3 : Int32) [(.int (c0_.toInt8.toInt32)), (.int (c1_.toInt8.toInt32)), (.int (0 : Int32))] (.int (0 : Int32)) := Arv.set Ar114 q114 S114 M114 H114 G114 (own_ft_byte (z := (c1_.toInt8.toInt32)) (own_narb _)) W114 1 rfl (Nat.le_of_ble_eq_true rfl)
  have N114 := Fr.snoc X114 N105 G2_
  have g117 : Go p e below T114 (mkF m 32 #[rv s1, iv (1 : Int32), rv d1, iv (1 : Int32), iv (3 : Int32), iv (1 : Int32), iv c1_] []) A0 := fun t kont => g113 t (st114 t kont)
  have g118 : Go p e below T114 (mkF m 12 #[rv s1, iv (2 : Int32), rv d1, iv (2 : Int32), iv (3 : Int32), iv (2 : Int32), iv c1_] [(.int (2 : Int32)), (.ref s1)]) A0 := by
    intro t kont
    refine g117 t ?_
    refine XS.iinc X114.here hx rfl (hb hby d13_32) rfl (l' := #[rv s1, iv (2 : Int32), rv d1, iv (1 : Int32), iv (3 : Int32), iv (1 : Int32), iv c1_]) rfl ?_
    show Steps p.tables e below (T114.setTop (mkF m 35 #[rv s1, iv (2 : Int32), rv d1, iv (1 : Int32), iv (3 : Int32), iv (1 : Int32), iv c1_] [])) _
    refine XS.iinc X114.here hx rfl (hb hby d13_35) rfl (l' := #[rv s1, iv (2 : Int32), rv d1, iv (2 : Int32), iv (3 : Int32), iv (1 : Int32), iv c1_]) rfl ?_
    show Steps p.tables e below (T114.setTop (mkF m 38 #[rv s1, iv (2 : Int32), rv d1, iv (2 : Int32), iv (3 : Int32), iv (1 : Int32), iv c1_] [])) _
    refine XS.iinc X114.here hx rfl (hb hby d13_38) rfl (l' := #[rv s1, iv (2 : Int32), rv d1, iv (2 : Int32), iv (3 : Int32), iv (2 : Int32), iv c1_]) rfl ?_
    show Steps p.tables e below (T114.setTop (mkF m 41 #[rv s1, iv (2 : Int32), rv d1, iv (2 : Int32), iv (3 : Int32), iv (2 : Int32), iv c1_] [])) _
    refine XS.goto X114.here hx rfl (pc0 := 41) (pc' := 3) rfl (hb hby d13_41) (by decide) (by decide) ?_
    show Steps p.tables e below (T114.setTop (mkF m 3 #[rv s1, iv (2 : Int32), rv d1, iv (2 : Int32), iv (3 : Int32), iv (2 : Int32), iv c1_] [])) _
    refine XS.iload X114.here hx rfl (hb hby d13_3) rfl ?_
    show Steps p.tables e below (T114.setTop (mkF m 5 #[rv s1, iv (2 : Int32), rv d1, iv (2 : Int32), iv (3 : Int32), iv (2 : Int32), iv c1_] [(.int (2 : Int32))])) _
    refine XS.iload X114.here hx rfl (hb hby d13_5) rfl ?_
    show Steps p.tables e below (T114.setTop (mkF m 7 #[rv s1, iv (2 : Int32), rv d1, iv (2 : Int32), iv (3 : Int32), iv (2 : Int32), iv c1_] [(.int (3 : Int32)), (.int (2 : Int32))])) _
    refine XS.icmpNo X114.here hx rfl (hb hby d13_7) rfl (tlt (by decide : (2 : Int32) < (3 : Int32))).2.1 ?_
    show Steps p.tables e below (T114.setTop (mkF m 10 #[rv s1, iv (2 : Int32), rv d1, iv (2 : Int32), iv (3 : Int32), iv (2 : Int32), iv c1_] [])) _
    refine XS.aloadN X114.here hx rfl (hb hby d13_10) rfl rfl ?_
    show Steps p.tables e below (T114.setTop (mkF m 11 #[rv s1, iv (2 : Int32), rv d1, iv (2 : Int32), iv (3 : Int32), iv (2 : Int32), iv c1_] [(.ref s1)])) _
    refine XS.iloadN X114.here hx rfl (hb hby d13_11) rfl ?_
    show Steps p.tables e below (T114.setTop (mkF m 12 #[rv s1, iv (2 : Int32), rv d1, iv (2 : Int32), iv (3 : Int32), iv (2 : Int32), iv c1_] [(.int (2 : Int32)), (.ref s1)])) _
    exact kont
  have y119 : Arv Z h114 s1 ks .char (3 : Int32) [(.int c0_), (.int c1_), (.int c2_)] (.int (0 : Int32)) := (y110.other W114 NE3_)
  have zz120 := y119
  obtain ⟨cl120, Ar120, q120, S120, M120, H120, G120⟩ := zz120
  have in120 : ¬ ((2 : Int32) < 0 ∨ cl120.slots.size ≤ ((2 : Int32)).toNatClampNeg) := inb_of S120 ⟨by decide, by decide⟩
  have at120 : cl120.slots[((2 : Int32)).toNatClampNeg]? = some (.int c2_) := Has.at H120 in120 rfl
  have g121 : Go p e below T114 (mkF m 13 #[rv s1, iv (2 : Int32), rv d1, iv (2 : Int32), iv (3 : Int32), iv (2 : Int32), iv c1_] [(.int c2_)]) A0 := fun t kont => g118 t (X114.caload hx (j := (2 : Int32)) (v := (.int c2_)) (by rw [e114]; exact Ar120.1) (State.isArrayOf_alike hZ.alike Ar120.2.1) Ar120.2.2 in120 at120 (g := (mkF m 12 #[rv s1, iv (2 : Int32), rv d1, iv (2 : Int32), iv (3 : Int32), iv (2 : Int32), iv c1_] [(.int (2 : Int32)), (.ref s1)])) rfl rfl (hb hby d13_12) t kont)
  have g122 : Go p e below T114 (mkF m 31 #[rv s1, iv (2 : Int32), rv d1, iv (2 : Int32), iv (3 : Int32), iv (2 : Int32), iv c2_] [(.int (c2_.toInt8.toInt32)), (.int (2 : Int32)), (.ref d1)]) A0 := by
    intro t kont
    refine g121 t ?_
    refine XS.istore X114.here hx rfl (hb hby d13_13) rfl (l' := #[rv s1, iv (2 : Int32), rv d1, iv (2 : Int32), iv (3 : Int32), iv (2 : Int32), iv c2_]) rfl ?_
    show Steps p.tables e below (T114.setTop (mkF m 15 #[rv s1, iv (2 : Int32), rv d1, iv (2 : Int32), iv (3 : Int32), iv (2 : Int32), iv c2_] [])) _
    refine XS.iload X114.here hx rfl (hb hby d13_15) rfl ?_
    show Steps p.tables e below (T114.setTop (mkF m 17 #[rv s1, iv (2 : Int32), rv d1, iv (2 : Int32), iv (3 : Int32), iv (2 : Int32), iv c2_] [(.int c2_)])) _
    refine XS.sipush X114.here hx rfl (hb hby d13_17) ?_
    show Steps p.tables e below (T114.setTop (mkF m 20 #[rv s1, iv (2 : Int32), rv d1, iv (2 : Int32), iv (3 : Int32), iv (2 : Int32), iv c2_] [(.int (255 : Int32)), (.int c2_)])) _
    refine XS.icmpYes X114.here hx rfl (pc0 := 20) (pc' := 26) rfl (hb hby d13_20) rfl (flt hc2).2.2.2 (by decide) (by decide) ?_
    show Steps p.tables e below (T114.setTop (mkF m 26 #[rv s1, iv (2 : Int32), rv d1, iv (2 : Int32), iv (3 : Int32), iv (2 : Int32), iv c2_] [])) _
    refine XS.aloadN X114.here hx rfl (hb hby d13_26) rfl rfl ?_
    show Steps p.tables e below (T114.setTop (mkF m 27 #[rv s1, iv (2 : Int32), rv d1, iv (2 : Int32), iv (3 : Int32), iv (2 : Int32), iv c2_] [(.ref d1)])) _
    refine XS.iloadN X114.here hx rfl (hb hby d13_27) rfl ?_
    show Steps p.tables e below (T114.setTop (mkF m 28 #[rv s1, iv (2 : Int32), rv d1, iv (2 : Int32), iv (3 : Int32), iv (2 : Int32), iv c2_] [(.int (2 : Int32)), (.ref d1)])) _
    refine XS.iload X114.here hx rfl (hb hby d13_28) rfl ?_
    show Steps p.tables e below (T114.setTop (mkF m 30 #[rv s1, iv (2 : Int32), rv d1, iv (2 : Int32), iv (3 : Int32), iv (2 : Int32), iv c2_] [(.int c2_), (.int (2 : Int32)), (.ref d1)])) _
    refine XS.i2b X114.here hx rfl (hb hby d13_30) rfl ?_
    show Steps p.tables e below (T114.setTop (mkF m 31 #[rv s1, iv (2 : Int32), rv d1, iv (2 : Int32), iv (3 : Int32), iv (2 : Int32), iv c2_] [(.int (c2_.toInt8.toInt32)), (.int (2 : Int32)), (.ref d1)])) _
    exact kont
  have zz123 := y116
  obtain ⟨cl123, Ar123, q123, S123, M123, H123, G123⟩ := zz123
  have in123 : ¬ ((2 : Int32) < 0 ∨ cl123.slots.size ≤ ((2 : Int32)).toNatClampNeg) := inb_of S123 ⟨by decide, by decide⟩
  obtain ⟨T123, h123, X123, e123, W123, st123⟩ := stB X114 hx hZ e114 Ar123 (j := (2 : Int32)) in123 (g := (mkF m 31 #[rv s1, iv (2 : Int32), rv d1, iv (2 : Int32), iv (3 : Int32), iv (2 : Int32), iv c2_] [(.int (c2_.toInt8.toInt32)), (.int (2 : Int32)), (.ref d1)])) rfl rfl (hb hby d13_31)
  rw [show nar .byte (c2_.toInt8.toInt32) = (c2_.toInt8.toInt32) from (own_narb _)] at W123
  have O124 := O115.wr W123 G2_
  have y125 : Arv Z h123 d1 kd .byte (3 : Int32) [(.int (c0_.toInt8.toInt32)), (.int (c1_.toInt8.toInt32)), (.int (c2_.toInt8.toInt32))] (.int (0 : Int32)) := Arv.set Ar123 q123 S123 M123 H123 G123 (own_ft_byte (z := (c2_.toInt8.toInt32)) (own_narb _)) W123 2 rfl (Nat.le_of_ble_eq_true rfl)
  have N123 := Fr.snoc X123 N114 G2_
  have g126 : Go p e below T123 (mkF m 32 #[rv s1, iv (2 : Int32), rv d1, iv (2 : Int32), iv (3 : Int32), iv (2 : Int32), iv c2_] []) A0 := fun t kont => g122 t (st123 t kont)
  have g127 : Go p e below T123 (mkF m 46 #[rv s1, iv (3 : Int32), rv d1, iv (3 : Int32), iv (3 : Int32), iv (3 : Int32), iv c2_] [(.int (3 : Int32))]) A0 := by
    intro t kont
    refine g126 t ?_
    refine XS.iinc X123.here hx rfl (hb hby d13_32) rfl (l' := #[rv s1, iv (3 : Int32), rv d1, iv (2 : Int32), iv (3 : Int32), iv (2 : Int32), iv c2_]) rfl ?_
    show Steps p.tables e below (T123.setTop (mkF m 35 #[rv s1, iv (3 : Int32), rv d1, iv (2 : Int32), iv (3 : Int32), iv (2 : Int32), iv c2_] [])) _
    refine XS.iinc X123.here hx rfl (hb hby d13_35) rfl (l' := #[rv s1, iv (3 : Int32), rv d1, iv (3 : Int32), iv (3 : Int32), iv (2 : Int32), iv c2_]) rfl ?_
    show Steps p.tables e below (T123.setTop (mkF m 38 #[rv s1, iv (3 : Int32), rv d1, iv (3 : Int32), iv (3 : Int32), iv (2 : Int32), iv c2_] [])) _
    refine XS.iinc X123.here hx rfl (hb hby d13_38) rfl (l' := #[rv s1, iv (3 : Int32), rv d1, iv (3 : Int32), iv (3 : Int32), iv (3 : Int32), iv c2_]) rfl ?_
    show Steps p.tables e below (T123.setTop (mkF m 41 #[rv s1, iv (3 : Int32), rv d1, iv (3 : Int32), iv (3 : Int32), iv (3 : Int32), iv c2_] [])) _
    refine XS.goto X123.here hx rfl (pc0 := 41) (pc' := 3) rfl (hb hby d13_41) (by decide) (by decide) ?_
    show Steps p.tables e below (T123.setTop (mkF m 3 #[rv s1, iv (3 : Int32), rv d1, iv (3 : Int32), iv (3 : Int32), iv (3 : Int32), iv c2_] [])) _
    refine XS.iload X123.here hx rfl (hb hby d13_3) rfl ?_
    show Steps p.tables e below (T123.setTop (mkF m 5 #[rv s1, iv (3 : Int32), rv d1, iv (3 : Int32), iv (3 : Int32), iv (3 : Int32), iv c2_] [(.int (3 : Int32))])) _
    refine XS.iload X123.here hx rfl (hb hby d13_5) rfl ?_
    show Steps p.tables e below (T123.setTop (mkF m 7 #[rv s1, iv (3 : Int32), rv d1, iv (3 : Int32), iv (3 : Int32), iv (3 : Int32), iv c2_] [(.int (3 : Int32)), (.int (3 : Int32))])) _
    refine XS.icmpYes X123.here hx rfl (pc0 := 7) (pc' := 44) rfl (hb hby d13_7) rfl (flt (by decide : ¬ ((3 : Int32) < (3 : Int32)))).2.1 (by decide) (by decide) ?_
    show Steps p.tables e below (T123.setTop (mkF m 44 #[rv s1, iv (3 : Int32), rv d1, iv (3 : Int32), iv (3 : Int32), iv (3 : Int32), iv c2_] [])) _
    refine XS.iload X123.here hx rfl (hb hby d13_44) rfl ?_
    show Steps p.tables e below (T123.setTop (mkF m 46 #[rv s1, iv (3 : Int32), rv d1, iv (3 : Int32), iv (3 : Int32), iv (3 : Int32), iv c2_] [(.int (3 : Int32))])) _
    exact kont
  have K128 : Keep h0 h123 [d1] := ((((Keep.refl h0 [d1]).wr W105 (Or.inl (List.mem_of_getElem? (i := 0) rfl))).wr W114 (Or.inl (List.mem_of_getElem? (i := 0) rfl))).wr W123 (Or.inl (List.mem_of_getElem? (i := 0) rfl)))
  obtain ⟨fs, hr, hrun, hended, hW, hsame⟩ := X123.leave (v := some (.int (3 : Int32))) (fun h => by rw [Bd.returns] at h; cases h)
  refine ⟨_, _, g127 _ (retI X123 hx Bd.returns (hb hby d13_46) hr), hrun, hended, _, _, rfl, ?_, ⟨_, rfl⟩, hW, hsame.mono (by decide) (by decide)⟩
  show Q_cmp3 Z s1 d1 ks kd c0_ c1_ c2_ h0 n0 _ T123.heap _
  rw [e123]
  exact ⟨rfl, N123, K128, y125⟩
theorem ef_com3 (m : MethodId) (x0 : Addr) (x1 : Int32) (x2 : Int32)  : entryFrame m #[(.ref x0), (.int x1), (.int x2)] 6 = mkF m 0 #[.val (.ref x0), .val (.int x1), .val (.int x2), .unset, .unset, .unset] [] := by first | (simp [entryFrame, mkF, argsToLocals, Value.category]; done) | rfl
def Q_com3 (Z : State) (s1 : Addr) (ks : ClassId) (c0_ : Int32) (c1_ : Int32) (c2_ : Int32) (h0 : Heap) (n0 : Nat) (v : Option Value) (h : Heap) (L : List Loc) : Prop := ∃ (r : Addr), ∃ (kid : ClassId), v = some (.ref r) ∧ Fr n0 L ∧ Keep h0 h [] ∧ h0.size ≤ r ∧ (Exa Z h r "[B") ∧ (Arv Z h r kid .byte (3 : Int32) [(.int (c0_.toInt8.toInt32)), (.int (c1_.toInt8.toInt32)), (.int (c2_.toInt8.toInt32))] (.int (0 : Int32)))
set_option maxRecDepth 65536 in
set_option maxHeartbeats 40000000 in
theorem rm_com3 (l : Launch) (Z : State) (a0 : Array Value) (hw : ∀ d ∈ tables_1, d.before a0 Z = true) (ws : List Jvm.Cond) (s1 : Addr) (ks : ClassId) (c0_ : Int32) (c1_ : Int32) (c2_ : Int32) (h0 : Heap) (n0 : Nat) (O0 : Old Z n0 h0) (A0_ : Arv Z h0 s1 ks .char (3 : Int32) [(.int c0_), (.int c1_), (.int c2_)] (.int (0 : Int32))) (hc0 : ¬ ((255 : Int32) < c0_)) (hc1 : ¬ ((255 : Int32) < c1_)) (hc2 : ¬ ((255 : Int32) < c2_)) :
    MetFree l (⟨"java/lang/StringUTF16", "compress", "([CII)[B"⟩ : MethodName) (head1 (Jvm.Cond.code (⟨"java/lang/StringUTF16", "compress", "([CII)[B"⟩ : MethodName) jdk_52_method_16_code 6 (some (.array .byte)) :: ws) ({ frames := 1, cells := 1, slots := 3, locals := 18 } : Room)) (fun a U => a = #[(.ref s1), (.int (0 : Int32)), (.int (3 : Int32))] ∧ Z.Warmed39 U.vm ∧ U.heap = h0) (fun _ _ _ _ _ => True) (fun _ U o U' => ∃ v L, o = .returned v ∧ Q_com3 Z s1 ks c0_ c1_ c2_ h0 n0 v U'.heap L ∧ FrameEnd U o U' L ({ frames := 1, cells := 1, slots := 3, locals := 18 } : Room).cells ({ frames := 1, cells := 1, slots := 3, locals := 18 } : Room).slots) := by
  refine MetFree.of_bodySF (plainFor_of_name pn_java_lang_StringUTF16) hisR ?_
  intro p e s m args below meth c s₁ Bd hml0 hP hK
  obtain ⟨rfl, hZ, hh⟩ := hP
  have hx := Bd.exec
  have hby := Bd.bytes
  have hml : c.maxLocals = 6 := hml0
  have hown : s.vm.findClass "java/lang/StringUTF16" = some m.cls := findClass_of_methodNamed Bd.named
  have hnm := (name_of_methodNamed Bd.named Bd.method).1
  have X0 : Stand p l e ({ frames := 1, cells := 1, slots := 3, locals := 18 } : Room) s m #[(.ref s1), (.int (0 : Int32)), (.int (3 : Int32))] below meth c s₁ [] 0 0 := Stand.of_body Bd
  have e0 : s₁.heap = h0 := by rw [← hh, Bd.state]; rfl
  have N0 := Fr.nil n0
  have g0 : Go p e below s₁ (mkF m 0 #[rv s1, iv (0 : Int32), iv (3 : Int32), .unset, .unset, .unset] []) (s₁.setTop (entryFrame m #[(.ref s1), (.int (0 : Int32)), (.int (3 : Int32))] 6)) := fun t kont => castTop (ef_com3 m s1 (0 : Int32) (3 : Int32) ) kont
  generalize s₁.setTop (entryFrame m #[(.ref s1), (.int (0 : Int32)), (.int (3 : Int32))] 6) = A0 at g0 ⊢
  have g101 : Go p e below s₁ (mkF m 1 #[rv s1, iv (0 : Int32), iv (3 : Int32), .unset, .unset, .unset] [(.int (3 : Int32))]) A0 := by
    intro t kont
    refine g0 t ?_
    refine XS.iloadN X0.here hx rfl (hb hby d12_0) rfl ?_
    show Steps p.tables e below (s₁.setTop (mkF m 1 #[rv s1, iv (0 : Int32), iv (3 : Int32), .unset, .unset, .unset] [(.int (3 : Int32))])) _
    exact kont
  obtain ⟨T102, h102, k102, X102, e102, E102, A102, F102, st102⟩ := newPE X0 hx hZ (hw _ (List.mem_of_getElem? (i := 14) rfl)) e0 (g := (mkF m 1 #[rv s1, iv (0 : Int32), iv (3 : Int32), .unset, .unset, .unset] [(.int (3 : Int32))])) rfl (hb hby d12_1) rfl (by decide) (cap := 3) (by decide) (by decide) (by decide) (by decide) (ad := "[B") (by decide)
  obtain ⟨b102, gb102⟩ : ∃ z, z = h0.size := ⟨_, rfl⟩
  rw [← gb102] at A102 F102 st102
  have O103 := O0.ext E102
  have y104 : Arv Z h102 b102 k102 .byte (3 : Int32) [(.int (0 : Int32)), (.int (0 : Int32)), (.int (0 : Int32))] (.int (0 : Int32)) := (Arv.new A102 (by decide)).pad (pad_rep [] (.int (0 : Int32)) 3)
  have g105 : Go p e below T102 (mkF m 3 #[rv s1, iv (0 : Int32), iv (3 : Int32), .unset, .unset, .unset] [(.ref b102)]) A0 := fun t kont => g101 t (st102 t kont)
  have g106 : Go p e below T102 (mkF m 9 #[rv s1, iv (0 : Int32), iv (3 : Int32), rv b102, .unset, .unset] [(.int (3 : Int32)), (.int (0 : Int32)), (.ref b102), (.int (0 : Int32)), (.ref s1)]) A0 := by
    intro t kont
    refine g105 t ?_
    refine XS.astoreN X102.here hx rfl (hb hby d12_3) rfl rfl (l' := #[rv s1, iv (0 : Int32), iv (3 : Int32), rv b102, .unset, .unset]) rfl ?_
    show Steps p.tables e below (T102.setTop (mkF m 4 #[rv s1, iv (0 : Int32), iv (3 : Int32), rv b102, .unset, .unset] [])) _
    refine XS.aloadN X102.here hx rfl (hb hby d12_4) rfl rfl ?_
    show Steps p.tables e below (T102.setTop (mkF m 5 #[rv s1, iv (0 : Int32), iv (3 : Int32), rv b102, .unset, .unset] [(.ref s1)])) _
    refine XS.iloadN X102.here hx rfl (hb hby d12_5) rfl ?_
    show Steps p.tables e below (T102.setTop (mkF m 6 #[rv s1, iv (0 : Int32), iv (3 : Int32), rv b102, .unset, .unset] [(.int (0 : Int32)), (.ref s1)])) _
    refine XS.aloadN X102.here hx rfl (hb hby d12_6) rfl rfl ?_
    show Steps p.tables e below (T102.setTop (mkF m 7 #[rv s1, iv (0 : Int32), iv (3 : Int32), rv b102, .unset, .unset] [(.ref b102), (.int (0 : Int32)), (.ref s1)])) _
    refine XS.iconst X102.here hx rfl (hb hby d12_7) ?_
    show Steps p.tables e below (T102.setTop (mkF m 8 #[rv s1, iv (0 : Int32), iv (3 : Int32), rv b102, .unset, .unset] [(.int (0 : Int32)), (.ref b102), (.int (0 : Int32)), (.ref s1)])) _
    refine XS.iloadN X102.here hx rfl (hb hby d12_8) rfl ?_
    show Steps p.tables e below (T102.setTop (mkF m 9 #[rv s1, iv (0 : Int32), iv (3 : Int32), rv b102, .unset, .unset] [(.int (3 : Int32)), (.int (0 : Int32)), (.ref b102), (.int (0 : Int32)), (.ref s1)])) _
    exact kont
  have y108 : Arv Z h102 s1 ks .char (3 : Int32) [(.int c0_), (.int c1_), (.int c2_)] (.int (0 : Int32)) := (A0_.ext E102)
  have ge109 : n0 ≤ b102 := Nat.le_trans (own_old_le O0) (Nat.le_of_eq gb102.symm)
  obtain ⟨_, _, ⟨T107, L107, k107, n107⟩, -, X107, ⟨Lc107, hQ107, l107, y107, z107⟩, st107⟩ := Jvm.LawKit.callS X102 hx (y := (⟨"java/lang/StringUTF16", "compress", "([CI[BII)I"⟩ : MethodName)) hown (mvT hZ (hw _ (List.mem_of_getElem? (i := 58) rfl))) (mvT hZ (hw _ (List.mem_of_getElem? (i := 59) rfl))) (mvT hZ (hw _ (List.mem_of_getElem? (i := 56) rfl))) (mvT hZ (hw _ (List.mem_of_getElem? (i := 60) rfl))) (by decide) (backOf (W := 0) (rm_cmp3 l Z a0 hw [] s1 b102 ks k102 c0_ c1_ c2_ h102 n0 O103 y108 y104 ge109 (Nat.ne_of_lt (Nat.lt_of_lt_of_le A0_.lt (Nat.le_of_eq gb102.symm))) hc0 hc1 hc2) hZ (hw _ (List.mem_of_getElem? (i := 60) rfl)) (hw _ (List.mem_of_getElem? (i := 56) rfl)) (by decide) (by decide)) (g := (mkF m 9 #[rv s1, iv (0 : Int32), iv (3 : Int32), rv b102, .unset, .unset] [(.int (3 : Int32)), (.int (0 : Int32)), (.ref b102), (.int (0 : Int32)), (.ref s1)])) rfl (by rw [hml]; rfl) (argsL := [(.ref s1), (.int (0 : Int32)), (.ref b102), (.int (0 : Int32)), (.int (3 : Int32))]) (rest := []) (lenOf pd_3 rfl) rfl (by show 2 * 0 + _ ≤ _; exact Nat.le_of_eq rfl) (hb hby d12_9) (fun _ _ => ⟨rfl, e102, (by decide : 1 + 0 ≤ _), (by decide : 3 + 0 ≤ _)⟩)
  dsimp only [Pt.U, Pt.locs, Pt.cells, Pt.slots] at X107 l107 y107 z107 st107 hQ107
  subst l107 y107 z107
  obtain ⟨rfl, M107, K107, y110⟩ := hQ107
  have N107 := Fr.app N0 M107
  have O111 := O103.keep K107 (allS ge109 all0)
  have g112 : Go p e below T107 (mkF m 12 #[rv s1, iv (0 : Int32), iv (3 : Int32), rv b102, .unset, .unset] [(.int (3 : Int32))]) A0 := fun t kont => g106 t (st107 t kont)
  have g113 : Go p e below T107 (mkF m 58 #[rv s1, iv (0 : Int32), iv (3 : Int32), rv b102, iv (3 : Int32), .unset] [(.ref b102)]) A0 := by
    intro t kont
    refine g112 t ?_
    refine XS.istore X107.here hx rfl (hb hby d12_12) rfl (l' := #[rv s1, iv (0 : Int32), iv (3 : Int32), rv b102, iv (3 : Int32), .unset]) rfl ?_
    show Steps p.tables e below (T107.setTop (mkF m 14 #[rv s1, iv (0 : Int32), iv (3 : Int32), rv b102, iv (3 : Int32), .unset] [])) _
    refine XS.iload X107.here hx rfl (hb hby d12_14) rfl ?_
    show Steps p.tables e below (T107.setTop (mkF m 16 #[rv s1, iv (0 : Int32), iv (3 : Int32), rv b102, iv (3 : Int32), .unset] [(.int (3 : Int32))])) _
    refine XS.iloadN X107.here hx rfl (hb hby d12_16) rfl ?_
    show Steps p.tables e below (T107.setTop (mkF m 17 #[rv s1, iv (0 : Int32), iv (3 : Int32), rv b102, iv (3 : Int32), .unset] [(.int (3 : Int32)), (.int (3 : Int32))])) _
    refine XS.icmpYes X107.here hx rfl (pc0 := 17) (pc' := 57) rfl (hb hby d12_17) rfl (teq (by decide : (3 : Int32) = (3 : Int32))).1 (by decide) (by decide) ?_
    show Steps p.tables e below (T107.setTop (mkF m 57 #[rv s1, iv (0 : Int32), iv (3 : Int32), rv b102, iv (3 : Int32), .unset] [])) _
    refine XS.aloadN X107.here hx rfl (hb hby d12_57) rfl rfl ?_
    show Steps p.tables e below (T107.setTop (mkF m 58 #[rv s1, iv (0 : Int32), iv (3 : Int32), rv b102, iv (3 : Int32), .unset] [(.ref b102)])) _
    exact kont
  have K114 : Keep h0 T107.heap [] := (((Keep.refl h0 []).ext E102).trans K107 (allS (P := fun x => x ∈ [] ∨ h0.size ≤ x) (Or.inr (Nat.le_of_eq gb102.symm)) all0))
  have y115 : Exa Z T107.heap b102 "[B" := (F102.keep K107)
  obtain ⟨fs, hr, hrun, hended, hW, hsame⟩ := X107.leave (v := some (.ref b102)) (fun h => by rw [Bd.returns] at h; cases h)
  refine ⟨_, _, g113 _ (retOut X107 hx Bd.returns rfl (Or.inr (Or.inr (Or.inr (Or.inr ⟨rfl, rfl, rfl⟩)))) (hb hby d12_58) hr), hrun, hended, _, _, rfl, ?_, ⟨_, rfl⟩, hW, hsame.mono (by decide) (by decide)⟩
  show Q_com3 Z s1 ks c0_ c1_ c2_ h0 n0 _ T107.heap _
  exact ⟨b102, k102, rfl, N107, K114, (Nat.le_of_eq gb102.symm), y115, y110⟩
theorem ef_cfa3 (m : MethodId) (x0 : Addr) (x1 : Int32)  : entryFrame m #[(.ref x0), (.int x1)] 2 = mkF m 0 #[.val (.ref x0), .val (.int x1)] [] := by first | (simp [entryFrame, mkF, argsToLocals, Value.category]; done) | rfl
def Q_cfa3 (Z : State) (b1 : Addr) (kid : ClassId) (vs : List Value) (h0 : Heap) (n0 : Nat) (v : Option Value) (h : Heap) (L : List Loc) : Prop := v = some (.int (0 : Int32)) ∧ Fr n0 L ∧ h = h0
set_option maxRecDepth 65536 in
set_option maxHeartbeats 40000000 in
theorem rm_cfa3 (l : Launch) (Z : State) (a0 : Array Value) (hw : ∀ d ∈ tables_1, d.before a0 Z = true) (ws : List Jvm.Cond) (b1 : Addr) (kid : ClassId) (vs : List Value) (h0 : Heap) (n0 : Nat) (O0 : Old Z n0 h0) (A0_ : Arv Z h0 b1 kid .byte (3 : Int32) vs (.int (0 : Int32))) :
    MetFree l (⟨"java/lang/StringUTF16", "coderFromArrayLen", "([BI)B"⟩ : MethodName) (head1 (Jvm.Cond.code (⟨"java/lang/StringUTF16", "coderFromArrayLen", "([BI)B"⟩ : MethodName) jdk_52_method_15_code 2 (some .byte) :: ws) ({ frames := 0, cells := 0, slots := 0, locals := 0 } : Room)) (fun a U => a = #[(.ref b1), (.int (3 : Int32))] ∧ Z.Warmed39 U.vm ∧ U.heap = h0) (fun _ _ _ _ _ => True) (fun _ U o U' => ∃ v L, o = .returned v ∧ Q_cfa3 Z b1 kid vs h0 n0 v U'.heap L ∧ FrameEnd U o U' L ({ frames := 0, cells := 0, slots := 0, locals := 0 } : Room).cells ({ frames := 0, cells := 0, slots := 0, locals := 0 } : Room).slots) := by
  refine MetFree.of_bodySF (plainFor_of_name pn_java_lang_StringUTF16) hisR ?_
  intro p e s m args below meth c s₁ Bd hml0 hP hK
  obtain ⟨rfl, hZ, hh⟩ := hP
  have hx := Bd.exec
  have hby := Bd.bytes
  have hml : c.maxLocals = 2 := hml0
  have hown : s.vm.findClass "java/lang/StringUTF16" = some m.cls := findClass_of_methodNamed Bd.named
  have hnm := (name_of_methodNamed Bd.named Bd.method).1
  have X0 : Stand p l e ({ frames := 0, cells := 0, slots := 0, locals := 0 } : Room) s m #[(.ref b1), (.int (3 : Int32))] below meth c s₁ [] 0 0 := Stand.of_body Bd
  have e0 : s₁.heap = h0 := by rw [← hh, Bd.state]; rfl
  have N0 := Fr.nil n0
  have g0 : Go p e below s₁ (mkF m 0 #[rv b1, iv (3 : Int32)] []) (s₁.setTop (entryFrame m #[(.ref b1), (.int (3 : Int32))] 2)) := fun t kont => castTop (ef_cfa3 m b1 (3 : Int32) ) kont
  generalize s₁.setTop (entryFrame m #[(.ref b1), (.int (3 : Int32))] 2) = A0 at g0 ⊢
  have g101 : Go p e below s₁ (mkF m 2 #[rv b1, iv (3 : Int32)] [(.ref b1), (.int (3 : Int32))]) A0 := by
    intro t kont
    refine g0 t ?_
    refine XS.iloadN X0.here hx rfl (hb hby d14_0) rfl ?_
    show Steps p.tables e below (s₁.setTop (mkF m 1 #[rv b1, iv (3 : Int32)] [(.int (3 : Int32))])) _
    refine XS.aloadN X0.here hx rfl (hb hby d14_1) rfl rfl ?_
    show Steps p.tables e below (s₁.setTop (mkF m 2 #[rv b1, iv (3 : Int32)] [(.ref b1), (.int (3 : Int32))])) _
    exact kont
  have zz102 := A0_
  obtain ⟨cl102, Ar102, -, S102, M102, -, -⟩ := zz102
  have g103 : Go p e below s₁ (mkF m 3 #[rv b1, iv (3 : Int32)] [(.int (3 : Int32)), (.int (3 : Int32))]) A0 := by
    intro t kont
    refine g101 t ?_
    refine X0.arraylength hx (by rw [e0]; exact Ar102.1) (State.isArrayOf_alike hZ.alike Ar102.2.1) (g := (mkF m 2 #[rv b1, iv (3 : Int32)] [(.ref b1), (.int (3 : Int32))])) rfl rfl (hb hby d14_2) _ ?_
    rw [len_of S102 M102]
    exact kont
  have g104 : Go p e below s₁ (mkF m 8 #[rv b1, iv (3 : Int32)] [(.int (0 : Int32))]) A0 := by
    intro t kont
    refine g103 t ?_
    refine XS.isub X0.here hx rfl (hb hby d14_3) rfl ?_
    show Steps p.tables e below (s₁.setTop (mkF m 4 #[rv b1, iv (3 : Int32)] [(.int (0 : Int32))])) _
    refine XS.bipush X0.here hx rfl (hb hby d14_4) ?_
    show Steps p.tables e below (s₁.setTop (mkF m 6 #[rv b1, iv (3 : Int32)] [(.int (31 : Int32)), (.int (0 : Int32))])) _
    refine XS.iushr X0.here hx rfl (hb hby d14_6) rfl ?_
    show Steps p.tables e below (s₁.setTop (mkF m 7 #[rv b1, iv (3 : Int32)] [(.int (0 : Int32))])) _
    refine XS.i2b X0.here hx rfl (hb hby d14_7) rfl ?_
    show Steps p.tables e below (s₁.setTop (mkF m 8 #[rv b1, iv (3 : Int32)] [(.int (0 : Int32))])) _
    exact kont
  obtain ⟨fs, hr, hrun, hended, hW, hsame⟩ := X0.leave (v := some (.int (0 : Int32))) (fun h => by rw [Bd.returns] at h; cases h)
  refine ⟨_, _, g104 _ (retN X0 hx (t := .byte) Bd.returns (by simp) (hb hby d14_8) hr), hrun, hended, _, _, rfl, ?_, ⟨_, rfl⟩, hW, hsame.mono (by decide) (by decide)⟩
  show Q_cfa3 Z b1 kid vs h0 n0 _ s₁.heap _
  rw [e0]
  exact ⟨rfl, N0, rfl⟩
theorem ef_sin3 (m : MethodId) (x0 : Addr) (x1 : Addr) (x2 : Int32) (x3 : Int32)  : entryFrame m #[(.ref x0), (.ref x1), (.int x2), (.int x3), .null] 6 = mkF m 0 #[.val (.ref x0), .val (.ref x1), .val (.int x2), .val (.int x3), .val .null, .unset] [] := by first | (simp [entryFrame, mkF, argsToLocals, Value.category]; done) | rfl
def Q_sin3 (Z : State) (a1 : Addr) (s1 : Addr) (ks : ClassId) (c0_ : Int32) (c1_ : Int32) (c2_ : Int32) (cs : Int32) (h0 : Heap) (n0 : Nat) (v : Option Value) (h : Heap) (L : List Loc) : Prop := ∃ (r : Addr), ∃ (kid : ClassId), v = none ∧ Fr n0 L ∧ Keep h0 h [a1] ∧ (Exa Z h a1 "java/lang/String") ∧ (Fld Z h a1 "java/lang/String" "coder" "B" (.int (0 : Int32))) ∧ (Fld Z h a1 "java/lang/String" "value" "[B" (.ref r)) ∧ h0.size ≤ r ∧ (Arv Z h r kid .byte (3 : Int32) [(.int (c0_.toInt8.toInt32)), (.int (c1_.toInt8.toInt32)), (.int (c2_.toInt8.toInt32))] (.int (0 : Int32)))
set_option maxRecDepth 65536 in
set_option maxHeartbeats 40000000 in
theorem rm_sin3 (l : Launch) (Z : State) (a0 : Array Value) (hw : ∀ d ∈ tables_1, d.before a0 Z = true) (ws : List Jvm.Cond) (a1 : Addr) (s1 : Addr) (ks : ClassId) (c0_ : Int32) (c1_ : Int32) (c2_ : Int32) (cs : Int32) (h0 : Heap) (n0 : Nat) (O0 : Old Z n0 h0) (F0_ : Fld Z h0 a1 "java/lang/String" "value" "[B" .null) (F1_ : Fld Z h0 a1 "java/lang/String" "coder" "B" (.int (0 : Int32))) (E2_ : Exa Z h0 a1 "java/lang/String") (G3_ : n0 ≤ a1) (A4_ : Arv Z h0 s1 ks .char (3 : Int32) [(.int c0_), (.int c1_), (.int c2_)] (.int (0 : Int32))) (hc0 : ¬ ((255 : Int32) < c0_)) (hc1 : ¬ ((255 : Int32) < c1_)) (hc2 : ¬ ((255 : Int32) < c2_)) (S8_ : Sta Z Z.heap "java/lang/String" "COMPACT_STRINGS" "Z" (.int cs)) (hcs : ¬ (cs = (0 : Int32))) :
    MetFree l (⟨"java/lang/String", "<init>", "([CIILjava/lang/Void;)V"⟩ : MethodName) (head1 (Jvm.Cond.code (⟨"java/lang/String", "<init>", "([CIILjava/lang/Void;)V"⟩ : MethodName) jdk_42_method_149_code 6 none :: ws) ({ frames := 2, cells := 1, slots := 3, locals := 35 } : Room)) (fun a U => a = #[(.ref a1), (.ref s1), (.int (0 : Int32)), (.int (3 : Int32)), .null] ∧ Z.Warmed39 U.vm ∧ U.heap = h0) (fun _ _ _ _ _ => True) (fun _ U o U' => ∃ v L, o = .returned v ∧ Q_sin3 Z a1 s1 ks c0_ c1_ c2_ cs h0 n0 v U'.heap L ∧ FrameEnd U o U' L ({ frames := 2, cells := 1, slots := 3, locals := 35 } : Room).cells ({ frames := 2, cells := 1, slots := 3, locals := 35 } : Room).slots) := by
  refine MetFree.of_bodySF (plainFor_of_name pn_java_lang_String) hisR ?_
  intro p e s m args below meth c s₁ Bd hml0 hP hK
  obtain ⟨rfl, hZ, hh⟩ := hP
  have hx := Bd.exec
  have hby := Bd.bytes
  have hml : c.maxLocals = 6 := hml0
  have hown : s.vm.findClass "java/lang/String" = some m.cls := findClass_of_methodNamed Bd.named
  have hnm := (name_of_methodNamed Bd.named Bd.method).1
  have X0 : Stand p l e ({ frames := 2, cells := 1, slots := 3, locals := 35 } : Room) s m #[(.ref a1), (.ref s1), (.int (0 : Int32)), (.int (3 : Int32)), .null] below meth c s₁ [] 0 0 := Stand.of_body Bd
  have e0 : s₁.heap = h0 := by rw [← hh, Bd.state]; rfl
  have N0 := Fr.nil n0
  have g0 : Go p e below s₁ (mkF m 0 #[rv a1, rv s1, iv (0 : Int32), iv (3 : Int32), .val .null, .unset] []) (s₁.setTop (entryFrame m #[(.ref a1), (.ref s1), (.int (0 : Int32)), (.int (3 : Int32)), .null] 6)) := fun t kont => castTop (ef_sin3 m a1 s1 (0 : Int32) (3 : Int32) ) kont
  generalize s₁.setTop (entryFrame m #[(.ref a1), (.ref s1), (.int (0 : Int32)), (.int (3 : Int32)), .null] 6) = A0 at g0 ⊢
  have g101 : Go p e below s₁ (mkF m 1 #[rv a1, rv s1, iv (0 : Int32), iv (3 : Int32), .val .null, .unset] [(.ref a1)]) A0 := by
    intro t kont
    refine g0 t ?_
    refine XS.aloadN X0.here hx rfl (hb hby d11_0) rfl rfl ?_
    show Steps p.tables e below (s₁.setTop (mkF m 1 #[rv a1, rv s1, iv (0 : Int32), iv (3 : Int32), .val .null, .unset] [(.ref a1)])) _
    exact kont
  obtain ⟨T102, X102, e102, st102⟩ := initO X0 hx hZ hown (hw _ (List.mem_of_getElem? (i := 19) rfl)) (hw _ (List.mem_of_getElem? (i := 20) rfl)) (hw _ (List.mem_of_getElem? (i := 21) rfl)) e0 (g := (mkF m 1 #[rv a1, rv s1, iv (0 : Int32), iv (3 : Int32), .val .null, .unset] [(.ref a1)])) rfl (by rw [hml]; rfl) rfl (hb hby d11_1) (by decide) (W := 0) (by show 2 * 0 + _ ≤ _; exact Nat.le_of_eq rfl) (by decide)
  have g103 : Go p e below T102 (mkF m 4 #[rv a1, rv s1, iv (0 : Int32), iv (3 : Int32), .val .null, .unset] []) A0 := fun t kont => g101 t (st102 t kont)
  have g104 : Go p e below T102 (mkF m 27 #[rv a1, rv s1, iv (0 : Int32), iv (3 : Int32), .val .null, .unset] []) A0 := by
    intro t kont
    refine g103 t ?_
    refine XS.iloadN X102.here hx rfl (hb hby d11_4) rfl ?_
    show Steps p.tables e below (T102.setTop (mkF m 5 #[rv a1, rv s1, iv (0 : Int32), iv (3 : Int32), .val .null, .unset] [(.int (3 : Int32))])) _
    refine XS.ifYes X102.here hx rfl (pc0 := 5) (pc' := 27) rfl (hb hby d11_5) rfl ((if0 _ _).trans (feq (by decide : ¬ ((3 : Int32) = (0 : Int32)))).2) (by decide) (by decide) ?_
    show Steps p.tables e below (T102.setTop (mkF m 27 #[rv a1, rv s1, iv (0 : Int32), iv (3 : Int32), .val .null, .unset] [])) _
    exact kont
  have y105 : Sta Z h0 "java/lang/String" "COMPACT_STRINGS" "Z" (.int cs) := S8_.ext O0.2
  obtain ⟨T106, X106, e106, st106⟩ := getS2 X102 hx hZ hown (host := "") (Or.inl (hw _ (List.mem_of_getElem? (i := 4) rfl))) Via.refl e102 y105 (g := (mkF m 27 #[rv a1, rv s1, iv (0 : Int32), iv (3 : Int32), .val .null, .unset] [])) rfl (hb hby d11_27)
  have g107 : Go p e below T106 (mkF m 30 #[rv a1, rv s1, iv (0 : Int32), iv (3 : Int32), .val .null, .unset] [(.int cs)]) A0 := fun t kont => g104 t (st106 t kont)
  have g108 : Go p e below T106 (mkF m 36 #[rv a1, rv s1, iv (0 : Int32), iv (3 : Int32), .val .null, .unset] [(.int (3 : Int32)), (.int (0 : Int32)), (.ref s1)]) A0 := by
    intro t kont
    refine g107 t ?_
    refine XS.ifNo X106.here hx rfl (hb hby d11_30) rfl ((if0 _ _).trans (feq hcs).1) ?_
    show Steps p.tables e below (T106.setTop (mkF m 33 #[rv a1, rv s1, iv (0 : Int32), iv (3 : Int32), .val .null, .unset] [])) _
    refine XS.aloadN X106.here hx rfl (hb hby d11_33) rfl rfl ?_
    show Steps p.tables e below (T106.setTop (mkF m 34 #[rv a1, rv s1, iv (0 : Int32), iv (3 : Int32), .val .null, .unset] [(.ref s1)])) _
    refine XS.iloadN X106.here hx rfl (hb hby d11_34) rfl ?_
    show Steps p.tables e below (T106.setTop (mkF m 35 #[rv a1, rv s1, iv (0 : Int32), iv (3 : Int32), .val .null, .unset] [(.int (0 : Int32)), (.ref s1)])) _
    refine XS.iloadN X106.here hx rfl (hb hby d11_35) rfl ?_
    show Steps p.tables e below (T106.setTop (mkF m 36 #[rv a1, rv s1, iv (0 : Int32), iv (3 : Int32), .val .null, .unset] [(.int (3 : Int32)), (.int (0 : Int32)), (.ref s1)])) _
    exact kont
  obtain ⟨_, _, ⟨T109, L109, k109, n109⟩, -, X109, ⟨Lc109, hQ109, l109, y109, z109⟩, st109⟩ := Jvm.LawKit.callS X106 hx (y := (⟨"java/lang/StringUTF16", "compress", "([CII)[B"⟩ : MethodName)) hown (mvT hZ (hw _ (List.mem_of_getElem? (i := 54) rfl))) (mvT hZ (hw _ (List.mem_of_getElem? (i := 55) rfl))) (mvT hZ (hw _ (List.mem_of_getElem? (i := 56) rfl))) (mvT hZ (hw _ (List.mem_of_getElem? (i := 57) rfl))) (by decide) (backOf (W := 0) (rm_com3 l Z a0 hw [] s1 ks c0_ c1_ c2_ h0 n0 O0 A4_ hc0 hc1 hc2) hZ (hw _ (List.mem_of_getElem? (i := 57) rfl)) (hw _ (List.mem_of_getElem? (i := 56) rfl)) (by decide) (by decide)) (g := (mkF m 36 #[rv a1, rv s1, iv (0 : Int32), iv (3 : Int32), .val .null, .unset] [(.int (3 : Int32)), (.int (0 : Int32)), (.ref s1)])) rfl (by rw [hml]; rfl) (argsL := [(.ref s1), (.int (0 : Int32)), (.int (3 : Int32))]) (rest := []) (lenOf pd_4 rfl) rfl (by show 2 * 0 + _ ≤ _; exact Nat.le_of_eq rfl) (hb hby d11_36) (fun _ _ => ⟨rfl, e106, (by decide : 0 + 1 ≤ _), (by decide : 0 + 3 ≤ _)⟩)
  dsimp only [Pt.U, Pt.locs, Pt.cells, Pt.slots] at X109 l109 y109 z109 st109 hQ109
  subst l109 y109 z109
  obtain ⟨r110, r111, rfl, M109, K109, y112, y113, y114⟩ := hQ109
  have N109 := Fr.app N0 M109
  have O115 := O0.keep K109 all0
  have g116 : Go p e below T109 (mkF m 39 #[rv a1, rv s1, iv (0 : Int32), iv (3 : Int32), .val .null, .unset] [(.ref r110)]) A0 := fun t kont => g108 t (st109 t kont)
  have g117 : Go p e below T109 (mkF m 45 #[rv a1, rv s1, iv (0 : Int32), iv (3 : Int32), .val .null, rv r110] [(.int (3 : Int32)), (.ref r110), (.ref a1)]) A0 := by
    intro t kont
    refine g116 t ?_
    refine XS.astore X109.here hx rfl (hb hby d11_39) rfl rfl (l' := #[rv a1, rv s1, iv (0 : Int32), iv (3 : Int32), .val .null, rv r110]) rfl ?_
    show Steps p.tables e below (T109.setTop (mkF m 41 #[rv a1, rv s1, iv (0 : Int32), iv (3 : Int32), .val .null, rv r110] [])) _
    refine XS.aloadN X109.here hx rfl (hb hby d11_41) rfl rfl ?_
    show Steps p.tables e below (T109.setTop (mkF m 42 #[rv a1, rv s1, iv (0 : Int32), iv (3 : Int32), .val .null, rv r110] [(.ref a1)])) _
    refine XS.aload X109.here hx rfl (hb hby d11_42) rfl rfl ?_
    show Steps p.tables e below (T109.setTop (mkF m 44 #[rv a1, rv s1, iv (0 : Int32), iv (3 : Int32), .val .null, rv r110] [(.ref r110), (.ref a1)])) _
    refine XS.iloadN X109.here hx rfl (hb hby d11_44) rfl ?_
    show Steps p.tables e below (T109.setTop (mkF m 45 #[rv a1, rv s1, iv (0 : Int32), iv (3 : Int32), .val .null, rv r110] [(.int (3 : Int32)), (.ref r110), (.ref a1)])) _
    exact kont
  obtain ⟨_, _, ⟨T118, L118, k118, n118⟩, -, X118, ⟨Lc118, hQ118, l118, y118, z118⟩, st118⟩ := Jvm.LawKit.callS X109 hx (y := (⟨"java/lang/StringUTF16", "coderFromArrayLen", "([BI)B"⟩ : MethodName)) hown (mvT hZ (hw _ (List.mem_of_getElem? (i := 61) rfl))) (mvT hZ (hw _ (List.mem_of_getElem? (i := 62) rfl))) (mvT hZ (hw _ (List.mem_of_getElem? (i := 56) rfl))) (mvT hZ (hw _ (List.mem_of_getElem? (i := 63) rfl))) (by decide) (backOf (W := 1) (rm_cfa3 l Z a0 hw [] r110 r111 [(.int (c0_.toInt8.toInt32)), (.int (c1_.toInt8.toInt32)), (.int (c2_.toInt8.toInt32))] T109.heap n0 O115 y114) hZ (hw _ (List.mem_of_getElem? (i := 63) rfl)) (hw _ (List.mem_of_getElem? (i := 56) rfl)) (by decide) (by decide)) (g := (mkF m 45 #[rv a1, rv s1, iv (0 : Int32), iv (3 : Int32), .val .null, rv r110] [(.int (3 : Int32)), (.ref r110), (.ref a1)])) rfl (by rw [hml]; rfl) (argsL := [(.ref r110), (.int (3 : Int32))]) (rest := [(.ref a1)]) (lenOf pd_5 rfl) rfl (by show 2 * 0 + _ ≤ _; exact Nat.le_of_eq rfl) (hb hby d11_45) (fun _ _ => ⟨rfl, rfl, (by decide : 1 + 0 ≤ _), (by decide : 3 + 0 ≤ _)⟩)
  dsimp only [Pt.U, Pt.locs, Pt.cells, Pt.slots] at X118 l118 y118 z118 st118 hQ118
  subst l118 y118 z118
  obtain ⟨rfl, M118, e118⟩ := hQ118
  have N118 := Fr.app N109 M118
  have g119 : Go p e below T118 (mkF m 48 #[rv a1, rv s1, iv (0 : Int32), iv (3 : Int32), .val .null, rv r110] [(.int (0 : Int32)), (.ref a1)]) A0 := fun t kont => g117 t (st118 t kont)
  have y120 : Exa Z T109.heap a1 "java/lang/String" := (E2_.keep K109)
  have y121 : Fld Z T109.heap a1 "java/lang/String" "coder" "B" (.int (0 : Int32)) := (F1_.keep K109 nin0)
  obtain ⟨T122, h122, X122, e122, W122, st122⟩ := putFN X118 hx hZ hown (hw _ (List.mem_of_getElem? (i := 24) rfl)) Via.refl e118 y121 y120 (Or.inr ⟨(hw _ (List.mem_of_getElem? (i := 25) rfl)), rfl, hnm⟩) (hw _ (List.mem_of_getElem? (i := 10) rfl)) (ty := .byte) (v := (.int (0 : Int32))) (v' := (.int (0 : Int32))) (by decide) (own_nw_byte (by decide : nar .byte (0 : Int32) = (0 : Int32))) (own_ft_byte (by decide : nar .byte (0 : Int32) = (0 : Int32))) (g := (mkF m 48 #[rv a1, rv s1, iv (0 : Int32), iv (3 : Int32), .val .null, rv r110] [(.int (0 : Int32)), (.ref a1)])) rfl rfl (hb hby d11_48)
  have O123 := O115.wr W122 G3_
  have y124 : Fld Z h122 a1 "java/lang/String" "coder" "B" (.int (0 : Int32)) := y121.same W122
  have N122 := Fr.snoc X122 N118 G3_
  have g125 : Go p e below T122 (mkF m 51 #[rv a1, rv s1, iv (0 : Int32), iv (3 : Int32), .val .null, rv r110] []) A0 := fun t kont => g119 t (st122 t kont)
  have g126 : Go p e below T122 (mkF m 54 #[rv a1, rv s1, iv (0 : Int32), iv (3 : Int32), .val .null, rv r110] [(.ref r110), (.ref a1)]) A0 := by
    intro t kont
    refine g125 t ?_
    refine XS.aloadN X122.here hx rfl (hb hby d11_51) rfl rfl ?_
    show Steps p.tables e below (T122.setTop (mkF m 52 #[rv a1, rv s1, iv (0 : Int32), iv (3 : Int32), .val .null, rv r110] [(.ref a1)])) _
    refine XS.aload X122.here hx rfl (hb hby d11_52) rfl rfl ?_
    show Steps p.tables e below (T122.setTop (mkF m 54 #[rv a1, rv s1, iv (0 : Int32), iv (3 : Int32), .val .null, rv r110] [(.ref r110), (.ref a1)])) _
    exact kont
  have y127 : Exa Z h122 a1 "java/lang/String" := (y120.wr W122)
  have y128 : Fld Z h122 a1 "java/lang/String" "value" "[B" .null := ((F0_.keep K109 nin0).other W122 (Or.inr (slot_ne (Or.inr (hw _ (List.mem_of_getElem? (i := 23) rfl))) (Or.inr (hw _ (List.mem_of_getElem? (i := 25) rfl))) (by decide) (t := (.array .byte)) (t' := .byte) (by decide) (by decide))))
  obtain ⟨T129, h129, X129, e129, W129, st129⟩ := putF X122 hx hZ hown (host := "") (Or.inl (hw _ (List.mem_of_getElem? (i := 22) rfl))) Via.refl e122 y128 y127 (Or.inr ⟨(hw _ (List.mem_of_getElem? (i := 23) rfl)), rfl, hnm⟩) (hw _ (List.mem_of_getElem? (i := 10) rfl)) (ty := (.array .byte)) (by decide) rfl rfl (g := (mkF m 54 #[rv a1, rv s1, iv (0 : Int32), iv (3 : Int32), .val .null, rv r110] [(.ref r110), (.ref a1)])) rfl rfl (hb hby d11_54)
  have O130 := O123.wr W129 G3_
  have y131 : Fld Z h129 a1 "java/lang/String" "value" "[B" (.ref r110) := y128.same W129
  have N129 := Fr.snoc X129 N122 G3_
  have g132 : Go p e below T129 (mkF m 57 #[rv a1, rv s1, iv (0 : Int32), iv (3 : Int32), .val .null, rv r110] []) A0 := fun t kont => g126 t (st129 t kont)
  have K133 : Keep h0 h129 [a1] := ((((Keep.refl h0 [a1]).trans K109 (fun x hx => nomatch hx)).wr W122 (Or.inl (List.mem_of_getElem? (i := 0) rfl))).wr W129 (Or.inl (List.mem_of_getElem? (i := 0) rfl)))
  have y134 : Exa Z h129 a1 "java/lang/String" := (y127.wr W129)
  have y135 : Fld Z h129 a1 "java/lang/String" "coder" "B" (.int (0 : Int32)) := (y124.other W129 (Or.inr (slot_ne (Or.inr (hw _ (List.mem_of_getElem? (i := 25) rfl))) (Or.inr (hw _ (List.mem_of_getElem? (i := 23) rfl))) (by decide) (t := .byte) (t' := (.array .byte)) (by decide) (by decide))))
  have y136 : Arv Z h129 r110 r111 .byte (3 : Int32) [(.int (c0_.toInt8.toInt32)), (.int (c1_.toInt8.toInt32)), (.int (c2_.toInt8.toInt32))] (.int (0 : Int32)) := ((y114.other W122 (Ne.symm (Nat.ne_of_lt (Nat.lt_of_lt_of_le F0_.lt y112)))).other W129 (Ne.symm (Nat.ne_of_lt (Nat.lt_of_lt_of_le F0_.lt y112))))
  obtain ⟨fs, hr, hrun, hended, hW, hsame⟩ := X129.leave (v := none) (fun _ => rfl)
  refine ⟨_, _, g132 _ (X129.returnOut hx Bd.returns (hb hby d11_57) hr), hrun, hended, _, _, rfl, ?_, ⟨_, rfl⟩, hW, hsame.mono (by decide) (by decide)⟩
  show Q_sin3 Z a1 s1 ks c0_ c1_ c2_ cs h0 n0 _ T129.heap _
  rw [e129]
  exact ⟨r110, r111, rfl, N129, K133, y134, y135, y131, y112, y136⟩
theorem ef_sIni3 (m : MethodId) (x0 : Addr) (x1 : Addr)  : entryFrame m #[(.ref x0), (.ref x1)] 2 = mkF m 0 #[.val (.ref x0), .val (.ref x1)] [] := by first | (simp [entryFrame, mkF, argsToLocals, Value.category]; done) | rfl
def Q_sIni3 (Z : State) (a1 : Addr) (s1 : Addr) (ks : ClassId) (c0_ : Int32) (c1_ : Int32) (c2_ : Int32) (cs : Int32) (h0 : Heap) (n0 : Nat) (v : Option Value) (h : Heap) (L : List Loc) : Prop := ∃ (r : Addr), ∃ (kid : ClassId), v = none ∧ Fr n0 L ∧ Keep h0 h [a1] ∧ (Exa Z h a1 "java/lang/String") ∧ (Fld Z h a1 "java/lang/String" "coder" "B" (.int (0 : Int32))) ∧ (Fld Z h a1 "java/lang/String" "value" "[B" (.ref r)) ∧ h0.size ≤ r ∧ (Arv Z h r kid .byte (3 : Int32) [(.int (c0_.toInt8.toInt32)), (.int (c1_.toInt8.toInt32)), (.int (c2_.toInt8.toInt32))] (.int (0 : Int32)))
set_option maxRecDepth 65536 in
set_option maxHeartbeats 40000000 in
theorem rm_sIni3 (l : Launch) (Z : State) (a0 : Array Value) (hw : ∀ d ∈ tables_1, d.before a0 Z = true) (ws : List Jvm.Cond) (a1 : Addr) (s1 : Addr) (ks : ClassId) (c0_ : Int32) (c1_ : Int32) (c2_ : Int32) (cs : Int32) (h0 : Heap) (n0 : Nat) (O0 : Old Z n0 h0) (F0_ : Fld Z h0 a1 "java/lang/String" "value" "[B" .null) (F1_ : Fld Z h0 a1 "java/lang/String" "coder" "B" (.int (0 : Int32))) (E2_ : Exa Z h0 a1 "java/lang/String") (G3_ : n0 ≤ a1) (A4_ : Arv Z h0 s1 ks .char (3 : Int32) [(.int c0_), (.int c1_), (.int c2_)] (.int (0 : Int32))) (hc0 : ¬ ((255 : Int32) < c0_)) (hc1 : ¬ ((255 : Int32) < c1_)) (hc2 : ¬ ((255 : Int32) < c2_)) (S8_ : Sta Z Z.heap "java/lang/String" "COMPACT_STRINGS" "Z" (.int cs)) (hcs : ¬ (cs = (0 : Int32))) :
    MetFree l (⟨"java/lang/String", "<init>", "([C)V"⟩ : MethodName) (head1 (Jvm.Cond.code (⟨"java/lang/String", "<init>", "([C)V"⟩ : MethodName) jdk_42_method_3_code 2 none :: ws) ({ frames := 3, cells := 1, slots := 3, locals := 52 } : Room)) (fun a U => a = #[(.ref a1), (.ref s1)] ∧ Z.Warmed39 U.vm ∧ U.heap = h0) (fun _ _ _ _ _ => True) (fun _ U o U' => ∃ v L, o = .returned v ∧ Q_sIni3 Z a1 s1 ks c0_ c1_ c2_ cs h0 n0 v U'.heap L ∧ FrameEnd U o U' L ({ frames := 3, cells := 1, slots := 3, locals := 52 } : Room).cells ({ frames := 3, cells := 1, slots := 3, locals := 52 } : Room).slots) := by
  refine MetFree.of_bodySF (plainFor_of_name pn_java_lang_String) hisR ?_
  intro p e s m args below meth c s₁ Bd hml0 hP hK
  obtain ⟨rfl, hZ, hh⟩ := hP
  have hx := Bd.exec
  have hby := Bd.bytes
  have hml : c.maxLocals = 2 := hml0
  have hown : s.vm.findClass "java/lang/String" = some m.cls := findClass_of_methodNamed Bd.named
  have hnm := (name_of_methodNamed Bd.named Bd.method).1
  have X0 : Stand p l e ({ frames := 3, cells := 1, slots := 3, locals := 52 } : Room) s m #[(.ref a1), (.ref s1)] below meth c s₁ [] 0 0 := Stand.of_body Bd
  have e0 : s₁.heap = h0 := by rw [← hh, Bd.state]; rfl
  have N0 := Fr.nil n0
  have g0 : Go p e below s₁ (mkF m 0 #[rv a1, rv s1] []) (s₁.setTop (entryFrame m #[(.ref a1), (.ref s1)] 2)) := fun t kont => castTop (ef_sIni3 m a1 s1 ) kont
  generalize s₁.setTop (entryFrame m #[(.ref a1), (.ref s1)] 2) = A0 at g0 ⊢
  have g101 : Go p e below s₁ (mkF m 4 #[rv a1, rv s1] [(.ref s1), (.int (0 : Int32)), (.ref s1), (.ref a1)]) A0 := by
    intro t kont
    refine g0 t ?_
    refine XS.aloadN X0.here hx rfl (hb hby d10_0) rfl rfl ?_
    show Steps p.tables e below (s₁.setTop (mkF m 1 #[rv a1, rv s1] [(.ref a1)])) _
    refine XS.aloadN X0.here hx rfl (hb hby d10_1) rfl rfl ?_
    show Steps p.tables e below (s₁.setTop (mkF m 2 #[rv a1, rv s1] [(.ref s1), (.ref a1)])) _
    refine XS.iconst X0.here hx rfl (hb hby d10_2) ?_
    show Steps p.tables e below (s₁.setTop (mkF m 3 #[rv a1, rv s1] [(.int (0 : Int32)), (.ref s1), (.ref a1)])) _
    refine XS.aloadN X0.here hx rfl (hb hby d10_3) rfl rfl ?_
    show Steps p.tables e below (s₁.setTop (mkF m 4 #[rv a1, rv s1] [(.ref s1), (.int (0 : Int32)), (.ref s1), (.ref a1)])) _
    exact kont
  have zz102 := A4_
  obtain ⟨cl102, Ar102, -, S102, M102, -, -⟩ := zz102
  have g103 : Go p e below s₁ (mkF m 5 #[rv a1, rv s1] [(.int (3 : Int32)), (.int (0 : Int32)), (.ref s1), (.ref a1)]) A0 := by
    intro t kont
    refine g101 t ?_
    refine X0.arraylength hx (by rw [e0]; exact Ar102.1) (State.isArrayOf_alike hZ.alike Ar102.2.1) (g := (mkF m 4 #[rv a1, rv s1] [(.ref s1), (.int (0 : Int32)), (.ref s1), (.ref a1)])) rfl rfl (hb hby d10_4) _ ?_
    rw [len_of S102 M102]
    exact kont
  have g104 : Go p e below s₁ (mkF m 6 #[rv a1, rv s1] [.null, (.int (3 : Int32)), (.int (0 : Int32)), (.ref s1), (.ref a1)]) A0 := by
    intro t kont
    refine g103 t ?_
    refine XS.aconstNull X0.here hx rfl (hb hby d10_5) ?_
    show Steps p.tables e below (s₁.setTop (mkF m 6 #[rv a1, rv s1] [.null, (.int (3 : Int32)), (.int (0 : Int32)), (.ref s1), (.ref a1)])) _
    exact kont
  obtain ⟨_, _, ⟨T105, L105, k105, n105⟩, -, X105, ⟨Lc105, hQ105, l105, y105, z105⟩, st105⟩ := X0.specialBack hx (y := (⟨"java/lang/String", "<init>", "([CIILjava/lang/Void;)V"⟩ : MethodName)) rfl hown (mvT hZ (hw _ (List.mem_of_getElem? (i := 51) rfl))) (mvT hZ (hw _ (List.mem_of_getElem? (i := 52) rfl))) (mvT hZ (hw _ (List.mem_of_getElem? (i := 53) rfl))) (by decide) (backOf (W := 0) (rm_sin3 l Z a0 hw [] a1 s1 ks c0_ c1_ c2_ cs h0 n0 O0 F0_ F1_ E2_ G3_ A4_ hc0 hc1 hc2 S8_ hcs) hZ (hw _ (List.mem_of_getElem? (i := 53) rfl)) (hw _ (List.mem_of_getElem? (i := 2) rfl)) (by decide) (by decide)) (g := (mkF m 6 #[rv a1, rv s1] [.null, (.int (3 : Int32)), (.int (0 : Int32)), (.ref s1), (.ref a1)])) rfl (by rw [hml]; rfl) (Steps.refl _) (a := a1) (argsL := [(.ref s1), (.int (0 : Int32)), (.int (3 : Int32)), .null]) (rest := []) (lenOf pd_6 rfl) rfl (by show 2 * 0 + _ ≤ _; exact Nat.le_of_eq rfl) (hb hby d10_6) (fun _ _ => ⟨rfl, e0, (by decide : 0 + 1 ≤ _), (by decide : 0 + 3 ≤ _)⟩)
  dsimp only [Pt.U, Pt.locs, Pt.cells, Pt.slots] at X105 l105 y105 z105 st105 hQ105
  subst l105 y105 z105
  obtain ⟨r106, r107, rfl, M105, K105, y108, y109, y110, y111, y112⟩ := hQ105
  have N105 := Fr.app N0 M105
  have O113 := O0.keep K105 (allS G3_ all0)
  have g114 : Go p e below T105 (mkF m 9 #[rv a1, rv s1] []) A0 := fun t kont => g104 t (st105.trans kont)
  have K115 : Keep h0 T105.heap [a1] := ((Keep.refl h0 [a1]).trans K105 (allS (P := fun x => x ∈ [a1] ∨ h0.size ≤ x) (Or.inl (List.mem_of_getElem? (i := 0) rfl)) all0))
  obtain ⟨fs, hr, hrun, hended, hW, hsame⟩ := X105.leave (v := none) (fun _ => rfl)
  refine ⟨_, _, g114 _ (X105.returnOut hx Bd.returns (hb hby d10_9) hr), hrun, hended, _, _, rfl, ?_, ⟨_, rfl⟩, hW, hsame.mono (by decide) (by decide)⟩
  show Q_sIni3 Z a1 s1 ks c0_ c1_ c2_ cs h0 n0 _ T105.heap _
  exact ⟨r106, r107, rfl, N105, K115, y108, y109, y110, y111, y112⟩
theorem ef_cmp4 (m : MethodId) (x0 : Addr) (x1 : Int32) (x2 : Addr) (x3 : Int32) (x4 : Int32)  : entryFrame m #[(.ref x0), (.int x1), (.ref x2), (.int x3), (.int x4)] 7 = mkF m 0 #[.val (.ref x0), .val (.int x1), .val (.ref x2), .val (.int x3), .val (.int x4), .unset, .unset] [] := by first | (simp [entryFrame, mkF, argsToLocals, Value.category]; done) | rfl
def Q_cmp4 (Z : State) (s1 : Addr) (d1 : Addr) (ks : ClassId) (kd : ClassId) (c0_ : Int32) (c1_ : Int32) (c2_ : Int32) (c3_ : Int32) (h0 : Heap) (n0 : Nat) (v : Option Value) (h : Heap) (L : List Loc) : Prop := v = some (.int (4 : Int32)) ∧ Fr n0 L ∧ Keep h0 h [d1] ∧ (Arv Z h d1 kd .byte (4 : Int32) [(.int (c0_.toInt8.toInt32)), (.int (c1_.toInt8.toInt32)), (.int (c2_.toInt8.toInt32)), (.int (c3_.toInt8.toInt32))] (.int (0 : Int32)))
set_option maxRecDepth 65536 in
set_option maxHeartbeats 40000000 in
theorem rm_cmp4 (l : Launch) (Z : State) (a0 : Array Value) (hw : ∀ d ∈ tables_1, d.before a0 Z = true) (ws : List Jvm.Cond) (s1 : Addr) (d1 : Addr) (ks : ClassId) (kd : ClassId) (c0_ : Int32) (c1_ : Int32) (c2_ : Int32) (c3_ : Int32) (h0 : Heap) (n0 : Nat) (O0 : Old Z n0 h0) (A0_ : Arv Z h0 s1 ks .char (4 : Int32) [(.int c0_), (.int c1_), (.int c2_), (.int c3_)] (.int (0 : Int32))) (A1_ : Arv Z h0 d1 kd .byte (4 : Int32) [(.int (0 : Int32)), (.int (0 : Int32)), (.int (0 : Int32)), (.int (0 : Int32))] (.int (0 : Int32))) (G2_ : n0 ≤ d1) (NE3_ : ¬ (s1 = d1)) (hc0 : ¬ ((255 : Int32) < c0_)) (hc1 : ¬ ((255 : Int32) < c1_)) (hc2 : ¬ ((255 : Int32) < c2_)) (hc3 : ¬ ((255 : Int32) < c3_)) :
    MetFree l (⟨"java/lang/StringUTF16", "compress", "([CI[BII)I"⟩ : MethodName) (head1 (Jvm.Cond.code (⟨"java/lang/StringUTF16", "compress", "([CI[BII)I"⟩ : MethodName) jdk_52_method_21_code 7 (some .int) :: ws) ({ frames := 0, cells := 0, slots := 0, locals := 0 } : Room)) (fun a U => a = #[(.ref s1), (.int (0 : Int32)), (.ref d1), (.int (0 : Int32)), (.int (4 : Int32))] ∧ Z.Warmed39 U.vm ∧ U.heap = h0) (fun _ _ _ _ _ => True) (fun _ U o U' => ∃ v L, o = .returned v ∧ Q_cmp4 Z s1 d1 ks kd c0_ c1_ c2_ c3_ h0 n0 v U'.heap L ∧ FrameEnd U o U' L ({ frames := 0, cells := 0, slots := 0, locals := 0 } : Room).cells ({ frames := 0, cells := 0, slots := 0, locals := 0 } : Room).slots) := by
  refine MetFree.of_bodySF (plainFor_of_name pn_java_lang_StringUTF16) hisR ?_
  intro p e s m args below meth c s₁ Bd hml0 hP hK
  obtain ⟨rfl, hZ, hh⟩ := hP
  have hx := Bd.exec
  have hby := Bd.bytes
  have hml : c.maxLocals = 7 := hml0
  have hown : s.vm.findClass "java/lang/StringUTF16" = some m.cls := findClass_of_methodNamed Bd.named
  have hnm := (name_of_methodNamed Bd.named Bd.method).1
  have X0 : Stand p l e ({ frames := 0, cells := 0, slots := 0, locals := 0 } : Room) s m #[(.ref s1), (.int (0 : Int32)), (.ref d1), (.int (0 : Int32)), (.int (4 : Int32))] below meth c s₁ [] 0 0 := Stand.of_body Bd
  have e0 : s₁.heap = h0 := by rw [← hh, Bd.state]; rfl
  have N0 := Fr.nil n0
  have g0 : Go p e below s₁ (mkF m 0 #[rv s1, iv (0 : Int32), rv d1, iv (0 : Int32), iv (4 : Int32), .unset, .unset] []) (s₁.setTop (entryFrame m #[(.ref s1), (.int (0 : Int32)), (.ref d1), (.int (0 : Int32)), (.int (4 : Int32))] 7)) := fun t kont => castTop (ef_cmp4 m s1 (0 : Int32) d1 (0 : Int32) (4 : Int32) ) kont
  generalize s₁.setTop (entryFrame m #[(.ref s1), (.int (0 : Int32)), (.ref d1), (.int (0 : Int32)), (.int (4 : Int32))] 7) = A0 at g0 ⊢
  have g101 : Go p e below s₁ (mkF m 12 #[rv s1, iv (0 : Int32), rv d1, iv (0 : Int32), iv (4 : Int32), iv (0 : Int32), .unset] [(.int (0 : Int32)), (.ref s1)]) A0 := by
    intro t kont
    refine g0 t ?_
    refine XS.iconst X0.here hx rfl (hb hby d13_0) ?_
    show Steps p.tables e below (s₁.setTop (mkF m 1 #[rv s1, iv (0 : Int32), rv d1, iv (0 : Int32), iv (4 : Int32), .unset, .unset] [(.int (0 : Int32))])) _
    refine XS.istore X0.here hx rfl (hb hby d13_1) rfl (l' := #[rv s1, iv (0 : Int32), rv d1, iv (0 : Int32), iv (4 : Int32), iv (0 : Int32), .unset]) rfl ?_
    show Steps p.tables e below (s₁.setTop (mkF m 3 #[rv s1, iv (0 : Int32), rv d1, iv (0 : Int32), iv (4 : Int32), iv (0 : Int32), .unset] [])) _
    refine XS.iload X0.here hx rfl (hb hby d13_3) rfl ?_
    show Steps p.tables e below (s₁.setTop (mkF m 5 #[rv s1, iv (0 : Int32), rv d1, iv (0 : Int32), iv (4 : Int32), iv (0 : Int32), .unset] [(.int (0 : Int32))])) _
    refine XS.iload X0.here hx rfl (hb hby d13_5) rfl ?_
    show Steps p.tables e below (s₁.setTop (mkF m 7 #[rv s1, iv (0 : Int32), rv d1, iv (0 : Int32), iv (4 : Int32), iv (0 : Int32), .unset] [(.int (4 : Int32)), (.int (0 : Int32))])) _
    refine XS.icmpNo X0.here hx rfl (hb hby d13_7) rfl (tlt (by decide : (0 : Int32) < (4 : Int32))).2.1 ?_
    show Steps p.tables e below (s₁.setTop (mkF m 10 #[rv s1, iv (0 : Int32), rv d1, iv (0 : Int32), iv (4 : Int32), iv (0 : Int32), .unset] [])) _
    refine XS.aloadN X0.here hx rfl (hb hby d13_10) rfl rfl ?_
    show Steps p.tables e below (s₁.setTop (mkF m 11 #[rv s1, iv (0 : Int32), rv d1, iv (0 : Int32), iv (4 : Int32), iv (0 : Int32), .unset] [(.ref s1)])) _
    refine XS.iloadN X0.here hx rfl (hb hby d13_11) rfl ?_
    show Steps p.tables e below (s₁.setTop (mkF m 12 #[rv s1, iv (0 : Int32), rv d1, iv (0 : Int32), iv (4 : Int32), iv (0 : Int32), .unset] [(.int (0 : Int32)), (.ref s1)])) _
    exact kont
  have zz102 := A0_
  obtain ⟨cl102, Ar102, q102, S102, M102, H102, G102⟩ := zz102
  have in102 : ¬ ((0 : Int32) < 0 ∨ cl102.slots.size ≤ ((0 : Int32)).toNatClampNeg) := inb_of S102 ⟨by decide, by decide⟩
  have at102 : cl102.slots[((0 : Int32)).toNatClampNeg]? = some (.int c0_) := Has.at H102 in102 rfl
  have g103 : Go p e below s₁ (mkF m 13 #[rv s1, iv (0 : Int32), rv d1, iv (0 : Int32), iv (4 : Int32), iv (0 : Int32), .unset] [(.int c0_)]) A0 := fun t kont => g101 t (X0.caload hx (j := (0 : Int32)) (v := (.int c0_)) (by rw [e0]; exact Ar102.1) (State.isArrayOf_alike hZ.alike Ar102.2.1) Ar102.2.2 in102 at102 (g := (mkF m 12 #[rv s1, iv (0 : Int32), rv d1, iv (0 : Int32), iv (4 : Int32), iv (0 : Int32), .unset] [(.int (0 : Int32)), (.ref s1)])) rfl rfl (hb hby d13_12) t kont)
  have g104 : Go p e below s₁ (mkF m 31 #[rv s1, iv (0 : Int32), rv d1, iv (0 : Int32), iv (4 : Int32), iv (0 : Int32), iv c0_] [(.int (c0_.toInt8.toInt32)), (.int (0 : Int32)), (.ref d1)]) A0 := by
    intro t kont
    refine g103 t ?_
    refine XS.istore X0.here hx rfl (hb hby d13_13) rfl (l' := #[rv s1, iv (0 : Int32), rv d1, iv (0 : Int32), iv (4 : Int32), iv (0 : Int32), iv c0_]) rfl ?_
    show Steps p.tables e below (s₁.setTop (mkF m 15 #[rv s1, iv (0 : Int32), rv d1, iv (0 : Int32), iv (4 : Int32), iv (0 : Int32), iv c0_] [])) _
    refine XS.iload X0.here hx rfl (hb hby d13_15) rfl ?_
    show Steps p.tables e below (s₁.setTop (mkF m 17 #[rv s1, iv (0 : Int32), rv d1, iv (0 : Int32), iv (4 : Int32), iv (0 : Int32), iv c0_] [(.int c0_)])) _
    refine XS.sipush X0.here hx rfl (hb hby d13_17) ?_
    show Steps p.tables e below (s₁.setTop (mkF m 20 #[rv s1, iv (0 : Int32), rv d1, iv (0 : Int32), iv (4 : Int32), iv (0 : Int32), iv c0_] [(.int (255 : Int32)), (.int c0_)])) _
    refine XS.icmpYes X0.here hx rfl (pc0 := 20) (pc' := 26) rfl (hb hby d13_20) rfl (flt hc0).2.2.2 (by decide) (by decide) ?_
    show Steps p.tables e below (s₁.setTop (mkF m 26 #[rv s1, iv (0 : Int32), rv d1, iv (0 : Int32), iv (4 : Int32), iv (0 : Int32), iv c0_] [])) _
    refine XS.aloadN X0.here hx rfl (hb hby d13_26) rfl rfl ?_
    show Steps p.tables e below (s₁.setTop (mkF m 27 #[rv s1, iv (0 : Int32), rv d1, iv (0 : Int32), iv (4 : Int32), iv (0 : Int32), iv c0_] [(.ref d1)])) _
    refine XS.iloadN X0.here hx rfl (hb hby d13_27) rfl ?_
    show Steps p.tables e below (s₁.setTop (mkF m 28 #[rv s1, iv (0 : Int32), rv d1, iv (0 : Int32), iv (4 : Int32), iv (0 : Int32), iv c0_] [(.int (0 : Int32)), (.ref d1)])) _
    refine XS.iload X0.here hx rfl (hb hby d13_28) rfl ?_
    show Steps p.tables e below (s₁.setTop (mkF m 30 #[rv s1, iv (0 : Int32), rv d1, iv (0 : Int32), iv (4 : Int32), iv (0 : Int32), iv c0_] [(.int c0_), (.int (0 : Int32)), (.ref d1)])) _
    refine XS.i2b X0.here hx rfl (hb hby d13_30) rfl ?_
    show Steps p.tables e below (s₁.setTop (mkF m 31 #[rv s1, iv (0 : Int32), rv d1, iv (0 : Int32), iv (4 : Int32), iv (0 : Int32), iv c0_] [(.int (c0_.toInt8.toInt32)), (.int (0 : Int32)), (.ref d1)])) _
    exact kont
  have zz105 := A1_
  obtain ⟨cl105, Ar105, q105, S105, M105, H105, G105⟩ := zz105
  have in105 : ¬ ((0 : Int32) < 0 ∨ cl105.slots.size ≤ ((0 : Int32)).toNatClampNeg) := inb_of S105 ⟨by decide, by decide⟩
  obtain ⟨T105, h105, X105, e105, W105, st105⟩ := stB X0 hx hZ e0 Ar105 (j := (0 : Int32)) in105 (g := (mkF m 31 #[rv s1, iv (0 : Int32), rv d1, iv (0 : Int32), iv (4 : Int32), iv (0 : Int32), iv c0_] [(.int (c0_.toInt8.toInt32)), (.int (0 : Int32)), (.ref d1)])) rfl rfl (hb hby d13_31)
  rw [show nar .byte (c0_.toInt8.toInt32) = (c0_.toInt8.toInt32) from (own_narb _)] at W105
  have O106 := O0.wr W105 G2_
  have y107 : Arv Z h105 d1 kd .byte (4 : Int32) [(.int (c0_.toInt8.toInt32)), (.int (0 : Int32)), (.int (0 : Int32)), (.int (0 : Int32))] (.int (0 : Int32)) := Arv.set Ar105 q105 S105 M105 H105 G105 (own_ft_byte (z := (c0_.toInt8.toInt32)) (own_narb _)) W105 0 rfl (Nat.le_of_ble_eq_true rfl)
  have N105 := Fr.snoc X105 N0 G2_
  have g108 : Go p e below T105 (mkF m 32 #[rv s1, iv (0 : Int32), rv d1, iv (0 : Int32), iv (4 : Int32), iv (0 : Int32), iv c0_] []) A0 := fun t kont => g104 t (st105 t kont)
  have g109 : Go p e below T105 (mkF m 12 #[rv s1, iv (1 : Int32), rv d1, iv (1 : Int32), iv (4 : Int32), iv (1 : Int32), iv c0_] [(.int (1 : Int32)), (.ref s1)]) A0 := by
    intro t kont
    refine g108 t ?_
    refine XS.iinc X105.here hx rfl (hb hby d13_32) rfl (l' := #[rv s1, iv (1 : Int32), rv d1, iv (0 : Int32), iv (4 : Int32), iv (0 : Int32), iv c0_]) rfl ?_
    show Steps p.tables e below (T105.setTop (mkF m 35 #[rv s1, iv (1 : Int32), rv d1, iv (0 : Int32), iv (4 : Int32), iv (0 : Int32), iv c0_] [])) _
    refine XS.iinc X105.here hx rfl (hb hby d13_35) rfl (l' := #[rv s1, iv (1 : Int32), rv d1, iv (1 : Int32), iv (4 : Int32), iv (0 : Int32), iv c0_]) rfl ?_
    show Steps p.tables e below (T105.setTop (mkF m 38 #[rv s1, iv (1 : Int32), rv d1, iv (1 : Int32), iv (4 : Int32), iv (0 : Int32), iv c0_] [])) _
    refine XS.iinc X105.here hx rfl (hb hby d13_38) rfl (l' := #[rv s1, iv (1 : Int32), rv d1, iv (1 : Int32), iv (4 : Int32), iv (1 : Int32), iv c0_]) rfl ?_
    show Steps p.tables e below (T105.setTop (mkF m 41 #[rv s1, iv (1 : Int32), rv d1, iv (1 : Int32), iv (4 : Int32), iv (1 : Int32), iv c0_] [])) _
    refine XS.goto X105.here hx rfl (pc0 := 41) (pc' := 3) rfl (hb hby d13_41) (by decide) (by decide) ?_
    show Steps p.tables e below (T105.setTop (mkF m 3 #[rv s1, iv (1 : Int32), rv d1, iv (1 : Int32), iv (4 : Int32), iv (1 : Int32), iv c0_] [])) _
    refine XS.iload X105.here hx rfl (hb hby d13_3) rfl ?_
    show Steps p.tables e below (T105.setTop (mkF m 5 #[rv s1, iv (1 : Int32), rv d1, iv (1 : Int32), iv (4 : Int32), iv (1 : Int32), iv c0_] [(.int (1 : Int32))])) _
    refine XS.iload X105.here hx rfl (hb hby d13_5) rfl ?_
    show Steps p.tables e below (T105.setTop (mkF m 7 #[rv s1, iv (1 : Int32), rv d1, iv (1 : Int32), iv (4 : Int32), iv (1 : Int32), iv c0_] [(.int (4 : Int32)), (.int (1 : Int32))])) _
    refine XS.icmpNo X105.here hx rfl (hb hby d13_7) rfl (tlt (by decide : (1 : Int32) < (4 : Int32))).2.1 ?_
    show Steps p.tables e below (T105.setTop (mkF m 10 #[rv s1, iv (1 : Int32), rv d1, iv (1 : Int32), iv (4 : Int32), iv (1 : Int32), iv c0_] [])) _
    refine XS.aloadN X105.here hx rfl (hb hby d13_10) rfl rfl ?_
    show Steps p.tables e below (T105.setTop (mkF m 11 #[rv s1, iv (1 : Int32), rv d1, iv (1 : Int32), iv (4 : Int32), iv (1 : Int32), iv c0_] [(.ref s1)])) _
    refine XS.iloadN X105.here hx rfl (hb hby d13_11) rfl ?_
    show Steps p.tables e below (T105.setTop (mkF m 12 #[rv s1, iv (1 : Int32), rv d1, iv (1 : Int32), iv (4 : Int32), iv (1 : Int32), iv c0_] [(.int (1 : Int32)), (.ref s1)])) _
    exact kont
  have y110 : Arv Z h105 s1 ks .char (4 : Int32) [(.int c0_), (.int c1_), (.int c2_), (.int c3_)] (.int (0 : Int32)) := (A0_.other W105 NE3_)
  have zz111 := y110
  obtain ⟨cl111, Ar111, q111, S111, M111, H111, G111⟩ := zz111
  have in111 : ¬ ((1 : Int32) < 0 ∨ cl111.slots.size ≤ ((1 : Int32)).toNatClampNeg) := inb_of S111 ⟨by decide, by decide⟩
  have at111 : cl111.slots[((1 : Int32)).toNatClampNeg]? = some (.int c1_) := Has.at H111 in111 rfl
  have g112 : Go p e below T105 (mkF m 13 #[rv s1, iv (1 : Int32), rv d1, iv (1 : Int32), iv (4 : Int32), iv (1 : Int32), iv c0_] [(.int c1_)]) A0 := fun t kont => g109 t (X105.caload hx (j := (1 : Int32)) (v := (.int c1_)) (by rw [e105]; exact Ar111.1) (State.isArrayOf_alike hZ.alike Ar111.2.1) Ar111.2.2 in111 at111 (g := (mkF m 12 #[rv s1, iv (1 : Int32), rv d1, iv (1 : Int32), iv (4 : Int32), iv (1 : Int32), iv c0_] [(.int (1 : Int32)), (.ref s1)])) rfl rfl (hb hby d13_12) t kont)
  have g113 : Go p e below T105 (mkF m 31 #[rv s1, iv (1 : Int32), rv d1, iv (1 : Int32), iv (4 : Int32), iv (1 : Int32), iv c1_] [(.int (c1_.toInt8.toInt32)), (.int (1 : Int32)), (.ref d1)]) A0 := by
    intro t kont
    refine g112 t ?_
    refine XS.istore X105.here hx rfl (hb hby d13_13) rfl (l' := #[rv s1, iv (1 : Int32), rv d1, iv (1 : Int32), iv (4 : Int32), iv (1 : Int32), iv c1_]) rfl ?_
    show Steps p.tables e below (T105.setTop (mkF m 15 #[rv s1, iv (1 : Int32), rv d1, iv (1 : Int32), iv (4 : Int32), iv (1 : Int32), iv c1_] [])) _
    refine XS.iload X105.here hx rfl (hb hby d13_15) rfl ?_
    show Steps p.tables e below (T105.setTop (mkF m 17 #[rv s1, iv (1 : Int32), rv d1, iv (1 : Int32), iv (4 : Int32), iv (1 : Int32), iv c1_] [(.int c1_)])) _
    refine XS.sipush X105.here hx rfl (hb hby d13_17) ?_
    show Steps p.tables e below (T105.setTop (mkF m 20 #[rv s1, iv (1 : Int32), rv d1, iv (1 : Int32), iv (4 : Int32), iv (1 : Int32), iv c1_] [(.int (255 : Int32)), (.int c1_)])) _
    refine XS.icmpYes X105.here hx rfl (pc0 := 20) (pc' := 26) rfl (hb hby d13_20) rfl (flt hc1).2.2.2 (by decide) (by decide) ?_
    show Steps p.tables e below (T105.setTop (mkF m 26 #[rv s1, iv (1 : Int32), rv d1, iv (1 : Int32), iv (4 : Int32), iv (1 : Int32), iv c1_] [])) _
    refine XS.aloadN X105.here hx rfl (hb hby d13_26) rfl rfl ?_
    show Steps p.tables e below (T105.setTop (mkF m 27 #[rv s1, iv (1 : Int32), rv d1, iv (1 : Int32), iv (4 : Int32), iv (1 : Int32), iv c1_] [(.ref d1)])) _
    refine XS.iloadN X105.here hx rfl (hb hby d13_27) rfl ?_
    show Steps p.tables e below (T105.setTop (mkF m 28 #[rv s1, iv (1 : Int32), rv d1, iv (1 : Int32), iv (4 : Int32), iv (1 : Int32), iv c1_] [(.int (1 : Int32)), (.ref d1)])) _
    refine XS.iload X105.here hx rfl (hb hby d13_28) rfl ?_
    show Steps p.tables e below (T105.setTop (mkF m 30 #[rv s1, iv (1 : Int32), rv d1, iv (1 : Int32), iv (4 : Int32), iv (1 : Int32), iv c1_] [(.int c1_), (.int (1 : Int32)), (.ref d1)])) _
    refine XS.i2b X105.here hx rfl (hb hby d13_30) rfl ?_
    show Steps p.tables e below (T105.setTop (mkF m 31 #[rv s1, iv (1 : Int32), rv d1, iv (1 : Int32), iv (4 : Int32), iv (1 : Int32), iv c1_] [(.int (c1_.toInt8.toInt32)), (.int (1 : Int32)), (.ref d1)])) _
    exact kont
  have zz114 := y107
  obtain ⟨cl114, Ar114, q114, S114, M114, H114, G114⟩ := zz114
  have in114 : ¬ ((1 : Int32) < 0 ∨ cl114.slots.size ≤ ((1 : Int32)).toNatClampNeg) := inb_of S114 ⟨by decide, by decide⟩
  obtain ⟨T114, h114, X114, e114, W114, st114⟩ := stB X105 hx hZ e105 Ar114 (j := (1 : Int32)) in114 (g := (mkF m 31 #[rv s1, iv (1 : Int32), rv d1, iv (1 : Int32), iv (4 : Int32), iv (1 : Int32), iv c1_] [(.int (c1_.toInt8.toInt32)), (.int (1 : Int32)), (.ref d1)])) rfl rfl (hb hby d13_31)
  rw [show nar .byte (c1_.toInt8.toInt32) = (c1_.toInt8.toInt32) from (own_narb _)] at W114
  have O115 := O106.wr W114 G2_
  have y116 : Arv Z h114 d1 kd .byte (4 : Int32) [(.int (c0_.toInt8.toInt32)), (.int (c1_.toInt8.toInt32)), (.int (0 : Int32)), (.int (0 : Int32))] (.int (0 : Int32)) := Arv.set Ar114 q114 S114 M114 H114 G114 (own_ft_byte (z := (c1_.toInt8.toInt32)) (own_narb _)) W114 1 rfl (Nat.le_of_ble_eq_true rfl)
  have N114 := Fr.snoc X114 N105 G2_
  have g117 : Go p e below T114 (mkF m 32 #[rv s1, iv (1 : Int32), rv d1, iv (1 : Int32), iv (4 : Int32), iv (1 : Int32), iv c1_] []) A0 := fun t kont => g113 t (st114 t kont)
  have g118 : Go p e below T114 (mkF m 12 #[rv s1, iv (2 : Int32), rv d1, iv (2 : Int32), iv (4 : Int32), iv (2 : Int32), iv c1_] [(.int (2 : Int32)), (.ref s1)]) A0 := by
    intro t kont
    refine g117 t ?_
    refine XS.iinc X114.here hx rfl (hb hby d13_32) rfl (l' := #[rv s1, iv (2 : Int32), rv d1, iv (1 : Int32), iv (4 : Int32), iv (1 : Int32), iv c1_]) rfl ?_
    show Steps p.tables e below (T114.setTop (mkF m 35 #[rv s1, iv (2 : Int32), rv d1, iv (1 : Int32), iv (4 : Int32), iv (1 : Int32), iv c1_] [])) _
    refine XS.iinc X114.here hx rfl (hb hby d13_35) rfl (l' := #[rv s1, iv (2 : Int32), rv d1, iv (2 : Int32), iv (4 : Int32), iv (1 : Int32), iv c1_]) rfl ?_
    show Steps p.tables e below (T114.setTop (mkF m 38 #[rv s1, iv (2 : Int32), rv d1, iv (2 : Int32), iv (4 : Int32), iv (1 : Int32), iv c1_] [])) _
    refine XS.iinc X114.here hx rfl (hb hby d13_38) rfl (l' := #[rv s1, iv (2 : Int32), rv d1, iv (2 : Int32), iv (4 : Int32), iv (2 : Int32), iv c1_]) rfl ?_
    show Steps p.tables e below (T114.setTop (mkF m 41 #[rv s1, iv (2 : Int32), rv d1, iv (2 : Int32), iv (4 : Int32), iv (2 : Int32), iv c1_] [])) _
    refine XS.goto X114.here hx rfl (pc0 := 41) (pc' := 3) rfl (hb hby d13_41) (by decide) (by decide) ?_
    show Steps p.tables e below (T114.setTop (mkF m 3 #[rv s1, iv (2 : Int32), rv d1, iv (2 : Int32), iv (4 : Int32), iv (2 : Int32), iv c1_] [])) _
    refine XS.iload X114.here hx rfl (hb hby d13_3) rfl ?_
    show Steps p.tables e below (T114.setTop (mkF m 5 #[rv s1, iv (2 : Int32), rv d1, iv (2 : Int32), iv (4 : Int32), iv (2 : Int32), iv c1_] [(.int (2 : Int32))])) _
    refine XS.iload X114.here hx rfl (hb hby d13_5) rfl ?_
    show Steps p.tables e below (T114.setTop (mkF m 7 #[rv s1, iv (2 : Int32), rv d1, iv (2 : Int32), iv (4 : Int32), iv (2 : Int32), iv c1_] [(.int (4 : Int32)), (.int (2 : Int32))])) _
    refine XS.icmpNo X114.here hx rfl (hb hby d13_7) rfl (tlt (by decide : (2 : Int32) < (4 : Int32))).2.1 ?_
    show Steps p.tables e below (T114.setTop (mkF m 10 #[rv s1, iv (2 : Int32), rv d1, iv (2 : Int32), iv (4 : Int32), iv (2 : Int32), iv c1_] [])) _
    refine XS.aloadN X114.here hx rfl (hb hby d13_10) rfl rfl ?_
    show Steps p.tables e below (T114.setTop (mkF m 11 #[rv s1, iv (2 : Int32), rv d1, iv (2 : Int32), iv (4 : Int32), iv (2 : Int32), iv c1_] [(.ref s1)])) _
    refine XS.iloadN X114.here hx rfl (hb hby d13_11) rfl ?_
    show Steps p.tables e below (T114.setTop (mkF m 12 #[rv s1, iv (2 : Int32), rv d1, iv (2 : Int32), iv (4 : Int32), iv (2 : Int32), iv c1_] [(.int (2 : Int32)), (.ref s1)])) _
    exact kont
  have y119 : Arv Z h114 s1 ks .char (4 : Int32) [(.int c0_), (.int c1_), (.int c2_), (.int c3_)] (.int (0 : Int32)) := (y110.other W114 NE3_)
  have zz120 := y119
  obtain ⟨cl120, Ar120, q120, S120, M120, H120, G120⟩ := zz120
  have in120 : ¬ ((2 : Int32) < 0 ∨ cl120.slots.size ≤ ((2 : Int32)).toNatClampNeg) := inb_of S120 ⟨by decide, by decide⟩
  have at120 : cl120.slots[((2 : Int32)).toNatClampNeg]? = some (.int c2_) := Has.at H120 in120 rfl
  have g121 : Go p e below T114 (mkF m 13 #[rv s1, iv (2 : Int32), rv d1, iv (2 : Int32), iv (4 : Int32), iv (2 : Int32), iv c1_] [(.int c2_)]) A0 := fun t kont => g118 t (X114.caload hx (j := (2 : Int32)) (v := (.int c2_)) (by rw [e114]; exact Ar120.1) (State.isArrayOf_alike hZ.alike Ar120.2.1) Ar120.2.2 in120 at120 (g := (mkF m 12 #[rv s1, iv (2 : Int32), rv d1, iv (2 : Int32), iv (4 : Int32), iv (2 : Int32), iv c1_] [(.int (2 : Int32)), (.ref s1)])) rfl rfl (hb hby d13_12) t kont)
  have g122 : Go p e below T114 (mkF m 31 #[rv s1, iv (2 : Int32), rv d1, iv (2 : Int32), iv (4 : Int32), iv (2 : Int32), iv c2_] [(.int (c2_.toInt8.toInt32)), (.int (2 : Int32)), (.ref d1)]) A0 := by
    intro t kont
    refine g121 t ?_
    refine XS.istore X114.here hx rfl (hb hby d13_13) rfl (l' := #[rv s1, iv (2 : Int32), rv d1, iv (2 : Int32), iv (4 : Int32), iv (2 : Int32), iv c2_]) rfl ?_
    show Steps p.tables e below (T114.setTop (mkF m 15 #[rv s1, iv (2 : Int32), rv d1, iv (2 : Int32), iv (4 : Int32), iv (2 : Int32), iv c2_] [])) _
    refine XS.iload X114.here hx rfl (hb hby d13_15) rfl ?_
    show Steps p.tables e below (T114.setTop (mkF m 17 #[rv s1, iv (2 : Int32), rv d1, iv (2 : Int32), iv (4 : Int32), iv (2 : Int32), iv c2_] [(.int c2_)])) _
    refine XS.sipush X114.here hx rfl (hb hby d13_17) ?_
    show Steps p.tables e below (T114.setTop (mkF m 20 #[rv s1, iv (2 : Int32), rv d1, iv (2 : Int32), iv (4 : Int32), iv (2 : Int32), iv c2_] [(.int (255 : Int32)), (.int c2_)])) _
    refine XS.icmpYes X114.here hx rfl (pc0 := 20) (pc' := 26) rfl (hb hby d13_20) rfl (flt hc2).2.2.2 (by decide) (by decide) ?_
    show Steps p.tables e below (T114.setTop (mkF m 26 #[rv s1, iv (2 : Int32), rv d1, iv (2 : Int32), iv (4 : Int32), iv (2 : Int32), iv c2_] [])) _
    refine XS.aloadN X114.here hx rfl (hb hby d13_26) rfl rfl ?_
    show Steps p.tables e below (T114.setTop (mkF m 27 #[rv s1, iv (2 : Int32), rv d1, iv (2 : Int32), iv (4 : Int32), iv (2 : Int32), iv c2_] [(.ref d1)])) _
    refine XS.iloadN X114.here hx rfl (hb hby d13_27) rfl ?_
    show Steps p.tables e below (T114.setTop (mkF m 28 #[rv s1, iv (2 : Int32), rv d1, iv (2 : Int32), iv (4 : Int32), iv (2 : Int32), iv c2_] [(.int (2 : Int32)), (.ref d1)])) _
    refine XS.iload X114.here hx rfl (hb hby d13_28) rfl ?_
    show Steps p.tables e below (T114.setTop (mkF m 30 #[rv s1, iv (2 : Int32), rv d1, iv (2 : Int32), iv (4 : Int32), iv (2 : Int32), iv c2_] [(.int c2_), (.int (2 : Int32)), (.ref d1)])) _
    refine XS.i2b X114.here hx rfl (hb hby d13_30) rfl ?_
    show Steps p.tables e below (T114.setTop (mkF m 31 #[rv s1, iv (2 : Int32), rv d1, iv (2 : Int32), iv (4 : Int32), iv (2 : Int32), iv c2_] [(.int (c2_.toInt8.toInt32)), (.int (2 : Int32)), (.ref d1)])) _
    exact kont
  have zz123 := y116
  obtain ⟨cl123, Ar123, q123, S123, M123, H123, G123⟩ := zz123
  have in123 : ¬ ((2 : Int32) < 0 ∨ cl123.slots.size ≤ ((2 : Int32)).toNatClampNeg) := inb_of S123 ⟨by decide, by decide⟩
  obtain ⟨T123, h123, X123, e123, W123, st123⟩ := stB X114 hx hZ e114 Ar123 (j := (2 : Int32)) in123 (g := (mkF m 31 #[rv s1, iv (2 : Int32), rv d1, iv (2 : Int32), iv (4 : Int32), iv (2 : Int32), iv c2_] [(.int (c2_.toInt8.toInt32)), (.int (2 : Int32)), (.ref d1)])) rfl rfl (hb hby d13_31)
  rw [show nar .byte (c2_.toInt8.toInt32) = (c2_.toInt8.toInt32) from (own_narb _)] at W123
  have O124 := O115.wr W123 G2_
  have y125 : Arv Z h123 d1 kd .byte (4 : Int32) [(.int (c0_.toInt8.toInt32)), (.int (c1_.toInt8.toInt32)), (.int (c2_.toInt8.toInt32)), (.int (0 : Int32))] (.int (0 : Int32)) := Arv.set Ar123 q123 S123 M123 H123 G123 (own_ft_byte (z := (c2_.toInt8.toInt32)) (own_narb _)) W123 2 rfl (Nat.le_of_ble_eq_true rfl)
  have N123 := Fr.snoc X123 N114 G2_
  have g126 : Go p e below T123 (mkF m 32 #[rv s1, iv (2 : Int32), rv d1, iv (2 : Int32), iv (4 : Int32), iv (2 : Int32), iv c2_] []) A0 := fun t kont => g122 t (st123 t kont)
  have g127 : Go p e below T123 (mkF m 12 #[rv s1, iv (3 : Int32), rv d1, iv (3 : Int32), iv (4 : Int32), iv (3 : Int32), iv c2_] [(.int (3 : Int32)), (.ref s1)]) A0 := by
    intro t kont
    refine g126 t ?_
    refine XS.iinc X123.here hx rfl (hb hby d13_32) rfl (l' := #[rv s1, iv (3 : Int32), rv d1, iv (2 : Int32), iv (4 : Int32), iv (2 : Int32), iv c2_]) rfl ?_
    show Steps p.tables e below (T123.setTop (mkF m 35 #[rv s1, iv (3 : Int32), rv d1, iv (2 : Int32), iv (4 : Int32), iv (2 : Int32), iv c2_] [])) _
    refine XS.iinc X123.here hx rfl (hb hby d13_35) rfl (l' := #[rv s1, iv (3 : Int32), rv d1, iv (3 : Int32), iv (4 : Int32), iv (2 : Int32), iv c2_]) rfl ?_
    show Steps p.tables e below (T123.setTop (mkF m 38 #[rv s1, iv (3 : Int32), rv d1, iv (3 : Int32), iv (4 : Int32), iv (2 : Int32), iv c2_] [])) _
    refine XS.iinc X123.here hx rfl (hb hby d13_38) rfl (l' := #[rv s1, iv (3 : Int32), rv d1, iv (3 : Int32), iv (4 : Int32), iv (3 : Int32), iv c2_]) rfl ?_
    show Steps p.tables e below (T123.setTop (mkF m 41 #[rv s1, iv (3 : Int32), rv d1, iv (3 : Int32), iv (4 : Int32), iv (3 : Int32), iv c2_] [])) _
    refine XS.goto X123.here hx rfl (pc0 := 41) (pc' := 3) rfl (hb hby d13_41) (by decide) (by decide) ?_
    show Steps p.tables e below (T123.setTop (mkF m 3 #[rv s1, iv (3 : Int32), rv d1, iv (3 : Int32), iv (4 : Int32), iv (3 : Int32), iv c2_] [])) _
    refine XS.iload X123.here hx rfl (hb hby d13_3) rfl ?_
    show Steps p.tables e below (T123.setTop (mkF m 5 #[rv s1, iv (3 : Int32), rv d1, iv (3 : Int32), iv (4 : Int32), iv (3 : Int32), iv c2_] [(.int (3 : Int32))])) _
    refine XS.iload X123.here hx rfl (hb hby d13_5) rfl ?_
    show Steps p.tables e below (T123.setTop (mkF m 7 #[rv s1, iv (3 : Int32), rv d1, iv (3 : Int32), iv (4 : Int32), iv (3 : Int32), iv c2_] [(.int (4 : Int32)), (.int (3 : Int32))])) _
    refine XS.icmpNo X123.here hx rfl (hb hby d13_7) rfl (tlt (by decide : (3 : Int32) < (4 : Int32))).2.1 ?_
    show Steps p.tables e below (T123.setTop (mkF m 10 #[rv s1, iv (3 : Int32), rv d1, iv (3 : Int32), iv (4 : Int32), iv (3 : Int32), iv c2_] [])) _
    refine XS.aloadN X123.here hx rfl (hb hby d13_10) rfl rfl ?_
    show Steps p.tables e below (T123.setTop (mkF m 11 #[rv s1, iv (3 : Int32), rv d1, iv (3 : Int32), iv (4 : Int32), iv (3 : Int32), iv c2_] [(.ref s1)])) _
    refine XS.iloadN X123.here hx rfl (hb hby d13_11) rfl ?_
    show Steps p.tables e below (T123.setTop (mkF m 12 #[rv s1, iv (3 : Int32), rv d1, iv (3 : Int32), iv (4 : Int32), iv (3 : Int32), iv c2_] [(.int (3 : Int32)), (.ref s1)])) _
    exact kont
  have y128 : Arv Z h123 s1 ks .char (4 : Int32) [(.int c0_), (.int c1_), (.int c2_), (.int c3_)] (.int (0 : Int32)) := (y119.other W123 NE3_)
  have zz129 := y128
  obtain ⟨cl129, Ar129, q129, S129, M129, H129, G129⟩ := zz129
  have in129 : ¬ ((3 : Int32) < 0 ∨ cl129.slots.size ≤ ((3 : Int32)).toNatClampNeg) := inb_of S129 ⟨by decide, by decide⟩
  have at129 : cl129.slots[((3 : Int32)).toNatClampNeg]? = some (.int c3_) := Has.at H129 in129 rfl
  have g130 : Go p e below T123 (mkF m 13 #[rv s1, iv (3 : Int32), rv d1, iv (3 : Int32), iv (4 : Int32), iv (3 : Int32), iv c2_] [(.int c3_)]) A0 := fun t kont => g127 t (X123.caload hx (j := (3 : Int32)) (v := (.int c3_)) (by rw [e123]; exact Ar129.1) (State.isArrayOf_alike hZ.alike Ar129.2.1) Ar129.2.2 in129 at129 (g := (mkF m 12 #[rv s1, iv (3 : Int32), rv d1, iv (3 : Int32), iv (4 : Int32), iv (3 : Int32), iv c2_] [(.int (3 : Int32)), (.ref s1)])) rfl rfl (hb hby d13_12) t kont)
  have g131 : Go p e below T123 (mkF m 31 #[rv s1, iv (3 : Int32), rv d1, iv (3 : Int32), iv (4 : Int32), iv (3 : Int32), iv c3_] [(.int (c3_.toInt8.toInt32)), (.int (3 : Int32)), (.ref d1)]) A0 := by
    intro t kont
    refine g130 t ?_
    refine XS.istore X123.here hx rfl (hb hby d13_13) rfl (l' := #[rv s1, iv (3 : Int32), rv d1, iv (3 : Int32), iv (4 : Int32), iv (3 : Int32), iv c3_]) rfl ?_
    show Steps p.tables e below (T123.setTop (mkF m 15 #[rv s1, iv (3 : Int32), rv d1, iv (3 : Int32), iv (4 : Int32), iv (3 : Int32), iv c3_] [])) _
    refine XS.iload X123.here hx rfl (hb hby d13_15) rfl ?_
    show Steps p.tables e below (T123.setTop (mkF m 17 #[rv s1, iv (3 : Int32), rv d1, iv (3 : Int32), iv (4 : Int32), iv (3 : Int32), iv c3_] [(.int c3_)])) _
    refine XS.sipush X123.here hx rfl (hb hby d13_17) ?_
    show Steps p.tables e below (T123.setTop (mkF m 20 #[rv s1, iv (3 : Int32), rv d1, iv (3 : Int32), iv (4 : Int32), iv (3 : Int32), iv c3_] [(.int (255 : Int32)), (.int c3_)])) _
    refine XS.icmpYes X123.here hx rfl (pc0 := 20) (pc' := 26) rfl (hb hby d13_20) rfl (flt hc3).2.2.2 (by decide) (by decide) ?_
    show Steps p.tables e below (T123.setTop (mkF m 26 #[rv s1, iv (3 : Int32), rv d1, iv (3 : Int32), iv (4 : Int32), iv (3 : Int32), iv c3_] [])) _
    refine XS.aloadN X123.here hx rfl (hb hby d13_26) rfl rfl ?_
    show Steps p.tables e below (T123.setTop (mkF m 27 #[rv s1, iv (3 : Int32), rv d1, iv (3 : Int32), iv (4 : Int32), iv (3 : Int32), iv c3_] [(.ref d1)])) _
    refine XS.iloadN X123.here hx rfl (hb hby d13_27) rfl ?_
    show Steps p.tables e below (T123.setTop (mkF m 28 #[rv s1, iv (3 : Int32), rv d1, iv (3 : Int32), iv (4 : Int32), iv (3 : Int32), iv c3_] [(.int (3 : Int32)), (.ref d1)])) _
    refine XS.iload X123.here hx rfl (hb hby d13_28) rfl ?_
    show Steps p.tables e below (T123.setTop (mkF m 30 #[rv s1, iv (3 : Int32), rv d1, iv (3 : Int32), iv (4 : Int32), iv (3 : Int32), iv c3_] [(.int c3_), (.int (3 : Int32)), (.ref d1)])) _
    refine XS.i2b X123.here hx rfl (hb hby d13_30) rfl ?_
    show Steps p.tables e below (T123.setTop (mkF m 31 #[rv s1, iv (3 : Int32), rv d1, iv (3 : Int32), iv (4 : Int32), iv (3 : Int32), iv c3_] [(.int (c3_.toInt8.toInt32)), (.int (3 : Int32)), (.ref d1)])) _
    exact kont
  have zz132 := y125
  obtain ⟨cl132, Ar132, q132, S132, M132, H132, G132⟩ := zz132
  have in132 : ¬ ((3 : Int32) < 0 ∨ cl132.slots.size ≤ ((3 : Int32)).toNatClampNeg) := inb_of S132 ⟨by decide, by decide⟩
  obtain ⟨T132, h132, X132, e132, W132, st132⟩ := stB X123 hx hZ e123 Ar132 (j := (3 : Int32)) in132 (g := (mkF m 31 #[rv s1, iv (3 : Int32), rv d1, iv (3 : Int32), iv (4 : Int32), iv (3 : Int32), iv c3_] [(.int (c3_.toInt8.toInt32)), (.int (3 : Int32)), (.ref d1)])) rfl rfl (hb hby d13_31)
  rw [show nar .byte (c3_.toInt8.toInt32) = (c3_.toInt8.toInt32) from (own_narb _)] at W132
  have O133 := O124.wr W132 G2_
  have y134 : Arv Z h132 d1 kd .byte (4 : Int32) [(.int (c0_.toInt8.toInt32)), (.int (c1_.toInt8.toInt32)), (.int (c2_.toInt8.toInt32)), (.int (c3_.toInt8.toInt32))] (.int (0 : Int32)) := Arv.set Ar132 q132 S132 M132 H132 G132 (own_ft_byte (z := (c3_.toInt8.toInt32)) (own_narb _)) W132 3 rfl (Nat.le_of_ble_eq_true rfl)
  have N132 := Fr.snoc X132 N123 G2_
  have g135 : Go p e below T132 (mkF m 32 #[rv s1, iv (3 : Int32), rv d1, iv (3 : Int32), iv (4 : Int32), iv (3 : Int32), iv c3_] []) A0 := fun t kont => g131 t (st132 t kont)
  have g136 : Go p e below T132 (mkF m 46 #[rv s1, iv (4 : Int32), rv d1, iv (4 : Int32), iv (4 : Int32), iv (4 : Int32), iv c3_] [(.int (4 : Int32))]) A0 := by
    intro t kont
    refine g135 t ?_
    refine XS.iinc X132.here hx rfl (hb hby d13_32) rfl (l' := #[rv s1, iv (4 : Int32), rv d1, iv (3 : Int32), iv (4 : Int32), iv (3 : Int32), iv c3_]) rfl ?_
    show Steps p.tables e below (T132.setTop (mkF m 35 #[rv s1, iv (4 : Int32), rv d1, iv (3 : Int32), iv (4 : Int32), iv (3 : Int32), iv c3_] [])) _
    refine XS.iinc X132.here hx rfl (hb hby d13_35) rfl (l' := #[rv s1, iv (4 : Int32), rv d1, iv (4 : Int32), iv (4 : Int32), iv (3 : Int32), iv c3_]) rfl ?_
    show Steps p.tables e below (T132.setTop (mkF m 38 #[rv s1, iv (4 : Int32), rv d1, iv (4 : Int32), iv (4 : Int32), iv (3 : Int32), iv c3_] [])) _
    refine XS.iinc X132.here hx rfl (hb hby d13_38) rfl (l' := #[rv s1, iv (4 : Int32), rv d1, iv (4 : Int32), iv (4 : Int32), iv (4 : Int32), iv c3_]) rfl ?_
    show Steps p.tables e below (T132.setTop (mkF m 41 #[rv s1, iv (4 : Int32), rv d1, iv (4 : Int32), iv (4 : Int32), iv (4 : Int32), iv c3_] [])) _
    refine XS.goto X132.here hx rfl (pc0 := 41) (pc' := 3) rfl (hb hby d13_41) (by decide) (by decide) ?_
    show Steps p.tables e below (T132.setTop (mkF m 3 #[rv s1, iv (4 : Int32), rv d1, iv (4 : Int32), iv (4 : Int32), iv (4 : Int32), iv c3_] [])) _
    refine XS.iload X132.here hx rfl (hb hby d13_3) rfl ?_
    show Steps p.tables e below (T132.setTop (mkF m 5 #[rv s1, iv (4 : Int32), rv d1, iv (4 : Int32), iv (4 : Int32), iv (4 : Int32), iv c3_] [(.int (4 : Int32))])) _
    refine XS.iload X132.here hx rfl (hb hby d13_5) rfl ?_
    show Steps p.tables e below (T132.setTop (mkF m 7 #[rv s1, iv (4 : Int32), rv d1, iv (4 : Int32), iv (4 : Int32), iv (4 : Int32), iv c3_] [(.int (4 : Int32)), (.int (4 : Int32))])) _
    refine XS.icmpYes X132.here hx rfl (pc0 := 7) (pc' := 44) rfl (hb hby d13_7) rfl (flt (by decide : ¬ ((4 : Int32) < (4 : Int32)))).2.1 (by decide) (by decide) ?_
    show Steps p.tables e below (T132.setTop (mkF m 44 #[rv s1, iv (4 : Int32), rv d1, iv (4 : Int32), iv (4 : Int32), iv (4 : Int32), iv c3_] [])) _
    refine XS.iload X132.here hx rfl (hb hby d13_44) rfl ?_
    show Steps p.tables e below (T132.setTop (mkF m 46 #[rv s1, iv (4 : Int32), rv d1, iv (4 : Int32), iv (4 : Int32), iv (4 : Int32), iv c3_] [(.int (4 : Int32))])) _
    exact kont
  have K137 : Keep h0 h132 [d1] := (((((Keep.refl h0 [d1]).wr W105 (Or.inl (List.mem_of_getElem? (i := 0) rfl))).wr W114 (Or.inl (List.mem_of_getElem? (i := 0) rfl))).wr W123 (Or.inl (List.mem_of_getElem? (i := 0) rfl))).wr W132 (Or.inl (List.mem_of_getElem? (i := 0) rfl)))
  obtain ⟨fs, hr, hrun, hended, hW, hsame⟩ := X132.leave (v := some (.int (4 : Int32))) (fun h => by rw [Bd.returns] at h; cases h)
  refine ⟨_, _, g136 _ (retI X132 hx Bd.returns (hb hby d13_46) hr), hrun, hended, _, _, rfl, ?_, ⟨_, rfl⟩, hW, hsame.mono (by decide) (by decide)⟩
  show Q_cmp4 Z s1 d1 ks kd c0_ c1_ c2_ c3_ h0 n0 _ T132.heap _
  rw [e132]
  exact ⟨rfl, N132, K137, y134⟩
theorem ef_com4 (m : MethodId) (x0 : Addr) (x1 : Int32) (x2 : Int32)  : entryFrame m #[(.ref x0), (.int x1), (.int x2)] 6 = mkF m 0 #[.val (.ref x0), .val (.int x1), .val (.int x2), .unset, .unset, .unset] [] := by first | (simp [entryFrame, mkF, argsToLocals, Value.category]; done) | rfl
def Q_com4 (Z : State) (s1 : Addr) (ks : ClassId) (c0_ : Int32) (c1_ : Int32) (c2_ : Int32) (c3_ : Int32) (h0 : Heap) (n0 : Nat) (v : Option Value) (h : Heap) (L : List Loc) : Prop := ∃ (r : Addr), ∃ (kid : ClassId), v = some (.ref r) ∧ Fr n0 L ∧ Keep h0 h [] ∧ h0.size ≤ r ∧ (Exa Z h r "[B") ∧ (Arv Z h r kid .byte (4 : Int32) [(.int (c0_.toInt8.toInt32)), (.int (c1_.toInt8.toInt32)), (.int (c2_.toInt8.toInt32)), (.int (c3_.toInt8.toInt32))] (.int (0 : Int32)))
set_option maxRecDepth 65536 in
set_option maxHeartbeats 40000000 in
theorem rm_com4 (l : Launch) (Z : State) (a0 : Array Value) (hw : ∀ d ∈ tables_1, d.before a0 Z = true) (ws : List Jvm.Cond) (s1 : Addr) (ks : ClassId) (c0_ : Int32) (c1_ : Int32) (c2_ : Int32) (c3_ : Int32) (h0 : Heap) (n0 : Nat) (O0 : Old Z n0 h0) (A0_ : Arv Z h0 s1 ks .char (4 : Int32) [(.int c0_), (.int c1_), (.int c2_), (.int c3_)] (.int (0 : Int32))) (hc0 : ¬ ((255 : Int32) < c0_)) (hc1 : ¬ ((255 : Int32) < c1_)) (hc2 : ¬ ((255 : Int32) < c2_)) (hc3 : ¬ ((255 : Int32) < c3_)) :
    MetFree l (⟨"java/lang/StringUTF16", "compress", "([CII)[B"⟩ : MethodName) (head1 (Jvm.Cond.code (⟨"java/lang/StringUTF16", "compress", "([CII)[B"⟩ : MethodName) jdk_52_method_16_code 6 (some (.array .byte)) :: ws) ({ frames := 1, cells := 1, slots := 4, locals := 18 } : Room)) (fun a U => a = #[(.ref s1), (.int (0 : Int32)), (.int (4 : Int32))] ∧ Z.Warmed39 U.vm ∧ U.heap = h0) (fun _ _ _ _ _ => True) (fun _ U o U' => ∃ v L, o = .returned v ∧ Q_com4 Z s1 ks c0_ c1_ c2_ c3_ h0 n0 v U'.heap L ∧ FrameEnd U o U' L ({ frames := 1, cells := 1, slots := 4, locals := 18 } : Room).cells ({ frames := 1, cells := 1, slots := 4, locals := 18 } : Room).slots) := by
  refine MetFree.of_bodySF (plainFor_of_name pn_java_lang_StringUTF16) hisR ?_
  intro p e s m args below meth c s₁ Bd hml0 hP hK
  obtain ⟨rfl, hZ, hh⟩ := hP
  have hx := Bd.exec
  have hby := Bd.bytes
  have hml : c.maxLocals = 6 := hml0
  have hown : s.vm.findClass "java/lang/StringUTF16" = some m.cls := findClass_of_methodNamed Bd.named
  have hnm := (name_of_methodNamed Bd.named Bd.method).1
  have X0 : Stand p l e ({ frames := 1, cells := 1, slots := 4, locals := 18 } : Room) s m #[(.ref s1), (.int (0 : Int32)), (.int (4 : Int32))] below meth c s₁ [] 0 0 := Stand.of_body Bd
  have e0 : s₁.heap = h0 := by rw [← hh, Bd.state]; rfl
  have N0 := Fr.nil n0
  have g0 : Go p e below s₁ (mkF m 0 #[rv s1, iv (0 : Int32), iv (4 : Int32), .unset, .unset, .unset] []) (s₁.setTop (entryFrame m #[(.ref s1), (.int (0 : Int32)), (.int (4 : Int32))] 6)) := fun t kont => castTop (ef_com4 m s1 (0 : Int32) (4 : Int32) ) kont
  generalize s₁.setTop (entryFrame m #[(.ref s1), (.int (0 : Int32)), (.int (4 : Int32))] 6) = A0 at g0 ⊢
  have g101 : Go p e below s₁ (mkF m 1 #[rv s1, iv (0 : Int32), iv (4 : Int32), .unset, .unset, .unset] [(.int (4 : Int32))]) A0 := by
    intro t kont
    refine g0 t ?_
    refine XS.iloadN X0.here hx rfl (hb hby d12_0) rfl ?_
    show Steps p.tables e below (s₁.setTop (mkF m 1 #[rv s1, iv (0 : Int32), iv (4 : Int32), .unset, .unset, .unset] [(.int (4 : Int32))])) _
    exact kont
  obtain ⟨T102, h102, k102, X102, e102, E102, A102, F102, st102⟩ := newPE X0 hx hZ (hw _ (List.mem_of_getElem? (i := 14) rfl)) e0 (g := (mkF m 1 #[rv s1, iv (0 : Int32), iv (4 : Int32), .unset, .unset, .unset] [(.int (4 : Int32))])) rfl (hb hby d12_1) rfl (by decide) (cap := 4) (by decide) (by decide) (by decide) (by decide) (ad := "[B") (by decide)
  obtain ⟨b102, gb102⟩ : ∃ z, z = h0.size := ⟨_, rfl⟩
  rw [← gb102] at A102 F102 st102
  have O103 := O0.ext E102
  have y104 : Arv Z h102 b102 k102 .byte (4 : Int32) [(.int (0 : Int32)), (.int (0 : Int32)), (.int (0 : Int32)), (.int (0 : Int32))] (.int (0 : Int32)) := (Arv.new A102 (by decide)).pad (pad_rep [] (.int (0 : Int32)) 4)
  have g105 : Go p e below T102 (mkF m 3 #[rv s1, iv (0 : Int32), iv (4 : Int32), .unset, .unset, .unset] [(.ref b102)]) A0 := fun t kont => g101 t (st102 t kont)
  have g106 : Go p e below T102 (mkF m 9 #[rv s1, iv (0 : Int32), iv (4 : Int32), rv b102, .unset, .unset] [(.int (4 : Int32)), (.int (0 : Int32)), (.ref b102), (.int (0 : Int32)), (.ref s1)]) A0 := by
    intro t kont
    refine g105 t ?_
    refine XS.astoreN X102.here hx rfl (hb hby d12_3) rfl rfl (l' := #[rv s1, iv (0 : Int32), iv (4 : Int32), rv b102, .unset, .unset]) rfl ?_
    show Steps p.tables e below (T102.setTop (mkF m 4 #[rv s1, iv (0 : Int32), iv (4 : Int32), rv b102, .unset, .unset] [])) _
    refine XS.aloadN X102.here hx rfl (hb hby d12_4) rfl rfl ?_
    show Steps p.tables e below (T102.setTop (mkF m 5 #[rv s1, iv (0 : Int32), iv (4 : Int32), rv b102, .unset, .unset] [(.ref s1)])) _
    refine XS.iloadN X102.here hx rfl (hb hby d12_5) rfl ?_
    show Steps p.tables e below (T102.setTop (mkF m 6 #[rv s1, iv (0 : Int32), iv (4 : Int32), rv b102, .unset, .unset] [(.int (0 : Int32)), (.ref s1)])) _
    refine XS.aloadN X102.here hx rfl (hb hby d12_6) rfl rfl ?_
    show Steps p.tables e below (T102.setTop (mkF m 7 #[rv s1, iv (0 : Int32), iv (4 : Int32), rv b102, .unset, .unset] [(.ref b102), (.int (0 : Int32)), (.ref s1)])) _
    refine XS.iconst X102.here hx rfl (hb hby d12_7) ?_
    show Steps p.tables e below (T102.setTop (mkF m 8 #[rv s1, iv (0 : Int32), iv (4 : Int32), rv b102, .unset, .unset] [(.int (0 : Int32)), (.ref b102), (.int (0 : Int32)), (.ref s1)])) _
    refine XS.iloadN X102.here hx rfl (hb hby d12_8) rfl ?_
    show Steps p.tables e below (T102.setTop (mkF m 9 #[rv s1, iv (0 : Int32), iv (4 : Int32), rv b102, .unset, .unset] [(.int (4 : Int32)), (.int (0 : Int32)), (.ref b102), (.int (0 : Int32)), (.ref s1)])) _
    exact kont
  have y108 : Arv Z h102 s1 ks .char (4 : Int32) [(.int c0_), (.int c1_), (.int c2_), (.int c3_)] (.int (0 : Int32)) := (A0_.ext E102)
  have ge109 : n0 ≤ b102 := Nat.le_trans (own_old_le O0) (Nat.le_of_eq gb102.symm)
  obtain ⟨_, _, ⟨T107, L107, k107, n107⟩, -, X107, ⟨Lc107, hQ107, l107, y107, z107⟩, st107⟩ := Jvm.LawKit.callS X102 hx (y := (⟨"java/lang/StringUTF16", "compress", "([CI[BII)I"⟩ : MethodName)) hown (mvT hZ (hw _ (List.mem_of_getElem? (i := 58) rfl))) (mvT hZ (hw _ (List.mem_of_getElem? (i := 59) rfl))) (mvT hZ (hw _ (List.mem_of_getElem? (i := 56) rfl))) (mvT hZ (hw _ (List.mem_of_getElem? (i := 60) rfl))) (by decide) (backOf (W := 0) (rm_cmp4 l Z a0 hw [] s1 b102 ks k102 c0_ c1_ c2_ c3_ h102 n0 O103 y108 y104 ge109 (Nat.ne_of_lt (Nat.lt_of_lt_of_le A0_.lt (Nat.le_of_eq gb102.symm))) hc0 hc1 hc2 hc3) hZ (hw _ (List.mem_of_getElem? (i := 60) rfl)) (hw _ (List.mem_of_getElem? (i := 56) rfl)) (by decide) (by decide)) (g := (mkF m 9 #[rv s1, iv (0 : Int32), iv (4 : Int32), rv b102, .unset, .unset] [(.int (4 : Int32)), (.int (0 : Int32)), (.ref b102), (.int (0 : Int32)), (.ref s1)])) rfl (by rw [hml]; rfl) (argsL := [(.ref s1), (.int (0 : Int32)), (.ref b102), (.int (0 : Int32)), (.int (4 : Int32))]) (rest := []) (lenOf pd_3 rfl) rfl (by show 2 * 0 + _ ≤ _; exact Nat.le_of_eq rfl) (hb hby d12_9) (fun _ _ => ⟨rfl, e102, (by decide : 1 + 0 ≤ _), (by decide : 4 + 0 ≤ _)⟩)
  dsimp only [Pt.U, Pt.locs, Pt.cells, Pt.slots] at X107 l107 y107 z107 st107 hQ107
  subst l107 y107 z107
  obtain ⟨rfl, M107, K107, y110⟩ := hQ107
  have N107 := Fr.app N0 M107
  have O111 := O103.keep K107 (allS ge109 all0)
  have g112 : Go p e below T107 (mkF m 12 #[rv s1, iv (0 : Int32), iv (4 : Int32), rv b102, .unset, .unset] [(.int (4 : Int32))]) A0 := fun t kont => g106 t (st107 t kont)
  have g113 : Go p e below T107 (mkF m 58 #[rv s1, iv (0 : Int32), iv (4 : Int32), rv b102, iv (4 : Int32), .unset] [(.ref b102)]) A0 := by
    intro t kont
    refine g112 t ?_
    refine XS.istore X107.here hx rfl (hb hby d12_12) rfl (l' := #[rv s1, iv (0 : Int32), iv (4 : Int32), rv b102, iv (4 : Int32), .unset]) rfl ?_
    show Steps p.tables e below (T107.setTop (mkF m 14 #[rv s1, iv (0 : Int32), iv (4 : Int32), rv b102, iv (4 : Int32), .unset] [])) _
    refine XS.iload X107.here hx rfl (hb hby d12_14) rfl ?_
    show Steps p.tables e below (T107.setTop (mkF m 16 #[rv s1, iv (0 : Int32), iv (4 : Int32), rv b102, iv (4 : Int32), .unset] [(.int (4 : Int32))])) _
    refine XS.iloadN X107.here hx rfl (hb hby d12_16) rfl ?_
    show Steps p.tables e below (T107.setTop (mkF m 17 #[rv s1, iv (0 : Int32), iv (4 : Int32), rv b102, iv (4 : Int32), .unset] [(.int (4 : Int32)), (.int (4 : Int32))])) _
    refine XS.icmpYes X107.here hx rfl (pc0 := 17) (pc' := 57) rfl (hb hby d12_17) rfl (teq (by decide : (4 : Int32) = (4 : Int32))).1 (by decide) (by decide) ?_
    show Steps p.tables e below (T107.setTop (mkF m 57 #[rv s1, iv (0 : Int32), iv (4 : Int32), rv b102, iv (4 : Int32), .unset] [])) _
    refine XS.aloadN X107.here hx rfl (hb hby d12_57) rfl rfl ?_
    show Steps p.tables e below (T107.setTop (mkF m 58 #[rv s1, iv (0 : Int32), iv (4 : Int32), rv b102, iv (4 : Int32), .unset] [(.ref b102)])) _
    exact kont
  have K114 : Keep h0 T107.heap [] := (((Keep.refl h0 []).ext E102).trans K107 (allS (P := fun x => x ∈ [] ∨ h0.size ≤ x) (Or.inr (Nat.le_of_eq gb102.symm)) all0))
  have y115 : Exa Z T107.heap b102 "[B" := (F102.keep K107)
  obtain ⟨fs, hr, hrun, hended, hW, hsame⟩ := X107.leave (v := some (.ref b102)) (fun h => by rw [Bd.returns] at h; cases h)
  refine ⟨_, _, g113 _ (retOut X107 hx Bd.returns rfl (Or.inr (Or.inr (Or.inr (Or.inr ⟨rfl, rfl, rfl⟩)))) (hb hby d12_58) hr), hrun, hended, _, _, rfl, ?_, ⟨_, rfl⟩, hW, hsame.mono (by decide) (by decide)⟩
  show Q_com4 Z s1 ks c0_ c1_ c2_ c3_ h0 n0 _ T107.heap _
  exact ⟨b102, k102, rfl, N107, K114, (Nat.le_of_eq gb102.symm), y115, y110⟩
theorem ef_cfa4 (m : MethodId) (x0 : Addr) (x1 : Int32)  : entryFrame m #[(.ref x0), (.int x1)] 2 = mkF m 0 #[.val (.ref x0), .val (.int x1)] [] := by first | (simp [entryFrame, mkF, argsToLocals, Value.category]; done) | rfl
def Q_cfa4 (Z : State) (b1 : Addr) (kid : ClassId) (vs : List Value) (h0 : Heap) (n0 : Nat) (v : Option Value) (h : Heap) (L : List Loc) : Prop := v = some (.int (0 : Int32)) ∧ Fr n0 L ∧ h = h0
set_option maxRecDepth 65536 in
set_option maxHeartbeats 40000000 in
theorem rm_cfa4 (l : Launch) (Z : State) (a0 : Array Value) (hw : ∀ d ∈ tables_1, d.before a0 Z = true) (ws : List Jvm.Cond) (b1 : Addr) (kid : ClassId) (vs : List Value) (h0 : Heap) (n0 : Nat) (O0 : Old Z n0 h0) (A0_ : Arv Z h0 b1 kid .byte (4 : Int32) vs (.int (0 : Int32))) :
    MetFree l (⟨"java/lang/StringUTF16", "coderFromArrayLen", "([BI)B"⟩ : MethodName) (head1 (Jvm.Cond.code (⟨"java/lang/StringUTF16", "coderFromArrayLen", "([BI)B"⟩ : MethodName) jdk_52_method_15_code 2 (some .byte) :: ws) ({ frames := 0, cells := 0, slots := 0, locals := 0 } : Room)) (fun a U => a = #[(.ref b1), (.int (4 : Int32))] ∧ Z.Warmed39 U.vm ∧ U.heap = h0) (fun _ _ _ _ _ => True) (fun _ U o U' => ∃ v L, o = .returned v ∧ Q_cfa4 Z b1 kid vs h0 n0 v U'.heap L ∧ FrameEnd U o U' L ({ frames := 0, cells := 0, slots := 0, locals := 0 } : Room).cells ({ frames := 0, cells := 0, slots := 0, locals := 0 } : Room).slots) := by
  refine MetFree.of_bodySF (plainFor_of_name pn_java_lang_StringUTF16) hisR ?_
  intro p e s m args below meth c s₁ Bd hml0 hP hK
  obtain ⟨rfl, hZ, hh⟩ := hP
  have hx := Bd.exec
  have hby := Bd.bytes
  have hml : c.maxLocals = 2 := hml0
  have hown : s.vm.findClass "java/lang/StringUTF16" = some m.cls := findClass_of_methodNamed Bd.named
  have hnm := (name_of_methodNamed Bd.named Bd.method).1
  have X0 : Stand p l e ({ frames := 0, cells := 0, slots := 0, locals := 0 } : Room) s m #[(.ref b1), (.int (4 : Int32))] below meth c s₁ [] 0 0 := Stand.of_body Bd
  have e0 : s₁.heap = h0 := by rw [← hh, Bd.state]; rfl
  have N0 := Fr.nil n0
  have g0 : Go p e below s₁ (mkF m 0 #[rv b1, iv (4 : Int32)] []) (s₁.setTop (entryFrame m #[(.ref b1), (.int (4 : Int32))] 2)) := fun t kont => castTop (ef_cfa4 m b1 (4 : Int32) ) kont
  generalize s₁.setTop (entryFrame m #[(.ref b1), (.int (4 : Int32))] 2) = A0 at g0 ⊢
  have g101 : Go p e below s₁ (mkF m 2 #[rv b1, iv (4 : Int32)] [(.ref b1), (.int (4 : Int32))]) A0 := by
    intro t kont
    refine g0 t ?_
    refine XS.iloadN X0.here hx rfl (hb hby d14_0) rfl ?_
    show Steps p.tables e below (s₁.setTop (mkF m 1 #[rv b1, iv (4 : Int32)] [(.int (4 : Int32))])) _
    refine XS.aloadN X0.here hx rfl (hb hby d14_1) rfl rfl ?_
    show Steps p.tables e below (s₁.setTop (mkF m 2 #[rv b1, iv (4 : Int32)] [(.ref b1), (.int (4 : Int32))])) _
    exact kont
  have zz102 := A0_
  obtain ⟨cl102, Ar102, -, S102, M102, -, -⟩ := zz102
  have g103 : Go p e below s₁ (mkF m 3 #[rv b1, iv (4 : Int32)] [(.int (4 : Int32)), (.int (4 : Int32))]) A0 := by
    intro t kont
    refine g101 t ?_
    refine X0.arraylength hx (by rw [e0]; exact Ar102.1) (State.isArrayOf_alike hZ.alike Ar102.2.1) (g := (mkF m 2 #[rv b1, iv (4 : Int32)] [(.ref b1), (.int (4 : Int32))])) rfl rfl (hb hby d14_2) _ ?_
    rw [len_of S102 M102]
    exact kont
  have g104 : Go p e below s₁ (mkF m 8 #[rv b1, iv (4 : Int32)] [(.int (0 : Int32))]) A0 := by
    intro t kont
    refine g103 t ?_
    refine XS.isub X0.here hx rfl (hb hby d14_3) rfl ?_
    show Steps p.tables e below (s₁.setTop (mkF m 4 #[rv b1, iv (4 : Int32)] [(.int (0 : Int32))])) _
    refine XS.bipush X0.here hx rfl (hb hby d14_4) ?_
    show Steps p.tables e below (s₁.setTop (mkF m 6 #[rv b1, iv (4 : Int32)] [(.int (31 : Int32)), (.int (0 : Int32))])) _
    refine XS.iushr X0.here hx rfl (hb hby d14_6) rfl ?_
    show Steps p.tables e below (s₁.setTop (mkF m 7 #[rv b1, iv (4 : Int32)] [(.int (0 : Int32))])) _
    refine XS.i2b X0.here hx rfl (hb hby d14_7) rfl ?_
    show Steps p.tables e below (s₁.setTop (mkF m 8 #[rv b1, iv (4 : Int32)] [(.int (0 : Int32))])) _
    exact kont
  obtain ⟨fs, hr, hrun, hended, hW, hsame⟩ := X0.leave (v := some (.int (0 : Int32))) (fun h => by rw [Bd.returns] at h; cases h)
  refine ⟨_, _, g104 _ (retN X0 hx (t := .byte) Bd.returns (by simp) (hb hby d14_8) hr), hrun, hended, _, _, rfl, ?_, ⟨_, rfl⟩, hW, hsame.mono (by decide) (by decide)⟩
  show Q_cfa4 Z b1 kid vs h0 n0 _ s₁.heap _
  rw [e0]
  exact ⟨rfl, N0, rfl⟩
theorem ef_sin4 (m : MethodId) (x0 : Addr) (x1 : Addr) (x2 : Int32) (x3 : Int32)  : entryFrame m #[(.ref x0), (.ref x1), (.int x2), (.int x3), .null] 6 = mkF m 0 #[.val (.ref x0), .val (.ref x1), .val (.int x2), .val (.int x3), .val .null, .unset] [] := by first | (simp [entryFrame, mkF, argsToLocals, Value.category]; done) | rfl
def Q_sin4 (Z : State) (a1 : Addr) (s1 : Addr) (ks : ClassId) (c0_ : Int32) (c1_ : Int32) (c2_ : Int32) (c3_ : Int32) (cs : Int32) (h0 : Heap) (n0 : Nat) (v : Option Value) (h : Heap) (L : List Loc) : Prop := ∃ (r : Addr), ∃ (kid : ClassId), v = none ∧ Fr n0 L ∧ Keep h0 h [a1] ∧ (Exa Z h a1 "java/lang/String") ∧ (Fld Z h a1 "java/lang/String" "coder" "B" (.int (0 : Int32))) ∧ (Fld Z h a1 "java/lang/String" "value" "[B" (.ref r)) ∧ h0.size ≤ r ∧ (Arv Z h r kid .byte (4 : Int32) [(.int (c0_.toInt8.toInt32)), (.int (c1_.toInt8.toInt32)), (.int (c2_.toInt8.toInt32)), (.int (c3_.toInt8.toInt32))] (.int (0 : Int32)))
set_option maxRecDepth 65536 in
set_option maxHeartbeats 40000000 in
theorem rm_sin4 (l : Launch) (Z : State) (a0 : Array Value) (hw : ∀ d ∈ tables_1, d.before a0 Z = true) (ws : List Jvm.Cond) (a1 : Addr) (s1 : Addr) (ks : ClassId) (c0_ : Int32) (c1_ : Int32) (c2_ : Int32) (c3_ : Int32) (cs : Int32) (h0 : Heap) (n0 : Nat) (O0 : Old Z n0 h0) (F0_ : Fld Z h0 a1 "java/lang/String" "value" "[B" .null) (F1_ : Fld Z h0 a1 "java/lang/String" "coder" "B" (.int (0 : Int32))) (E2_ : Exa Z h0 a1 "java/lang/String") (G3_ : n0 ≤ a1) (A4_ : Arv Z h0 s1 ks .char (4 : Int32) [(.int c0_), (.int c1_), (.int c2_), (.int c3_)] (.int (0 : Int32))) (hc0 : ¬ ((255 : Int32) < c0_)) (hc1 : ¬ ((255 : Int32) < c1_)) (hc2 : ¬ ((255 : Int32) < c2_)) (hc3 : ¬ ((255 : Int32) < c3_)) (S9_ : Sta Z Z.heap "java/lang/String" "COMPACT_STRINGS" "Z" (.int cs)) (hcs : ¬ (cs = (0 : Int32))) :
    MetFree l (⟨"java/lang/String", "<init>", "([CIILjava/lang/Void;)V"⟩ : MethodName) (head1 (Jvm.Cond.code (⟨"java/lang/String", "<init>", "([CIILjava/lang/Void;)V"⟩ : MethodName) jdk_42_method_149_code 6 none :: ws) ({ frames := 2, cells := 1, slots := 4, locals := 35 } : Room)) (fun a U => a = #[(.ref a1), (.ref s1), (.int (0 : Int32)), (.int (4 : Int32)), .null] ∧ Z.Warmed39 U.vm ∧ U.heap = h0) (fun _ _ _ _ _ => True) (fun _ U o U' => ∃ v L, o = .returned v ∧ Q_sin4 Z a1 s1 ks c0_ c1_ c2_ c3_ cs h0 n0 v U'.heap L ∧ FrameEnd U o U' L ({ frames := 2, cells := 1, slots := 4, locals := 35 } : Room).cells ({ frames := 2, cells := 1, slots := 4, locals := 35 } : Room).slots) := by
  refine MetFree.of_bodySF (plainFor_of_name pn_java_lang_String) hisR ?_
  intro p e s m args below meth c s₁ Bd hml0 hP hK
  obtain ⟨rfl, hZ, hh⟩ := hP
  have hx := Bd.exec
  have hby := Bd.bytes
  have hml : c.maxLocals = 6 := hml0
  have hown : s.vm.findClass "java/lang/String" = some m.cls := findClass_of_methodNamed Bd.named
  have hnm := (name_of_methodNamed Bd.named Bd.method).1
  have X0 : Stand p l e ({ frames := 2, cells := 1, slots := 4, locals := 35 } : Room) s m #[(.ref a1), (.ref s1), (.int (0 : Int32)), (.int (4 : Int32)), .null] below meth c s₁ [] 0 0 := Stand.of_body Bd
  have e0 : s₁.heap = h0 := by rw [← hh, Bd.state]; rfl
  have N0 := Fr.nil n0
  have g0 : Go p e below s₁ (mkF m 0 #[rv a1, rv s1, iv (0 : Int32), iv (4 : Int32), .val .null, .unset] []) (s₁.setTop (entryFrame m #[(.ref a1), (.ref s1), (.int (0 : Int32)), (.int (4 : Int32)), .null] 6)) := fun t kont => castTop (ef_sin4 m a1 s1 (0 : Int32) (4 : Int32) ) kont
  generalize s₁.setTop (entryFrame m #[(.ref a1), (.ref s1), (.int (0 : Int32)), (.int (4 : Int32)), .null] 6) = A0 at g0 ⊢
  have g101 : Go p e below s₁ (mkF m 1 #[rv a1, rv s1, iv (0 : Int32), iv (4 : Int32), .val .null, .unset] [(.ref a1)]) A0 := by
    intro t kont
    refine g0 t ?_
    refine XS.aloadN X0.here hx rfl (hb hby d11_0) rfl rfl ?_
    show Steps p.tables e below (s₁.setTop (mkF m 1 #[rv a1, rv s1, iv (0 : Int32), iv (4 : Int32), .val .null, .unset] [(.ref a1)])) _
    exact kont
  obtain ⟨T102, X102, e102, st102⟩ := initO X0 hx hZ hown (hw _ (List.mem_of_getElem? (i := 19) rfl)) (hw _ (List.mem_of_getElem? (i := 20) rfl)) (hw _ (List.mem_of_getElem? (i := 21) rfl)) e0 (g := (mkF m 1 #[rv a1, rv s1, iv (0 : Int32), iv (4 : Int32), .val .null, .unset] [(.ref a1)])) rfl (by rw [hml]; rfl) rfl (hb hby d11_1) (by decide) (W := 0) (by show 2 * 0 + _ ≤ _; exact Nat.le_of_eq rfl) (by decide)
  have g103 : Go p e below T102 (mkF m 4 #[rv a1, rv s1, iv (0 : Int32), iv (4 : Int32), .val .null, .unset] []) A0 := fun t kont => g101 t (st102 t kont)
  have g104 : Go p e below T102 (mkF m 27 #[rv a1, rv s1, iv (0 : Int32), iv (4 : Int32), .val .null, .unset] []) A0 := by
    intro t kont
    refine g103 t ?_
    refine XS.iloadN X102.here hx rfl (hb hby d11_4) rfl ?_
    show Steps p.tables e below (T102.setTop (mkF m 5 #[rv a1, rv s1, iv (0 : Int32), iv (4 : Int32), .val .null, .unset] [(.int (4 : Int32))])) _
    refine XS.ifYes X102.here hx rfl (pc0 := 5) (pc' := 27) rfl (hb hby d11_5) rfl ((if0 _ _).trans (feq (by decide : ¬ ((4 : Int32) = (0 : Int32)))).2) (by decide) (by decide) ?_
    show Steps p.tables e below (T102.setTop (mkF m 27 #[rv a1, rv s1, iv (0 : Int32), iv (4 : Int32), .val .null, .unset] [])) _
    exact kont
  have y105 : Sta Z h0 "java/lang/String" "COMPACT_STRINGS" "Z" (.int cs) := S9_.ext O0.2
  obtain ⟨T106, X106, e106, st106⟩ := getS2 X102 hx hZ hown (host := "") (Or.inl (hw _ (List.mem_of_getElem? (i := 4) rfl))) Via.refl e102 y105 (g := (mkF m 27 #[rv a1, rv s1, iv (0 : Int32), iv (4 : Int32), .val .null, .unset] [])) rfl (hb hby d11_27)
  have g107 : Go p e below T106 (mkF m 30 #[rv a1, rv s1, iv (0 : Int32), iv (4 : Int32), .val .null, .unset] [(.int cs)]) A0 := fun t kont => g104 t (st106 t kont)
  have g108 : Go p e below T106 (mkF m 36 #[rv a1, rv s1, iv (0 : Int32), iv (4 : Int32), .val .null, .unset] [(.int (4 : Int32)), (.int (0 : Int32)), (.ref s1)]) A0 := by
    intro t kont
    refine g107 t ?_
    refine XS.ifNo X106.here hx rfl (hb hby d11_30) rfl ((if0 _ _).trans (feq hcs).1) ?_
    show Steps p.tables e below (T106.setTop (mkF m 33 #[rv a1, rv s1, iv (0 : Int32), iv (4 : Int32), .val .null, .unset] [])) _
    refine XS.aloadN X106.here hx rfl (hb hby d11_33) rfl rfl ?_
    show Steps p.tables e below (T106.setTop (mkF m 34 #[rv a1, rv s1, iv (0 : Int32), iv (4 : Int32), .val .null, .unset] [(.ref s1)])) _
    refine XS.iloadN X106.here hx rfl (hb hby d11_34) rfl ?_
    show Steps p.tables e below (T106.setTop (mkF m 35 #[rv a1, rv s1, iv (0 : Int32), iv (4 : Int32), .val .null, .unset] [(.int (0 : Int32)), (.ref s1)])) _
    refine XS.iloadN X106.here hx rfl (hb hby d11_35) rfl ?_
    show Steps p.tables e below (T106.setTop (mkF m 36 #[rv a1, rv s1, iv (0 : Int32), iv (4 : Int32), .val .null, .unset] [(.int (4 : Int32)), (.int (0 : Int32)), (.ref s1)])) _
    exact kont
  obtain ⟨_, _, ⟨T109, L109, k109, n109⟩, -, X109, ⟨Lc109, hQ109, l109, y109, z109⟩, st109⟩ := Jvm.LawKit.callS X106 hx (y := (⟨"java/lang/StringUTF16", "compress", "([CII)[B"⟩ : MethodName)) hown (mvT hZ (hw _ (List.mem_of_getElem? (i := 54) rfl))) (mvT hZ (hw _ (List.mem_of_getElem? (i := 55) rfl))) (mvT hZ (hw _ (List.mem_of_getElem? (i := 56) rfl))) (mvT hZ (hw _ (List.mem_of_getElem? (i := 57) rfl))) (by decide) (backOf (W := 0) (rm_com4 l Z a0 hw [] s1 ks c0_ c1_ c2_ c3_ h0 n0 O0 A4_ hc0 hc1 hc2 hc3) hZ (hw _ (List.mem_of_getElem? (i := 57) rfl)) (hw _ (List.mem_of_getElem? (i := 56) rfl)) (by decide) (by decide)) (g := (mkF m 36 #[rv a1, rv s1, iv (0 : Int32), iv (4 : Int32), .val .null, .unset] [(.int (4 : Int32)), (.int (0 : Int32)), (.ref s1)])) rfl (by rw [hml]; rfl) (argsL := [(.ref s1), (.int (0 : Int32)), (.int (4 : Int32))]) (rest := []) (lenOf pd_4 rfl) rfl (by show 2 * 0 + _ ≤ _; exact Nat.le_of_eq rfl) (hb hby d11_36) (fun _ _ => ⟨rfl, e106, (by decide : 0 + 1 ≤ _), (by decide : 0 + 4 ≤ _)⟩)
  dsimp only [Pt.U, Pt.locs, Pt.cells, Pt.slots] at X109 l109 y109 z109 st109 hQ109
  subst l109 y109 z109
  obtain ⟨r110, r111, rfl, M109, K109, y112, y113, y114⟩ := hQ109
  have N109 := Fr.app N0 M109
  have O115 := O0.keep K109 all0
  have g116 : Go p e below T109 (mkF m 39 #[rv a1, rv s1, iv (0 : Int32), iv (4 : Int32), .val .null, .unset] [(.ref r110)]) A0 := fun t kont => g108 t (st109 t kont)
  have g117 : Go p e below T109 (mkF m 45 #[rv a1, rv s1, iv (0 : Int32), iv (4 : Int32), .val .null, rv r110] [(.int (4 : Int32)), (.ref r110), (.ref a1)]) A0 := by
    intro t kont
    refine g116 t ?_
    refine XS.astore X109.here hx rfl (hb hby d11_39) rfl rfl (l' := #[rv a1, rv s1, iv (0 : Int32), iv (4 : Int32), .val .null, rv r110]) rfl ?_
    show Steps p.tables e below (T109.setTop (mkF m 41 #[rv a1, rv s1, iv (0 : Int32), iv (4 : Int32), .val .null, rv r110] [])) _
    refine XS.aloadN X109.here hx rfl (hb hby d11_41) rfl rfl ?_
    show Steps p.tables e below (T109.setTop (mkF m 42 #[rv a1, rv s1, iv (0 : Int32), iv (4 : Int32), .val .null, rv r110] [(.ref a1)])) _
    refine XS.aload X109.here hx rfl (hb hby d11_42) rfl rfl ?_
    show Steps p.tables e below (T109.setTop (mkF m 44 #[rv a1, rv s1, iv (0 : Int32), iv (4 : Int32), .val .null, rv r110] [(.ref r110), (.ref a1)])) _
    refine XS.iloadN X109.here hx rfl (hb hby d11_44) rfl ?_
    show Steps p.tables e below (T109.setTop (mkF m 45 #[rv a1, rv s1, iv (0 : Int32), iv (4 : Int32), .val .null, rv r110] [(.int (4 : Int32)), (.ref r110), (.ref a1)])) _
    exact kont
  obtain ⟨_, _, ⟨T118, L118, k118, n118⟩, -, X118, ⟨Lc118, hQ118, l118, y118, z118⟩, st118⟩ := Jvm.LawKit.callS X109 hx (y := (⟨"java/lang/StringUTF16", "coderFromArrayLen", "([BI)B"⟩ : MethodName)) hown (mvT hZ (hw _ (List.mem_of_getElem? (i := 61) rfl))) (mvT hZ (hw _ (List.mem_of_getElem? (i := 62) rfl))) (mvT hZ (hw _ (List.mem_of_getElem? (i := 56) rfl))) (mvT hZ (hw _ (List.mem_of_getElem? (i := 63) rfl))) (by decide) (backOf (W := 1) (rm_cfa4 l Z a0 hw [] r110 r111 [(.int (c0_.toInt8.toInt32)), (.int (c1_.toInt8.toInt32)), (.int (c2_.toInt8.toInt32)), (.int (c3_.toInt8.toInt32))] T109.heap n0 O115 y114) hZ (hw _ (List.mem_of_getElem? (i := 63) rfl)) (hw _ (List.mem_of_getElem? (i := 56) rfl)) (by decide) (by decide)) (g := (mkF m 45 #[rv a1, rv s1, iv (0 : Int32), iv (4 : Int32), .val .null, rv r110] [(.int (4 : Int32)), (.ref r110), (.ref a1)])) rfl (by rw [hml]; rfl) (argsL := [(.ref r110), (.int (4 : Int32))]) (rest := [(.ref a1)]) (lenOf pd_5 rfl) rfl (by show 2 * 0 + _ ≤ _; exact Nat.le_of_eq rfl) (hb hby d11_45) (fun _ _ => ⟨rfl, rfl, (by decide : 1 + 0 ≤ _), (by decide : 4 + 0 ≤ _)⟩)
  dsimp only [Pt.U, Pt.locs, Pt.cells, Pt.slots] at X118 l118 y118 z118 st118 hQ118
  subst l118 y118 z118
  obtain ⟨rfl, M118, e118⟩ := hQ118
  have N118 := Fr.app N109 M118
  have g119 : Go p e below T118 (mkF m 48 #[rv a1, rv s1, iv (0 : Int32), iv (4 : Int32), .val .null, rv r110] [(.int (0 : Int32)), (.ref a1)]) A0 := fun t kont => g117 t (st118 t kont)
  have y120 : Exa Z T109.heap a1 "java/lang/String" := (E2_.keep K109)
  have y121 : Fld Z T109.heap a1 "java/lang/String" "coder" "B" (.int (0 : Int32)) := (F1_.keep K109 nin0)
  obtain ⟨T122, h122, X122, e122, W122, st122⟩ := putFN X118 hx hZ hown (hw _ (List.mem_of_getElem? (i := 24) rfl)) Via.refl e118 y121 y120 (Or.inr ⟨(hw _ (List.mem_of_getElem? (i := 25) rfl)), rfl, hnm⟩) (hw _ (List.mem_of_getElem? (i := 10) rfl)) (ty := .byte) (v := (.int (0 : Int32))) (v' := (.int (0 : Int32))) (by decide) (own_nw_byte (by decide : nar .byte (0 : Int32) = (0 : Int32))) (own_ft_byte (by decide : nar .byte (0 : Int32) = (0 : Int32))) (g := (mkF m 48 #[rv a1, rv s1, iv (0 : Int32), iv (4 : Int32), .val .null, rv r110] [(.int (0 : Int32)), (.ref a1)])) rfl rfl (hb hby d11_48)
  have O123 := O115.wr W122 G3_
  have y124 : Fld Z h122 a1 "java/lang/String" "coder" "B" (.int (0 : Int32)) := y121.same W122
  have N122 := Fr.snoc X122 N118 G3_
  have g125 : Go p e below T122 (mkF m 51 #[rv a1, rv s1, iv (0 : Int32), iv (4 : Int32), .val .null, rv r110] []) A0 := fun t kont => g119 t (st122 t kont)
  have g126 : Go p e below T122 (mkF m 54 #[rv a1, rv s1, iv (0 : Int32), iv (4 : Int32), .val .null, rv r110] [(.ref r110), (.ref a1)]) A0 := by
    intro t kont
    refine g125 t ?_
    refine XS.aloadN X122.here hx rfl (hb hby d11_51) rfl rfl ?_
    show Steps p.tables e below (T122.setTop (mkF m 52 #[rv a1, rv s1, iv (0 : Int32), iv (4 : Int32), .val .null, rv r110] [(.ref a1)])) _
    refine XS.aload X122.here hx rfl (hb hby d11_52) rfl rfl ?_
    show Steps p.tables e below (T122.setTop (mkF m 54 #[rv a1, rv s1, iv (0 : Int32), iv (4 : Int32), .val .null, rv r110] [(.ref r110), (.ref a1)])) _
    exact kont
  have y127 : Exa Z h122 a1 "java/lang/String" := (y120.wr W122)
  have y128 : Fld Z h122 a1 "java/lang/String" "value" "[B" .null := ((F0_.keep K109 nin0).other W122 (Or.inr (slot_ne (Or.inr (hw _ (List.mem_of_getElem? (i := 23) rfl))) (Or.inr (hw _ (List.mem_of_getElem? (i := 25) rfl))) (by decide) (t := (.array .byte)) (t' := .byte) (by decide) (by decide))))
  obtain ⟨T129, h129, X129, e129, W129, st129⟩ := putF X122 hx hZ hown (host := "") (Or.inl (hw _ (List.mem_of_getElem? (i := 22) rfl))) Via.refl e122 y128 y127 (Or.inr ⟨(hw _ (List.mem_of_getElem? (i := 23) rfl)), rfl, hnm⟩) (hw _ (List.mem_of_getElem? (i := 10) rfl)) (ty := (.array .byte)) (by decide) rfl rfl (g := (mkF m 54 #[rv a1, rv s1, iv (0 : Int32), iv (4 : Int32), .val .null, rv r110] [(.ref r110), (.ref a1)])) rfl rfl (hb hby d11_54)
  have O130 := O123.wr W129 G3_
  have y131 : Fld Z h129 a1 "java/lang/String" "value" "[B" (.ref r110) := y128.same W129
  have N129 := Fr.snoc X129 N122 G3_
  have g132 : Go p e below T129 (mkF m 57 #[rv a1, rv s1, iv (0 : Int32), iv (4 : Int32), .val .null, rv r110] []) A0 := fun t kont => g126 t (st129 t kont)
  have K133 : Keep h0 h129 [a1] := ((((Keep.refl h0 [a1]).trans K109 (fun x hx => nomatch hx)).wr W122 (Or.inl (List.mem_of_getElem? (i := 0) rfl))).wr W129 (Or.inl (List.mem_of_getElem? (i := 0) rfl)))
  have y134 : Exa Z h129 a1 "java/lang/String" := (y127.wr W129)
  have y135 : Fld Z h129 a1 "java/lang/String" "coder" "B" (.int (0 : Int32)) := (y124.other W129 (Or.inr (slot_ne (Or.inr (hw _ (List.mem_of_getElem? (i := 25) rfl))) (Or.inr (hw _ (List.mem_of_getElem? (i := 23) rfl))) (by decide) (t := .byte) (t' := (.array .byte)) (by decide) (by decide))))
  have y136 : Arv Z h129 r110 r111 .byte (4 : Int32) [(.int (c0_.toInt8.toInt32)), (.int (c1_.toInt8.toInt32)), (.int (c2_.toInt8.toInt32)), (.int (c3_.toInt8.toInt32))] (.int (0 : Int32)) := ((y114.other W122 (Ne.symm (Nat.ne_of_lt (Nat.lt_of_lt_of_le F0_.lt y112)))).other W129 (Ne.symm (Nat.ne_of_lt (Nat.lt_of_lt_of_le F0_.lt y112))))
  obtain ⟨fs, hr, hrun, hended, hW, hsame⟩ := X129.leave (v := none) (fun _ => rfl)
  refine ⟨_, _, g132 _ (X129.returnOut hx Bd.returns (hb hby d11_57) hr), hrun, hended, _, _, rfl, ?_, ⟨_, rfl⟩, hW, hsame.mono (by decide) (by decide)⟩
  show Q_sin4 Z a1 s1 ks c0_ c1_ c2_ c3_ cs h0 n0 _ T129.heap _
  rw [e129]
  exact ⟨r110, r111, rfl, N129, K133, y134, y135, y131, y112, y136⟩
theorem ef_sIni4 (m : MethodId) (x0 : Addr) (x1 : Addr)  : entryFrame m #[(.ref x0), (.ref x1)] 2 = mkF m 0 #[.val (.ref x0), .val (.ref x1)] [] := by first | (simp [entryFrame, mkF, argsToLocals, Value.category]; done) | rfl
def Q_sIni4 (Z : State) (a1 : Addr) (s1 : Addr) (ks : ClassId) (c0_ : Int32) (c1_ : Int32) (c2_ : Int32) (c3_ : Int32) (cs : Int32) (h0 : Heap) (n0 : Nat) (v : Option Value) (h : Heap) (L : List Loc) : Prop := ∃ (r : Addr), ∃ (kid : ClassId), v = none ∧ Fr n0 L ∧ Keep h0 h [a1] ∧ (Exa Z h a1 "java/lang/String") ∧ (Fld Z h a1 "java/lang/String" "coder" "B" (.int (0 : Int32))) ∧ (Fld Z h a1 "java/lang/String" "value" "[B" (.ref r)) ∧ h0.size ≤ r ∧ (Arv Z h r kid .byte (4 : Int32) [(.int (c0_.toInt8.toInt32)), (.int (c1_.toInt8.toInt32)), (.int (c2_.toInt8.toInt32)), (.int (c3_.toInt8.toInt32))] (.int (0 : Int32)))
set_option maxRecDepth 65536 in
set_option maxHeartbeats 40000000 in
theorem rm_sIni4 (l : Launch) (Z : State) (a0 : Array Value) (hw : ∀ d ∈ tables_1, d.before a0 Z = true) (ws : List Jvm.Cond) (a1 : Addr) (s1 : Addr) (ks : ClassId) (c0_ : Int32) (c1_ : Int32) (c2_ : Int32) (c3_ : Int32) (cs : Int32) (h0 : Heap) (n0 : Nat) (O0 : Old Z n0 h0) (F0_ : Fld Z h0 a1 "java/lang/String" "value" "[B" .null) (F1_ : Fld Z h0 a1 "java/lang/String" "coder" "B" (.int (0 : Int32))) (E2_ : Exa Z h0 a1 "java/lang/String") (G3_ : n0 ≤ a1) (A4_ : Arv Z h0 s1 ks .char (4 : Int32) [(.int c0_), (.int c1_), (.int c2_), (.int c3_)] (.int (0 : Int32))) (hc0 : ¬ ((255 : Int32) < c0_)) (hc1 : ¬ ((255 : Int32) < c1_)) (hc2 : ¬ ((255 : Int32) < c2_)) (hc3 : ¬ ((255 : Int32) < c3_)) (S9_ : Sta Z Z.heap "java/lang/String" "COMPACT_STRINGS" "Z" (.int cs)) (hcs : ¬ (cs = (0 : Int32))) :
    MetFree l (⟨"java/lang/String", "<init>", "([C)V"⟩ : MethodName) (head1 (Jvm.Cond.code (⟨"java/lang/String", "<init>", "([C)V"⟩ : MethodName) jdk_42_method_3_code 2 none :: ws) ({ frames := 3, cells := 1, slots := 4, locals := 52 } : Room)) (fun a U => a = #[(.ref a1), (.ref s1)] ∧ Z.Warmed39 U.vm ∧ U.heap = h0) (fun _ _ _ _ _ => True) (fun _ U o U' => ∃ v L, o = .returned v ∧ Q_sIni4 Z a1 s1 ks c0_ c1_ c2_ c3_ cs h0 n0 v U'.heap L ∧ FrameEnd U o U' L ({ frames := 3, cells := 1, slots := 4, locals := 52 } : Room).cells ({ frames := 3, cells := 1, slots := 4, locals := 52 } : Room).slots) := by
  refine MetFree.of_bodySF (plainFor_of_name pn_java_lang_String) hisR ?_
  intro p e s m args below meth c s₁ Bd hml0 hP hK
  obtain ⟨rfl, hZ, hh⟩ := hP
  have hx := Bd.exec
  have hby := Bd.bytes
  have hml : c.maxLocals = 2 := hml0
  have hown : s.vm.findClass "java/lang/String" = some m.cls := findClass_of_methodNamed Bd.named
  have hnm := (name_of_methodNamed Bd.named Bd.method).1
  have X0 : Stand p l e ({ frames := 3, cells := 1, slots := 4, locals := 52 } : Room) s m #[(.ref a1), (.ref s1)] below meth c s₁ [] 0 0 := Stand.of_body Bd
  have e0 : s₁.heap = h0 := by rw [← hh, Bd.state]; rfl
  have N0 := Fr.nil n0
  have g0 : Go p e below s₁ (mkF m 0 #[rv a1, rv s1] []) (s₁.setTop (entryFrame m #[(.ref a1), (.ref s1)] 2)) := fun t kont => castTop (ef_sIni4 m a1 s1 ) kont
  generalize s₁.setTop (entryFrame m #[(.ref a1), (.ref s1)] 2) = A0 at g0 ⊢
  have g101 : Go p e below s₁ (mkF m 4 #[rv a1, rv s1] [(.ref s1), (.int (0 : Int32)), (.ref s1), (.ref a1)]) A0 := by
    intro t kont
    refine g0 t ?_
    refine XS.aloadN X0.here hx rfl (hb hby d10_0) rfl rfl ?_
    show Steps p.tables e below (s₁.setTop (mkF m 1 #[rv a1, rv s1] [(.ref a1)])) _
    refine XS.aloadN X0.here hx rfl (hb hby d10_1) rfl rfl ?_
    show Steps p.tables e below (s₁.setTop (mkF m 2 #[rv a1, rv s1] [(.ref s1), (.ref a1)])) _
    refine XS.iconst X0.here hx rfl (hb hby d10_2) ?_
    show Steps p.tables e below (s₁.setTop (mkF m 3 #[rv a1, rv s1] [(.int (0 : Int32)), (.ref s1), (.ref a1)])) _
    refine XS.aloadN X0.here hx rfl (hb hby d10_3) rfl rfl ?_
    show Steps p.tables e below (s₁.setTop (mkF m 4 #[rv a1, rv s1] [(.ref s1), (.int (0 : Int32)), (.ref s1), (.ref a1)])) _
    exact kont
  have zz102 := A4_
  obtain ⟨cl102, Ar102, -, S102, M102, -, -⟩ := zz102
  have g103 : Go p e below s₁ (mkF m 5 #[rv a1, rv s1] [(.int (4 : Int32)), (.int (0 : Int32)), (.ref s1), (.ref a1)]) A0 := by
    intro t kont
    refine g101 t ?_
    refine X0.arraylength hx (by rw [e0]; exact Ar102.1) (State.isArrayOf_alike hZ.alike Ar102.2.1) (g := (mkF m 4 #[rv a1, rv s1] [(.ref s1), (.int (0 : Int32)), (.ref s1), (.ref a1)])) rfl rfl (hb hby d10_4) _ ?_
    rw [len_of S102 M102]
    exact kont
  have g104 : Go p e below s₁ (mkF m 6 #[rv a1, rv s1] [.null, (.int (4 : Int32)), (.int (0 : Int32)), (.ref s1), (.ref a1)]) A0 := by
    intro t kont
    refine g103 t ?_
    refine XS.aconstNull X0.here hx rfl (hb hby d10_5) ?_
    show Steps p.tables e below (s₁.setTop (mkF m 6 #[rv a1, rv s1] [.null, (.int (4 : Int32)), (.int (0 : Int32)), (.ref s1), (.ref a1)])) _
    exact kont
  obtain ⟨_, _, ⟨T105, L105, k105, n105⟩, -, X105, ⟨Lc105, hQ105, l105, y105, z105⟩, st105⟩ := X0.specialBack hx (y := (⟨"java/lang/String", "<init>", "([CIILjava/lang/Void;)V"⟩ : MethodName)) rfl hown (mvT hZ (hw _ (List.mem_of_getElem? (i := 51) rfl))) (mvT hZ (hw _ (List.mem_of_getElem? (i := 52) rfl))) (mvT hZ (hw _ (List.mem_of_getElem? (i := 53) rfl))) (by decide) (backOf (W := 0) (rm_sin4 l Z a0 hw [] a1 s1 ks c0_ c1_ c2_ c3_ cs h0 n0 O0 F0_ F1_ E2_ G3_ A4_ hc0 hc1 hc2 hc3 S9_ hcs) hZ (hw _ (List.mem_of_getElem? (i := 53) rfl)) (hw _ (List.mem_of_getElem? (i := 2) rfl)) (by decide) (by decide)) (g := (mkF m 6 #[rv a1, rv s1] [.null, (.int (4 : Int32)), (.int (0 : Int32)), (.ref s1), (.ref a1)])) rfl (by rw [hml]; rfl) (Steps.refl _) (a := a1) (argsL := [(.ref s1), (.int (0 : Int32)), (.int (4 : Int32)), .null]) (rest := []) (lenOf pd_6 rfl) rfl (by show 2 * 0 + _ ≤ _; exact Nat.le_of_eq rfl) (hb hby d10_6) (fun _ _ => ⟨rfl, e0, (by decide : 0 + 1 ≤ _), (by decide : 0 + 4 ≤ _)⟩)
  dsimp only [Pt.U, Pt.locs, Pt.cells, Pt.slots] at X105 l105 y105 z105 st105 hQ105
  subst l105 y105 z105
  obtain ⟨r106, r107, rfl, M105, K105, y108, y109, y110, y111, y112⟩ := hQ105
  have N105 := Fr.app N0 M105
  have O113 := O0.keep K105 (allS G3_ all0)
  have g114 : Go p e below T105 (mkF m 9 #[rv a1, rv s1] []) A0 := fun t kont => g104 t (st105.trans kont)
  have K115 : Keep h0 T105.heap [a1] := ((Keep.refl h0 [a1]).trans K105 (allS (P := fun x => x ∈ [a1] ∨ h0.size ≤ x) (Or.inl (List.mem_of_getElem? (i := 0) rfl)) all0))
  obtain ⟨fs, hr, hrun, hended, hW, hsame⟩ := X105.leave (v := none) (fun _ => rfl)
  refine ⟨_, _, g114 _ (X105.returnOut hx Bd.returns (hb hby d10_9) hr), hrun, hended, _, _, rfl, ?_, ⟨_, rfl⟩, hW, hsame.mono (by decide) (by decide)⟩
  show Q_sIni4 Z a1 s1 ks c0_ c1_ c2_ c3_ cs h0 n0 _ T105.heap _
  exact ⟨r106, r107, rfl, N105, K115, y108, y109, y110, y111, y112⟩
theorem d7_0 : decode jdk_42_method_55_code 0 = .ok (.aload_n 0, 1) := by decide +kernel
theorem d7_1 : decode jdk_42_method_55_code 1 = .ok (.getfield 9, 3) := by decide +kernel
theorem d7_4 : decode jdk_42_method_55_code 4 = .ok (.arraylength, 1) := by decide +kernel
theorem d7_5 : decode jdk_42_method_55_code 5 = .ok (.ifCond .ne 7, 3) := by decide +kernel
theorem d7_12 : decode jdk_42_method_55_code 12 = .ok (.iconst 0, 1) := by decide +kernel
theorem d7_13 : decode jdk_42_method_55_code 13 = .ok (.ireturn, 1) := by decide +kernel
theorem ef_isE (m : MethodId) (x0 : Addr)  : entryFrame m #[(.ref x0)] 1 = mkF m 0 #[.val (.ref x0)] [] := by first | (simp [entryFrame, mkF, argsToLocals, Value.category]; done) | rfl
def Q_isE (Z : State) (a1 : Addr) (b1 : Addr) (kb : ClassId) (z1 : Int32) (vs1 : List Value) (h0 : Heap) (n0 : Nat) (v : Option Value) (h : Heap) (L : List Loc) : Prop := v = some (.int (0 : Int32)) ∧ Fr n0 L ∧ h = h0
set_option maxRecDepth 65536 in
set_option maxHeartbeats 40000000 in
theorem rm_isE (l : Launch) (Z : State) (a0 : Array Value) (hw : ∀ d ∈ tables_1, d.before a0 Z = true) (ws : List Jvm.Cond) (a1 : Addr) (b1 : Addr) (kb : ClassId) (z1 : Int32) (vs1 : List Value) (h0 : Heap) (n0 : Nat) (O0 : Old Z n0 h0) (F0_ : Fld Z h0 a1 "java/lang/String" "value" "[B" (.ref b1)) (A1_ : Arv Z h0 b1 kb .byte z1 vs1 (.int (0 : Int32))) (hz1 : ¬ (z1 = (0 : Int32))) :
    MetFree l (⟨"java/lang/String", "isEmpty", "()Z"⟩ : MethodName) (head1 (Jvm.Cond.code (⟨"java/lang/String", "isEmpty", "()Z"⟩ : MethodName) jdk_42_method_55_code 1 (some .boolean) :: ws) ({ frames := 0, cells := 0, slots := 0, locals := 0 } : Room)) (fun a U => a = #[(.ref a1)] ∧ Z.Warmed39 U.vm ∧ U.heap = h0) (fun _ _ _ _ _ => True) (fun _ U o U' => ∃ v L, o = .returned v ∧ Q_isE Z a1 b1 kb z1 vs1 h0 n0 v U'.heap L ∧ FrameEnd U o U' L ({ frames := 0, cells := 0, slots := 0, locals := 0 } : Room).cells ({ frames := 0, cells := 0, slots := 0, locals := 0 } : Room).slots) := by
  refine MetFree.of_bodySF (plainFor_of_name pn_java_lang_String) hisR ?_
  intro p e s m args below meth c s₁ Bd hml0 hP hK
  obtain ⟨rfl, hZ, hh⟩ := hP
  have hx := Bd.exec
  have hby := Bd.bytes
  have hml : c.maxLocals = 1 := hml0
  have hown : s.vm.findClass "java/lang/String" = some m.cls := findClass_of_methodNamed Bd.named
  have hnm := (name_of_methodNamed Bd.named Bd.method).1
  have X0 : Stand p l e ({ frames := 0, cells := 0, slots := 0, locals := 0 } : Room) s m #[(.ref a1)] below meth c s₁ [] 0 0 := Stand.of_body Bd
  have e0 : s₁.heap = h0 := by rw [← hh, Bd.state]; rfl
  have N0 := Fr.nil n0
  have g0 : Go p e below s₁ (mkF m 0 #[rv a1] []) (s₁.setTop (entryFrame m #[(.ref a1)] 1)) := fun t kont => castTop (ef_isE m a1 ) kont
  generalize s₁.setTop (entryFrame m #[(.ref a1)] 1) = A0 at g0 ⊢
  have g101 : Go p e below s₁ (mkF m 1 #[rv a1] [(.ref a1)]) A0 := by
    intro t kont
    refine g0 t ?_
    refine XS.aloadN X0.here hx rfl (hb hby d7_0) rfl rfl ?_
    show Steps p.tables e below (s₁.setTop (mkF m 1 #[rv a1] [(.ref a1)])) _
    exact kont
  obtain ⟨T102, X102, e102, st102⟩ := getF X0 hx hZ hown (host := "") (Or.inl (hw _ (List.mem_of_getElem? (i := 22) rfl))) Via.refl e0 F0_ (g := (mkF m 1 #[rv a1] [(.ref a1)])) rfl rfl (hb hby d7_1)
  have g103 : Go p e below T102 (mkF m 4 #[rv a1] [(.ref b1)]) A0 := fun t kont => g101 t (st102 t kont)
  have zz104 := A1_
  obtain ⟨cl104, Ar104, -, S104, M104, -, -⟩ := zz104
  have g105 : Go p e below T102 (mkF m 5 #[rv a1] [(.int z1)]) A0 := by
    intro t kont
    refine g103 t ?_
    refine X102.arraylength hx (by rw [e102]; exact Ar104.1) (State.isArrayOf_alike hZ.alike Ar104.2.1) (g := (mkF m 4 #[rv a1] [(.ref b1)])) rfl rfl (hb hby d7_4) _ ?_
    rw [len_of S104 M104]
    exact kont
  have g106 : Go p e below T102 (mkF m 13 #[rv a1] [(.int (0 : Int32))]) A0 := by
    intro t kont
    refine g105 t ?_
    refine XS.ifYes X102.here hx rfl (pc0 := 5) (pc' := 12) rfl (hb hby d7_5) rfl ((if0 _ _).trans (feq hz1).2) (by decide) (by decide) ?_
    show Steps p.tables e below (T102.setTop (mkF m 12 #[rv a1] [])) _
    refine XS.iconst X102.here hx rfl (hb hby d7_12) ?_
    show Steps p.tables e below (T102.setTop (mkF m 13 #[rv a1] [(.int (0 : Int32))])) _
    exact kont
  obtain ⟨fs, hr, hrun, hended, hW, hsame⟩ := X102.leave (v := some (.int (0 : Int32))) (fun h => by rw [Bd.returns] at h; cases h)
  refine ⟨_, _, g106 _ (retN X102 hx (t := .boolean) Bd.returns (by simp) (hb hby d7_13) hr), hrun, hended, _, _, rfl, ?_, ⟨_, rfl⟩, hW, hsame.mono (by decide) (by decide)⟩
  show Q_isE Z a1 b1 kb z1 vs1 h0 n0 _ T102.heap _
  rw [e102]
  exact ⟨rfl, N0, rfl⟩
theorem d9_0 : decode jdk_43_method_13_code 0 = .ok (.aload_n 0, 1) := by decide +kernel
theorem d9_1 : decode jdk_43_method_13_code 1 = .ok (.arraylength, 1) := by decide +kernel
theorem d9_2 : decode jdk_43_method_13_code 2 = .ok (.aload_n 1, 1) := by decide +kernel
theorem d9_3 : decode jdk_43_method_13_code 3 = .ok (.arraylength, 1) := by decide +kernel
theorem d9_4 : decode jdk_43_method_13_code 4 = .ok (.if_icmp .ne 30, 3) := by decide +kernel
theorem d9_34 : decode jdk_43_method_13_code 34 = .ok (.iconst 0, 1) := by decide +kernel
theorem d9_35 : decode jdk_43_method_13_code 35 = .ok (.ireturn, 1) := by decide +kernel
theorem ef_leqL (m : MethodId) (x0 : Addr) (x1 : Addr)  : entryFrame m #[(.ref x0), (.ref x1)] 3 = mkF m 0 #[.val (.ref x0), .val (.ref x1), .unset] [] := by first | (simp [entryFrame, mkF, argsToLocals, Value.category]; done) | rfl
def Q_leqL (Z : State) (u1 : Addr) (v1 : Addr) (ku : ClassId) (kv : ClassId) (z1 : Int32) (z2 : Int32) (vs1 : List Value) (vs2 : List Value) (h0 : Heap) (n0 : Nat) (v : Option Value) (h : Heap) (L : List Loc) : Prop := v = some (.int (0 : Int32)) ∧ Fr n0 L ∧ h = h0
set_option maxRecDepth 65536 in
set_option maxHeartbeats 40000000 in
theorem rm_leqL (l : Launch) (Z : State) (a0 : Array Value) (hw : ∀ d ∈ tables_1, d.before a0 Z = true) (ws : List Jvm.Cond) (u1 : Addr) (v1 : Addr) (ku : ClassId) (kv : ClassId) (z1 : Int32) (z2 : Int32) (vs1 : List Value) (vs2 : List Value) (h0 : Heap) (n0 : Nat) (O0 : Old Z n0 h0) (A0_ : Arv Z h0 u1 ku .byte z1 vs1 (.int (0 : Int32))) (A1_ : Arv Z h0 v1 kv .byte z2 vs2 (.int (0 : Int32))) (hz : ¬ (z1 = z2)) :
    MetFree l (⟨"java/lang/StringLatin1", "equals", "([B[B)Z"⟩ : MethodName) (head1 (Jvm.Cond.code (⟨"java/lang/StringLatin1", "equals", "([B[B)Z"⟩ : MethodName) jdk_43_method_13_code 3 (some .boolean) :: ws) ({ frames := 0, cells := 0, slots := 0, locals := 0 } : Room)) (fun a U => a = #[(.ref u1), (.ref v1)] ∧ Z.Warmed39 U.vm ∧ U.heap = h0) (fun _ _ _ _ _ => True) (fun _ U o U' => ∃ v L, o = .returned v ∧ Q_leqL Z u1 v1 ku kv z1 z2 vs1 vs2 h0 n0 v U'.heap L ∧ FrameEnd U o U' L ({ frames := 0, cells := 0, slots := 0, locals := 0 } : Room).cells ({ frames := 0, cells := 0, slots := 0, locals := 0 } : Room).slots) := by
  refine MetFree.of_bodySF (plainFor_of_name pn_java_lang_StringLatin1) hisR ?_
  intro p e s m args below meth c s₁ Bd hml0 hP hK
  obtain ⟨rfl, hZ, hh⟩ := hP
  have hx := Bd.exec
  have hby := Bd.bytes
  have hml : c.maxLocals = 3 := hml0
  have hown : s.vm.findClass "java/lang/StringLatin1" = some m.cls := findClass_of_methodNamed Bd.named
  have hnm := (name_of_methodNamed Bd.named Bd.method).1
  have X0 : Stand p l e ({ frames := 0, cells := 0, slots := 0, locals := 0 } : Room) s m #[(.ref u1), (.ref v1)] below meth c s₁ [] 0 0 := Stand.of_body Bd
  have e0 : s₁.heap = h0 := by rw [← hh, Bd.state]; rfl
  have N0 := Fr.nil n0
  have g0 : Go p e below s₁ (mkF m 0 #[rv u1, rv v1, .unset] []) (s₁.setTop (entryFrame m #[(.ref u1), (.ref v1)] 3)) := fun t kont => castTop (ef_leqL m u1 v1 ) kont
  generalize s₁.setTop (entryFrame m #[(.ref u1), (.ref v1)] 3) = A0 at g0 ⊢
  have g101 : Go p e below s₁ (mkF m 1 #[rv u1, rv v1, .unset] [(.ref u1)]) A0 := by
    intro t kont
    refine g0 t ?_
    refine XS.aloadN X0.here hx rfl (hb hby d9_0) rfl rfl ?_
    show Steps p.tables e below (s₁.setTop (mkF m 1 #[rv u1, rv v1, .unset] [(.ref u1)])) _
    exact kont
  have zz102 := A0_
  obtain ⟨cl102, Ar102, -, S102, M102, -, -⟩ := zz102
  have g103 : Go p e below s₁ (mkF m 2 #[rv u1, rv v1, .unset] [(.int z1)]) A0 := by
    intro t kont
    refine g101 t ?_
    refine X0.arraylength hx (by rw [e0]; exact Ar102.1) (State.isArrayOf_alike hZ.alike Ar102.2.1) (g := (mkF m 1 #[rv u1, rv v1, .unset] [(.ref u1)])) rfl rfl (hb hby d9_1) _ ?_
    rw [len_of S102 M102]
    exact kont
  have g104 : Go p e below s₁ (mkF m 3 #[rv u1, rv v1, .unset] [(.ref v1), (.int z1)]) A0 := by
    intro t kont
    refine g103 t ?_
    refine XS.aloadN X0.here hx rfl (hb hby d9_2) rfl rfl ?_
    show Steps p.tables e below (s₁.setTop (mkF m 3 #[rv u1, rv v1, .unset] [(.ref v1), (.int z1)])) _
    exact kont
  have zz105 := A1_
  obtain ⟨cl105, Ar105, -, S105, M105, -, -⟩ := zz105
  have g106 : Go p e below s₁ (mkF m 4 #[rv u1, rv v1, .unset] [(.int z2), (.int z1)]) A0 := by
    intro t kont
    refine g104 t ?_
    refine X0.arraylength hx (by rw [e0]; exact Ar105.1) (State.isArrayOf_alike hZ.alike Ar105.2.1) (g := (mkF m 3 #[rv u1, rv v1, .unset] [(.ref v1), (.int z1)])) rfl rfl (hb hby d9_3) _ ?_
    rw [len_of S105 M105]
    exact kont
  have g107 : Go p e below s₁ (mkF m 35 #[rv u1, rv v1, .unset] [(.int (0 : Int32))]) A0 := by
    intro t kont
    refine g106 t ?_
    refine XS.icmpYes X0.here hx rfl (pc0 := 4) (pc' := 34) rfl (hb hby d9_4) rfl (feq hz).2 (by decide) (by decide) ?_
    show Steps p.tables e below (s₁.setTop (mkF m 34 #[rv u1, rv v1, .unset] [])) _
    refine XS.iconst X0.here hx rfl (hb hby d9_34) ?_
    show Steps p.tables e below (s₁.setTop (mkF m 35 #[rv u1, rv v1, .unset] [(.int (0 : Int32))])) _
    exact kont
  obtain ⟨fs, hr, hrun, hended, hW, hsame⟩ := X0.leave (v := some (.int (0 : Int32))) (fun h => by rw [Bd.returns] at h; cases h)
  refine ⟨_, _, g107 _ (retN X0 hx (t := .boolean) Bd.returns (by simp) (hb hby d9_35) hr), hrun, hended, _, _, rfl, ?_, ⟨_, rfl⟩, hW, hsame.mono (by decide) (by decide)⟩
  show Q_leqL Z u1 v1 ku kv z1 z2 vs1 vs2 h0 n0 _ s₁.heap _
  rw [e0]
  exact ⟨rfl, N0, rfl⟩
theorem d8_0 : decode jdk_42_method_66_code 0 = .ok (.aload_n 0, 1) := by decide +kernel
theorem d8_1 : decode jdk_42_method_66_code 1 = .ok (.aload_n 1, 1) := by decide +kernel
theorem d8_2 : decode jdk_42_method_66_code 2 = .ok (.if_acmp .ne 5, 3) := by decide +kernel
theorem d8_7 : decode jdk_42_method_66_code 7 = .ok (.aload_n 1, 1) := by decide +kernel
theorem d8_8 : decode jdk_42_method_66_code 8 = .ok (.instanceof 10, 3) := by decide +kernel
theorem d8_11 : decode jdk_42_method_66_code 11 = .ok (.ifCond .eq 43, 3) := by decide +kernel
theorem d8_14 : decode jdk_42_method_66_code 14 = .ok (.aload_n 1, 1) := by decide +kernel
theorem d8_15 : decode jdk_42_method_66_code 15 = .ok (.checkcast 10, 3) := by decide +kernel
theorem d8_18 : decode jdk_42_method_66_code 18 = .ok (.astore_n 2, 1) := by decide +kernel
theorem d8_19 : decode jdk_42_method_66_code 19 = .ok (.getstatic 38, 3) := by decide +kernel
theorem d8_22 : decode jdk_42_method_66_code 22 = .ok (.ifCond .eq 14, 3) := by decide +kernel
theorem d8_25 : decode jdk_42_method_66_code 25 = .ok (.aload_n 0, 1) := by decide +kernel
theorem d8_26 : decode jdk_42_method_66_code 26 = .ok (.getfield 15, 3) := by decide +kernel
theorem d8_29 : decode jdk_42_method_66_code 29 = .ok (.aload_n 2, 1) := by decide +kernel
theorem d8_30 : decode jdk_42_method_66_code 30 = .ok (.getfield 15, 3) := by decide +kernel
theorem d8_33 : decode jdk_42_method_66_code 33 = .ok (.if_icmp .ne 21, 3) := by decide +kernel
theorem d8_36 : decode jdk_42_method_66_code 36 = .ok (.aload_n 0, 1) := by decide +kernel
theorem d8_37 : decode jdk_42_method_66_code 37 = .ok (.getfield 9, 3) := by decide +kernel
theorem d8_40 : decode jdk_42_method_66_code 40 = .ok (.aload_n 2, 1) := by decide +kernel
theorem d8_41 : decode jdk_42_method_66_code 41 = .ok (.getfield 9, 3) := by decide +kernel
theorem d8_44 : decode jdk_42_method_66_code 44 = .ok (.invokestatic 541, 3) := by decide +kernel
theorem pd_7 : parseMethodDescriptor "([B[B)Z" = some ⟨[(.array .byte), (.array .byte)], some .boolean⟩ := by decide +kernel
theorem d8_47 : decode jdk_42_method_66_code 47 = .ok (.ifCond .eq 7, 3) := by decide +kernel
theorem d8_54 : decode jdk_42_method_66_code 54 = .ok (.iconst 0, 1) := by decide +kernel
theorem d8_55 : decode jdk_42_method_66_code 55 = .ok (.ireturn, 1) := by decide +kernel
theorem ef_eqL (m : MethodId) (x0 : Addr) (x1 : Addr)  : entryFrame m #[(.ref x0), (.ref x1)] 3 = mkF m 0 #[.val (.ref x0), .val (.ref x1), .unset] [] := by first | (simp [entryFrame, mkF, argsToLocals, Value.category]; done) | rfl
def Q_eqL (Z : State) (a1 : Addr) (a2 : Addr) (u1 : Addr) (v1 : Addr) (ku : ClassId) (kv : ClassId) (z1 : Int32) (z2 : Int32) (vs1 : List Value) (vs2 : List Value) (cs : Int32) (h0 : Heap) (n0 : Nat) (v : Option Value) (h : Heap) (L : List Loc) : Prop := v = some (.int (0 : Int32)) ∧ Fr n0 L ∧ h = h0
set_option maxRecDepth 65536 in
set_option maxHeartbeats 40000000 in
theorem rm_eqL (l : Launch) (Z : State) (a0 : Array Value) (hw : ∀ d ∈ tables_1, d.before a0 Z = true) (ws : List Jvm.Cond) (a1 : Addr) (a2 : Addr) (u1 : Addr) (v1 : Addr) (ku : ClassId) (kv : ClassId) (z1 : Int32) (z2 : Int32) (vs1 : List Value) (vs2 : List Value) (cs : Int32) (h0 : Heap) (n0 : Nat) (O0 : Old Z n0 h0) (S0_ : Sta Z Z.heap "java/lang/String" "COMPACT_STRINGS" "Z" (.int cs)) (hcs : ¬ (cs = (0 : Int32))) (E2_ : Exa Z h0 a2 "java/lang/String") (F3_ : Fld Z h0 a1 "java/lang/String" "coder" "B" (.int (0 : Int32))) (F4_ : Fld Z h0 a2 "java/lang/String" "coder" "B" (.int (0 : Int32))) (F5_ : Fld Z h0 a1 "java/lang/String" "value" "[B" (.ref u1)) (F6_ : Fld Z h0 a2 "java/lang/String" "value" "[B" (.ref v1)) (A7_ : Arv Z h0 u1 ku .byte z1 vs1 (.int (0 : Int32))) (A8_ : Arv Z h0 v1 kv .byte z2 vs2 (.int (0 : Int32))) (hz : ¬ (z1 = z2)) (NE10_ : ¬ (a1 = a2)) :
    MetFree l (⟨"java/lang/String", "equals", "(Ljava/lang/Object;)Z"⟩ : MethodName) (head1 (Jvm.Cond.code (⟨"java/lang/String", "equals", "(Ljava/lang/Object;)Z"⟩ : MethodName) jdk_42_method_66_code 3 (some .boolean) :: ws) ({ frames := 1, cells := 0, slots := 0, locals := 14 } : Room)) (fun a U => a = #[(.ref a1), (.ref a2)] ∧ Z.Warmed39 U.vm ∧ U.heap = h0) (fun _ _ _ _ _ => True) (fun _ U o U' => ∃ v L, o = .returned v ∧ Q_eqL Z a1 a2 u1 v1 ku kv z1 z2 vs1 vs2 cs h0 n0 v U'.heap L ∧ FrameEnd U o U' L ({ frames := 1, cells := 0, slots := 0, locals := 14 } : Room).cells ({ frames := 1, cells := 0, slots := 0, locals := 14 } : Room).slots) := by
  refine MetFree.of_bodySF (plainFor_of_name pn_java_lang_String) hisR ?_
  intro p e s m args below meth c s₁ Bd hml0 hP hK
  obtain ⟨rfl, hZ, hh⟩ := hP
  have hx := Bd.exec
  have hby := Bd.bytes
  have hml : c.maxLocals = 3 := hml0
  have hown : s.vm.findClass "java/lang/String" = some m.cls := findClass_of_methodNamed Bd.named
  have hnm := (name_of_methodNamed Bd.named Bd.method).1
  have X0 : Stand p l e ({ frames := 1, cells := 0, slots := 0, locals := 14 } : Room) s m #[(.ref a1), (.ref a2)] below meth c s₁ [] 0 0 := Stand.of_body Bd
  have e0 : s₁.heap = h0 := by rw [← hh, Bd.state]; rfl
  have N0 := Fr.nil n0
  have g0 : Go p e below s₁ (mkF m 0 #[rv a1, rv a2, .unset] []) (s₁.setTop (entryFrame m #[(.ref a1), (.ref a2)] 3)) := fun t kont => castTop (ef_eqL m a1 a2 ) kont
  generalize s₁.setTop (entryFrame m #[(.ref a1), (.ref a2)] 3) = A0 at g0 ⊢
  have g101 : Go p e below s₁ (mkF m 8 #[rv a1, rv a2, .unset] [(.ref a2)]) A0 := by
    intro t kont
    refine g0 t ?_
    refine XS.aloadN X0.here hx rfl (hb hby d8_0) rfl rfl ?_
    show Steps p.tables e below (s₁.setTop (mkF m 1 #[rv a1, rv a2, .unset] [(.ref a1)])) _
    refine XS.aloadN X0.here hx rfl (hb hby d8_1) rfl rfl ?_
    show Steps p.tables e below (s₁.setTop (mkF m 2 #[rv a1, rv a2, .unset] [(.ref a2), (.ref a1)])) _
    refine Jvm.RoadKit.acmp (g := (mkF m 2 #[rv a1, rv a2, .unset] [(.ref a2), (.ref a1)])) X0 hx rfl rfl rfl (pc0 := 2) (pc' := 7) (same := false) rfl (hb hby d8_2) rfl (decide_eq_false fun q => NE10_ (Value.ref.inj q)) (by decide) (by decide) ?_
    show Steps p.tables e below (s₁.setTop (mkF m 7 #[rv a1, rv a2, .unset] [])) _
    refine XS.aloadN X0.here hx rfl (hb hby d8_7) rfl rfl ?_
    show Steps p.tables e below (s₁.setTop (mkF m 8 #[rv a1, rv a2, .unset] [(.ref a2)])) _
    exact kont
  obtain ⟨T102, X102, e102, st102⟩ := instY X0 hx hZ hown (hw _ (List.mem_of_getElem? (i := 9) rfl)) e0 (Ins.self E2_) (g := (mkF m 8 #[rv a1, rv a2, .unset] [(.ref a2)])) rfl rfl (hb hby d8_8)
  have g103 : Go p e below T102 (mkF m 11 #[rv a1, rv a2, .unset] [(.int (1 : Int32))]) A0 := fun t kont => g101 t (st102 t kont)
  have g104 : Go p e below T102 (mkF m 15 #[rv a1, rv a2, .unset] [(.ref a2)]) A0 := by
    intro t kont
    refine g103 t ?_
    refine XS.ifNo X102.here hx rfl (hb hby d8_11) rfl ((if0 _ _).trans (feq (by decide : ¬ ((1 : Int32) = (0 : Int32)))).1) ?_
    show Steps p.tables e below (T102.setTop (mkF m 14 #[rv a1, rv a2, .unset] [])) _
    refine XS.aloadN X102.here hx rfl (hb hby d8_14) rfl rfl ?_
    show Steps p.tables e below (T102.setTop (mkF m 15 #[rv a1, rv a2, .unset] [(.ref a2)])) _
    exact kont
  obtain ⟨T105, X105, e105, st105⟩ := castY X102 hx hZ hown (hw _ (List.mem_of_getElem? (i := 9) rfl)) e102 (Ins.self E2_) (g := (mkF m 15 #[rv a1, rv a2, .unset] [(.ref a2)])) rfl rfl (hb hby d8_15)
  have g106 : Go p e below T105 (mkF m 18 #[rv a1, rv a2, .unset] [(.ref a2)]) A0 := fun t kont => g104 t (st105 t kont)
  have g107 : Go p e below T105 (mkF m 19 #[rv a1, rv a2, rv a2] []) A0 := by
    intro t kont
    refine g106 t ?_
    refine XS.astoreN X105.here hx rfl (hb hby d8_18) rfl rfl (l' := #[rv a1, rv a2, rv a2]) rfl ?_
    show Steps p.tables e below (T105.setTop (mkF m 19 #[rv a1, rv a2, rv a2] [])) _
    exact kont
  have y108 : Sta Z h0 "java/lang/String" "COMPACT_STRINGS" "Z" (.int cs) := S0_.ext O0.2
  obtain ⟨T109, X109, e109, st109⟩ := getS2 X105 hx hZ hown (host := "") (Or.inl (hw _ (List.mem_of_getElem? (i := 4) rfl))) Via.refl e105 y108 (g := (mkF m 19 #[rv a1, rv a2, rv a2] [])) rfl (hb hby d8_19)
  have g110 : Go p e below T109 (mkF m 22 #[rv a1, rv a2, rv a2] [(.int cs)]) A0 := fun t kont => g107 t (st109 t kont)
  have g111 : Go p e below T109 (mkF m 26 #[rv a1, rv a2, rv a2] [(.ref a1)]) A0 := by
    intro t kont
    refine g110 t ?_
    refine XS.ifNo X109.here hx rfl (hb hby d8_22) rfl ((if0 _ _).trans (feq hcs).1) ?_
    show Steps p.tables e below (T109.setTop (mkF m 25 #[rv a1, rv a2, rv a2] [])) _
    refine XS.aloadN X109.here hx rfl (hb hby d8_25) rfl rfl ?_
    show Steps p.tables e below (T109.setTop (mkF m 26 #[rv a1, rv a2, rv a2] [(.ref a1)])) _
    exact kont
  obtain ⟨T112, X112, e112, st112⟩ := getF X109 hx hZ hown (host := "") (Or.inl (hw _ (List.mem_of_getElem? (i := 24) rfl))) Via.refl e109 F3_ (g := (mkF m 26 #[rv a1, rv a2, rv a2] [(.ref a1)])) rfl rfl (hb hby d8_26)
  have g113 : Go p e below T112 (mkF m 29 #[rv a1, rv a2, rv a2] [(.int (0 : Int32))]) A0 := fun t kont => g111 t (st112 t kont)
  have g114 : Go p e below T112 (mkF m 30 #[rv a1, rv a2, rv a2] [(.ref a2), (.int (0 : Int32))]) A0 := by
    intro t kont
    refine g113 t ?_
    refine XS.aloadN X112.here hx rfl (hb hby d8_29) rfl rfl ?_
    show Steps p.tables e below (T112.setTop (mkF m 30 #[rv a1, rv a2, rv a2] [(.ref a2), (.int (0 : Int32))])) _
    exact kont
  obtain ⟨T115, X115, e115, st115⟩ := getF X112 hx hZ hown (host := "") (Or.inl (hw _ (List.mem_of_getElem? (i := 24) rfl))) Via.refl e112 F4_ (g := (mkF m 30 #[rv a1, rv a2, rv a2] [(.ref a2), (.int (0 : Int32))])) rfl rfl (hb hby d8_30)
  have g116 : Go p e below T115 (mkF m 33 #[rv a1, rv a2, rv a2] [(.int (0 : Int32)), (.int (0 : Int32))]) A0 := fun t kont => g114 t (st115 t kont)
  have g117 : Go p e below T115 (mkF m 37 #[rv a1, rv a2, rv a2] [(.ref a1)]) A0 := by
    intro t kont
    refine g116 t ?_
    refine XS.icmpNo X115.here hx rfl (hb hby d8_33) rfl (teq (by decide : (0 : Int32) = (0 : Int32))).2 ?_
    show Steps p.tables e below (T115.setTop (mkF m 36 #[rv a1, rv a2, rv a2] [])) _
    refine XS.aloadN X115.here hx rfl (hb hby d8_36) rfl rfl ?_
    show Steps p.tables e below (T115.setTop (mkF m 37 #[rv a1, rv a2, rv a2] [(.ref a1)])) _
    exact kont
  obtain ⟨T118, X118, e118, st118⟩ := getF X115 hx hZ hown (host := "") (Or.inl (hw _ (List.mem_of_getElem? (i := 22) rfl))) Via.refl e115 F5_ (g := (mkF m 37 #[rv a1, rv a2, rv a2] [(.ref a1)])) rfl rfl (hb hby d8_37)
  have g119 : Go p e below T118 (mkF m 40 #[rv a1, rv a2, rv a2] [(.ref u1)]) A0 := fun t kont => g117 t (st118 t kont)
  have g120 : Go p e below T118 (mkF m 41 #[rv a1, rv a2, rv a2] [(.ref a2), (.ref u1)]) A0 := by
    intro t kont
    refine g119 t ?_
    refine XS.aloadN X118.here hx rfl (hb hby d8_40) rfl rfl ?_
    show Steps p.tables e below (T118.setTop (mkF m 41 #[rv a1, rv a2, rv a2] [(.ref a2), (.ref u1)])) _
    exact kont
  obtain ⟨T121, X121, e121, st121⟩ := getF X118 hx hZ hown (host := "") (Or.inl (hw _ (List.mem_of_getElem? (i := 22) rfl))) Via.refl e118 F6_ (g := (mkF m 41 #[rv a1, rv a2, rv a2] [(.ref a2), (.ref u1)])) rfl rfl (hb hby d8_41)
  have g122 : Go p e below T121 (mkF m 44 #[rv a1, rv a2, rv a2] [(.ref v1), (.ref u1)]) A0 := fun t kont => g120 t (st121 t kont)
  obtain ⟨_, _, ⟨T123, L123, k123, n123⟩, -, X123, ⟨Lc123, hQ123, l123, y123, z123⟩, st123⟩ := Jvm.LawKit.callS X121 hx (y := (⟨"java/lang/StringLatin1", "equals", "([B[B)Z"⟩ : MethodName)) hown (mvT hZ (hw _ (List.mem_of_getElem? (i := 43) rfl))) (mvT hZ (hw _ (List.mem_of_getElem? (i := 44) rfl))) (mvT hZ (hw _ (List.mem_of_getElem? (i := 7) rfl))) (mvT hZ (hw _ (List.mem_of_getElem? (i := 45) rfl))) (by decide) (backOf (W := 0) (rm_leqL l Z a0 hw [] u1 v1 ku kv z1 z2 vs1 vs2 h0 n0 O0 A7_ A8_ hz) hZ (hw _ (List.mem_of_getElem? (i := 45) rfl)) (hw _ (List.mem_of_getElem? (i := 7) rfl)) (by decide) (by decide)) (g := (mkF m 44 #[rv a1, rv a2, rv a2] [(.ref v1), (.ref u1)])) rfl (by rw [hml]; rfl) (argsL := [(.ref u1), (.ref v1)]) (rest := []) (lenOf pd_7 rfl) rfl (by show 2 * 0 + _ ≤ _; exact Nat.le_of_eq rfl) (hb hby d8_44) (fun _ _ => ⟨rfl, e121, (by decide : 0 + 0 ≤ _), (by decide : 0 + 0 ≤ _)⟩)
  dsimp only [Pt.U, Pt.locs, Pt.cells, Pt.slots] at X123 l123 y123 z123 st123 hQ123
  subst l123 y123 z123
  obtain ⟨rfl, M123, e123⟩ := hQ123
  have N123 := Fr.app N0 M123
  have g124 : Go p e below T123 (mkF m 47 #[rv a1, rv a2, rv a2] [(.int (0 : Int32))]) A0 := fun t kont => g122 t (st123 t kont)
  have g125 : Go p e below T123 (mkF m 55 #[rv a1, rv a2, rv a2] [(.int (0 : Int32))]) A0 := by
    intro t kont
    refine g124 t ?_
    refine XS.ifYes X123.here hx rfl (pc0 := 47) (pc' := 54) rfl (hb hby d8_47) rfl ((if0 _ _).trans (teq (by decide : (0 : Int32) = (0 : Int32))).1) (by decide) (by decide) ?_
    show Steps p.tables e below (T123.setTop (mkF m 54 #[rv a1, rv a2, rv a2] [])) _
    refine XS.iconst X123.here hx rfl (hb hby d8_54) ?_
    show Steps p.tables e below (T123.setTop (mkF m 55 #[rv a1, rv a2, rv a2] [(.int (0 : Int32))])) _
    exact kont
  obtain ⟨fs, hr, hrun, hended, hW, hsame⟩ := X123.leave (v := some (.int (0 : Int32))) (fun h => by rw [Bd.returns] at h; cases h)
  refine ⟨_, _, g125 _ (retN X123 hx (t := .boolean) Bd.returns (by simp) (hb hby d8_55) hr), hrun, hended, _, _, rfl, ?_, ⟨_, rfl⟩, hW, hsame.mono (by decide) (by decide)⟩
  show Q_eqL Z a1 a2 u1 v1 ku kv z1 z2 vs1 vs2 cs h0 n0 _ T123.heap _
  rw [e123]
  exact ⟨rfl, N123, rfl⟩
theorem d9_7 : decode jdk_43_method_13_code 7 = .ok (.iconst 0, 1) := by decide +kernel
theorem d9_8 : decode jdk_43_method_13_code 8 = .ok (.istore_n 2, 1) := by decide +kernel
theorem d9_9 : decode jdk_43_method_13_code 9 = .ok (.iload_n 2, 1) := by decide +kernel
theorem d9_10 : decode jdk_43_method_13_code 10 = .ok (.aload_n 0, 1) := by decide +kernel
theorem d9_11 : decode jdk_43_method_13_code 11 = .ok (.arraylength, 1) := by decide +kernel
theorem d9_12 : decode jdk_43_method_13_code 12 = .ok (.if_icmp .ge 20, 3) := by decide +kernel
theorem d9_15 : decode jdk_43_method_13_code 15 = .ok (.aload_n 0, 1) := by decide +kernel
theorem d9_16 : decode jdk_43_method_13_code 16 = .ok (.iload_n 2, 1) := by decide +kernel
theorem d9_17 : decode jdk_43_method_13_code 17 = .ok (.baload, 1) := by decide +kernel
theorem d9_18 : decode jdk_43_method_13_code 18 = .ok (.aload_n 1, 1) := by decide +kernel
theorem d9_19 : decode jdk_43_method_13_code 19 = .ok (.iload_n 2, 1) := by decide +kernel
theorem d9_20 : decode jdk_43_method_13_code 20 = .ok (.baload, 1) := by decide +kernel
theorem d9_21 : decode jdk_43_method_13_code 21 = .ok (.if_icmp .eq 5, 3) := by decide +kernel
theorem d9_24 : decode jdk_43_method_13_code 24 = .ok (.iconst 0, 1) := by decide +kernel
theorem d9_25 : decode jdk_43_method_13_code 25 = .ok (.ireturn, 1) := by decide +kernel
theorem ef_leq1 (m : MethodId) (x0 : Addr) (x1 : Addr)  : entryFrame m #[(.ref x0), (.ref x1)] 3 = mkF m 0 #[.val (.ref x0), .val (.ref x1), .unset] [] := by first | (simp [entryFrame, mkF, argsToLocals, Value.category]; done) | rfl
def Q_leq1 (Z : State) (u1 : Addr) (v1 : Addr) (ku : ClassId) (kv : ClassId) (x1 : Int32) (y1 : Int32) (h0 : Heap) (n0 : Nat) (v : Option Value) (h : Heap) (L : List Loc) : Prop := v = some (.int (0 : Int32)) ∧ Fr n0 L ∧ h = h0
set_option maxRecDepth 65536 in
set_option maxHeartbeats 40000000 in
theorem rm_leq1 (l : Launch) (Z : State) (a0 : Array Value) (hw : ∀ d ∈ tables_1, d.before a0 Z = true) (ws : List Jvm.Cond) (u1 : Addr) (v1 : Addr) (ku : ClassId) (kv : ClassId) (x1 : Int32) (y1 : Int32) (h0 : Heap) (n0 : Nat) (O0 : Old Z n0 h0) (A0_ : Arv Z h0 u1 ku .byte (1 : Int32) [(.int x1)] (.int (0 : Int32))) (A1_ : Arv Z h0 v1 kv .byte (1 : Int32) [(.int y1)] (.int (0 : Int32))) (hxy : ¬ (x1 = y1)) :
    MetFree l (⟨"java/lang/StringLatin1", "equals", "([B[B)Z"⟩ : MethodName) (head1 (Jvm.Cond.code (⟨"java/lang/StringLatin1", "equals", "([B[B)Z"⟩ : MethodName) jdk_43_method_13_code 3 (some .boolean) :: ws) ({ frames := 0, cells := 0, slots := 0, locals := 0 } : Room)) (fun a U => a = #[(.ref u1), (.ref v1)] ∧ Z.Warmed39 U.vm ∧ U.heap = h0) (fun _ _ _ _ _ => True) (fun _ U o U' => ∃ v L, o = .returned v ∧ Q_leq1 Z u1 v1 ku kv x1 y1 h0 n0 v U'.heap L ∧ FrameEnd U o U' L ({ frames := 0, cells := 0, slots := 0, locals := 0 } : Room).cells ({ frames := 0, cells := 0, slots := 0, locals := 0 } : Room).slots) := by
  refine MetFree.of_bodySF (plainFor_of_name pn_java_lang_StringLatin1) hisR ?_
  intro p e s m args below meth c s₁ Bd hml0 hP hK
  obtain ⟨rfl, hZ, hh⟩ := hP
  have hx := Bd.exec
  have hby := Bd.bytes
  have hml : c.maxLocals = 3 := hml0
  have hown : s.vm.findClass "java/lang/StringLatin1" = some m.cls := findClass_of_methodNamed Bd.named
  have hnm := (name_of_methodNamed Bd.named Bd.method).1
  have X0 : Stand p l e ({ frames := 0, cells := 0, slots := 0, locals := 0 } : Room) s m #[(.ref u1), (.ref v1)] below meth c s₁ [] 0 0 := Stand.of_body Bd
  have e0 : s₁.heap = h0 := by rw [← hh, Bd.state]; rfl
  have N0 := Fr.nil n0
  have g0 : Go p e below s₁ (mkF m 0 #[rv u1, rv v1, .unset] []) (s₁.setTop (entryFrame m #[(.ref u1), (.ref v1)] 3)) := fun t kont => castTop (ef_leq1 m u1 v1 ) kont
  generalize s₁.setTop (entryFrame m #[(.ref u1), (.ref v1)] 3) = A0 at g0 ⊢
  have g101 : Go p e below s₁ (mkF m 1 #[rv u1, rv v1, .unset] [(.ref u1)]) A0 := by
    intro t kont
    refine g0 t ?_
    refine XS.aloadN X0.here hx rfl (hb hby d9_0) rfl rfl ?_
    show Steps p.tables e below (s₁.setTop (mkF m 1 #[rv u1, rv v1, .unset] [(.ref u1)])) _
    exact kont
  have zz102 := A0_
  obtain ⟨cl102, Ar102, -, S102, M102, -, -⟩ := zz102
  have g103 : Go p e below s₁ (mkF m 2 #[rv u1, rv v1, .unset] [(.int (1 : Int32))]) A0 := by
    intro t kont
    refine g101 t ?_
    refine X0.arraylength hx (by rw [e0]; exact Ar102.1) (State.isArrayOf_alike hZ.alike Ar102.2.1) (g := (mkF m 1 #[rv u1, rv v1, .unset] [(.ref u1)])) rfl rfl (hb hby d9_1) _ ?_
    rw [len_of S102 M102]
    exact kont
  have g104 : Go p e below s₁ (mkF m 3 #[rv u1, rv v1, .unset] [(.ref v1), (.int (1 : Int32))]) A0 := by
    intro t kont
    refine g103 t ?_
    refine XS.aloadN X0.here hx rfl (hb hby d9_2) rfl rfl ?_
    show Steps p.tables e below (s₁.setTop (mkF m 3 #[rv u1, rv v1, .unset] [(.ref v1), (.int (1 : Int32))])) _
    exact kont
  have zz105 := A1_
  obtain ⟨cl105, Ar105, -, S105, M105, -, -⟩ := zz105
  have g106 : Go p e below s₁ (mkF m 4 #[rv u1, rv v1, .unset] [(.int (1 : Int32)), (.int (1 : Int32))]) A0 := by
    intro t kont
    refine g104 t ?_
    refine X0.arraylength hx (by rw [e0]; exact Ar105.1) (State.isArrayOf_alike hZ.alike Ar105.2.1) (g := (mkF m 3 #[rv u1, rv v1, .unset] [(.ref v1), (.int (1 : Int32))])) rfl rfl (hb hby d9_3) _ ?_
    rw [len_of S105 M105]
    exact kont
  have g107 : Go p e below s₁ (mkF m 11 #[rv u1, rv v1, iv (0 : Int32)] [(.ref u1), (.int (0 : Int32))]) A0 := by
    intro t kont
    refine g106 t ?_
    refine XS.icmpNo X0.here hx rfl (hb hby d9_4) rfl (teq (by decide : (1 : Int32) = (1 : Int32))).2 ?_
    show Steps p.tables e below (s₁.setTop (mkF m 7 #[rv u1, rv v1, .unset] [])) _
    refine XS.iconst X0.here hx rfl (hb hby d9_7) ?_
    show Steps p.tables e below (s₁.setTop (mkF m 8 #[rv u1, rv v1, .unset] [(.int (0 : Int32))])) _
    refine XS.istoreN X0.here hx rfl (hb hby d9_8) rfl (l' := #[rv u1, rv v1, iv (0 : Int32)]) rfl ?_
    show Steps p.tables e below (s₁.setTop (mkF m 9 #[rv u1, rv v1, iv (0 : Int32)] [])) _
    refine XS.iloadN X0.here hx rfl (hb hby d9_9) rfl ?_
    show Steps p.tables e below (s₁.setTop (mkF m 10 #[rv u1, rv v1, iv (0 : Int32)] [(.int (0 : Int32))])) _
    refine XS.aloadN X0.here hx rfl (hb hby d9_10) rfl rfl ?_
    show Steps p.tables e below (s₁.setTop (mkF m 11 #[rv u1, rv v1, iv (0 : Int32)] [(.ref u1), (.int (0 : Int32))])) _
    exact kont
  have zz108 := A0_
  obtain ⟨cl108, Ar108, -, S108, M108, -, -⟩ := zz108
  have g109 : Go p e below s₁ (mkF m 12 #[rv u1, rv v1, iv (0 : Int32)] [(.int (1 : Int32)), (.int (0 : Int32))]) A0 := by
    intro t kont
    refine g107 t ?_
    refine X0.arraylength hx (by rw [e0]; exact Ar108.1) (State.isArrayOf_alike hZ.alike Ar108.2.1) (g := (mkF m 11 #[rv u1, rv v1, iv (0 : Int32)] [(.ref u1), (.int (0 : Int32))])) rfl rfl (hb hby d9_11) _ ?_
    rw [len_of S108 M108]
    exact kont
  have g110 : Go p e below s₁ (mkF m 17 #[rv u1, rv v1, iv (0 : Int32)] [(.int (0 : Int32)), (.ref u1)]) A0 := by
    intro t kont
    refine g109 t ?_
    refine XS.icmpNo X0.here hx rfl (hb hby d9_12) rfl (tlt (by decide : (0 : Int32) < (1 : Int32))).2.1 ?_
    show Steps p.tables e below (s₁.setTop (mkF m 15 #[rv u1, rv v1, iv (0 : Int32)] [])) _
    refine XS.aloadN X0.here hx rfl (hb hby d9_15) rfl rfl ?_
    show Steps p.tables e below (s₁.setTop (mkF m 16 #[rv u1, rv v1, iv (0 : Int32)] [(.ref u1)])) _
    refine XS.iloadN X0.here hx rfl (hb hby d9_16) rfl ?_
    show Steps p.tables e below (s₁.setTop (mkF m 17 #[rv u1, rv v1, iv (0 : Int32)] [(.int (0 : Int32)), (.ref u1)])) _
    exact kont
  have zz111 := A0_
  obtain ⟨cl111, Ar111, q111, S111, M111, H111, G111⟩ := zz111
  have in111 : ¬ ((0 : Int32) < 0 ∨ cl111.slots.size ≤ ((0 : Int32)).toNatClampNeg) := inb_of S111 ⟨by decide, by decide⟩
  have at111 : cl111.slots[((0 : Int32)).toNatClampNeg]? = some (.int x1) := Has.at H111 in111 rfl
  have g112 : Go p e below s₁ (mkF m 18 #[rv u1, rv v1, iv (0 : Int32)] [(.int x1)]) A0 := fun t kont => g110 t (X0.baloadBytes hx (j := (0 : Int32)) (v := (.int x1)) (by rw [e0]; exact Ar111.1) (State.isArrayOf_alike hZ.alike Ar111.2.1) Ar111.2.2 in111 at111 (g := (mkF m 17 #[rv u1, rv v1, iv (0 : Int32)] [(.int (0 : Int32)), (.ref u1)])) rfl rfl (hb hby d9_17) t kont)
  have g113 : Go p e below s₁ (mkF m 20 #[rv u1, rv v1, iv (0 : Int32)] [(.int (0 : Int32)), (.ref v1), (.int x1)]) A0 := by
    intro t kont
    refine g112 t ?_
    refine XS.aloadN X0.here hx rfl (hb hby d9_18) rfl rfl ?_
    show Steps p.tables e below (s₁.setTop (mkF m 19 #[rv u1, rv v1, iv (0 : Int32)] [(.ref v1), (.int x1)])) _
    refine XS.iloadN X0.here hx rfl (hb hby d9_19) rfl ?_
    show Steps p.tables e below (s₁.setTop (mkF m 20 #[rv u1, rv v1, iv (0 : Int32)] [(.int (0 : Int32)), (.ref v1), (.int x1)])) _
    exact kont
  have zz114 := A1_
  obtain ⟨cl114, Ar114, q114, S114, M114, H114, G114⟩ := zz114
  have in114 : ¬ ((0 : Int32) < 0 ∨ cl114.slots.size ≤ ((0 : Int32)).toNatClampNeg) := inb_of S114 ⟨by decide, by decide⟩
  have at114 : cl114.slots[((0 : Int32)).toNatClampNeg]? = some (.int y1) := Has.at H114 in114 rfl
  have g115 : Go p e below s₁ (mkF m 21 #[rv u1, rv v1, iv (0 : Int32)] [(.int y1), (.int x1)]) A0 := fun t kont => g113 t (X0.baloadBytes hx (j := (0 : Int32)) (v := (.int y1)) (by rw [e0]; exact Ar114.1) (State.isArrayOf_alike hZ.alike Ar114.2.1) Ar114.2.2 in114 at114 (g := (mkF m 20 #[rv u1, rv v1, iv (0 : Int32)] [(.int (0 : Int32)), (.ref v1), (.int x1)])) rfl rfl (hb hby d9_20) t kont)
  have g116 : Go p e below s₁ (mkF m 25 #[rv u1, rv v1, iv (0 : Int32)] [(.int (0 : Int32))]) A0 := by
    intro t kont
    refine g115 t ?_
    refine XS.icmpNo X0.here hx rfl (hb hby d9_21) rfl (feq hxy).1 ?_
    show Steps p.tables e below (s₁.setTop (mkF m 24 #[rv u1, rv v1, iv (0 : Int32)] [])) _
    refine XS.iconst X0.here hx rfl (hb hby d9_24) ?_
    show Steps p.tables e below (s₁.setTop (mkF m 25 #[rv u1, rv v1, iv (0 : Int32)] [(.int (0 : Int32))])) _
    exact kont
  obtain ⟨fs, hr, hrun, hended, hW, hsame⟩ := X0.leave (v := some (.int (0 : Int32))) (fun h => by rw [Bd.returns] at h; cases h)
  refine ⟨_, _, g116 _ (retN X0 hx (t := .boolean) Bd.returns (by simp) (hb hby d9_25) hr), hrun, hended, _, _, rfl, ?_, ⟨_, rfl⟩, hW, hsame.mono (by decide) (by decide)⟩
  show Q_leq1 Z u1 v1 ku kv x1 y1 h0 n0 _ s₁.heap _
  rw [e0]
  exact ⟨rfl, N0, rfl⟩
theorem ef_eq1 (m : MethodId) (x0 : Addr) (x1 : Addr)  : entryFrame m #[(.ref x0), (.ref x1)] 3 = mkF m 0 #[.val (.ref x0), .val (.ref x1), .unset] [] := by first | (simp [entryFrame, mkF, argsToLocals, Value.category]; done) | rfl
def Q_eq1 (Z : State) (a1 : Addr) (a2 : Addr) (u1 : Addr) (v1 : Addr) (ku : ClassId) (kv : ClassId) (x1 : Int32) (y1 : Int32) (cs : Int32) (h0 : Heap) (n0 : Nat) (v : Option Value) (h : Heap) (L : List Loc) : Prop := v = some (.int (0 : Int32)) ∧ Fr n0 L ∧ h = h0
set_option maxRecDepth 65536 in
set_option maxHeartbeats 40000000 in
theorem rm_eq1 (l : Launch) (Z : State) (a0 : Array Value) (hw : ∀ d ∈ tables_1, d.before a0 Z = true) (ws : List Jvm.Cond) (a1 : Addr) (a2 : Addr) (u1 : Addr) (v1 : Addr) (ku : ClassId) (kv : ClassId) (x1 : Int32) (y1 : Int32) (cs : Int32) (h0 : Heap) (n0 : Nat) (O0 : Old Z n0 h0) (S0_ : Sta Z Z.heap "java/lang/String" "COMPACT_STRINGS" "Z" (.int cs)) (hcs : ¬ (cs = (0 : Int32))) (E2_ : Exa Z h0 a2 "java/lang/String") (F3_ : Fld Z h0 a1 "java/lang/String" "coder" "B" (.int (0 : Int32))) (F4_ : Fld Z h0 a2 "java/lang/String" "coder" "B" (.int (0 : Int32))) (F5_ : Fld Z h0 a1 "java/lang/String" "value" "[B" (.ref u1)) (F6_ : Fld Z h0 a2 "java/lang/String" "value" "[B" (.ref v1)) (A7_ : Arv Z h0 u1 ku .byte (1 : Int32) [(.int x1)] (.int (0 : Int32))) (A8_ : Arv Z h0 v1 kv .byte (1 : Int32) [(.int y1)] (.int (0 : Int32))) (hxy : ¬ (x1 = y1)) (NE10_ : ¬ (a1 = a2)) :
    MetFree l (⟨"java/lang/String", "equals", "(Ljava/lang/Object;)Z"⟩ : MethodName) (head1 (Jvm.Cond.code (⟨"java/lang/String", "equals", "(Ljava/lang/Object;)Z"⟩ : MethodName) jdk_42_method_66_code 3 (some .boolean) :: ws) ({ frames := 1, cells := 0, slots := 0, locals := 14 } : Room)) (fun a U => a = #[(.ref a1), (.ref a2)] ∧ Z.Warmed39 U.vm ∧ U.heap = h0) (fun _ _ _ _ _ => True) (fun _ U o U' => ∃ v L, o = .returned v ∧ Q_eq1 Z a1 a2 u1 v1 ku kv x1 y1 cs h0 n0 v U'.heap L ∧ FrameEnd U o U' L ({ frames := 1, cells := 0, slots := 0, locals := 14 } : Room).cells ({ frames := 1, cells := 0, slots := 0, locals := 14 } : Room).slots) := by
  refine MetFree.of_bodySF (plainFor_of_name pn_java_lang_String) hisR ?_
  intro p e s m args below meth c s₁ Bd hml0 hP hK
  obtain ⟨rfl, hZ, hh⟩ := hP
  have hx := Bd.exec
  have hby := Bd.bytes
  have hml : c.maxLocals = 3 := hml0
  have hown : s.vm.findClass "java/lang/String" = some m.cls := findClass_of_methodNamed Bd.named
  have hnm := (name_of_methodNamed Bd.named Bd.method).1
  have X0 : Stand p l e ({ frames := 1, cells := 0, slots := 0, locals := 14 } : Room) s m #[(.ref a1), (.ref a2)] below meth c s₁ [] 0 0 := Stand.of_body Bd
  have e0 : s₁.heap = h0 := by rw [← hh, Bd.state]; rfl
  have N0 := Fr.nil n0
  have g0 : Go p e below s₁ (mkF m 0 #[rv a1, rv a2, .unset] []) (s₁.setTop (entryFrame m #[(.ref a1), (.ref a2)] 3)) := fun t kont => castTop (ef_eq1 m a1 a2 ) kont
  generalize s₁.setTop (entryFrame m #[(.ref a1), (.ref a2)] 3) = A0 at g0 ⊢
  have g101 : Go p e below s₁ (mkF m 8 #[rv a1, rv a2, .unset] [(.ref a2)]) A0 := by
    intro t kont
    refine g0 t ?_
    refine XS.aloadN X0.here hx rfl (hb hby d8_0) rfl rfl ?_
    show Steps p.tables e below (s₁.setTop (mkF m 1 #[rv a1, rv a2, .unset] [(.ref a1)])) _
    refine XS.aloadN X0.here hx rfl (hb hby d8_1) rfl rfl ?_
    show Steps p.tables e below (s₁.setTop (mkF m 2 #[rv a1, rv a2, .unset] [(.ref a2), (.ref a1)])) _
    refine Jvm.RoadKit.acmp (g := (mkF m 2 #[rv a1, rv a2, .unset] [(.ref a2), (.ref a1)])) X0 hx rfl rfl rfl (pc0 := 2) (pc' := 7) (same := false) rfl (hb hby d8_2) rfl (decide_eq_false fun q => NE10_ (Value.ref.inj q)) (by decide) (by decide) ?_
    show Steps p.tables e below (s₁.setTop (mkF m 7 #[rv a1, rv a2, .unset] [])) _
    refine XS.aloadN X0.here hx rfl (hb hby d8_7) rfl rfl ?_
    show Steps p.tables e below (s₁.setTop (mkF m 8 #[rv a1, rv a2, .unset] [(.ref a2)])) _
    exact kont
  obtain ⟨T102, X102, e102, st102⟩ := instY X0 hx hZ hown (hw _ (List.mem_of_getElem? (i := 9) rfl)) e0 (Ins.self E2_) (g := (mkF m 8 #[rv a1, rv a2, .unset] [(.ref a2)])) rfl rfl (hb hby d8_8)
  have g103 : Go p e below T102 (mkF m 11 #[rv a1, rv a2, .unset] [(.int (1 : Int32))]) A0 := fun t kont => g101 t (st102 t kont)
  have g104 : Go p e below T102 (mkF m 15 #[rv a1, rv a2, .unset] [(.ref a2)]) A0 := by
    intro t kont
    refine g103 t ?_
    refine XS.ifNo X102.here hx rfl (hb hby d8_11) rfl ((if0 _ _).trans (feq (by decide : ¬ ((1 : Int32) = (0 : Int32)))).1) ?_
    show Steps p.tables e below (T102.setTop (mkF m 14 #[rv a1, rv a2, .unset] [])) _
    refine XS.aloadN X102.here hx rfl (hb hby d8_14) rfl rfl ?_
    show Steps p.tables e below (T102.setTop (mkF m 15 #[rv a1, rv a2, .unset] [(.ref a2)])) _
    exact kont
  obtain ⟨T105, X105, e105, st105⟩ := castY X102 hx hZ hown (hw _ (List.mem_of_getElem? (i := 9) rfl)) e102 (Ins.self E2_) (g := (mkF m 15 #[rv a1, rv a2, .unset] [(.ref a2)])) rfl rfl (hb hby d8_15)
  have g106 : Go p e below T105 (mkF m 18 #[rv a1, rv a2, .unset] [(.ref a2)]) A0 := fun t kont => g104 t (st105 t kont)
  have g107 : Go p e below T105 (mkF m 19 #[rv a1, rv a2, rv a2] []) A0 := by
    intro t kont
    refine g106 t ?_
    refine XS.astoreN X105.here hx rfl (hb hby d8_18) rfl rfl (l' := #[rv a1, rv a2, rv a2]) rfl ?_
    show Steps p.tables e below (T105.setTop (mkF m 19 #[rv a1, rv a2, rv a2] [])) _
    exact kont
  have y108 : Sta Z h0 "java/lang/String" "COMPACT_STRINGS" "Z" (.int cs) := S0_.ext O0.2
  obtain ⟨T109, X109, e109, st109⟩ := getS2 X105 hx hZ hown (host := "") (Or.inl (hw _ (List.mem_of_getElem? (i := 4) rfl))) Via.refl e105 y108 (g := (mkF m 19 #[rv a1, rv a2, rv a2] [])) rfl (hb hby d8_19)
  have g110 : Go p e below T109 (mkF m 22 #[rv a1, rv a2, rv a2] [(.int cs)]) A0 := fun t kont => g107 t (st109 t kont)
  have g111 : Go p e below T109 (mkF m 26 #[rv a1, rv a2, rv a2] [(.ref a1)]) A0 := by
    intro t kont
    refine g110 t ?_
    refine XS.ifNo X109.here hx rfl (hb hby d8_22) rfl ((if0 _ _).trans (feq hcs).1) ?_
    show Steps p.tables e below (T109.setTop (mkF m 25 #[rv a1, rv a2, rv a2] [])) _
    refine XS.aloadN X109.here hx rfl (hb hby d8_25) rfl rfl ?_
    show Steps p.tables e below (T109.setTop (mkF m 26 #[rv a1, rv a2, rv a2] [(.ref a1)])) _
    exact kont
  obtain ⟨T112, X112, e112, st112⟩ := getF X109 hx hZ hown (host := "") (Or.inl (hw _ (List.mem_of_getElem? (i := 24) rfl))) Via.refl e109 F3_ (g := (mkF m 26 #[rv a1, rv a2, rv a2] [(.ref a1)])) rfl rfl (hb hby d8_26)
  have g113 : Go p e below T112 (mkF m 29 #[rv a1, rv a2, rv a2] [(.int (0 : Int32))]) A0 := fun t kont => g111 t (st112 t kont)
  have g114 : Go p e below T112 (mkF m 30 #[rv a1, rv a2, rv a2] [(.ref a2), (.int (0 : Int32))]) A0 := by
    intro t kont
    refine g113 t ?_
    refine XS.aloadN X112.here hx rfl (hb hby d8_29) rfl rfl ?_
    show Steps p.tables e below (T112.setTop (mkF m 30 #[rv a1, rv a2, rv a2] [(.ref a2), (.int (0 : Int32))])) _
    exact kont
  obtain ⟨T115, X115, e115, st115⟩ := getF X112 hx hZ hown (host := "") (Or.inl (hw _ (List.mem_of_getElem? (i := 24) rfl))) Via.refl e112 F4_ (g := (mkF m 30 #[rv a1, rv a2, rv a2] [(.ref a2), (.int (0 : Int32))])) rfl rfl (hb hby d8_30)
  have g116 : Go p e below T115 (mkF m 33 #[rv a1, rv a2, rv a2] [(.int (0 : Int32)), (.int (0 : Int32))]) A0 := fun t kont => g114 t (st115 t kont)
  have g117 : Go p e below T115 (mkF m 37 #[rv a1, rv a2, rv a2] [(.ref a1)]) A0 := by
    intro t kont
    refine g116 t ?_
    refine XS.icmpNo X115.here hx rfl (hb hby d8_33) rfl (teq (by decide : (0 : Int32) = (0 : Int32))).2 ?_
    show Steps p.tables e below (T115.setTop (mkF m 36 #[rv a1, rv a2, rv a2] [])) _
    refine XS.aloadN X115.here hx rfl (hb hby d8_36) rfl rfl ?_
    show Steps p.tables e below (T115.setTop (mkF m 37 #[rv a1, rv a2, rv a2] [(.ref a1)])) _
    exact kont
  obtain ⟨T118, X118, e118, st118⟩ := getF X115 hx hZ hown (host := "") (Or.inl (hw _ (List.mem_of_getElem? (i := 22) rfl))) Via.refl e115 F5_ (g := (mkF m 37 #[rv a1, rv a2, rv a2] [(.ref a1)])) rfl rfl (hb hby d8_37)
  have g119 : Go p e below T118 (mkF m 40 #[rv a1, rv a2, rv a2] [(.ref u1)]) A0 := fun t kont => g117 t (st118 t kont)
  have g120 : Go p e below T118 (mkF m 41 #[rv a1, rv a2, rv a2] [(.ref a2), (.ref u1)]) A0 := by
    intro t kont
    refine g119 t ?_
    refine XS.aloadN X118.here hx rfl (hb hby d8_40) rfl rfl ?_
    show Steps p.tables e below (T118.setTop (mkF m 41 #[rv a1, rv a2, rv a2] [(.ref a2), (.ref u1)])) _
    exact kont
  obtain ⟨T121, X121, e121, st121⟩ := getF X118 hx hZ hown (host := "") (Or.inl (hw _ (List.mem_of_getElem? (i := 22) rfl))) Via.refl e118 F6_ (g := (mkF m 41 #[rv a1, rv a2, rv a2] [(.ref a2), (.ref u1)])) rfl rfl (hb hby d8_41)
  have g122 : Go p e below T121 (mkF m 44 #[rv a1, rv a2, rv a2] [(.ref v1), (.ref u1)]) A0 := fun t kont => g120 t (st121 t kont)
  obtain ⟨_, _, ⟨T123, L123, k123, n123⟩, -, X123, ⟨Lc123, hQ123, l123, y123, z123⟩, st123⟩ := Jvm.LawKit.callS X121 hx (y := (⟨"java/lang/StringLatin1", "equals", "([B[B)Z"⟩ : MethodName)) hown (mvT hZ (hw _ (List.mem_of_getElem? (i := 43) rfl))) (mvT hZ (hw _ (List.mem_of_getElem? (i := 44) rfl))) (mvT hZ (hw _ (List.mem_of_getElem? (i := 7) rfl))) (mvT hZ (hw _ (List.mem_of_getElem? (i := 45) rfl))) (by decide) (backOf (W := 0) (rm_leq1 l Z a0 hw [] u1 v1 ku kv x1 y1 h0 n0 O0 A7_ A8_ hxy) hZ (hw _ (List.mem_of_getElem? (i := 45) rfl)) (hw _ (List.mem_of_getElem? (i := 7) rfl)) (by decide) (by decide)) (g := (mkF m 44 #[rv a1, rv a2, rv a2] [(.ref v1), (.ref u1)])) rfl (by rw [hml]; rfl) (argsL := [(.ref u1), (.ref v1)]) (rest := []) (lenOf pd_7 rfl) rfl (by show 2 * 0 + _ ≤ _; exact Nat.le_of_eq rfl) (hb hby d8_44) (fun _ _ => ⟨rfl, e121, (by decide : 0 + 0 ≤ _), (by decide : 0 + 0 ≤ _)⟩)
  dsimp only [Pt.U, Pt.locs, Pt.cells, Pt.slots] at X123 l123 y123 z123 st123 hQ123
  subst l123 y123 z123
  obtain ⟨rfl, M123, e123⟩ := hQ123
  have N123 := Fr.app N0 M123
  have g124 : Go p e below T123 (mkF m 47 #[rv a1, rv a2, rv a2] [(.int (0 : Int32))]) A0 := fun t kont => g122 t (st123 t kont)
  have g125 : Go p e below T123 (mkF m 55 #[rv a1, rv a2, rv a2] [(.int (0 : Int32))]) A0 := by
    intro t kont
    refine g124 t ?_
    refine XS.ifYes X123.here hx rfl (pc0 := 47) (pc' := 54) rfl (hb hby d8_47) rfl ((if0 _ _).trans (teq (by decide : (0 : Int32) = (0 : Int32))).1) (by decide) (by decide) ?_
    show Steps p.tables e below (T123.setTop (mkF m 54 #[rv a1, rv a2, rv a2] [])) _
    refine XS.iconst X123.here hx rfl (hb hby d8_54) ?_
    show Steps p.tables e below (T123.setTop (mkF m 55 #[rv a1, rv a2, rv a2] [(.int (0 : Int32))])) _
    exact kont
  obtain ⟨fs, hr, hrun, hended, hW, hsame⟩ := X123.leave (v := some (.int (0 : Int32))) (fun h => by rw [Bd.returns] at h; cases h)
  refine ⟨_, _, g125 _ (retN X123 hx (t := .boolean) Bd.returns (by simp) (hb hby d8_55) hr), hrun, hended, _, _, rfl, ?_, ⟨_, rfl⟩, hW, hsame.mono (by decide) (by decide)⟩
  show Q_eq1 Z a1 a2 u1 v1 ku kv x1 y1 cs h0 n0 _ T123.heap _
  rw [e123]
  exact ⟨rfl, N123, rfl⟩
theorem d6_0 : decode prog_17_method_5_code 0 = .ok (.aload_n 1, 1) := by decide +kernel
theorem d6_1 : decode prog_17_method_5_code 1 = .ok (.invokevirtual 146, 3) := by decide +kernel
theorem pd_8 : parseMethodDescriptor "()Z" = some ⟨[], some .boolean⟩ := by decide +kernel
theorem d6_4 : decode prog_17_method_5_code 4 = .ok (.ifCond .ne 12, 3) := by decide +kernel
theorem d6_7 : decode prog_17_method_5_code 7 = .ok (.aload_n 1, 1) := by decide +kernel
theorem d6_8 : decode prog_17_method_5_code 8 = .ok (.ldc 149, 2) := by decide +kernel
theorem d6_10 : decode prog_17_method_5_code 10 = .ok (.invokevirtual 151, 3) := by decide +kernel
theorem pd_9 : parseMethodDescriptor "(Ljava/lang/Object;)Z" = some ⟨[(.object "java/lang/Object")], some .boolean⟩ := by decide +kernel
theorem d6_13 : decode prog_17_method_5_code 13 = .ok (.ifCond .eq 18, 3) := by decide +kernel
theorem d6_31 : decode prog_17_method_5_code 31 = .ok (.return_, 1) := by decide +kernel
theorem pn_com_example_rolegate_rolegate_Permission : plainName "com/example/rolegate/rolegate/Permission" = true := by first | (simp [plainName, overriddenIn]; done) | decide +kernel
theorem ef_req1 (m : MethodId) (x0 : Addr) (x1 : Addr)  : entryFrame m #[(.ref x0), (.ref x1)] 2 = mkF m 0 #[.val (.ref x0), .val (.ref x1)] [] := by first | (simp [entryFrame, mkF, argsToLocals, Value.category]; done) | rfl
def Q_req1 (Z : State) (a0_ : Addr) (a1 : Addr) (u1 : Addr) (ku : ClassId) (cs : Int32) (x1 : Int32) (h0 : Heap) (n0 : Nat) (v : Option Value) (h : Heap) (L : List Loc) : Prop := v = none ∧ Fr n0 L ∧ Keep h0 h []
set_option maxRecDepth 65536 in
set_option maxHeartbeats 40000000 in
theorem rm_req1 (l : Launch) (Z : State) (a0 : Array Value) (hw : ∀ d ∈ tables_1, d.before a0 Z = true) (ws : List Jvm.Cond) (a0_ : Addr) (a1 : Addr) (u1 : Addr) (ku : ClassId) (cs : Int32) (x1 : Int32) (h0 : Heap) (n0 : Nat) (O0 : Old Z n0 h0) (S0_ : Sta Z Z.heap "java/lang/String" "COMPACT_STRINGS" "Z" (.int cs)) (hcs : ¬ (cs = (0 : Int32))) (F2_ : Fld Z h0 a1 "java/lang/String" "coder" "B" (.int (0 : Int32))) (F3_ : Fld Z h0 a1 "java/lang/String" "value" "[B" (.ref u1)) (E4_ : Exa Z h0 a1 "java/lang/String") (A5_ : Arv Z h0 u1 ku .byte (1 : Int32) [(.int x1)] (.int (0 : Int32))) (hx1 : ¬ (x1 = (42 : Int32))) :
    MetFree l (⟨"com/example/rolegate/rolegate/Permission", "requireRoleName", "(Ljava/lang/String;Ljava/lang/String;)V"⟩ : MethodName) (head1 (Jvm.Cond.code (⟨"com/example/rolegate/rolegate/Permission", "requireRoleName", "(Ljava/lang/String;Ljava/lang/String;)V"⟩ : MethodName) prog_17_method_5_code 2 none :: ws) ({ frames := 2, cells := 2, slots := 8, locals := 28 } : Room)) (fun a U => a = #[(.ref a0_), (.ref a1)] ∧ Z.Warmed39 U.vm ∧ U.heap = h0 ∧ CHv Z consts_1 U.vm h0) (fun _ _ _ _ _ => True) (fun _ U o U' => ∃ v L, o = .returned v ∧ Q_req1 Z a0_ a1 u1 ku cs x1 h0 n0 v U'.heap L ∧ CHr Z consts_1 U.vm U.heap U'.vm U'.heap ∧ ReturnedEndW U o U' L ({ frames := 2, cells := 2, slots := 8, locals := 28 } : Room).cells ({ frames := 2, cells := 2, slots := 8, locals := 28 } : Room).slots) := by
  refine MetFree.of_bodySF (plainFor_of_name pn_com_example_rolegate_rolegate_Permission) hisR ?_
  intro p e s m args below meth c s₁ Bd hml0 hP hK
  obtain ⟨rfl, hZ, hh, hC0⟩ := hP
  have hx := Bd.exec
  have hby := Bd.bytes
  have hml : c.maxLocals = 2 := hml0
  have hown : s.vm.findClass "com/example/rolegate/rolegate/Permission" = some m.cls := findClass_of_methodNamed Bd.named
  have hnm := (name_of_methodNamed Bd.named Bd.method).1
  have X0 : Stand p l e ({ frames := 2, cells := 2, slots := 8, locals := 28 } : Room) (s.setVm s.vm) m #[(.ref a0_), (.ref a1)] below meth c s₁ [] 0 0 := Stand.of_body Bd
  have e0 : s₁.heap = h0 := by rw [← hh, Bd.state]; rfl
  have N0 := Fr.nil n0
  have hS : s.Since s.vm 0 := (State.WarmedH.refl s).since 0
  have hk : 0 ≤ h0.size := Nat.zero_le _
  have hZ : Z.Warmed39 (s.setVm s.vm).vm := hZ
  have hown : (s.setVm s.vm).vm.findClass "com/example/rolegate/rolegate/Permission" = some m.cls := hown
  have R0 : CHr Z consts_1 s.vm h0 s.vm h0 := CHr.refl hC0
  have g0 : Go p e below s₁ (mkF m 0 #[rv a0_, rv a1] []) (s₁.setTop (entryFrame m #[(.ref a0_), (.ref a1)] 2)) := fun t kont => castTop (ef_req1 m a0_ a1 ) kont
  generalize s₁.setTop (entryFrame m #[(.ref a0_), (.ref a1)] 2) = A0 at g0 ⊢
  have g101 : Go p e below s₁ (mkF m 1 #[rv a0_, rv a1] [(.ref a1)]) A0 := by
    intro t kont
    refine g0 t ?_
    refine XS.aloadN X0.here hx rfl (hb hby d6_0) rfl rfl ?_
    show Steps p.tables e below (s₁.setTop (mkF m 1 #[rv a0_, rv a1] [(.ref a1)])) _
    exact kont
  obtain ⟨cq102, kq102, q102a, q102b, q102c⟩ := isOf hZ e0 E4_
  obtain ⟨_, _, ⟨T102, L102, k102, n102⟩, -, X102, ⟨Lc102, hQ102, l102, y102, z102⟩, st102⟩ := X0.virtualBack hx (y := (⟨"java/lang/String", "isEmpty", "()Z"⟩ : MethodName)) (z := (⟨"java/lang/String", "isEmpty", "()Z"⟩ : MethodName)) hown (mvT hZ (hw _ (List.mem_of_getElem? (i := 30) rfl))) (mvT hZ (hw _ (List.mem_of_getElem? (i := 31) rfl))) (notFace_of_selects (args := #[]) (mvT hZ (hw _ (List.mem_of_getElem? (i := 33) rfl)))) (mvT hZ (hw _ (List.mem_of_getElem? (i := 33) rfl))) (mvT hZ (hw _ (List.mem_of_getElem? (i := 32) rfl))) (by decide) (backOf (W := 0) (rm_isE l Z a0 hw [] a1 u1 ku (1 : Int32) [(.int x1)] h0 n0 O0 F3_ A5_ (by decide)) hZ (hw _ (List.mem_of_getElem? (i := 34) rfl)) (hw _ (List.mem_of_getElem? (i := 2) rfl)) (by decide) (by decide)) q102a q102c (g := (mkF m 1 #[rv a0_, rv a1] [(.ref a1)])) rfl (by rw [hml]; rfl) (Steps.refl _) (argsL := []) (rest := []) (lenOf pd_8 rfl) rfl (by show 2 * 0 + _ ≤ _; exact Nat.le_of_eq rfl) (hb hby d6_1) (fun _ _ => ⟨rfl, e0, (by decide : 0 + 0 ≤ _), (by decide : 0 + 0 ≤ _)⟩)
  dsimp only [Pt.U, Pt.locs, Pt.cells, Pt.slots] at X102 l102 y102 z102 st102 hQ102
  subst l102 y102 z102
  obtain ⟨rfl, M102, e102⟩ := hQ102
  have N102 := Fr.app N0 M102
  have g103 : Go p e below T102 (mkF m 4 #[rv a0_, rv a1] [(.int (0 : Int32))]) A0 := fun t kont => g101 t (st102.trans kont)
  have g104 : Go p e below T102 (mkF m 8 #[rv a0_, rv a1] [(.ref a1)]) A0 := by
    intro t kont
    refine g103 t ?_
    refine XS.ifNo X102.here hx rfl (hb hby d6_4) rfl ((if0 _ _).trans (teq (by decide : (0 : Int32) = (0 : Int32))).2) ?_
    show Steps p.tables e below (T102.setTop (mkF m 7 #[rv a0_, rv a1] [])) _
    refine XS.aloadN X102.here hx rfl (hb hby d6_7) rfl rfl ?_
    show Steps p.tables e below (T102.setTop (mkF m 8 #[rv a0_, rv a1] [(.ref a1)])) _
    exact kont
  obtain ⟨b105, T105, h105, k105, c105, kc105, X105, e105, E105, hS, hk, hZ, hown, A105, F105, G105, V105, la105, lb105, C105, -, ne105, st105⟩ := ldcCH X102 hx hZ hown (hw _ (List.mem_of_getElem? (i := 35) rfl)) (own_wS hw) e102 hS hk (own_EW hw) (List.mem_of_getElem? (i := 0) rfl) R0.1 (vs := [(.int (42 : Int32))]) (z := (1 : Int32)) ⟨by decide, by decide⟩ (by decide) rfl (g := (mkF m 8 #[rv a0_, rv a1] [(.ref a1)])) rfl (hb hby d6_8) (n := 4) (by decide) (by decide) (by decide) (by decide)
  have R106 : CHr Z consts_1 s.vm h0 T105.vm h105 := R0.trans C105
  have O107 := O0.ext E105
  have g108 : Go p e below T105 (mkF m 10 #[rv a0_, rv a1] [(.ref b105), (.ref a1)]) A0 := fun t kont => g104 t (st105 t kont)
  have y110 : Fld Z h105 a1 "java/lang/String" "value" "[B" (.ref u1) := (F3_.ext E105)
  have y111 : Arv Z h105 u1 ku .byte (1 : Int32) [(.int x1)] (.int (0 : Int32)) := (A5_.ext E105)
  have hne109 : ¬ (a1 = b105) := Fld.ne y110 G105 (fun q => (arv_ne y111 V105 (Or.inr ⟨0, by decide, fun q => hx1 (Value.int.inj q)⟩)) (Value.ref.inj q))
  have y113 : Exa Z h105 a1 "java/lang/String" := (E4_.ext E105)
  have y114 : Fld Z h105 a1 "java/lang/String" "coder" "B" (.int (0 : Int32)) := (F2_.ext E105)
  obtain ⟨cq112, kq112, q112a, q112b, q112c⟩ := isOf hZ e105 y113
  obtain ⟨_, _, ⟨T112, L112, k112, n112⟩, -, X112, ⟨Lc112, hQ112, l112, y112, z112⟩, st112⟩ := X105.virtualBack hx (y := (⟨"java/lang/String", "equals", "(Ljava/lang/Object;)Z"⟩ : MethodName)) (z := (⟨"java/lang/String", "equals", "(Ljava/lang/Object;)Z"⟩ : MethodName)) hown (mvT hZ (hw _ (List.mem_of_getElem? (i := 38) rfl))) (mvT hZ (hw _ (List.mem_of_getElem? (i := 39) rfl))) (notFace_of_selects (args := #[]) (mvT hZ (hw _ (List.mem_of_getElem? (i := 41) rfl)))) (mvT hZ (hw _ (List.mem_of_getElem? (i := 41) rfl))) (mvT hZ (hw _ (List.mem_of_getElem? (i := 40) rfl))) (by decide) (backOf (W := 0) (rm_eq1 l Z a0 hw [] a1 b105 u1 c105 ku kc105 x1 (42 : Int32) cs h105 n0 O107 S0_ hcs A105 y114 F105 y110 G105 y111 V105 hx1 hne109) hZ (hw _ (List.mem_of_getElem? (i := 42) rfl)) (hw _ (List.mem_of_getElem? (i := 2) rfl)) (by decide) (by decide)) q112a q112c (g := (mkF m 10 #[rv a0_, rv a1] [(.ref b105), (.ref a1)])) rfl (by rw [hml]; rfl) (Steps.refl _) (argsL := [(.ref b105)]) (rest := []) (lenOf pd_9 rfl) rfl (by show 2 * 0 + _ ≤ _; exact Nat.le_of_eq rfl) (hb hby d6_10) (fun _ _ => ⟨rfl, e105, (by decide : 2 + 0 ≤ _), (by decide : 8 + 0 ≤ _)⟩)
  dsimp only [Pt.U, Pt.locs, Pt.cells, Pt.slots] at X112 l112 y112 z112 st112 hQ112
  subst l112 y112 z112
  obtain ⟨rfl, M112, e112⟩ := hQ112
  have N112 := Fr.app N102 M112
  have g115 : Go p e below T112 (mkF m 13 #[rv a0_, rv a1] [(.int (0 : Int32))]) A0 := fun t kont => g108 t (st112.trans kont)
  have g116 : Go p e below T112 (mkF m 31 #[rv a0_, rv a1] []) A0 := by
    intro t kont
    refine g115 t ?_
    refine XS.ifYes X112.here hx rfl (pc0 := 13) (pc' := 31) rfl (hb hby d6_13) rfl ((if0 _ _).trans (teq (by decide : (0 : Int32) = (0 : Int32))).1) (by decide) (by decide) ?_
    show Steps p.tables e below (T112.setTop (mkF m 31 #[rv a0_, rv a1] [])) _
    exact kont
  have K117 : Keep h0 h105 [] := ((Keep.refl h0 []).ext E105)
  obtain ⟨fs, hr, hrun, hended, hRW⟩ := X112.leaveW hS (by rw [e112]; exact hk) (v := none) (fun _ => rfl)
  refine ⟨_, _, g116 _ (X112.returnOut hx Bd.returns (hb hby d6_31) hr), hrun, hended, _, _, rfl, ?_, ?_, hRW.1, hRW.2.1, hRW.2.2.1, hRW.2.2.2.mono (by decide) (by decide)⟩
  ·
    show Q_req1 Z a0_ a1 u1 ku cs x1 h0 n0 _ T112.heap _
    rw [e112]
    exact ⟨rfl, N112, K117⟩
  ·
    rw [hh]
    show CHr Z consts_1 s.vm h0 T112.vm T112.heap
    rw [e112]
    exact R106.trans (CHv.at X112 hZ (own_EW hw) R106.1)
theorem ef_req2 (m : MethodId) (x0 : Addr) (x1 : Addr)  : entryFrame m #[(.ref x0), (.ref x1)] 2 = mkF m 0 #[.val (.ref x0), .val (.ref x1)] [] := by first | (simp [entryFrame, mkF, argsToLocals, Value.category]; done) | rfl
def Q_req2 (Z : State) (a0_ : Addr) (a1 : Addr) (u1 : Addr) (ku : ClassId) (cs : Int32) (vs1 : List Value) (h0 : Heap) (n0 : Nat) (v : Option Value) (h : Heap) (L : List Loc) : Prop := v = none ∧ Fr n0 L ∧ Keep h0 h []
set_option maxRecDepth 65536 in
set_option maxHeartbeats 40000000 in
theorem rm_req2 (l : Launch) (Z : State) (a0 : Array Value) (hw : ∀ d ∈ tables_1, d.before a0 Z = true) (ws : List Jvm.Cond) (a0_ : Addr) (a1 : Addr) (u1 : Addr) (ku : ClassId) (cs : Int32) (vs1 : List Value) (h0 : Heap) (n0 : Nat) (O0 : Old Z n0 h0) (S0_ : Sta Z Z.heap "java/lang/String" "COMPACT_STRINGS" "Z" (.int cs)) (hcs : ¬ (cs = (0 : Int32))) (F2_ : Fld Z h0 a1 "java/lang/String" "coder" "B" (.int (0 : Int32))) (F3_ : Fld Z h0 a1 "java/lang/String" "value" "[B" (.ref u1)) (E4_ : Exa Z h0 a1 "java/lang/String") (A5_ : Arv Z h0 u1 ku .byte (2 : Int32) vs1 (.int (0 : Int32))) :
    MetFree l (⟨"com/example/rolegate/rolegate/Permission", "requireRoleName", "(Ljava/lang/String;Ljava/lang/String;)V"⟩ : MethodName) (head1 (Jvm.Cond.code (⟨"com/example/rolegate/rolegate/Permission", "requireRoleName", "(Ljava/lang/String;Ljava/lang/String;)V"⟩ : MethodName) prog_17_method_5_code 2 none :: ws) ({ frames := 2, cells := 2, slots := 8, locals := 28 } : Room)) (fun a U => a = #[(.ref a0_), (.ref a1)] ∧ Z.Warmed39 U.vm ∧ U.heap = h0 ∧ CHv Z consts_1 U.vm h0) (fun _ _ _ _ _ => True) (fun _ U o U' => ∃ v L, o = .returned v ∧ Q_req2 Z a0_ a1 u1 ku cs vs1 h0 n0 v U'.heap L ∧ CHr Z consts_1 U.vm U.heap U'.vm U'.heap ∧ ReturnedEndW U o U' L ({ frames := 2, cells := 2, slots := 8, locals := 28 } : Room).cells ({ frames := 2, cells := 2, slots := 8, locals := 28 } : Room).slots) := by
  refine MetFree.of_bodySF (plainFor_of_name pn_com_example_rolegate_rolegate_Permission) hisR ?_
  intro p e s m args below meth c s₁ Bd hml0 hP hK
  obtain ⟨rfl, hZ, hh, hC0⟩ := hP
  have hx := Bd.exec
  have hby := Bd.bytes
  have hml : c.maxLocals = 2 := hml0
  have hown : s.vm.findClass "com/example/rolegate/rolegate/Permission" = some m.cls := findClass_of_methodNamed Bd.named
  have hnm := (name_of_methodNamed Bd.named Bd.method).1
  have X0 : Stand p l e ({ frames := 2, cells := 2, slots := 8, locals := 28 } : Room) (s.setVm s.vm) m #[(.ref a0_), (.ref a1)] below meth c s₁ [] 0 0 := Stand.of_body Bd
  have e0 : s₁.heap = h0 := by rw [← hh, Bd.state]; rfl
  have N0 := Fr.nil n0
  have hS : s.Since s.vm 0 := (State.WarmedH.refl s).since 0
  have hk : 0 ≤ h0.size := Nat.zero_le _
  have hZ : Z.Warmed39 (s.setVm s.vm).vm := hZ
  have hown : (s.setVm s.vm).vm.findClass "com/example/rolegate/rolegate/Permission" = some m.cls := hown
  have R0 : CHr Z consts_1 s.vm h0 s.vm h0 := CHr.refl hC0
  have g0 : Go p e below s₁ (mkF m 0 #[rv a0_, rv a1] []) (s₁.setTop (entryFrame m #[(.ref a0_), (.ref a1)] 2)) := fun t kont => castTop (ef_req2 m a0_ a1 ) kont
  generalize s₁.setTop (entryFrame m #[(.ref a0_), (.ref a1)] 2) = A0 at g0 ⊢
  have g101 : Go p e below s₁ (mkF m 1 #[rv a0_, rv a1] [(.ref a1)]) A0 := by
    intro t kont
    refine g0 t ?_
    refine XS.aloadN X0.here hx rfl (hb hby d6_0) rfl rfl ?_
    show Steps p.tables e below (s₁.setTop (mkF m 1 #[rv a0_, rv a1] [(.ref a1)])) _
    exact kont
  obtain ⟨cq102, kq102, q102a, q102b, q102c⟩ := isOf hZ e0 E4_
  obtain ⟨_, _, ⟨T102, L102, k102, n102⟩, -, X102, ⟨Lc102, hQ102, l102, y102, z102⟩, st102⟩ := X0.virtualBack hx (y := (⟨"java/lang/String", "isEmpty", "()Z"⟩ : MethodName)) (z := (⟨"java/lang/String", "isEmpty", "()Z"⟩ : MethodName)) hown (mvT hZ (hw _ (List.mem_of_getElem? (i := 30) rfl))) (mvT hZ (hw _ (List.mem_of_getElem? (i := 31) rfl))) (notFace_of_selects (args := #[]) (mvT hZ (hw _ (List.mem_of_getElem? (i := 33) rfl)))) (mvT hZ (hw _ (List.mem_of_getElem? (i := 33) rfl))) (mvT hZ (hw _ (List.mem_of_getElem? (i := 32) rfl))) (by decide) (backOf (W := 0) (rm_isE l Z a0 hw [] a1 u1 ku (2 : Int32) vs1 h0 n0 O0 F3_ A5_ (by decide)) hZ (hw _ (List.mem_of_getElem? (i := 34) rfl)) (hw _ (List.mem_of_getElem? (i := 2) rfl)) (by decide) (by decide)) q102a q102c (g := (mkF m 1 #[rv a0_, rv a1] [(.ref a1)])) rfl (by rw [hml]; rfl) (Steps.refl _) (argsL := []) (rest := []) (lenOf pd_8 rfl) rfl (by show 2 * 0 + _ ≤ _; exact Nat.le_of_eq rfl) (hb hby d6_1) (fun _ _ => ⟨rfl, e0, (by decide : 0 + 0 ≤ _), (by decide : 0 + 0 ≤ _)⟩)
  dsimp only [Pt.U, Pt.locs, Pt.cells, Pt.slots] at X102 l102 y102 z102 st102 hQ102
  subst l102 y102 z102
  obtain ⟨rfl, M102, e102⟩ := hQ102
  have N102 := Fr.app N0 M102
  have g103 : Go p e below T102 (mkF m 4 #[rv a0_, rv a1] [(.int (0 : Int32))]) A0 := fun t kont => g101 t (st102.trans kont)
  have g104 : Go p e below T102 (mkF m 8 #[rv a0_, rv a1] [(.ref a1)]) A0 := by
    intro t kont
    refine g103 t ?_
    refine XS.ifNo X102.here hx rfl (hb hby d6_4) rfl ((if0 _ _).trans (teq (by decide : (0 : Int32) = (0 : Int32))).2) ?_
    show Steps p.tables e below (T102.setTop (mkF m 7 #[rv a0_, rv a1] [])) _
    refine XS.aloadN X102.here hx rfl (hb hby d6_7) rfl rfl ?_
    show Steps p.tables e below (T102.setTop (mkF m 8 #[rv a0_, rv a1] [(.ref a1)])) _
    exact kont
  obtain ⟨b105, T105, h105, k105, c105, kc105, X105, e105, E105, hS, hk, hZ, hown, A105, F105, G105, V105, la105, lb105, C105, -, ne105, st105⟩ := ldcCH X102 hx hZ hown (hw _ (List.mem_of_getElem? (i := 35) rfl)) (own_wS hw) e102 hS hk (own_EW hw) (List.mem_of_getElem? (i := 0) rfl) R0.1 (vs := [(.int (42 : Int32))]) (z := (1 : Int32)) ⟨by decide, by decide⟩ (by decide) rfl (g := (mkF m 8 #[rv a0_, rv a1] [(.ref a1)])) rfl (hb hby d6_8) (n := 4) (by decide) (by decide) (by decide) (by decide)
  have R106 : CHr Z consts_1 s.vm h0 T105.vm h105 := R0.trans C105
  have O107 := O0.ext E105
  have g108 : Go p e below T105 (mkF m 10 #[rv a0_, rv a1] [(.ref b105), (.ref a1)]) A0 := fun t kont => g104 t (st105 t kont)
  have y110 : Fld Z h105 a1 "java/lang/String" "value" "[B" (.ref u1) := (F3_.ext E105)
  have y111 : Arv Z h105 u1 ku .byte (2 : Int32) vs1 (.int (0 : Int32)) := (A5_.ext E105)
  have hne109 : ¬ (a1 = b105) := Fld.ne y110 G105 (fun q => (arv_ne y111 V105 (Or.inl (by decide))) (Value.ref.inj q))
  have y113 : Exa Z h105 a1 "java/lang/String" := (E4_.ext E105)
  have y114 : Fld Z h105 a1 "java/lang/String" "coder" "B" (.int (0 : Int32)) := (F2_.ext E105)
  obtain ⟨cq112, kq112, q112a, q112b, q112c⟩ := isOf hZ e105 y113
  obtain ⟨_, _, ⟨T112, L112, k112, n112⟩, -, X112, ⟨Lc112, hQ112, l112, y112, z112⟩, st112⟩ := X105.virtualBack hx (y := (⟨"java/lang/String", "equals", "(Ljava/lang/Object;)Z"⟩ : MethodName)) (z := (⟨"java/lang/String", "equals", "(Ljava/lang/Object;)Z"⟩ : MethodName)) hown (mvT hZ (hw _ (List.mem_of_getElem? (i := 38) rfl))) (mvT hZ (hw _ (List.mem_of_getElem? (i := 39) rfl))) (notFace_of_selects (args := #[]) (mvT hZ (hw _ (List.mem_of_getElem? (i := 41) rfl)))) (mvT hZ (hw _ (List.mem_of_getElem? (i := 41) rfl))) (mvT hZ (hw _ (List.mem_of_getElem? (i := 40) rfl))) (by decide) (backOf (W := 0) (rm_eqL l Z a0 hw [] a1 b105 u1 c105 ku kc105 (2 : Int32) (1 : Int32) vs1 [(.int (42 : Int32))] cs h105 n0 O107 S0_ hcs A105 y114 F105 y110 G105 y111 V105 (by decide) hne109) hZ (hw _ (List.mem_of_getElem? (i := 42) rfl)) (hw _ (List.mem_of_getElem? (i := 2) rfl)) (by decide) (by decide)) q112a q112c (g := (mkF m 10 #[rv a0_, rv a1] [(.ref b105), (.ref a1)])) rfl (by rw [hml]; rfl) (Steps.refl _) (argsL := [(.ref b105)]) (rest := []) (lenOf pd_9 rfl) rfl (by show 2 * 0 + _ ≤ _; exact Nat.le_of_eq rfl) (hb hby d6_10) (fun _ _ => ⟨rfl, e105, (by decide : 2 + 0 ≤ _), (by decide : 8 + 0 ≤ _)⟩)
  dsimp only [Pt.U, Pt.locs, Pt.cells, Pt.slots] at X112 l112 y112 z112 st112 hQ112
  subst l112 y112 z112
  obtain ⟨rfl, M112, e112⟩ := hQ112
  have N112 := Fr.app N102 M112
  have g115 : Go p e below T112 (mkF m 13 #[rv a0_, rv a1] [(.int (0 : Int32))]) A0 := fun t kont => g108 t (st112.trans kont)
  have g116 : Go p e below T112 (mkF m 31 #[rv a0_, rv a1] []) A0 := by
    intro t kont
    refine g115 t ?_
    refine XS.ifYes X112.here hx rfl (pc0 := 13) (pc' := 31) rfl (hb hby d6_13) rfl ((if0 _ _).trans (teq (by decide : (0 : Int32) = (0 : Int32))).1) (by decide) (by decide) ?_
    show Steps p.tables e below (T112.setTop (mkF m 31 #[rv a0_, rv a1] [])) _
    exact kont
  have K117 : Keep h0 h105 [] := ((Keep.refl h0 []).ext E105)
  obtain ⟨fs, hr, hrun, hended, hRW⟩ := X112.leaveW hS (by rw [e112]; exact hk) (v := none) (fun _ => rfl)
  refine ⟨_, _, g116 _ (X112.returnOut hx Bd.returns (hb hby d6_31) hr), hrun, hended, _, _, rfl, ?_, ?_, hRW.1, hRW.2.1, hRW.2.2.1, hRW.2.2.2.mono (by decide) (by decide)⟩
  ·
    show Q_req2 Z a0_ a1 u1 ku cs vs1 h0 n0 _ T112.heap _
    rw [e112]
    exact ⟨rfl, N112, K117⟩
  ·
    rw [hh]
    show CHr Z consts_1 s.vm h0 T112.vm T112.heap
    rw [e112]
    exact R106.trans (CHv.at X112 hZ (own_EW hw) R106.1)
theorem ef_req3 (m : MethodId) (x0 : Addr) (x1 : Addr)  : entryFrame m #[(.ref x0), (.ref x1)] 2 = mkF m 0 #[.val (.ref x0), .val (.ref x1)] [] := by first | (simp [entryFrame, mkF, argsToLocals, Value.category]; done) | rfl
def Q_req3 (Z : State) (a0_ : Addr) (a1 : Addr) (u1 : Addr) (ku : ClassId) (cs : Int32) (vs1 : List Value) (h0 : Heap) (n0 : Nat) (v : Option Value) (h : Heap) (L : List Loc) : Prop := v = none ∧ Fr n0 L ∧ Keep h0 h []
set_option maxRecDepth 65536 in
set_option maxHeartbeats 40000000 in
theorem rm_req3 (l : Launch) (Z : State) (a0 : Array Value) (hw : ∀ d ∈ tables_1, d.before a0 Z = true) (ws : List Jvm.Cond) (a0_ : Addr) (a1 : Addr) (u1 : Addr) (ku : ClassId) (cs : Int32) (vs1 : List Value) (h0 : Heap) (n0 : Nat) (O0 : Old Z n0 h0) (S0_ : Sta Z Z.heap "java/lang/String" "COMPACT_STRINGS" "Z" (.int cs)) (hcs : ¬ (cs = (0 : Int32))) (F2_ : Fld Z h0 a1 "java/lang/String" "coder" "B" (.int (0 : Int32))) (F3_ : Fld Z h0 a1 "java/lang/String" "value" "[B" (.ref u1)) (E4_ : Exa Z h0 a1 "java/lang/String") (A5_ : Arv Z h0 u1 ku .byte (3 : Int32) vs1 (.int (0 : Int32))) :
    MetFree l (⟨"com/example/rolegate/rolegate/Permission", "requireRoleName", "(Ljava/lang/String;Ljava/lang/String;)V"⟩ : MethodName) (head1 (Jvm.Cond.code (⟨"com/example/rolegate/rolegate/Permission", "requireRoleName", "(Ljava/lang/String;Ljava/lang/String;)V"⟩ : MethodName) prog_17_method_5_code 2 none :: ws) ({ frames := 2, cells := 2, slots := 8, locals := 28 } : Room)) (fun a U => a = #[(.ref a0_), (.ref a1)] ∧ Z.Warmed39 U.vm ∧ U.heap = h0 ∧ CHv Z consts_1 U.vm h0) (fun _ _ _ _ _ => True) (fun _ U o U' => ∃ v L, o = .returned v ∧ Q_req3 Z a0_ a1 u1 ku cs vs1 h0 n0 v U'.heap L ∧ CHr Z consts_1 U.vm U.heap U'.vm U'.heap ∧ ReturnedEndW U o U' L ({ frames := 2, cells := 2, slots := 8, locals := 28 } : Room).cells ({ frames := 2, cells := 2, slots := 8, locals := 28 } : Room).slots) := by
  refine MetFree.of_bodySF (plainFor_of_name pn_com_example_rolegate_rolegate_Permission) hisR ?_
  intro p e s m args below meth c s₁ Bd hml0 hP hK
  obtain ⟨rfl, hZ, hh, hC0⟩ := hP
  have hx := Bd.exec
  have hby := Bd.bytes
  have hml : c.maxLocals = 2 := hml0
  have hown : s.vm.findClass "com/example/rolegate/rolegate/Permission" = some m.cls := findClass_of_methodNamed Bd.named
  have hnm := (name_of_methodNamed Bd.named Bd.method).1
  have X0 : Stand p l e ({ frames := 2, cells := 2, slots := 8, locals := 28 } : Room) (s.setVm s.vm) m #[(.ref a0_), (.ref a1)] below meth c s₁ [] 0 0 := Stand.of_body Bd
  have e0 : s₁.heap = h0 := by rw [← hh, Bd.state]; rfl
  have N0 := Fr.nil n0
  have hS : s.Since s.vm 0 := (State.WarmedH.refl s).since 0
  have hk : 0 ≤ h0.size := Nat.zero_le _
  have hZ : Z.Warmed39 (s.setVm s.vm).vm := hZ
  have hown : (s.setVm s.vm).vm.findClass "com/example/rolegate/rolegate/Permission" = some m.cls := hown
  have R0 : CHr Z consts_1 s.vm h0 s.vm h0 := CHr.refl hC0
  have g0 : Go p e below s₁ (mkF m 0 #[rv a0_, rv a1] []) (s₁.setTop (entryFrame m #[(.ref a0_), (.ref a1)] 2)) := fun t kont => castTop (ef_req3 m a0_ a1 ) kont
  generalize s₁.setTop (entryFrame m #[(.ref a0_), (.ref a1)] 2) = A0 at g0 ⊢
  have g101 : Go p e below s₁ (mkF m 1 #[rv a0_, rv a1] [(.ref a1)]) A0 := by
    intro t kont
    refine g0 t ?_
    refine XS.aloadN X0.here hx rfl (hb hby d6_0) rfl rfl ?_
    show Steps p.tables e below (s₁.setTop (mkF m 1 #[rv a0_, rv a1] [(.ref a1)])) _
    exact kont
  obtain ⟨cq102, kq102, q102a, q102b, q102c⟩ := isOf hZ e0 E4_
  obtain ⟨_, _, ⟨T102, L102, k102, n102⟩, -, X102, ⟨Lc102, hQ102, l102, y102, z102⟩, st102⟩ := X0.virtualBack hx (y := (⟨"java/lang/String", "isEmpty", "()Z"⟩ : MethodName)) (z := (⟨"java/lang/String", "isEmpty", "()Z"⟩ : MethodName)) hown (mvT hZ (hw _ (List.mem_of_getElem? (i := 30) rfl))) (mvT hZ (hw _ (List.mem_of_getElem? (i := 31) rfl))) (notFace_of_selects (args := #[]) (mvT hZ (hw _ (List.mem_of_getElem? (i := 33) rfl)))) (mvT hZ (hw _ (List.mem_of_getElem? (i := 33) rfl))) (mvT hZ (hw _ (List.mem_of_getElem? (i := 32) rfl))) (by decide) (backOf (W := 0) (rm_isE l Z a0 hw [] a1 u1 ku (3 : Int32) vs1 h0 n0 O0 F3_ A5_ (by decide)) hZ (hw _ (List.mem_of_getElem? (i := 34) rfl)) (hw _ (List.mem_of_getElem? (i := 2) rfl)) (by decide) (by decide)) q102a q102c (g := (mkF m 1 #[rv a0_, rv a1] [(.ref a1)])) rfl (by rw [hml]; rfl) (Steps.refl _) (argsL := []) (rest := []) (lenOf pd_8 rfl) rfl (by show 2 * 0 + _ ≤ _; exact Nat.le_of_eq rfl) (hb hby d6_1) (fun _ _ => ⟨rfl, e0, (by decide : 0 + 0 ≤ _), (by decide : 0 + 0 ≤ _)⟩)
  dsimp only [Pt.U, Pt.locs, Pt.cells, Pt.slots] at X102 l102 y102 z102 st102 hQ102
  subst l102 y102 z102
  obtain ⟨rfl, M102, e102⟩ := hQ102
  have N102 := Fr.app N0 M102
  have g103 : Go p e below T102 (mkF m 4 #[rv a0_, rv a1] [(.int (0 : Int32))]) A0 := fun t kont => g101 t (st102.trans kont)
  have g104 : Go p e below T102 (mkF m 8 #[rv a0_, rv a1] [(.ref a1)]) A0 := by
    intro t kont
    refine g103 t ?_
    refine XS.ifNo X102.here hx rfl (hb hby d6_4) rfl ((if0 _ _).trans (teq (by decide : (0 : Int32) = (0 : Int32))).2) ?_
    show Steps p.tables e below (T102.setTop (mkF m 7 #[rv a0_, rv a1] [])) _
    refine XS.aloadN X102.here hx rfl (hb hby d6_7) rfl rfl ?_
    show Steps p.tables e below (T102.setTop (mkF m 8 #[rv a0_, rv a1] [(.ref a1)])) _
    exact kont
  obtain ⟨b105, T105, h105, k105, c105, kc105, X105, e105, E105, hS, hk, hZ, hown, A105, F105, G105, V105, la105, lb105, C105, -, ne105, st105⟩ := ldcCH X102 hx hZ hown (hw _ (List.mem_of_getElem? (i := 35) rfl)) (own_wS hw) e102 hS hk (own_EW hw) (List.mem_of_getElem? (i := 0) rfl) R0.1 (vs := [(.int (42 : Int32))]) (z := (1 : Int32)) ⟨by decide, by decide⟩ (by decide) rfl (g := (mkF m 8 #[rv a0_, rv a1] [(.ref a1)])) rfl (hb hby d6_8) (n := 4) (by decide) (by decide) (by decide) (by decide)
  have R106 : CHr Z consts_1 s.vm h0 T105.vm h105 := R0.trans C105
  have O107 := O0.ext E105
  have g108 : Go p e below T105 (mkF m 10 #[rv a0_, rv a1] [(.ref b105), (.ref a1)]) A0 := fun t kont => g104 t (st105 t kont)
  have y110 : Fld Z h105 a1 "java/lang/String" "value" "[B" (.ref u1) := (F3_.ext E105)
  have y111 : Arv Z h105 u1 ku .byte (3 : Int32) vs1 (.int (0 : Int32)) := (A5_.ext E105)
  have hne109 : ¬ (a1 = b105) := Fld.ne y110 G105 (fun q => (arv_ne y111 V105 (Or.inl (by decide))) (Value.ref.inj q))
  have y113 : Exa Z h105 a1 "java/lang/String" := (E4_.ext E105)
  have y114 : Fld Z h105 a1 "java/lang/String" "coder" "B" (.int (0 : Int32)) := (F2_.ext E105)
  obtain ⟨cq112, kq112, q112a, q112b, q112c⟩ := isOf hZ e105 y113
  obtain ⟨_, _, ⟨T112, L112, k112, n112⟩, -, X112, ⟨Lc112, hQ112, l112, y112, z112⟩, st112⟩ := X105.virtualBack hx (y := (⟨"java/lang/String", "equals", "(Ljava/lang/Object;)Z"⟩ : MethodName)) (z := (⟨"java/lang/String", "equals", "(Ljava/lang/Object;)Z"⟩ : MethodName)) hown (mvT hZ (hw _ (List.mem_of_getElem? (i := 38) rfl))) (mvT hZ (hw _ (List.mem_of_getElem? (i := 39) rfl))) (notFace_of_selects (args := #[]) (mvT hZ (hw _ (List.mem_of_getElem? (i := 41) rfl)))) (mvT hZ (hw _ (List.mem_of_getElem? (i := 41) rfl))) (mvT hZ (hw _ (List.mem_of_getElem? (i := 40) rfl))) (by decide) (backOf (W := 0) (rm_eqL l Z a0 hw [] a1 b105 u1 c105 ku kc105 (3 : Int32) (1 : Int32) vs1 [(.int (42 : Int32))] cs h105 n0 O107 S0_ hcs A105 y114 F105 y110 G105 y111 V105 (by decide) hne109) hZ (hw _ (List.mem_of_getElem? (i := 42) rfl)) (hw _ (List.mem_of_getElem? (i := 2) rfl)) (by decide) (by decide)) q112a q112c (g := (mkF m 10 #[rv a0_, rv a1] [(.ref b105), (.ref a1)])) rfl (by rw [hml]; rfl) (Steps.refl _) (argsL := [(.ref b105)]) (rest := []) (lenOf pd_9 rfl) rfl (by show 2 * 0 + _ ≤ _; exact Nat.le_of_eq rfl) (hb hby d6_10) (fun _ _ => ⟨rfl, e105, (by decide : 2 + 0 ≤ _), (by decide : 8 + 0 ≤ _)⟩)
  dsimp only [Pt.U, Pt.locs, Pt.cells, Pt.slots] at X112 l112 y112 z112 st112 hQ112
  subst l112 y112 z112
  obtain ⟨rfl, M112, e112⟩ := hQ112
  have N112 := Fr.app N102 M112
  have g115 : Go p e below T112 (mkF m 13 #[rv a0_, rv a1] [(.int (0 : Int32))]) A0 := fun t kont => g108 t (st112.trans kont)
  have g116 : Go p e below T112 (mkF m 31 #[rv a0_, rv a1] []) A0 := by
    intro t kont
    refine g115 t ?_
    refine XS.ifYes X112.here hx rfl (pc0 := 13) (pc' := 31) rfl (hb hby d6_13) rfl ((if0 _ _).trans (teq (by decide : (0 : Int32) = (0 : Int32))).1) (by decide) (by decide) ?_
    show Steps p.tables e below (T112.setTop (mkF m 31 #[rv a0_, rv a1] [])) _
    exact kont
  have K117 : Keep h0 h105 [] := ((Keep.refl h0 []).ext E105)
  obtain ⟨fs, hr, hrun, hended, hRW⟩ := X112.leaveW hS (by rw [e112]; exact hk) (v := none) (fun _ => rfl)
  refine ⟨_, _, g116 _ (X112.returnOut hx Bd.returns (hb hby d6_31) hr), hrun, hended, _, _, rfl, ?_, ?_, hRW.1, hRW.2.1, hRW.2.2.1, hRW.2.2.2.mono (by decide) (by decide)⟩
  ·
    show Q_req3 Z a0_ a1 u1 ku cs vs1 h0 n0 _ T112.heap _
    rw [e112]
    exact ⟨rfl, N112, K117⟩
  ·
    rw [hh]
    show CHr Z consts_1 s.vm h0 T112.vm T112.heap
    rw [e112]
    exact R106.trans (CHv.at X112 hZ (own_EW hw) R106.1)
theorem ef_req4 (m : MethodId) (x0 : Addr) (x1 : Addr)  : entryFrame m #[(.ref x0), (.ref x1)] 2 = mkF m 0 #[.val (.ref x0), .val (.ref x1)] [] := by first | (simp [entryFrame, mkF, argsToLocals, Value.category]; done) | rfl
def Q_req4 (Z : State) (a0_ : Addr) (a1 : Addr) (u1 : Addr) (ku : ClassId) (cs : Int32) (vs1 : List Value) (h0 : Heap) (n0 : Nat) (v : Option Value) (h : Heap) (L : List Loc) : Prop := v = none ∧ Fr n0 L ∧ Keep h0 h []
set_option maxRecDepth 65536 in
set_option maxHeartbeats 40000000 in
theorem rm_req4 (l : Launch) (Z : State) (a0 : Array Value) (hw : ∀ d ∈ tables_1, d.before a0 Z = true) (ws : List Jvm.Cond) (a0_ : Addr) (a1 : Addr) (u1 : Addr) (ku : ClassId) (cs : Int32) (vs1 : List Value) (h0 : Heap) (n0 : Nat) (O0 : Old Z n0 h0) (S0_ : Sta Z Z.heap "java/lang/String" "COMPACT_STRINGS" "Z" (.int cs)) (hcs : ¬ (cs = (0 : Int32))) (F2_ : Fld Z h0 a1 "java/lang/String" "coder" "B" (.int (0 : Int32))) (F3_ : Fld Z h0 a1 "java/lang/String" "value" "[B" (.ref u1)) (E4_ : Exa Z h0 a1 "java/lang/String") (A5_ : Arv Z h0 u1 ku .byte (4 : Int32) vs1 (.int (0 : Int32))) :
    MetFree l (⟨"com/example/rolegate/rolegate/Permission", "requireRoleName", "(Ljava/lang/String;Ljava/lang/String;)V"⟩ : MethodName) (head1 (Jvm.Cond.code (⟨"com/example/rolegate/rolegate/Permission", "requireRoleName", "(Ljava/lang/String;Ljava/lang/String;)V"⟩ : MethodName) prog_17_method_5_code 2 none :: ws) ({ frames := 2, cells := 2, slots := 8, locals := 28 } : Room)) (fun a U => a = #[(.ref a0_), (.ref a1)] ∧ Z.Warmed39 U.vm ∧ U.heap = h0 ∧ CHv Z consts_1 U.vm h0) (fun _ _ _ _ _ => True) (fun _ U o U' => ∃ v L, o = .returned v ∧ Q_req4 Z a0_ a1 u1 ku cs vs1 h0 n0 v U'.heap L ∧ CHr Z consts_1 U.vm U.heap U'.vm U'.heap ∧ ReturnedEndW U o U' L ({ frames := 2, cells := 2, slots := 8, locals := 28 } : Room).cells ({ frames := 2, cells := 2, slots := 8, locals := 28 } : Room).slots) := by
  refine MetFree.of_bodySF (plainFor_of_name pn_com_example_rolegate_rolegate_Permission) hisR ?_
  intro p e s m args below meth c s₁ Bd hml0 hP hK
  obtain ⟨rfl, hZ, hh, hC0⟩ := hP
  have hx := Bd.exec
  have hby := Bd.bytes
  have hml : c.maxLocals = 2 := hml0
  have hown : s.vm.findClass "com/example/rolegate/rolegate/Permission" = some m.cls := findClass_of_methodNamed Bd.named
  have hnm := (name_of_methodNamed Bd.named Bd.method).1
  have X0 : Stand p l e ({ frames := 2, cells := 2, slots := 8, locals := 28 } : Room) (s.setVm s.vm) m #[(.ref a0_), (.ref a1)] below meth c s₁ [] 0 0 := Stand.of_body Bd
  have e0 : s₁.heap = h0 := by rw [← hh, Bd.state]; rfl
  have N0 := Fr.nil n0
  have hS : s.Since s.vm 0 := (State.WarmedH.refl s).since 0
  have hk : 0 ≤ h0.size := Nat.zero_le _
  have hZ : Z.Warmed39 (s.setVm s.vm).vm := hZ
  have hown : (s.setVm s.vm).vm.findClass "com/example/rolegate/rolegate/Permission" = some m.cls := hown
  have R0 : CHr Z consts_1 s.vm h0 s.vm h0 := CHr.refl hC0
  have g0 : Go p e below s₁ (mkF m 0 #[rv a0_, rv a1] []) (s₁.setTop (entryFrame m #[(.ref a0_), (.ref a1)] 2)) := fun t kont => castTop (ef_req4 m a0_ a1 ) kont
  generalize s₁.setTop (entryFrame m #[(.ref a0_), (.ref a1)] 2) = A0 at g0 ⊢
  have g101 : Go p e below s₁ (mkF m 1 #[rv a0_, rv a1] [(.ref a1)]) A0 := by
    intro t kont
    refine g0 t ?_
    refine XS.aloadN X0.here hx rfl (hb hby d6_0) rfl rfl ?_
    show Steps p.tables e below (s₁.setTop (mkF m 1 #[rv a0_, rv a1] [(.ref a1)])) _
    exact kont
  obtain ⟨cq102, kq102, q102a, q102b, q102c⟩ := isOf hZ e0 E4_
  obtain ⟨_, _, ⟨T102, L102, k102, n102⟩, -, X102, ⟨Lc102, hQ102, l102, y102, z102⟩, st102⟩ := X0.virtualBack hx (y := (⟨"java/lang/String", "isEmpty", "()Z"⟩ : MethodName)) (z := (⟨"java/lang/String", "isEmpty", "()Z"⟩ : MethodName)) hown (mvT hZ (hw _ (List.mem_of_getElem? (i := 30) rfl))) (mvT hZ (hw _ (List.mem_of_getElem? (i := 31) rfl))) (notFace_of_selects (args := #[]) (mvT hZ (hw _ (List.mem_of_getElem? (i := 33) rfl)))) (mvT hZ (hw _ (List.mem_of_getElem? (i := 33) rfl))) (mvT hZ (hw _ (List.mem_of_getElem? (i := 32) rfl))) (by decide) (backOf (W := 0) (rm_isE l Z a0 hw [] a1 u1 ku (4 : Int32) vs1 h0 n0 O0 F3_ A5_ (by decide)) hZ (hw _ (List.mem_of_getElem? (i := 34) rfl)) (hw _ (List.mem_of_getElem? (i := 2) rfl)) (by decide) (by decide)) q102a q102c (g := (mkF m 1 #[rv a0_, rv a1] [(.ref a1)])) rfl (by rw [hml]; rfl) (Steps.refl _) (argsL := []) (rest := []) (lenOf pd_8 rfl) rfl (by show 2 * 0 + _ ≤ _; exact Nat.le_of_eq rfl) (hb hby d6_1) (fun _ _ => ⟨rfl, e0, (by decide : 0 + 0 ≤ _), (by decide : 0 + 0 ≤ _)⟩)
  dsimp only [Pt.U, Pt.locs, Pt.cells, Pt.slots] at X102 l102 y102 z102 st102 hQ102
  subst l102 y102 z102
  obtain ⟨rfl, M102, e102⟩ := hQ102
  have N102 := Fr.app N0 M102
  have g103 : Go p e below T102 (mkF m 4 #[rv a0_, rv a1] [(.int (0 : Int32))]) A0 := fun t kont => g101 t (st102.trans kont)
  have g104 : Go p e below T102 (mkF m 8 #[rv a0_, rv a1] [(.ref a1)]) A0 := by
    intro t kont
    refine g103 t ?_
    refine XS.ifNo X102.here hx rfl (hb hby d6_4) rfl ((if0 _ _).trans (teq (by decide : (0 : Int32) = (0 : Int32))).2) ?_
    show Steps p.tables e below (T102.setTop (mkF m 7 #[rv a0_, rv a1] [])) _
    refine XS.aloadN X102.here hx rfl (hb hby d6_7) rfl rfl ?_
    show Steps p.tables e below (T102.setTop (mkF m 8 #[rv a0_, rv a1] [(.ref a1)])) _
    exact kont
  obtain ⟨b105, T105, h105, k105, c105, kc105, X105, e105, E105, hS, hk, hZ, hown, A105, F105, G105, V105, la105, lb105, C105, -, ne105, st105⟩ := ldcCH X102 hx hZ hown (hw _ (List.mem_of_getElem? (i := 35) rfl)) (own_wS hw) e102 hS hk (own_EW hw) (List.mem_of_getElem? (i := 0) rfl) R0.1 (vs := [(.int (42 : Int32))]) (z := (1 : Int32)) ⟨by decide, by decide⟩ (by decide) rfl (g := (mkF m 8 #[rv a0_, rv a1] [(.ref a1)])) rfl (hb hby d6_8) (n := 4) (by decide) (by decide) (by decide) (by decide)
  have R106 : CHr Z consts_1 s.vm h0 T105.vm h105 := R0.trans C105
  have O107 := O0.ext E105
  have g108 : Go p e below T105 (mkF m 10 #[rv a0_, rv a1] [(.ref b105), (.ref a1)]) A0 := fun t kont => g104 t (st105 t kont)
  have y110 : Fld Z h105 a1 "java/lang/String" "value" "[B" (.ref u1) := (F3_.ext E105)
  have y111 : Arv Z h105 u1 ku .byte (4 : Int32) vs1 (.int (0 : Int32)) := (A5_.ext E105)
  have hne109 : ¬ (a1 = b105) := Fld.ne y110 G105 (fun q => (arv_ne y111 V105 (Or.inl (by decide))) (Value.ref.inj q))
  have y113 : Exa Z h105 a1 "java/lang/String" := (E4_.ext E105)
  have y114 : Fld Z h105 a1 "java/lang/String" "coder" "B" (.int (0 : Int32)) := (F2_.ext E105)
  obtain ⟨cq112, kq112, q112a, q112b, q112c⟩ := isOf hZ e105 y113
  obtain ⟨_, _, ⟨T112, L112, k112, n112⟩, -, X112, ⟨Lc112, hQ112, l112, y112, z112⟩, st112⟩ := X105.virtualBack hx (y := (⟨"java/lang/String", "equals", "(Ljava/lang/Object;)Z"⟩ : MethodName)) (z := (⟨"java/lang/String", "equals", "(Ljava/lang/Object;)Z"⟩ : MethodName)) hown (mvT hZ (hw _ (List.mem_of_getElem? (i := 38) rfl))) (mvT hZ (hw _ (List.mem_of_getElem? (i := 39) rfl))) (notFace_of_selects (args := #[]) (mvT hZ (hw _ (List.mem_of_getElem? (i := 41) rfl)))) (mvT hZ (hw _ (List.mem_of_getElem? (i := 41) rfl))) (mvT hZ (hw _ (List.mem_of_getElem? (i := 40) rfl))) (by decide) (backOf (W := 0) (rm_eqL l Z a0 hw [] a1 b105 u1 c105 ku kc105 (4 : Int32) (1 : Int32) vs1 [(.int (42 : Int32))] cs h105 n0 O107 S0_ hcs A105 y114 F105 y110 G105 y111 V105 (by decide) hne109) hZ (hw _ (List.mem_of_getElem? (i := 42) rfl)) (hw _ (List.mem_of_getElem? (i := 2) rfl)) (by decide) (by decide)) q112a q112c (g := (mkF m 10 #[rv a0_, rv a1] [(.ref b105), (.ref a1)])) rfl (by rw [hml]; rfl) (Steps.refl _) (argsL := [(.ref b105)]) (rest := []) (lenOf pd_9 rfl) rfl (by show 2 * 0 + _ ≤ _; exact Nat.le_of_eq rfl) (hb hby d6_10) (fun _ _ => ⟨rfl, e105, (by decide : 2 + 0 ≤ _), (by decide : 8 + 0 ≤ _)⟩)
  dsimp only [Pt.U, Pt.locs, Pt.cells, Pt.slots] at X112 l112 y112 z112 st112 hQ112
  subst l112 y112 z112
  obtain ⟨rfl, M112, e112⟩ := hQ112
  have N112 := Fr.app N102 M112
  have g115 : Go p e below T112 (mkF m 13 #[rv a0_, rv a1] [(.int (0 : Int32))]) A0 := fun t kont => g108 t (st112.trans kont)
  have g116 : Go p e below T112 (mkF m 31 #[rv a0_, rv a1] []) A0 := by
    intro t kont
    refine g115 t ?_
    refine XS.ifYes X112.here hx rfl (pc0 := 13) (pc' := 31) rfl (hb hby d6_13) rfl ((if0 _ _).trans (teq (by decide : (0 : Int32) = (0 : Int32))).1) (by decide) (by decide) ?_
    show Steps p.tables e below (T112.setTop (mkF m 31 #[rv a0_, rv a1] [])) _
    exact kont
  have K117 : Keep h0 h105 [] := ((Keep.refl h0 []).ext E105)
  obtain ⟨fs, hr, hrun, hended, hRW⟩ := X112.leaveW hS (by rw [e112]; exact hk) (v := none) (fun _ => rfl)
  refine ⟨_, _, g116 _ (X112.returnOut hx Bd.returns (hb hby d6_31) hr), hrun, hended, _, _, rfl, ?_, ?_, hRW.1, hRW.2.1, hRW.2.2.1, hRW.2.2.2.mono (by decide) (by decide)⟩
  ·
    show Q_req4 Z a0_ a1 u1 ku cs vs1 h0 n0 _ T112.heap _
    rw [e112]
    exact ⟨rfl, N112, K117⟩
  ·
    rw [hh]
    show CHr Z consts_1 s.vm h0 T112.vm T112.heap
    rw [e112]
    exact R106.trans (CHv.at X112 hZ (own_EW hw) R106.1)
theorem pd_10 : parseMethodDescriptor "(C)Ljava/lang/String;" = some ⟨[.char], some (.object "java/lang/String")⟩ := by decide +kernel
theorem pd_11 : parseMethodDescriptor "(Ljava/lang/String;Ljava/lang/String;)V" = some ⟨[(.object "java/lang/String"), (.object "java/lang/String")], none⟩ := by decide +kernel
theorem pd_12 : parseMethodDescriptor "([C)V" = some ⟨[(.array .char)], none⟩ := by decide +kernel
theorem pn_com_example_rolegate_rolegate_PermissionRequireRoleNamePinLaw : plainName "com/example/rolegate/rolegate/PermissionRequireRoleNamePinLaw" = true := by first | (simp [plainName, overriddenIn]; done) | decide +kernel
theorem ef_law (m : MethodId) (x0 : Int32) (x1 : Int32) (x2 : Int32) (x3 : Int32) (x4 : Int32) (x5 : Int32)  : entryFrame m #[(.int x0), (.int x1), (.int x2), (.int x3), (.int x4), (.int x5)] maxLocals = mkF m 0 #[.val (.int x0), .val (.int x1), .val (.int x2), .val (.int x3), .val (.int x4), .val (.int x5), .unset, .unset, .unset, .unset, .unset, .unset, .unset, .unset] [] := by first | (simp [entryFrame, mkF, argsToLocals, Value.category, maxLocals]; done) | rfl
def Q_law (Z : State) (p0 : Int32) (p1 : Int32) (p2 : Int32) (p3 : Int32) (p4 : Int32) (p5 : Int32) (i_COMPACT_STRINGS : Int32) (h0 : Heap) (n0 : Nat) (v : Option Value) (h : Heap) (L : List Loc) : Prop := v = some (.int (1 : Int32)) ∧ Fr n0 L
set_option maxRecDepth 65536 in
set_option maxHeartbeats 40000000 in
theorem rm_law (l : Launch) (Z : State) (a0 : Array Value) (hw : ∀ d ∈ tables_1, d.before a0 Z = true) (ws : List Jvm.Cond) (p0 : Int32) (p1 : Int32) (p2 : Int32) (p3 : Int32) (p4 : Int32) (p5 : Int32) (i_COMPACT_STRINGS : Int32) (h0 : Heap) (n0 : Nat) (O0 : Old Z n0 h0) (S0_ : Sta Z Z.heap "java/lang/String" "COMPACT_STRINGS" "Z" (.int i_COMPACT_STRINGS)) (hcs : ¬ (i_COMPACT_STRINGS = (0 : Int32))) :
    MetFree l x (head1 (Jvm.Cond.code x code maxLocals ret :: ws) room_1) (fun a U => a = #[(.int p0), (.int p1), (.int p2), (.int p3), (.int p4), (.int p5)] ∧ Z.Warmed39 U.vm ∧ U.heap = h0 ∧ CHv Z consts_1 U.vm h0) (fun _ _ _ _ _ => True) (fun _ U o U' => ∃ v L, o = .returned v ∧ Q_law Z p0 p1 p2 p3 p4 p5 i_COMPACT_STRINGS h0 n0 v U'.heap L ∧ CHr Z consts_1 U.vm U.heap U'.vm U'.heap ∧ ReturnedEndW U o U' L room_1.cells room_1.slots) := by
  refine MetFree.of_bodySF (plainFor_of_name pn_com_example_rolegate_rolegate_PermissionRequireRoleNamePinLaw) hisR ?_
  intro p e s m args below meth c s₁ Bd hml0 hP hK
  obtain ⟨rfl, hZ, hh, hC0⟩ := hP
  have hx := Bd.exec
  have hby := Bd.bytes
  have hml : c.maxLocals = 14 := hml0
  have hown : s.vm.findClass "com/example/rolegate/rolegate/PermissionRequireRoleNamePinLaw" = some m.cls := findClass_of_methodNamed Bd.named
  have hnm := (name_of_methodNamed Bd.named Bd.method).1
  have X0 : Stand p l e room_1 (s.setVm s.vm) m #[(.int p0), (.int p1), (.int p2), (.int p3), (.int p4), (.int p5)] below meth c s₁ [] 0 0 := Stand.of_body Bd
  have e0 : s₁.heap = h0 := by rw [← hh, Bd.state]; rfl
  have N0 := Fr.nil n0
  have hS : s.Since s.vm 0 := (State.WarmedH.refl s).since 0
  have hk : 0 ≤ h0.size := Nat.zero_le _
  have hZ : Z.Warmed39 (s.setVm s.vm).vm := hZ
  have hown : (s.setVm s.vm).vm.findClass "com/example/rolegate/rolegate/PermissionRequireRoleNamePinLaw" = some m.cls := hown
  have R0 : CHr Z consts_1 s.vm h0 s.vm h0 := CHr.refl hC0
  have g0 : Go p e below s₁ (mkF m 0 #[iv p0, iv p1, iv p2, iv p3, iv p4, iv p5, .unset, .unset, .unset, .unset, .unset, .unset, .unset, .unset] []) (s₁.setTop (entryFrame m #[(.int p0), (.int p1), (.int p2), (.int p3), (.int p4), (.int p5)] maxLocals)) := fun t kont => castTop (ef_law m p0 p1 p2 p3 p4 p5 ) kont
  generalize s₁.setTop (entryFrame m #[(.int p0), (.int p1), (.int p2), (.int p3), (.int p4), (.int p5)] maxLocals) = A0 at g0 ⊢
  have g101 : Go p e below s₁ (mkF m 5 #[iv p0, iv p1, iv p2, iv p3, iv p4, iv p5, .unset, .unset, .unset, .unset, .unset, .unset, .unset, .unset] [(.int ((p0 &&& (3 : Int32)) + (1 : Int32)))]) A0 := by
    intro t kont
    refine g0 t ?_
    refine XS.iloadN X0.here hx rfl (hb hby at_0) rfl ?_
    show Steps p.tables e below (s₁.setTop (mkF m 1 #[iv p0, iv p1, iv p2, iv p3, iv p4, iv p5, .unset, .unset, .unset, .unset, .unset, .unset, .unset, .unset] [(.int p0)])) _
    refine XS.iconst X0.here hx rfl (hb hby at_1) ?_
    show Steps p.tables e below (s₁.setTop (mkF m 2 #[iv p0, iv p1, iv p2, iv p3, iv p4, iv p5, .unset, .unset, .unset, .unset, .unset, .unset, .unset, .unset] [(.int (3 : Int32)), (.int p0)])) _
    refine XS.iand X0.here hx rfl (hb hby at_2) rfl ?_
    show Steps p.tables e below (s₁.setTop (mkF m 3 #[iv p0, iv p1, iv p2, iv p3, iv p4, iv p5, .unset, .unset, .unset, .unset, .unset, .unset, .unset, .unset] [(.int (p0 &&& (3 : Int32)))])) _
    refine XS.iconst X0.here hx rfl (hb hby at_3) ?_
    show Steps p.tables e below (s₁.setTop (mkF m 4 #[iv p0, iv p1, iv p2, iv p3, iv p4, iv p5, .unset, .unset, .unset, .unset, .unset, .unset, .unset, .unset] [(.int (1 : Int32)), (.int (p0 &&& (3 : Int32)))])) _
    refine XS.iadd X0.here hx rfl (hb hby at_4) rfl ?_
    show Steps p.tables e below (s₁.setTop (mkF m 5 #[iv p0, iv p1, iv p2, iv p3, iv p4, iv p5, .unset, .unset, .unset, .unset, .unset, .unset, .unset, .unset] [(.int ((p0 &&& (3 : Int32)) + (1 : Int32)))])) _
    exact kont
  obtain ⟨k, e_k⟩ : ∃ z, z = ((p0 &&& (3 : Int32)) + (1 : Int32)) := ⟨_, rfl⟩
  have g102 : Go p e below s₁ (mkF m 5 #[iv p0, iv p1, iv p2, iv p3, iv p4, iv p5, .unset, .unset, .unset, .unset, .unset, .unset, .unset, .unset] [(.int k)]) A0 := by rw [e_k]; exact g101
  have g103 : Go p e below s₁ (mkF m 13 #[iv p0, iv p1, iv p2, iv p3, iv p4, iv p5, iv k, .unset, .unset, .unset, .unset, .unset, .unset, .unset] [(.int ((p1 &&& (255 : Int32)).toUInt32.toUInt16.toUInt32.toInt32))]) A0 := by
    intro t kont
    refine g102 t ?_
    refine XS.istore X0.here hx rfl (hb hby at_5) rfl (l' := #[iv p0, iv p1, iv p2, iv p3, iv p4, iv p5, iv k, .unset, .unset, .unset, .unset, .unset, .unset, .unset]) rfl ?_
    show Steps p.tables e below (s₁.setTop (mkF m 7 #[iv p0, iv p1, iv p2, iv p3, iv p4, iv p5, iv k, .unset, .unset, .unset, .unset, .unset, .unset, .unset] [])) _
    refine XS.iloadN X0.here hx rfl (hb hby at_7) rfl ?_
    show Steps p.tables e below (s₁.setTop (mkF m 8 #[iv p0, iv p1, iv p2, iv p3, iv p4, iv p5, iv k, .unset, .unset, .unset, .unset, .unset, .unset, .unset] [(.int p1)])) _
    refine XS.sipush X0.here hx rfl (hb hby at_8) ?_
    show Steps p.tables e below (s₁.setTop (mkF m 11 #[iv p0, iv p1, iv p2, iv p3, iv p4, iv p5, iv k, .unset, .unset, .unset, .unset, .unset, .unset, .unset] [(.int (255 : Int32)), (.int p1)])) _
    refine XS.iand X0.here hx rfl (hb hby at_11) rfl ?_
    show Steps p.tables e below (s₁.setTop (mkF m 12 #[iv p0, iv p1, iv p2, iv p3, iv p4, iv p5, iv k, .unset, .unset, .unset, .unset, .unset, .unset, .unset] [(.int (p1 &&& (255 : Int32)))])) _
    refine XS.i2c X0.here hx rfl (hb hby at_12) rfl ?_
    show Steps p.tables e below (s₁.setTop (mkF m 13 #[iv p0, iv p1, iv p2, iv p3, iv p4, iv p5, iv k, .unset, .unset, .unset, .unset, .unset, .unset, .unset] [(.int ((p1 &&& (255 : Int32)).toUInt32.toUInt16.toUInt32.toInt32))])) _
    exact kont
  obtain ⟨ca, e_ca⟩ : ∃ z, z = ((p1 &&& (255 : Int32)).toUInt32.toUInt16.toUInt32.toInt32) := ⟨_, rfl⟩
  have g104 : Go p e below s₁ (mkF m 13 #[iv p0, iv p1, iv p2, iv p3, iv p4, iv p5, iv k, .unset, .unset, .unset, .unset, .unset, .unset, .unset] [(.int ca)]) A0 := by rw [e_ca]; exact g103
  have b_ca : ¬ ((255 : Int32) < ca) := by rw [e_ca]; exact own_c255 _
  have z_ca : ¬ (ca < (0 : Int32)) := by rw [e_ca]; exact own_c0 _
  have r_ca : nar .char ca = ca := by rw [e_ca]; exact own_narc _
  have g105 : Go p e below s₁ (mkF m 21 #[iv p0, iv p1, iv p2, iv p3, iv p4, iv p5, iv k, iv ca, .unset, .unset, .unset, .unset, .unset, .unset] [(.int ((p2 &&& (255 : Int32)).toUInt32.toUInt16.toUInt32.toInt32))]) A0 := by
    intro t kont
    refine g104 t ?_
    refine XS.istore X0.here hx rfl (hb hby at_13) rfl (l' := #[iv p0, iv p1, iv p2, iv p3, iv p4, iv p5, iv k, iv ca, .unset, .unset, .unset, .unset, .unset, .unset]) rfl ?_
    show Steps p.tables e below (s₁.setTop (mkF m 15 #[iv p0, iv p1, iv p2, iv p3, iv p4, iv p5, iv k, iv ca, .unset, .unset, .unset, .unset, .unset, .unset] [])) _
    refine XS.iloadN X0.here hx rfl (hb hby at_15) rfl ?_
    show Steps p.tables e below (s₁.setTop (mkF m 16 #[iv p0, iv p1, iv p2, iv p3, iv p4, iv p5, iv k, iv ca, .unset, .unset, .unset, .unset, .unset, .unset] [(.int p2)])) _
    refine XS.sipush X0.here hx rfl (hb hby at_16) ?_
    show Steps p.tables e below (s₁.setTop (mkF m 19 #[iv p0, iv p1, iv p2, iv p3, iv p4, iv p5, iv k, iv ca, .unset, .unset, .unset, .unset, .unset, .unset] [(.int (255 : Int32)), (.int p2)])) _
    refine XS.iand X0.here hx rfl (hb hby at_19) rfl ?_
    show Steps p.tables e below (s₁.setTop (mkF m 20 #[iv p0, iv p1, iv p2, iv p3, iv p4, iv p5, iv k, iv ca, .unset, .unset, .unset, .unset, .unset, .unset] [(.int (p2 &&& (255 : Int32)))])) _
    refine XS.i2c X0.here hx rfl (hb hby at_20) rfl ?_
    show Steps p.tables e below (s₁.setTop (mkF m 21 #[iv p0, iv p1, iv p2, iv p3, iv p4, iv p5, iv k, iv ca, .unset, .unset, .unset, .unset, .unset, .unset] [(.int ((p2 &&& (255 : Int32)).toUInt32.toUInt16.toUInt32.toInt32))])) _
    exact kont
  obtain ⟨cb, e_cb⟩ : ∃ z, z = ((p2 &&& (255 : Int32)).toUInt32.toUInt16.toUInt32.toInt32) := ⟨_, rfl⟩
  have g106 : Go p e below s₁ (mkF m 21 #[iv p0, iv p1, iv p2, iv p3, iv p4, iv p5, iv k, iv ca, .unset, .unset, .unset, .unset, .unset, .unset] [(.int cb)]) A0 := by rw [e_cb]; exact g105
  have b_cb : ¬ ((255 : Int32) < cb) := by rw [e_cb]; exact own_c255 _
  have z_cb : ¬ (cb < (0 : Int32)) := by rw [e_cb]; exact own_c0 _
  have r_cb : nar .char cb = cb := by rw [e_cb]; exact own_narc _
  have g107 : Go p e below s₁ (mkF m 29 #[iv p0, iv p1, iv p2, iv p3, iv p4, iv p5, iv k, iv ca, iv cb, .unset, .unset, .unset, .unset, .unset] [(.int ((p3 &&& (255 : Int32)).toUInt32.toUInt16.toUInt32.toInt32))]) A0 := by
    intro t kont
    refine g106 t ?_
    refine XS.istore X0.here hx rfl (hb hby at_21) rfl (l' := #[iv p0, iv p1, iv p2, iv p3, iv p4, iv p5, iv k, iv ca, iv cb, .unset, .unset, .unset, .unset, .unset]) rfl ?_
    show Steps p.tables e below (s₁.setTop (mkF m 23 #[iv p0, iv p1, iv p2, iv p3, iv p4, iv p5, iv k, iv ca, iv cb, .unset, .unset, .unset, .unset, .unset] [])) _
    refine XS.iloadN X0.here hx rfl (hb hby at_23) rfl ?_
    show Steps p.tables e below (s₁.setTop (mkF m 24 #[iv p0, iv p1, iv p2, iv p3, iv p4, iv p5, iv k, iv ca, iv cb, .unset, .unset, .unset, .unset, .unset] [(.int p3)])) _
    refine XS.sipush X0.here hx rfl (hb hby at_24) ?_
    show Steps p.tables e below (s₁.setTop (mkF m 27 #[iv p0, iv p1, iv p2, iv p3, iv p4, iv p5, iv k, iv ca, iv cb, .unset, .unset, .unset, .unset, .unset] [(.int (255 : Int32)), (.int p3)])) _
    refine XS.iand X0.here hx rfl (hb hby at_27) rfl ?_
    show Steps p.tables e below (s₁.setTop (mkF m 28 #[iv p0, iv p1, iv p2, iv p3, iv p4, iv p5, iv k, iv ca, iv cb, .unset, .unset, .unset, .unset, .unset] [(.int (p3 &&& (255 : Int32)))])) _
    refine XS.i2c X0.here hx rfl (hb hby at_28) rfl ?_
    show Steps p.tables e below (s₁.setTop (mkF m 29 #[iv p0, iv p1, iv p2, iv p3, iv p4, iv p5, iv k, iv ca, iv cb, .unset, .unset, .unset, .unset, .unset] [(.int ((p3 &&& (255 : Int32)).toUInt32.toUInt16.toUInt32.toInt32))])) _
    exact kont
  obtain ⟨cc, e_cc⟩ : ∃ z, z = ((p3 &&& (255 : Int32)).toUInt32.toUInt16.toUInt32.toInt32) := ⟨_, rfl⟩
  have g108 : Go p e below s₁ (mkF m 29 #[iv p0, iv p1, iv p2, iv p3, iv p4, iv p5, iv k, iv ca, iv cb, .unset, .unset, .unset, .unset, .unset] [(.int cc)]) A0 := by rw [e_cc]; exact g107
  have b_cc : ¬ ((255 : Int32) < cc) := by rw [e_cc]; exact own_c255 _
  have z_cc : ¬ (cc < (0 : Int32)) := by rw [e_cc]; exact own_c0 _
  have r_cc : nar .char cc = cc := by rw [e_cc]; exact own_narc _
  have g109 : Go p e below s₁ (mkF m 38 #[iv p0, iv p1, iv p2, iv p3, iv p4, iv p5, iv k, iv ca, iv cb, iv cc, .unset, .unset, .unset, .unset] [(.int ((p4 &&& (255 : Int32)).toUInt32.toUInt16.toUInt32.toInt32))]) A0 := by
    intro t kont
    refine g108 t ?_
    refine XS.istore X0.here hx rfl (hb hby at_29) rfl (l' := #[iv p0, iv p1, iv p2, iv p3, iv p4, iv p5, iv k, iv ca, iv cb, iv cc, .unset, .unset, .unset, .unset]) rfl ?_
    show Steps p.tables e below (s₁.setTop (mkF m 31 #[iv p0, iv p1, iv p2, iv p3, iv p4, iv p5, iv k, iv ca, iv cb, iv cc, .unset, .unset, .unset, .unset] [])) _
    refine XS.iload X0.here hx rfl (hb hby at_31) rfl ?_
    show Steps p.tables e below (s₁.setTop (mkF m 33 #[iv p0, iv p1, iv p2, iv p3, iv p4, iv p5, iv k, iv ca, iv cb, iv cc, .unset, .unset, .unset, .unset] [(.int p4)])) _
    refine XS.sipush X0.here hx rfl (hb hby at_33) ?_
    show Steps p.tables e below (s₁.setTop (mkF m 36 #[iv p0, iv p1, iv p2, iv p3, iv p4, iv p5, iv k, iv ca, iv cb, iv cc, .unset, .unset, .unset, .unset] [(.int (255 : Int32)), (.int p4)])) _
    refine XS.iand X0.here hx rfl (hb hby at_36) rfl ?_
    show Steps p.tables e below (s₁.setTop (mkF m 37 #[iv p0, iv p1, iv p2, iv p3, iv p4, iv p5, iv k, iv ca, iv cb, iv cc, .unset, .unset, .unset, .unset] [(.int (p4 &&& (255 : Int32)))])) _
    refine XS.i2c X0.here hx rfl (hb hby at_37) rfl ?_
    show Steps p.tables e below (s₁.setTop (mkF m 38 #[iv p0, iv p1, iv p2, iv p3, iv p4, iv p5, iv k, iv ca, iv cb, iv cc, .unset, .unset, .unset, .unset] [(.int ((p4 &&& (255 : Int32)).toUInt32.toUInt16.toUInt32.toInt32))])) _
    exact kont
  obtain ⟨cd, e_cd⟩ : ∃ z, z = ((p4 &&& (255 : Int32)).toUInt32.toUInt16.toUInt32.toInt32) := ⟨_, rfl⟩
  have g110 : Go p e below s₁ (mkF m 38 #[iv p0, iv p1, iv p2, iv p3, iv p4, iv p5, iv k, iv ca, iv cb, iv cc, .unset, .unset, .unset, .unset] [(.int cd)]) A0 := by rw [e_cd]; exact g109
  have b_cd : ¬ ((255 : Int32) < cd) := by rw [e_cd]; exact own_c255 _
  have z_cd : ¬ (cd < (0 : Int32)) := by rw [e_cd]; exact own_c0 _
  have r_cd : nar .char cd = cd := by rw [e_cd]; exact own_narc _
  have g112 : Go p e below s₁ (mkF m 43 #[iv p0, iv p1, iv p2, iv p3, iv p4, iv p5, iv k, iv ca, iv cb, iv cc, iv cd, .unset, .unset, .unset] [(.int (1 : Int32)), (.int k)]) A0 := by
    intro t kont
    refine g110 t ?_
    refine XS.istore X0.here hx rfl (hb hby at_38) rfl (l' := #[iv p0, iv p1, iv p2, iv p3, iv p4, iv p5, iv k, iv ca, iv cb, iv cc, iv cd, .unset, .unset, .unset]) rfl ?_
    show Steps p.tables e below (s₁.setTop (mkF m 40 #[iv p0, iv p1, iv p2, iv p3, iv p4, iv p5, iv k, iv ca, iv cb, iv cc, iv cd, .unset, .unset, .unset] [])) _
    refine XS.iload X0.here hx rfl (hb hby at_40) rfl ?_
    show Steps p.tables e below (s₁.setTop (mkF m 42 #[iv p0, iv p1, iv p2, iv p3, iv p4, iv p5, iv k, iv ca, iv cb, iv cc, iv cd, .unset, .unset, .unset] [(.int k)])) _
    refine XS.iconst X0.here hx rfl (hb hby at_42) ?_
    show Steps p.tables e below (s₁.setTop (mkF m 43 #[iv p0, iv p1, iv p2, iv p3, iv p4, iv p5, iv k, iv ca, iv cb, iv cc, iv cd, .unset, .unset, .unset] [(.int (1 : Int32)), (.int k)])) _
    exact kont
  by_cases c111 : k = (1 : Int32)
  ·
    subst c111
    have g113 : Go p e below s₁ (mkF m 48 #[iv p0, iv p1, iv p2, iv p3, iv p4, iv p5, iv (1 : Int32), iv ca, iv cb, iv cc, iv cd, .unset, .unset, .unset] [(.int ca)]) A0 := by
      intro t kont
      refine g112 t ?_
      refine XS.icmpNo X0.here hx rfl (hb hby at_43) rfl (teq (rfl : (1 : Int32) = (1 : Int32))).2 ?_
      show Steps p.tables e below (s₁.setTop (mkF m 46 #[iv p0, iv p1, iv p2, iv p3, iv p4, iv p5, iv (1 : Int32), iv ca, iv cb, iv cc, iv cd, .unset, .unset, .unset] [])) _
      refine XS.iload X0.here hx rfl (hb hby at_46) rfl ?_
      show Steps p.tables e below (s₁.setTop (mkF m 48 #[iv p0, iv p1, iv p2, iv p3, iv p4, iv p5, iv (1 : Int32), iv ca, iv cb, iv cc, iv cd, .unset, .unset, .unset] [(.int ca)])) _
      exact kont
    obtain ⟨_, _, ⟨T114, L114, k114, n114⟩, -, X114, ⟨Lc114, hQ114, l114, y114, z114⟩, st114⟩ := Jvm.LawKit.callS X0 hx (y := (⟨"java/lang/String", "valueOf", "(C)Ljava/lang/String;"⟩ : MethodName)) hown (mvT hZ (hw _ (List.mem_of_getElem? (i := 0) rfl))) (mvT hZ (hw _ (List.mem_of_getElem? (i := 1) rfl))) (mvT hZ (hw _ (List.mem_of_getElem? (i := 2) rfl))) (mvT hZ (hw _ (List.mem_of_getElem? (i := 3) rfl))) (by decide) (backOf (W := 0) (rm_valC l Z a0 hw [] ca i_COMPACT_STRINGS h0 n0 O0 S0_ hcs (b_ca)) hZ (hw _ (List.mem_of_getElem? (i := 3) rfl)) (hw _ (List.mem_of_getElem? (i := 2) rfl)) (by decide) (by decide)) (g := (mkF m 48 #[iv p0, iv p1, iv p2, iv p3, iv p4, iv p5, iv (1 : Int32), iv ca, iv cb, iv cc, iv cd, .unset, .unset, .unset] [(.int ca)])) rfl (by rw [hml]; rfl) (argsL := [(.int ca)]) (rest := []) (lenOf pd_10 rfl) rfl (by show 2 * 0 + _ ≤ _; exact Nat.le_of_eq rfl) (hb hby at_48) (fun _ _ => ⟨rfl, e0, (by decide : 0 + 2 ≤ _), (by decide : 0 + 5 ≤ _)⟩)
    dsimp only [Pt.U, Pt.locs, Pt.cells, Pt.slots] at X114 l114 y114 z114 st114 hQ114
    subst l114 y114 z114
    obtain ⟨r115, r116, r117, rfl, M114, K114, y118, y119, y120, y121, y122, y123⟩ := hQ114
    have N114 := Fr.app N0 M114
    have R124 : CHr Z consts_1 s.vm h0 s.vm T114.heap := R0.trans (CHr.keep K114 sf0 R0.1)
    have O125 := O0.keep K114 all0
    have g126 : Go p e below T114 (mkF m 51 #[iv p0, iv p1, iv p2, iv p3, iv p4, iv p5, iv (1 : Int32), iv ca, iv cb, iv cc, iv cd, .unset, .unset, .unset] [(.ref r115)]) A0 := fun t kont => g113 t (st114 t kont)
    have g127 : Go p e below T114 (mkF m 162 #[iv p0, iv p1, iv p2, iv p3, iv p4, iv p5, iv (1 : Int32), iv ca, iv cb, iv cc, iv cd, rv r115, .unset, .unset] [(.int ((p5 &&& (255 : Int32)).toUInt32.toUInt16.toUInt32.toInt32))]) A0 := by
      intro t kont
      refine g126 t ?_
      refine XS.astore X114.here hx rfl (hb hby at_51) rfl rfl (l' := #[iv p0, iv p1, iv p2, iv p3, iv p4, iv p5, iv (1 : Int32), iv ca, iv cb, iv cc, iv cd, rv r115, .unset, .unset]) rfl ?_
      show Steps p.tables e below (T114.setTop (mkF m 53 #[iv p0, iv p1, iv p2, iv p3, iv p4, iv p5, iv (1 : Int32), iv ca, iv cb, iv cc, iv cd, rv r115, .unset, .unset] [])) _
      refine XS.goto X114.here hx rfl (pc0 := 53) (pc' := 155) rfl (hb hby at_53) (by decide) (by decide) ?_
      show Steps p.tables e below (T114.setTop (mkF m 155 #[iv p0, iv p1, iv p2, iv p3, iv p4, iv p5, iv (1 : Int32), iv ca, iv cb, iv cc, iv cd, rv r115, .unset, .unset] [])) _
      refine XS.iload X114.here hx rfl (hb hby at_155) rfl ?_
      show Steps p.tables e below (T114.setTop (mkF m 157 #[iv p0, iv p1, iv p2, iv p3, iv p4, iv p5, iv (1 : Int32), iv ca, iv cb, iv cc, iv cd, rv r115, .unset, .unset] [(.int p5)])) _
      refine XS.sipush X114.here hx rfl (hb hby at_157) ?_
      show Steps p.tables e below (T114.setTop (mkF m 160 #[iv p0, iv p1, iv p2, iv p3, iv p4, iv p5, iv (1 : Int32), iv ca, iv cb, iv cc, iv cd, rv r115, .unset, .unset] [(.int (255 : Int32)), (.int p5)])) _
      refine XS.iand X114.here hx rfl (hb hby at_160) rfl ?_
      show Steps p.tables e below (T114.setTop (mkF m 161 #[iv p0, iv p1, iv p2, iv p3, iv p4, iv p5, iv (1 : Int32), iv ca, iv cb, iv cc, iv cd, rv r115, .unset, .unset] [(.int (p5 &&& (255 : Int32)))])) _
      refine XS.i2c X114.here hx rfl (hb hby at_161) rfl ?_
      show Steps p.tables e below (T114.setTop (mkF m 162 #[iv p0, iv p1, iv p2, iv p3, iv p4, iv p5, iv (1 : Int32), iv ca, iv cb, iv cc, iv cd, rv r115, .unset, .unset] [(.int ((p5 &&& (255 : Int32)).toUInt32.toUInt16.toUInt32.toInt32))])) _
      exact kont
    obtain ⟨_, _, ⟨T128, L128, k128, n128⟩, -, X128, ⟨Lc128, hQ128, l128, y128, z128⟩, st128⟩ := Jvm.LawKit.callS X114 hx (y := (⟨"java/lang/String", "valueOf", "(C)Ljava/lang/String;"⟩ : MethodName)) hown (mvT hZ (hw _ (List.mem_of_getElem? (i := 0) rfl))) (mvT hZ (hw _ (List.mem_of_getElem? (i := 1) rfl))) (mvT hZ (hw _ (List.mem_of_getElem? (i := 2) rfl))) (mvT hZ (hw _ (List.mem_of_getElem? (i := 3) rfl))) (by decide) (backOf (W := 0) (rm_valC l Z a0 hw [] ((p5 &&& (255 : Int32)).toUInt32.toUInt16.toUInt32.toInt32) i_COMPACT_STRINGS T114.heap n0 O125 S0_ hcs (own_c255 p5)) hZ (hw _ (List.mem_of_getElem? (i := 3) rfl)) (hw _ (List.mem_of_getElem? (i := 2) rfl)) (by decide) (by decide)) (g := (mkF m 162 #[iv p0, iv p1, iv p2, iv p3, iv p4, iv p5, iv (1 : Int32), iv ca, iv cb, iv cc, iv cd, rv r115, .unset, .unset] [(.int ((p5 &&& (255 : Int32)).toUInt32.toUInt16.toUInt32.toInt32))])) rfl (by rw [hml]; rfl) (argsL := [(.int ((p5 &&& (255 : Int32)).toUInt32.toUInt16.toUInt32.toInt32))]) (rest := []) (lenOf pd_10 rfl) rfl (by show 2 * 0 + _ ≤ _; exact Nat.le_of_eq rfl) (hb hby at_162) (fun _ _ => ⟨rfl, rfl, (by decide : 2 + 2 ≤ _), (by decide : 5 + 5 ≤ _)⟩)
    dsimp only [Pt.U, Pt.locs, Pt.cells, Pt.slots] at X128 l128 y128 z128 st128 hQ128
    subst l128 y128 z128
    obtain ⟨r129, r130, r131, rfl, M128, K128, y132, y133, y134, y135, y136, y137⟩ := hQ128
    have N128 := Fr.app N114 M128
    have R138 : CHr Z consts_1 s.vm h0 s.vm T128.heap := R124.trans (CHr.keep K128 sf0 R124.1)
    have O139 := O125.keep K128 all0
    have g140 : Go p e below T128 (mkF m 165 #[iv p0, iv p1, iv p2, iv p3, iv p4, iv p5, iv (1 : Int32), iv ca, iv cb, iv cc, iv cd, rv r115, .unset, .unset] [(.ref r129)]) A0 := fun t kont => g127 t (st128 t kont)
    have g142 : Go p e below T128 (mkF m 177 #[iv p0, iv p1, iv p2, iv p3, iv p4, iv p5, iv (1 : Int32), iv ca, iv cb, iv cc, iv cd, rv r115, rv r129, .unset] [(.int (42 : Int32)), (.int ca)]) A0 := by
      intro t kont
      refine g140 t ?_
      refine XS.astore X128.here hx rfl (hb hby at_165) rfl rfl (l' := #[iv p0, iv p1, iv p2, iv p3, iv p4, iv p5, iv (1 : Int32), iv ca, iv cb, iv cc, iv cd, rv r115, rv r129, .unset]) rfl ?_
      show Steps p.tables e below (T128.setTop (mkF m 167 #[iv p0, iv p1, iv p2, iv p3, iv p4, iv p5, iv (1 : Int32), iv ca, iv cb, iv cc, iv cd, rv r115, rv r129, .unset] [])) _
      refine XS.iload X128.here hx rfl (hb hby at_167) rfl ?_
      show Steps p.tables e below (T128.setTop (mkF m 169 #[iv p0, iv p1, iv p2, iv p3, iv p4, iv p5, iv (1 : Int32), iv ca, iv cb, iv cc, iv cd, rv r115, rv r129, .unset] [(.int (1 : Int32))])) _
      refine XS.iconst X128.here hx rfl (hb hby at_169) ?_
      show Steps p.tables e below (T128.setTop (mkF m 170 #[iv p0, iv p1, iv p2, iv p3, iv p4, iv p5, iv (1 : Int32), iv ca, iv cb, iv cc, iv cd, rv r115, rv r129, .unset] [(.int (1 : Int32)), (.int (1 : Int32))])) _
      refine XS.icmpNo X128.here hx rfl (hb hby at_170) rfl (teq (by decide : (1 : Int32) = (1 : Int32))).2 ?_
      show Steps p.tables e below (T128.setTop (mkF m 173 #[iv p0, iv p1, iv p2, iv p3, iv p4, iv p5, iv (1 : Int32), iv ca, iv cb, iv cc, iv cd, rv r115, rv r129, .unset] [])) _
      refine XS.iload X128.here hx rfl (hb hby at_173) rfl ?_
      show Steps p.tables e below (T128.setTop (mkF m 175 #[iv p0, iv p1, iv p2, iv p3, iv p4, iv p5, iv (1 : Int32), iv ca, iv cb, iv cc, iv cd, rv r115, rv r129, .unset] [(.int ca)])) _
      refine XS.bipush X128.here hx rfl (hb hby at_175) ?_
      show Steps p.tables e below (T128.setTop (mkF m 177 #[iv p0, iv p1, iv p2, iv p3, iv p4, iv p5, iv (1 : Int32), iv ca, iv cb, iv cc, iv cd, rv r115, rv r129, .unset] [(.int (42 : Int32)), (.int ca)])) _
      exact kont
    by_cases c141 : ca = (42 : Int32)
    ·
      have g143 : Go p e below T128 (mkF m 193 #[iv p0, iv p1, iv p2, iv p3, iv p4, iv p5, iv (1 : Int32), iv ca, iv cb, iv cc, iv cd, rv r115, rv r129, iv (1 : Int32)] [(.int (1 : Int32))]) A0 := by
        intro t kont
        refine g142 t ?_
        refine XS.icmpNo X128.here hx rfl (hb hby at_177) rfl (teq c141).2 ?_
        show Steps p.tables e below (T128.setTop (mkF m 180 #[iv p0, iv p1, iv p2, iv p3, iv p4, iv p5, iv (1 : Int32), iv ca, iv cb, iv cc, iv cd, rv r115, rv r129, .unset] [])) _
        refine XS.iconst X128.here hx rfl (hb hby at_180) ?_
        show Steps p.tables e below (T128.setTop (mkF m 181 #[iv p0, iv p1, iv p2, iv p3, iv p4, iv p5, iv (1 : Int32), iv ca, iv cb, iv cc, iv cd, rv r115, rv r129, .unset] [(.int (1 : Int32))])) _
        refine XS.goto X128.here hx rfl (pc0 := 181) (pc' := 185) rfl (hb hby at_181) (by decide) (by decide) ?_
        show Steps p.tables e below (T128.setTop (mkF m 185 #[iv p0, iv p1, iv p2, iv p3, iv p4, iv p5, iv (1 : Int32), iv ca, iv cb, iv cc, iv cd, rv r115, rv r129, .unset] [(.int (1 : Int32))])) _
        refine XS.istore X128.here hx rfl (hb hby at_185) rfl (l' := #[iv p0, iv p1, iv p2, iv p3, iv p4, iv p5, iv (1 : Int32), iv ca, iv cb, iv cc, iv cd, rv r115, rv r129, iv (1 : Int32)]) rfl ?_
        show Steps p.tables e below (T128.setTop (mkF m 187 #[iv p0, iv p1, iv p2, iv p3, iv p4, iv p5, iv (1 : Int32), iv ca, iv cb, iv cc, iv cd, rv r115, rv r129, iv (1 : Int32)] [])) _
        refine XS.iload X128.here hx rfl (hb hby at_187) rfl ?_
        show Steps p.tables e below (T128.setTop (mkF m 189 #[iv p0, iv p1, iv p2, iv p3, iv p4, iv p5, iv (1 : Int32), iv ca, iv cb, iv cc, iv cd, rv r115, rv r129, iv (1 : Int32)] [(.int (1 : Int32))])) _
        refine XS.ifNo X128.here hx rfl (hb hby at_189) rfl ((if0 _ _).trans (feq (by decide : ¬ ((1 : Int32) = (0 : Int32)))).1) ?_
        show Steps p.tables e below (T128.setTop (mkF m 192 #[iv p0, iv p1, iv p2, iv p3, iv p4, iv p5, iv (1 : Int32), iv ca, iv cb, iv cc, iv cd, rv r115, rv r129, iv (1 : Int32)] [])) _
        refine XS.iconst X128.here hx rfl (hb hby at_192) ?_
        show Steps p.tables e below (T128.setTop (mkF m 193 #[iv p0, iv p1, iv p2, iv p3, iv p4, iv p5, iv (1 : Int32), iv ca, iv cb, iv cc, iv cd, rv r115, rv r129, iv (1 : Int32)] [(.int (1 : Int32))])) _
        exact kont
      obtain ⟨fs, hr, hrun, hended, hRW⟩ := X128.leaveW hS (Nat.le_trans hk (Nat.le_trans K114.1 K128.1)) (v := some (.int (1 : Int32))) (fun h => by rw [Bd.returns] at h; cases h)
      refine ⟨_, _, g143 _ (retN X128 hx (t := .boolean) Bd.returns (by simp) (hb hby at_193) hr), hrun, hended, _, _, rfl, ?_, ?_, hRW.1, hRW.2.1, hRW.2.2.1, hRW.2.2.2.mono (by decide) (by decide)⟩
      ·
        show Q_law Z p0 p1 p2 p3 p4 p5 i_COMPACT_STRINGS h0 n0 _ T128.heap _
        exact ⟨rfl, N128⟩
      ·
        rw [hh]
        show CHr Z consts_1 s.vm h0 T128.vm T128.heap
        exact R138.trans (CHv.at X128 hZ (own_EW hw) R138.1)
    have g144 : Go p e below T128 (mkF m 198 #[iv p0, iv p1, iv p2, iv p3, iv p4, iv p5, iv (1 : Int32), iv ca, iv cb, iv cc, iv cd, rv r115, rv r129, iv (0 : Int32)] [(.ref r115), (.ref r129)]) A0 := by
      intro t kont
      refine g142 t ?_
      refine XS.icmpYes X128.here hx rfl (pc0 := 177) (pc' := 184) rfl (hb hby at_177) rfl (feq c141).2 (by decide) (by decide) ?_
      show Steps p.tables e below (T128.setTop (mkF m 184 #[iv p0, iv p1, iv p2, iv p3, iv p4, iv p5, iv (1 : Int32), iv ca, iv cb, iv cc, iv cd, rv r115, rv r129, .unset] [])) _
      refine XS.iconst X128.here hx rfl (hb hby at_184) ?_
      show Steps p.tables e below (T128.setTop (mkF m 185 #[iv p0, iv p1, iv p2, iv p3, iv p4, iv p5, iv (1 : Int32), iv ca, iv cb, iv cc, iv cd, rv r115, rv r129, .unset] [(.int (0 : Int32))])) _
      refine XS.istore X128.here hx rfl (hb hby at_185) rfl (l' := #[iv p0, iv p1, iv p2, iv p3, iv p4, iv p5, iv (1 : Int32), iv ca, iv cb, iv cc, iv cd, rv r115, rv r129, iv (0 : Int32)]) rfl ?_
      show Steps p.tables e below (T128.setTop (mkF m 187 #[iv p0, iv p1, iv p2, iv p3, iv p4, iv p5, iv (1 : Int32), iv ca, iv cb, iv cc, iv cd, rv r115, rv r129, iv (0 : Int32)] [])) _
      refine XS.iload X128.here hx rfl (hb hby at_187) rfl ?_
      show Steps p.tables e below (T128.setTop (mkF m 189 #[iv p0, iv p1, iv p2, iv p3, iv p4, iv p5, iv (1 : Int32), iv ca, iv cb, iv cc, iv cd, rv r115, rv r129, iv (0 : Int32)] [(.int (0 : Int32))])) _
      refine XS.ifYes X128.here hx rfl (pc0 := 189) (pc' := 194) rfl (hb hby at_189) rfl ((if0 _ _).trans (teq (by decide : (0 : Int32) = (0 : Int32))).1) (by decide) (by decide) ?_
      show Steps p.tables e below (T128.setTop (mkF m 194 #[iv p0, iv p1, iv p2, iv p3, iv p4, iv p5, iv (1 : Int32), iv ca, iv cb, iv cc, iv cd, rv r115, rv r129, iv (0 : Int32)] [])) _
      refine XS.aload X128.here hx rfl (hb hby at_194) rfl rfl ?_
      show Steps p.tables e below (T128.setTop (mkF m 196 #[iv p0, iv p1, iv p2, iv p3, iv p4, iv p5, iv (1 : Int32), iv ca, iv cb, iv cc, iv cd, rv r115, rv r129, iv (0 : Int32)] [(.ref r129)])) _
      refine XS.aload X128.here hx rfl (hb hby at_196) rfl rfl ?_
      show Steps p.tables e below (T128.setTop (mkF m 198 #[iv p0, iv p1, iv p2, iv p3, iv p4, iv p5, iv (1 : Int32), iv ca, iv cb, iv cc, iv cd, rv r115, rv r129, iv (0 : Int32)] [(.ref r115), (.ref r129)])) _
      exact kont
    have y146 : Fld Z T128.heap r115 "java/lang/String" "coder" "B" (.int (0 : Int32)) := (y120.keep K128 nin0)
    have y147 : Fld Z T128.heap r115 "java/lang/String" "value" "[B" (.ref r116) := (y121.keep K128 nin0)
    have y148 : Exa Z T128.heap r115 "java/lang/String" := (y119.keep K128)
    have y149 : Arv Z T128.heap r116 r117 .byte (1 : Int32) [(.int (ca.toInt8.toInt32))] (.int (0 : Int32)) := (y123.keep K128 nin0)
    obtain ⟨_, _, ⟨T145, L145, k145, n145⟩, -, X145, hS145, hg145, ⟨Lc145, hQ145, l145, y145, z145, C145⟩, st145⟩ := callSS X128 hx (y := (⟨"com/example/rolegate/rolegate/Permission", "requireRoleName", "(Ljava/lang/String;Ljava/lang/String;)V"⟩ : MethodName)) hown (mvT hZ (hw _ (List.mem_of_getElem? (i := 26) rfl))) (mvT hZ (hw _ (List.mem_of_getElem? (i := 27) rfl))) (mvT hZ (hw _ (List.mem_of_getElem? (i := 28) rfl))) (mvT hZ (hw _ (List.mem_of_getElem? (i := 29) rfl))) (by decide) (backOfSH (W := 0) (rm_req1 l Z a0 hw [] r129 r115 r116 r117 i_COMPACT_STRINGS (ca.toInt8.toInt32) T128.heap n0 O139 S0_ hcs y146 y147 y148 y149 (own_byte_ne 42 (by decide) (by decide) z_ca b_ca c141)) hZ (hw _ (List.mem_of_getElem? (i := 29) rfl)) (hw _ (List.mem_of_getElem? (i := 28) rfl)) (by decide) (by decide) (own_EW hw) R138.1) (g := (mkF m 198 #[iv p0, iv p1, iv p2, iv p3, iv p4, iv p5, iv (1 : Int32), iv ca, iv cb, iv cc, iv cd, rv r115, rv r129, iv (0 : Int32)] [(.ref r115), (.ref r129)])) rfl (by rw [hml]; rfl) (argsL := [(.ref r129), (.ref r115)]) (rest := []) (lenOf pd_11 rfl) rfl (by show 2 * 0 + _ ≤ _; exact Nat.le_of_eq rfl) (hb hby at_198) (fun _ _ => ⟨rfl, rfl, (by decide : 4 + 2 ≤ _), (by decide : 10 + 8 ≤ _)⟩)
    dsimp only [Pt.U, Pt.locs, Pt.cells, Pt.slots] at X145 l145 y145 z145 st145 hQ145 hS145 hg145 C145
    subst l145 y145 z145
    obtain ⟨X145, hS, hZ, hown⟩ := rebS hS (n1 := T128.heap.size) (Nat.le_trans hk (Nat.le_trans K114.1 K128.1)) X145 hS145 hg145 hZ hown
    obtain ⟨rfl, M145, K145⟩ := hQ145
    have N145 := Fr.app N128 M145
    have R150 : CHr Z consts_1 s.vm h0 T145.vm T145.heap := R138.trans C145
    have O151 := O139.keep K145 all0
    have g152 : Go p e below T145 (mkF m 201 #[iv p0, iv p1, iv p2, iv p3, iv p4, iv p5, iv (1 : Int32), iv ca, iv cb, iv cc, iv cd, rv r115, rv r129, iv (0 : Int32)] []) A0 := fun t kont => g144 t (st145.trans kont)
    have g153 : Go p e below T145 (mkF m 202 #[iv p0, iv p1, iv p2, iv p3, iv p4, iv p5, iv (1 : Int32), iv ca, iv cb, iv cc, iv cd, rv r115, rv r129, iv (0 : Int32)] [(.int (1 : Int32))]) A0 := by
      intro t kont
      refine g152 t ?_
      refine XS.iconst X145.here hx rfl (hb hby at_201) ?_
      show Steps p.tables e below (T145.setTop (mkF m 202 #[iv p0, iv p1, iv p2, iv p3, iv p4, iv p5, iv (1 : Int32), iv ca, iv cb, iv cc, iv cd, rv r115, rv r129, iv (0 : Int32)] [(.int (1 : Int32))])) _
      exact kont
    obtain ⟨fs, hr, hrun, hended, hRW⟩ := X145.leaveW hS (Nat.le_refl _) (v := some (.int (1 : Int32))) (fun h => by rw [Bd.returns] at h; cases h)
    refine ⟨_, _, g153 _ (retN X145 hx (t := .boolean) Bd.returns (by simp) (hb hby at_202) hr), hrun, hended, _, _, rfl, ?_, ?_, hRW.1, hRW.2.1, hRW.2.2.1, hRW.2.2.2.mono (by decide) (by decide)⟩
    ·
      show Q_law Z p0 p1 p2 p3 p4 p5 i_COMPACT_STRINGS h0 n0 _ T145.heap _
      exact ⟨rfl, N145⟩
    ·
      rw [hh]
      show CHr Z consts_1 s.vm h0 T145.vm T145.heap
      exact R150.trans (CHv.at X145 hZ (own_EW hw) R150.1)
  have g155 : Go p e below s₁ (mkF m 59 #[iv p0, iv p1, iv p2, iv p3, iv p4, iv p5, iv k, iv ca, iv cb, iv cc, iv cd, .unset, .unset, .unset] [(.int (2 : Int32)), (.int k)]) A0 := by
    intro t kont
    refine g112 t ?_
    refine XS.icmpYes X0.here hx rfl (pc0 := 43) (pc' := 56) rfl (hb hby at_43) rfl (feq c111).2 (by decide) (by decide) ?_
    show Steps p.tables e below (s₁.setTop (mkF m 56 #[iv p0, iv p1, iv p2, iv p3, iv p4, iv p5, iv k, iv ca, iv cb, iv cc, iv cd, .unset, .unset, .unset] [])) _
    refine XS.iload X0.here hx rfl (hb hby at_56) rfl ?_
    show Steps p.tables e below (s₁.setTop (mkF m 58 #[iv p0, iv p1, iv p2, iv p3, iv p4, iv p5, iv k, iv ca, iv cb, iv cc, iv cd, .unset, .unset, .unset] [(.int k)])) _
    refine XS.iconst X0.here hx rfl (hb hby at_58) ?_
    show Steps p.tables e below (s₁.setTop (mkF m 59 #[iv p0, iv p1, iv p2, iv p3, iv p4, iv p5, iv k, iv ca, iv cb, iv cc, iv cd, .unset, .unset, .unset] [(.int (2 : Int32)), (.int k)])) _
    exact kont
  by_cases c154 : k = (2 : Int32)
  ·
    subst c154
    have g156 : Go p e below s₁ (mkF m 62 #[iv p0, iv p1, iv p2, iv p3, iv p4, iv p5, iv (2 : Int32), iv ca, iv cb, iv cc, iv cd, .unset, .unset, .unset] []) A0 := by
      intro t kont
      refine g155 t ?_
      refine XS.icmpNo X0.here hx rfl (hb hby at_59) rfl (teq (rfl : (2 : Int32) = (2 : Int32))).2 ?_
      show Steps p.tables e below (s₁.setTop (mkF m 62 #[iv p0, iv p1, iv p2, iv p3, iv p4, iv p5, iv (2 : Int32), iv ca, iv cb, iv cc, iv cd, .unset, .unset, .unset] [])) _
      exact kont
    obtain ⟨T157, h157, X157, e157, E157, A157, D157, -, st157⟩ := newO X0 hx hZ hown (hw _ (List.mem_of_getElem? (i := 46) rfl)) (hw _ (List.mem_of_getElem? (i := 10) rfl)) (hw _ (List.mem_of_getElem? (i := 2) rfl)) e0 (g := (mkF m 62 #[iv p0, iv p1, iv p2, iv p3, iv p4, iv p5, iv (2 : Int32), iv ca, iv cb, iv cc, iv cd, .unset, .unset, .unset] [])) rfl (hb hby at_62) (by decide) (by decide)
    obtain ⟨b157, gb157⟩ : ∃ z, z = h0.size := ⟨_, rfl⟩
    rw [← gb157] at A157 D157 st157
    have R158 : CHr Z consts_1 s.vm h0 s.vm h157 := R0.trans (CHr.ext E157 R0.1)
    have O159 := O0.ext E157
    have y160 : Fld Z h157 b157 "java/lang/String" "value" "[B" .null := D157 (Or.inr (hw _ (List.mem_of_getElem? (i := 23) rfl))) (ty := (.array .byte)) (by decide)
    have y161 : Fld Z h157 b157 "java/lang/String" "coder" "B" (.int (0 : Int32)) := D157 (Or.inr (hw _ (List.mem_of_getElem? (i := 25) rfl))) (ty := .byte) (by decide)
    have g162 : Go p e below T157 (mkF m 65 #[iv p0, iv p1, iv p2, iv p3, iv p4, iv p5, iv (2 : Int32), iv ca, iv cb, iv cc, iv cd, .unset, .unset, .unset] [(.ref b157)]) A0 := fun t kont => g156 t (st157 t kont)
    have g163 : Go p e below T157 (mkF m 67 #[iv p0, iv p1, iv p2, iv p3, iv p4, iv p5, iv (2 : Int32), iv ca, iv cb, iv cc, iv cd, .unset, .unset, .unset] [(.int (2 : Int32)), (.ref b157), (.ref b157)]) A0 := by
      intro t kont
      refine g162 t ?_
      refine XS.dup X157.here hx rfl (hb hby at_65) rfl rfl ?_
      show Steps p.tables e below (T157.setTop (mkF m 66 #[iv p0, iv p1, iv p2, iv p3, iv p4, iv p5, iv (2 : Int32), iv ca, iv cb, iv cc, iv cd, .unset, .unset, .unset] [(.ref b157), (.ref b157)])) _
      refine XS.iconst X157.here hx rfl (hb hby at_66) ?_
      show Steps p.tables e below (T157.setTop (mkF m 67 #[iv p0, iv p1, iv p2, iv p3, iv p4, iv p5, iv (2 : Int32), iv ca, iv cb, iv cc, iv cd, .unset, .unset, .unset] [(.int (2 : Int32)), (.ref b157), (.ref b157)])) _
      exact kont
    obtain ⟨T164, h164, k164, X164, e164, E164, A164, F164, st164⟩ := newPE X157 hx hZ (hw _ (List.mem_of_getElem? (i := 47) rfl)) e157 (g := (mkF m 67 #[iv p0, iv p1, iv p2, iv p3, iv p4, iv p5, iv (2 : Int32), iv ca, iv cb, iv cc, iv cd, .unset, .unset, .unset] [(.int (2 : Int32)), (.ref b157), (.ref b157)])) rfl (hb hby at_67) rfl (by decide) (cap := 2) (by decide) (by decide) (by decide) (by decide) (ad := "[C") (by decide)
    obtain ⟨b164, gb164⟩ : ∃ z, z = h157.size := ⟨_, rfl⟩
    rw [← gb164] at A164 F164 st164
    have R165 : CHr Z consts_1 s.vm h0 s.vm h164 := R158.trans (CHr.ext E164 R158.1)
    have O166 := O159.ext E164
    have y167 : Arv Z h164 b164 k164 .char (2 : Int32) [(.int (0 : Int32)), (.int (0 : Int32))] (.int (0 : Int32)) := (Arv.new A164 (by decide)).pad (pad_rep [] (.int (0 : Int32)) 2)
    have g168 : Go p e below T164 (mkF m 69 #[iv p0, iv p1, iv p2, iv p3, iv p4, iv p5, iv (2 : Int32), iv ca, iv cb, iv cc, iv cd, .unset, .unset, .unset] [(.ref b164), (.ref b157), (.ref b157)]) A0 := fun t kont => g163 t (st164 t kont)
    have g169 : Go p e below T164 (mkF m 73 #[iv p0, iv p1, iv p2, iv p3, iv p4, iv p5, iv (2 : Int32), iv ca, iv cb, iv cc, iv cd, .unset, .unset, .unset] [(.int ca), (.int (0 : Int32)), (.ref b164), (.ref b164), (.ref b157), (.ref b157)]) A0 := by
      intro t kont
      refine g168 t ?_
      refine XS.dup X164.here hx rfl (hb hby at_69) rfl rfl ?_
      show Steps p.tables e below (T164.setTop (mkF m 70 #[iv p0, iv p1, iv p2, iv p3, iv p4, iv p5, iv (2 : Int32), iv ca, iv cb, iv cc, iv cd, .unset, .unset, .unset] [(.ref b164), (.ref b164), (.ref b157), (.ref b157)])) _
      refine XS.iconst X164.here hx rfl (hb hby at_70) ?_
      show Steps p.tables e below (T164.setTop (mkF m 71 #[iv p0, iv p1, iv p2, iv p3, iv p4, iv p5, iv (2 : Int32), iv ca, iv cb, iv cc, iv cd, .unset, .unset, .unset] [(.int (0 : Int32)), (.ref b164), (.ref b164), (.ref b157), (.ref b157)])) _
      refine XS.iload X164.here hx rfl (hb hby at_71) rfl ?_
      show Steps p.tables e below (T164.setTop (mkF m 73 #[iv p0, iv p1, iv p2, iv p3, iv p4, iv p5, iv (2 : Int32), iv ca, iv cb, iv cc, iv cd, .unset, .unset, .unset] [(.int ca), (.int (0 : Int32)), (.ref b164), (.ref b164), (.ref b157), (.ref b157)])) _
      exact kont
    have ge171 : n0 ≤ b164 := Nat.le_trans (own_old_le O159) (Nat.le_of_eq gb164.symm)
    have zz170 := y167
    obtain ⟨cl170, Ar170, q170, S170, M170, H170, G170⟩ := zz170
    have in170 : ¬ ((0 : Int32) < 0 ∨ cl170.slots.size ≤ ((0 : Int32)).toNatClampNeg) := inb_of S170 ⟨by decide, by decide⟩
    obtain ⟨T170, h170, X170, e170, W170, st170⟩ := stC X164 hx hZ e164 Ar170 (j := (0 : Int32)) in170 (g := (mkF m 73 #[iv p0, iv p1, iv p2, iv p3, iv p4, iv p5, iv (2 : Int32), iv ca, iv cb, iv cc, iv cd, .unset, .unset, .unset] [(.int ca), (.int (0 : Int32)), (.ref b164), (.ref b164), (.ref b157), (.ref b157)])) rfl rfl (hb hby at_73)
    rw [show nar .char ca = ca from r_ca] at W170
    have R172 : CHr Z consts_1 s.vm h0 s.vm h170 := R165.trans (CHr.wr W170 (Safe.ext E164 R158.1 (Safe.new (Nat.le_of_eq gb164.symm))) R165.1)
    have O173 := O166.wr W170 ge171
    have y174 : Arv Z h170 b164 k164 .char (2 : Int32) [(.int ca), (.int (0 : Int32))] (.int (0 : Int32)) := Arv.set Ar170 q170 S170 M170 H170 G170 (own_ft_char (z := ca) r_ca) W170 0 rfl (Nat.le_of_ble_eq_true rfl)
    have N170 := Fr.snoc X170 N0 ge171
    have g175 : Go p e below T170 (mkF m 74 #[iv p0, iv p1, iv p2, iv p3, iv p4, iv p5, iv (2 : Int32), iv ca, iv cb, iv cc, iv cd, .unset, .unset, .unset] [(.ref b164), (.ref b157), (.ref b157)]) A0 := fun t kont => g169 t (st170 t kont)
    have g176 : Go p e below T170 (mkF m 78 #[iv p0, iv p1, iv p2, iv p3, iv p4, iv p5, iv (2 : Int32), iv ca, iv cb, iv cc, iv cd, .unset, .unset, .unset] [(.int cb), (.int (1 : Int32)), (.ref b164), (.ref b164), (.ref b157), (.ref b157)]) A0 := by
      intro t kont
      refine g175 t ?_
      refine XS.dup X170.here hx rfl (hb hby at_74) rfl rfl ?_
      show Steps p.tables e below (T170.setTop (mkF m 75 #[iv p0, iv p1, iv p2, iv p3, iv p4, iv p5, iv (2 : Int32), iv ca, iv cb, iv cc, iv cd, .unset, .unset, .unset] [(.ref b164), (.ref b164), (.ref b157), (.ref b157)])) _
      refine XS.iconst X170.here hx rfl (hb hby at_75) ?_
      show Steps p.tables e below (T170.setTop (mkF m 76 #[iv p0, iv p1, iv p2, iv p3, iv p4, iv p5, iv (2 : Int32), iv ca, iv cb, iv cc, iv cd, .unset, .unset, .unset] [(.int (1 : Int32)), (.ref b164), (.ref b164), (.ref b157), (.ref b157)])) _
      refine XS.iload X170.here hx rfl (hb hby at_76) rfl ?_
      show Steps p.tables e below (T170.setTop (mkF m 78 #[iv p0, iv p1, iv p2, iv p3, iv p4, iv p5, iv (2 : Int32), iv ca, iv cb, iv cc, iv cd, .unset, .unset, .unset] [(.int cb), (.int (1 : Int32)), (.ref b164), (.ref b164), (.ref b157), (.ref b157)])) _
      exact kont
    have zz177 := y174
    obtain ⟨cl177, Ar177, q177, S177, M177, H177, G177⟩ := zz177
    have in177 : ¬ ((1 : Int32) < 0 ∨ cl177.slots.size ≤ ((1 : Int32)).toNatClampNeg) := inb_of S177 ⟨by decide, by decide⟩
    obtain ⟨T177, h177, X177, e177, W177, st177⟩ := stC X170 hx hZ e170 Ar177 (j := (1 : Int32)) in177 (g := (mkF m 78 #[iv p0, iv p1, iv p2, iv p3, iv p4, iv p5, iv (2 : Int32), iv ca, iv cb, iv cc, iv cd, .unset, .unset, .unset] [(.int cb), (.int (1 : Int32)), (.ref b164), (.ref b164), (.ref b157), (.ref b157)])) rfl rfl (hb hby at_78)
    rw [show nar .char cb = cb from r_cb] at W177
    have sf179 : Safe Z consts_1 s.vm h170 b164 := (Safe.wr W170 (Safe.ext E164 R158.1 (Safe.new (Nat.le_of_eq gb164.symm))) R165.1 (Safe.ext E164 R158.1 (Safe.new (Nat.le_of_eq gb164.symm))))
    have R178 : CHr Z consts_1 s.vm h0 s.vm h177 := R172.trans (CHr.wr W177 sf179 R172.1)
    have O180 := O173.wr W177 ge171
    have y181 : Arv Z h177 b164 k164 .char (2 : Int32) [(.int ca), (.int cb)] (.int (0 : Int32)) := Arv.set Ar177 q177 S177 M177 H177 G177 (own_ft_char (z := cb) r_cb) W177 1 rfl (Nat.le_of_ble_eq_true rfl)
    have N177 := Fr.snoc X177 N170 ge171
    have g182 : Go p e below T177 (mkF m 79 #[iv p0, iv p1, iv p2, iv p3, iv p4, iv p5, iv (2 : Int32), iv ca, iv cb, iv cc, iv cd, .unset, .unset, .unset] [(.ref b164), (.ref b157), (.ref b157)]) A0 := fun t kont => g176 t (st177 t kont)
    have y184 : Fld Z h177 b157 "java/lang/String" "value" "[B" .null := (((y160.ext E164).other W170 (Or.inl (Nat.ne_of_lt (Nat.lt_of_lt_of_le A157.lt (Nat.le_of_eq gb164.symm))))).other W177 (Or.inl (Nat.ne_of_lt (Nat.lt_of_lt_of_le A157.lt (Nat.le_of_eq gb164.symm)))))
    have y185 : Fld Z h177 b157 "java/lang/String" "coder" "B" (.int (0 : Int32)) := (((y161.ext E164).other W170 (Or.inl (Nat.ne_of_lt (Nat.lt_of_lt_of_le A157.lt (Nat.le_of_eq gb164.symm))))).other W177 (Or.inl (Nat.ne_of_lt (Nat.lt_of_lt_of_le A157.lt (Nat.le_of_eq gb164.symm)))))
    have y186 : Exa Z h177 b157 "java/lang/String" := (((A157.ext E164).wr W170).wr W177)
    have ge187 : n0 ≤ b157 := Nat.le_trans (own_old_le O0) (Nat.le_of_eq gb157.symm)
    obtain ⟨_, _, ⟨T183, L183, k183, n183⟩, -, X183, ⟨Lc183, hQ183, l183, y183, z183⟩, st183⟩ := X177.specialBack hx (y := (⟨"java/lang/String", "<init>", "([C)V"⟩ : MethodName)) rfl hown (mvT hZ (hw _ (List.mem_of_getElem? (i := 48) rfl))) (mvT hZ (hw _ (List.mem_of_getElem? (i := 49) rfl))) (mvT hZ (hw _ (List.mem_of_getElem? (i := 50) rfl))) (by decide) (backOf (W := 1) (rm_sIni2 l Z a0 hw [] b157 b164 k164 ca cb i_COMPACT_STRINGS h177 n0 O180 y184 y185 y186 ge187 y181 (b_ca) (b_cb) S0_ hcs) hZ (hw _ (List.mem_of_getElem? (i := 50) rfl)) (hw _ (List.mem_of_getElem? (i := 2) rfl)) (by decide) (by decide)) (g := (mkF m 79 #[iv p0, iv p1, iv p2, iv p3, iv p4, iv p5, iv (2 : Int32), iv ca, iv cb, iv cc, iv cd, .unset, .unset, .unset] [(.ref b164), (.ref b157), (.ref b157)])) rfl (by rw [hml]; rfl) (Steps.refl _) (a := b157) (argsL := [(.ref b164)]) (rest := [(.ref b157)]) (lenOf pd_12 rfl) rfl (by show 2 * 0 + _ ≤ _; exact Nat.le_of_eq rfl) (hb hby at_79) (fun _ _ => ⟨rfl, e177, (by decide : 2 + 1 ≤ _), (by decide : 6 + 2 ≤ _)⟩)
    dsimp only [Pt.U, Pt.locs, Pt.cells, Pt.slots] at X183 l183 y183 z183 st183 hQ183
    subst l183 y183 z183
    obtain ⟨r188, r189, rfl, M183, K183, y190, y191, y192, y193, y194⟩ := hQ183
    have N183 := Fr.app N177 M183
    have sf196 : Safe Z consts_1 s.vm h177 b157 := (Safe.wr W177 sf179 R172.1 (Safe.wr W170 (Safe.ext E164 R158.1 (Safe.new (Nat.le_of_eq gb164.symm))) R165.1 (Safe.ext E164 R158.1 (Safe.ext E157 R0.1 (Safe.new (Nat.le_of_eq gb157.symm))))))
    have R195 : CHr Z consts_1 s.vm h0 s.vm T183.heap := R178.trans (CHr.keep K183 (sfS sf196 sf0) R178.1)
    have O197 := O180.keep K183 (allS ge187 all0)
    have g198 : Go p e below T183 (mkF m 82 #[iv p0, iv p1, iv p2, iv p3, iv p4, iv p5, iv (2 : Int32), iv ca, iv cb, iv cc, iv cd, .unset, .unset, .unset] [(.ref b157)]) A0 := fun t kont => g182 t (st183.trans kont)
    have g199 : Go p e below T183 (mkF m 162 #[iv p0, iv p1, iv p2, iv p3, iv p4, iv p5, iv (2 : Int32), iv ca, iv cb, iv cc, iv cd, rv b157, .unset, .unset] [(.int ((p5 &&& (255 : Int32)).toUInt32.toUInt16.toUInt32.toInt32))]) A0 := by
      intro t kont
      refine g198 t ?_
      refine XS.astore X183.here hx rfl (hb hby at_82) rfl rfl (l' := #[iv p0, iv p1, iv p2, iv p3, iv p4, iv p5, iv (2 : Int32), iv ca, iv cb, iv cc, iv cd, rv b157, .unset, .unset]) rfl ?_
      show Steps p.tables e below (T183.setTop (mkF m 84 #[iv p0, iv p1, iv p2, iv p3, iv p4, iv p5, iv (2 : Int32), iv ca, iv cb, iv cc, iv cd, rv b157, .unset, .unset] [])) _
      refine XS.goto X183.here hx rfl (pc0 := 84) (pc' := 155) rfl (hb hby at_84) (by decide) (by decide) ?_
      show Steps p.tables e below (T183.setTop (mkF m 155 #[iv p0, iv p1, iv p2, iv p3, iv p4, iv p5, iv (2 : Int32), iv ca, iv cb, iv cc, iv cd, rv b157, .unset, .unset] [])) _
      refine XS.iload X183.here hx rfl (hb hby at_155) rfl ?_
      show Steps p.tables e below (T183.setTop (mkF m 157 #[iv p0, iv p1, iv p2, iv p3, iv p4, iv p5, iv (2 : Int32), iv ca, iv cb, iv cc, iv cd, rv b157, .unset, .unset] [(.int p5)])) _
      refine XS.sipush X183.here hx rfl (hb hby at_157) ?_
      show Steps p.tables e below (T183.setTop (mkF m 160 #[iv p0, iv p1, iv p2, iv p3, iv p4, iv p5, iv (2 : Int32), iv ca, iv cb, iv cc, iv cd, rv b157, .unset, .unset] [(.int (255 : Int32)), (.int p5)])) _
      refine XS.iand X183.here hx rfl (hb hby at_160) rfl ?_
      show Steps p.tables e below (T183.setTop (mkF m 161 #[iv p0, iv p1, iv p2, iv p3, iv p4, iv p5, iv (2 : Int32), iv ca, iv cb, iv cc, iv cd, rv b157, .unset, .unset] [(.int (p5 &&& (255 : Int32)))])) _
      refine XS.i2c X183.here hx rfl (hb hby at_161) rfl ?_
      show Steps p.tables e below (T183.setTop (mkF m 162 #[iv p0, iv p1, iv p2, iv p3, iv p4, iv p5, iv (2 : Int32), iv ca, iv cb, iv cc, iv cd, rv b157, .unset, .unset] [(.int ((p5 &&& (255 : Int32)).toUInt32.toUInt16.toUInt32.toInt32))])) _
      exact kont
    obtain ⟨_, _, ⟨T200, L200, k200, n200⟩, -, X200, ⟨Lc200, hQ200, l200, y200, z200⟩, st200⟩ := Jvm.LawKit.callS X183 hx (y := (⟨"java/lang/String", "valueOf", "(C)Ljava/lang/String;"⟩ : MethodName)) hown (mvT hZ (hw _ (List.mem_of_getElem? (i := 0) rfl))) (mvT hZ (hw _ (List.mem_of_getElem? (i := 1) rfl))) (mvT hZ (hw _ (List.mem_of_getElem? (i := 2) rfl))) (mvT hZ (hw _ (List.mem_of_getElem? (i := 3) rfl))) (by decide) (backOf (W := 0) (rm_valC l Z a0 hw [] ((p5 &&& (255 : Int32)).toUInt32.toUInt16.toUInt32.toInt32) i_COMPACT_STRINGS T183.heap n0 O197 S0_ hcs (own_c255 p5)) hZ (hw _ (List.mem_of_getElem? (i := 3) rfl)) (hw _ (List.mem_of_getElem? (i := 2) rfl)) (by decide) (by decide)) (g := (mkF m 162 #[iv p0, iv p1, iv p2, iv p3, iv p4, iv p5, iv (2 : Int32), iv ca, iv cb, iv cc, iv cd, rv b157, .unset, .unset] [(.int ((p5 &&& (255 : Int32)).toUInt32.toUInt16.toUInt32.toInt32))])) rfl (by rw [hml]; rfl) (argsL := [(.int ((p5 &&& (255 : Int32)).toUInt32.toUInt16.toUInt32.toInt32))]) (rest := []) (lenOf pd_10 rfl) rfl (by show 2 * 0 + _ ≤ _; exact Nat.le_of_eq rfl) (hb hby at_162) (fun _ _ => ⟨rfl, rfl, (by decide : 3 + 2 ≤ _), (by decide : 8 + 5 ≤ _)⟩)
    dsimp only [Pt.U, Pt.locs, Pt.cells, Pt.slots] at X200 l200 y200 z200 st200 hQ200
    subst l200 y200 z200
    obtain ⟨r201, r202, r203, rfl, M200, K200, y204, y205, y206, y207, y208, y209⟩ := hQ200
    have N200 := Fr.app N183 M200
    have R210 : CHr Z consts_1 s.vm h0 s.vm T200.heap := R195.trans (CHr.keep K200 sf0 R195.1)
    have O211 := O197.keep K200 all0
    have g212 : Go p e below T200 (mkF m 165 #[iv p0, iv p1, iv p2, iv p3, iv p4, iv p5, iv (2 : Int32), iv ca, iv cb, iv cc, iv cd, rv b157, .unset, .unset] [(.ref r201)]) A0 := fun t kont => g199 t (st200 t kont)
    have g213 : Go p e below T200 (mkF m 198 #[iv p0, iv p1, iv p2, iv p3, iv p4, iv p5, iv (2 : Int32), iv ca, iv cb, iv cc, iv cd, rv b157, rv r201, iv (0 : Int32)] [(.ref b157), (.ref r201)]) A0 := by
      intro t kont
      refine g212 t ?_
      refine XS.astore X200.here hx rfl (hb hby at_165) rfl rfl (l' := #[iv p0, iv p1, iv p2, iv p3, iv p4, iv p5, iv (2 : Int32), iv ca, iv cb, iv cc, iv cd, rv b157, rv r201, .unset]) rfl ?_
      show Steps p.tables e below (T200.setTop (mkF m 167 #[iv p0, iv p1, iv p2, iv p3, iv p4, iv p5, iv (2 : Int32), iv ca, iv cb, iv cc, iv cd, rv b157, rv r201, .unset] [])) _
      refine XS.iload X200.here hx rfl (hb hby at_167) rfl ?_
      show Steps p.tables e below (T200.setTop (mkF m 169 #[iv p0, iv p1, iv p2, iv p3, iv p4, iv p5, iv (2 : Int32), iv ca, iv cb, iv cc, iv cd, rv b157, rv r201, .unset] [(.int (2 : Int32))])) _
      refine XS.iconst X200.here hx rfl (hb hby at_169) ?_
      show Steps p.tables e below (T200.setTop (mkF m 170 #[iv p0, iv p1, iv p2, iv p3, iv p4, iv p5, iv (2 : Int32), iv ca, iv cb, iv cc, iv cd, rv b157, rv r201, .unset] [(.int (1 : Int32)), (.int (2 : Int32))])) _
      refine XS.icmpYes X200.here hx rfl (pc0 := 170) (pc' := 184) rfl (hb hby at_170) rfl (feq (by decide : ¬ ((2 : Int32) = (1 : Int32)))).2 (by decide) (by decide) ?_
      show Steps p.tables e below (T200.setTop (mkF m 184 #[iv p0, iv p1, iv p2, iv p3, iv p4, iv p5, iv (2 : Int32), iv ca, iv cb, iv cc, iv cd, rv b157, rv r201, .unset] [])) _
      refine XS.iconst X200.here hx rfl (hb hby at_184) ?_
      show Steps p.tables e below (T200.setTop (mkF m 185 #[iv p0, iv p1, iv p2, iv p3, iv p4, iv p5, iv (2 : Int32), iv ca, iv cb, iv cc, iv cd, rv b157, rv r201, .unset] [(.int (0 : Int32))])) _
      refine XS.istore X200.here hx rfl (hb hby at_185) rfl (l' := #[iv p0, iv p1, iv p2, iv p3, iv p4, iv p5, iv (2 : Int32), iv ca, iv cb, iv cc, iv cd, rv b157, rv r201, iv (0 : Int32)]) rfl ?_
      show Steps p.tables e below (T200.setTop (mkF m 187 #[iv p0, iv p1, iv p2, iv p3, iv p4, iv p5, iv (2 : Int32), iv ca, iv cb, iv cc, iv cd, rv b157, rv r201, iv (0 : Int32)] [])) _
      refine XS.iload X200.here hx rfl (hb hby at_187) rfl ?_
      show Steps p.tables e below (T200.setTop (mkF m 189 #[iv p0, iv p1, iv p2, iv p3, iv p4, iv p5, iv (2 : Int32), iv ca, iv cb, iv cc, iv cd, rv b157, rv r201, iv (0 : Int32)] [(.int (0 : Int32))])) _
      refine XS.ifYes X200.here hx rfl (pc0 := 189) (pc' := 194) rfl (hb hby at_189) rfl ((if0 _ _).trans (teq (by decide : (0 : Int32) = (0 : Int32))).1) (by decide) (by decide) ?_
      show Steps p.tables e below (T200.setTop (mkF m 194 #[iv p0, iv p1, iv p2, iv p3, iv p4, iv p5, iv (2 : Int32), iv ca, iv cb, iv cc, iv cd, rv b157, rv r201, iv (0 : Int32)] [])) _
      refine XS.aload X200.here hx rfl (hb hby at_194) rfl rfl ?_
      show Steps p.tables e below (T200.setTop (mkF m 196 #[iv p0, iv p1, iv p2, iv p3, iv p4, iv p5, iv (2 : Int32), iv ca, iv cb, iv cc, iv cd, rv b157, rv r201, iv (0 : Int32)] [(.ref r201)])) _
      refine XS.aload X200.here hx rfl (hb hby at_196) rfl rfl ?_
      show Steps p.tables e below (T200.setTop (mkF m 198 #[iv p0, iv p1, iv p2, iv p3, iv p4, iv p5, iv (2 : Int32), iv ca, iv cb, iv cc, iv cd, rv b157, rv r201, iv (0 : Int32)] [(.ref b157), (.ref r201)])) _
      exact kont
    have y215 : Fld Z T200.heap b157 "java/lang/String" "coder" "B" (.int (0 : Int32)) := (y191.keep K200 nin0)
    have y216 : Fld Z T200.heap b157 "java/lang/String" "value" "[B" (.ref r188) := (y192.keep K200 nin0)
    have y217 : Exa Z T200.heap b157 "java/lang/String" := (y190.keep K200)
    have y218 : Arv Z T200.heap r188 r189 .byte (2 : Int32) [(.int (ca.toInt8.toInt32)), (.int (cb.toInt8.toInt32))] (.int (0 : Int32)) := (y194.keep K200 nin0)
    obtain ⟨_, _, ⟨T214, L214, k214, n214⟩, -, X214, hS214, hg214, ⟨Lc214, hQ214, l214, y214, z214, C214⟩, st214⟩ := callSS X200 hx (y := (⟨"com/example/rolegate/rolegate/Permission", "requireRoleName", "(Ljava/lang/String;Ljava/lang/String;)V"⟩ : MethodName)) hown (mvT hZ (hw _ (List.mem_of_getElem? (i := 26) rfl))) (mvT hZ (hw _ (List.mem_of_getElem? (i := 27) rfl))) (mvT hZ (hw _ (List.mem_of_getElem? (i := 28) rfl))) (mvT hZ (hw _ (List.mem_of_getElem? (i := 29) rfl))) (by decide) (backOfSH (W := 0) (rm_req2 l Z a0 hw [] r201 b157 r188 r189 i_COMPACT_STRINGS [(.int (ca.toInt8.toInt32)), (.int (cb.toInt8.toInt32))] T200.heap n0 O211 S0_ hcs y215 y216 y217 y218) hZ (hw _ (List.mem_of_getElem? (i := 29) rfl)) (hw _ (List.mem_of_getElem? (i := 28) rfl)) (by decide) (by decide) (own_EW hw) R210.1) (g := (mkF m 198 #[iv p0, iv p1, iv p2, iv p3, iv p4, iv p5, iv (2 : Int32), iv ca, iv cb, iv cc, iv cd, rv b157, rv r201, iv (0 : Int32)] [(.ref b157), (.ref r201)])) rfl (by rw [hml]; rfl) (argsL := [(.ref r201), (.ref b157)]) (rest := []) (lenOf pd_11 rfl) rfl (by show 2 * 0 + _ ≤ _; exact Nat.le_of_eq rfl) (hb hby at_198) (fun _ _ => ⟨rfl, rfl, (by decide : 5 + 2 ≤ _), (by decide : 13 + 8 ≤ _)⟩)
    dsimp only [Pt.U, Pt.locs, Pt.cells, Pt.slots] at X214 l214 y214 z214 st214 hQ214 hS214 hg214 C214
    subst l214 y214 z214
    obtain ⟨X214, hS, hZ, hown⟩ := rebS hS (n1 := T200.heap.size) (Nat.le_trans hk (Nat.le_trans (Nat.le_trans (Nat.le_trans (Nat.le_trans (Nat.le_trans E157.1 E164.1) (Keep.of_wr W170).1) (Keep.of_wr W177).1) K183.1) K200.1)) X214 hS214 hg214 hZ hown
    obtain ⟨rfl, M214, K214⟩ := hQ214
    have N214 := Fr.app N200 M214
    have R219 : CHr Z consts_1 s.vm h0 T214.vm T214.heap := R210.trans C214
    have O220 := O211.keep K214 all0
    have g221 : Go p e below T214 (mkF m 201 #[iv p0, iv p1, iv p2, iv p3, iv p4, iv p5, iv (2 : Int32), iv ca, iv cb, iv cc, iv cd, rv b157, rv r201, iv (0 : Int32)] []) A0 := fun t kont => g213 t (st214.trans kont)
    have g222 : Go p e below T214 (mkF m 202 #[iv p0, iv p1, iv p2, iv p3, iv p4, iv p5, iv (2 : Int32), iv ca, iv cb, iv cc, iv cd, rv b157, rv r201, iv (0 : Int32)] [(.int (1 : Int32))]) A0 := by
      intro t kont
      refine g221 t ?_
      refine XS.iconst X214.here hx rfl (hb hby at_201) ?_
      show Steps p.tables e below (T214.setTop (mkF m 202 #[iv p0, iv p1, iv p2, iv p3, iv p4, iv p5, iv (2 : Int32), iv ca, iv cb, iv cc, iv cd, rv b157, rv r201, iv (0 : Int32)] [(.int (1 : Int32))])) _
      exact kont
    obtain ⟨fs, hr, hrun, hended, hRW⟩ := X214.leaveW hS (Nat.le_refl _) (v := some (.int (1 : Int32))) (fun h => by rw [Bd.returns] at h; cases h)
    refine ⟨_, _, g222 _ (retN X214 hx (t := .boolean) Bd.returns (by simp) (hb hby at_202) hr), hrun, hended, _, _, rfl, ?_, ?_, hRW.1, hRW.2.1, hRW.2.2.1, hRW.2.2.2.mono (by decide) (by decide)⟩
    ·
      show Q_law Z p0 p1 p2 p3 p4 p5 i_COMPACT_STRINGS h0 n0 _ T214.heap _
      exact ⟨rfl, N214⟩
    ·
      rw [hh]
      show CHr Z consts_1 s.vm h0 T214.vm T214.heap
      exact R219.trans (CHv.at X214 hZ (own_EW hw) R219.1)
  have g224 : Go p e below s₁ (mkF m 90 #[iv p0, iv p1, iv p2, iv p3, iv p4, iv p5, iv k, iv ca, iv cb, iv cc, iv cd, .unset, .unset, .unset] [(.int (3 : Int32)), (.int k)]) A0 := by
    intro t kont
    refine g155 t ?_
    refine XS.icmpYes X0.here hx rfl (pc0 := 59) (pc' := 87) rfl (hb hby at_59) rfl (feq c154).2 (by decide) (by decide) ?_
    show Steps p.tables e below (s₁.setTop (mkF m 87 #[iv p0, iv p1, iv p2, iv p3, iv p4, iv p5, iv k, iv ca, iv cb, iv cc, iv cd, .unset, .unset, .unset] [])) _
    refine XS.iload X0.here hx rfl (hb hby at_87) rfl ?_
    show Steps p.tables e below (s₁.setTop (mkF m 89 #[iv p0, iv p1, iv p2, iv p3, iv p4, iv p5, iv k, iv ca, iv cb, iv cc, iv cd, .unset, .unset, .unset] [(.int k)])) _
    refine XS.iconst X0.here hx rfl (hb hby at_89) ?_
    show Steps p.tables e below (s₁.setTop (mkF m 90 #[iv p0, iv p1, iv p2, iv p3, iv p4, iv p5, iv k, iv ca, iv cb, iv cc, iv cd, .unset, .unset, .unset] [(.int (3 : Int32)), (.int k)])) _
    exact kont
  by_cases c223 : k = (3 : Int32)
  ·
    subst c223
    have g225 : Go p e below s₁ (mkF m 93 #[iv p0, iv p1, iv p2, iv p3, iv p4, iv p5, iv (3 : Int32), iv ca, iv cb, iv cc, iv cd, .unset, .unset, .unset] []) A0 := by
      intro t kont
      refine g224 t ?_
      refine XS.icmpNo X0.here hx rfl (hb hby at_90) rfl (teq (rfl : (3 : Int32) = (3 : Int32))).2 ?_
      show Steps p.tables e below (s₁.setTop (mkF m 93 #[iv p0, iv p1, iv p2, iv p3, iv p4, iv p5, iv (3 : Int32), iv ca, iv cb, iv cc, iv cd, .unset, .unset, .unset] [])) _
      exact kont
    obtain ⟨T226, h226, X226, e226, E226, A226, D226, -, st226⟩ := newO X0 hx hZ hown (hw _ (List.mem_of_getElem? (i := 46) rfl)) (hw _ (List.mem_of_getElem? (i := 10) rfl)) (hw _ (List.mem_of_getElem? (i := 2) rfl)) e0 (g := (mkF m 93 #[iv p0, iv p1, iv p2, iv p3, iv p4, iv p5, iv (3 : Int32), iv ca, iv cb, iv cc, iv cd, .unset, .unset, .unset] [])) rfl (hb hby at_93) (by decide) (by decide)
    obtain ⟨b226, gb226⟩ : ∃ z, z = h0.size := ⟨_, rfl⟩
    rw [← gb226] at A226 D226 st226
    have R227 : CHr Z consts_1 s.vm h0 s.vm h226 := R0.trans (CHr.ext E226 R0.1)
    have O228 := O0.ext E226
    have y229 : Fld Z h226 b226 "java/lang/String" "value" "[B" .null := D226 (Or.inr (hw _ (List.mem_of_getElem? (i := 23) rfl))) (ty := (.array .byte)) (by decide)
    have y230 : Fld Z h226 b226 "java/lang/String" "coder" "B" (.int (0 : Int32)) := D226 (Or.inr (hw _ (List.mem_of_getElem? (i := 25) rfl))) (ty := .byte) (by decide)
    have g231 : Go p e below T226 (mkF m 96 #[iv p0, iv p1, iv p2, iv p3, iv p4, iv p5, iv (3 : Int32), iv ca, iv cb, iv cc, iv cd, .unset, .unset, .unset] [(.ref b226)]) A0 := fun t kont => g225 t (st226 t kont)
    have g232 : Go p e below T226 (mkF m 98 #[iv p0, iv p1, iv p2, iv p3, iv p4, iv p5, iv (3 : Int32), iv ca, iv cb, iv cc, iv cd, .unset, .unset, .unset] [(.int (3 : Int32)), (.ref b226), (.ref b226)]) A0 := by
      intro t kont
      refine g231 t ?_
      refine XS.dup X226.here hx rfl (hb hby at_96) rfl rfl ?_
      show Steps p.tables e below (T226.setTop (mkF m 97 #[iv p0, iv p1, iv p2, iv p3, iv p4, iv p5, iv (3 : Int32), iv ca, iv cb, iv cc, iv cd, .unset, .unset, .unset] [(.ref b226), (.ref b226)])) _
      refine XS.iconst X226.here hx rfl (hb hby at_97) ?_
      show Steps p.tables e below (T226.setTop (mkF m 98 #[iv p0, iv p1, iv p2, iv p3, iv p4, iv p5, iv (3 : Int32), iv ca, iv cb, iv cc, iv cd, .unset, .unset, .unset] [(.int (3 : Int32)), (.ref b226), (.ref b226)])) _
      exact kont
    obtain ⟨T233, h233, k233, X233, e233, E233, A233, F233, st233⟩ := newPE X226 hx hZ (hw _ (List.mem_of_getElem? (i := 47) rfl)) e226 (g := (mkF m 98 #[iv p0, iv p1, iv p2, iv p3, iv p4, iv p5, iv (3 : Int32), iv ca, iv cb, iv cc, iv cd, .unset, .unset, .unset] [(.int (3 : Int32)), (.ref b226), (.ref b226)])) rfl (hb hby at_98) rfl (by decide) (cap := 3) (by decide) (by decide) (by decide) (by decide) (ad := "[C") (by decide)
    obtain ⟨b233, gb233⟩ : ∃ z, z = h226.size := ⟨_, rfl⟩
    rw [← gb233] at A233 F233 st233
    have R234 : CHr Z consts_1 s.vm h0 s.vm h233 := R227.trans (CHr.ext E233 R227.1)
    have O235 := O228.ext E233
    have y236 : Arv Z h233 b233 k233 .char (3 : Int32) [(.int (0 : Int32)), (.int (0 : Int32)), (.int (0 : Int32))] (.int (0 : Int32)) := (Arv.new A233 (by decide)).pad (pad_rep [] (.int (0 : Int32)) 3)
    have g237 : Go p e below T233 (mkF m 100 #[iv p0, iv p1, iv p2, iv p3, iv p4, iv p5, iv (3 : Int32), iv ca, iv cb, iv cc, iv cd, .unset, .unset, .unset] [(.ref b233), (.ref b226), (.ref b226)]) A0 := fun t kont => g232 t (st233 t kont)
    have g238 : Go p e below T233 (mkF m 104 #[iv p0, iv p1, iv p2, iv p3, iv p4, iv p5, iv (3 : Int32), iv ca, iv cb, iv cc, iv cd, .unset, .unset, .unset] [(.int ca), (.int (0 : Int32)), (.ref b233), (.ref b233), (.ref b226), (.ref b226)]) A0 := by
      intro t kont
      refine g237 t ?_
      refine XS.dup X233.here hx rfl (hb hby at_100) rfl rfl ?_
      show Steps p.tables e below (T233.setTop (mkF m 101 #[iv p0, iv p1, iv p2, iv p3, iv p4, iv p5, iv (3 : Int32), iv ca, iv cb, iv cc, iv cd, .unset, .unset, .unset] [(.ref b233), (.ref b233), (.ref b226), (.ref b226)])) _
      refine XS.iconst X233.here hx rfl (hb hby at_101) ?_
      show Steps p.tables e below (T233.setTop (mkF m 102 #[iv p0, iv p1, iv p2, iv p3, iv p4, iv p5, iv (3 : Int32), iv ca, iv cb, iv cc, iv cd, .unset, .unset, .unset] [(.int (0 : Int32)), (.ref b233), (.ref b233), (.ref b226), (.ref b226)])) _
      refine XS.iload X233.here hx rfl (hb hby at_102) rfl ?_
      show Steps p.tables e below (T233.setTop (mkF m 104 #[iv p0, iv p1, iv p2, iv p3, iv p4, iv p5, iv (3 : Int32), iv ca, iv cb, iv cc, iv cd, .unset, .unset, .unset] [(.int ca), (.int (0 : Int32)), (.ref b233), (.ref b233), (.ref b226), (.ref b226)])) _
      exact kont
    have ge240 : n0 ≤ b233 := Nat.le_trans (own_old_le O228) (Nat.le_of_eq gb233.symm)
    have zz239 := y236
    obtain ⟨cl239, Ar239, q239, S239, M239, H239, G239⟩ := zz239
    have in239 : ¬ ((0 : Int32) < 0 ∨ cl239.slots.size ≤ ((0 : Int32)).toNatClampNeg) := inb_of S239 ⟨by decide, by decide⟩
    obtain ⟨T239, h239, X239, e239, W239, st239⟩ := stC X233 hx hZ e233 Ar239 (j := (0 : Int32)) in239 (g := (mkF m 104 #[iv p0, iv p1, iv p2, iv p3, iv p4, iv p5, iv (3 : Int32), iv ca, iv cb, iv cc, iv cd, .unset, .unset, .unset] [(.int ca), (.int (0 : Int32)), (.ref b233), (.ref b233), (.ref b226), (.ref b226)])) rfl rfl (hb hby at_104)
    rw [show nar .char ca = ca from r_ca] at W239
    have R241 : CHr Z consts_1 s.vm h0 s.vm h239 := R234.trans (CHr.wr W239 (Safe.ext E233 R227.1 (Safe.new (Nat.le_of_eq gb233.symm))) R234.1)
    have O242 := O235.wr W239 ge240
    have y243 : Arv Z h239 b233 k233 .char (3 : Int32) [(.int ca), (.int (0 : Int32)), (.int (0 : Int32))] (.int (0 : Int32)) := Arv.set Ar239 q239 S239 M239 H239 G239 (own_ft_char (z := ca) r_ca) W239 0 rfl (Nat.le_of_ble_eq_true rfl)
    have N239 := Fr.snoc X239 N0 ge240
    have g244 : Go p e below T239 (mkF m 105 #[iv p0, iv p1, iv p2, iv p3, iv p4, iv p5, iv (3 : Int32), iv ca, iv cb, iv cc, iv cd, .unset, .unset, .unset] [(.ref b233), (.ref b226), (.ref b226)]) A0 := fun t kont => g238 t (st239 t kont)
    have g245 : Go p e below T239 (mkF m 109 #[iv p0, iv p1, iv p2, iv p3, iv p4, iv p5, iv (3 : Int32), iv ca, iv cb, iv cc, iv cd, .unset, .unset, .unset] [(.int cb), (.int (1 : Int32)), (.ref b233), (.ref b233), (.ref b226), (.ref b226)]) A0 := by
      intro t kont
      refine g244 t ?_
      refine XS.dup X239.here hx rfl (hb hby at_105) rfl rfl ?_
      show Steps p.tables e below (T239.setTop (mkF m 106 #[iv p0, iv p1, iv p2, iv p3, iv p4, iv p5, iv (3 : Int32), iv ca, iv cb, iv cc, iv cd, .unset, .unset, .unset] [(.ref b233), (.ref b233), (.ref b226), (.ref b226)])) _
      refine XS.iconst X239.here hx rfl (hb hby at_106) ?_
      show Steps p.tables e below (T239.setTop (mkF m 107 #[iv p0, iv p1, iv p2, iv p3, iv p4, iv p5, iv (3 : Int32), iv ca, iv cb, iv cc, iv cd, .unset, .unset, .unset] [(.int (1 : Int32)), (.ref b233), (.ref b233), (.ref b226), (.ref b226)])) _
      refine XS.iload X239.here hx rfl (hb hby at_107) rfl ?_
      show Steps p.tables e below (T239.setTop (mkF m 109 #[iv p0, iv p1, iv p2, iv p3, iv p4, iv p5, iv (3 : Int32), iv ca, iv cb, iv cc, iv cd, .unset, .unset, .unset] [(.int cb), (.int (1 : Int32)), (.ref b233), (.ref b233), (.ref b226), (.ref b226)])) _
      exact kont
    have zz246 := y243
    obtain ⟨cl246, Ar246, q246, S246, M246, H246, G246⟩ := zz246
    have in246 : ¬ ((1 : Int32) < 0 ∨ cl246.slots.size ≤ ((1 : Int32)).toNatClampNeg) := inb_of S246 ⟨by decide, by decide⟩
    obtain ⟨T246, h246, X246, e246, W246, st246⟩ := stC X239 hx hZ e239 Ar246 (j := (1 : Int32)) in246 (g := (mkF m 109 #[iv p0, iv p1, iv p2, iv p3, iv p4, iv p5, iv (3 : Int32), iv ca, iv cb, iv cc, iv cd, .unset, .unset, .unset] [(.int cb), (.int (1 : Int32)), (.ref b233), (.ref b233), (.ref b226), (.ref b226)])) rfl rfl (hb hby at_109)
    rw [show nar .char cb = cb from r_cb] at W246
    have sf248 : Safe Z consts_1 s.vm h239 b233 := (Safe.wr W239 (Safe.ext E233 R227.1 (Safe.new (Nat.le_of_eq gb233.symm))) R234.1 (Safe.ext E233 R227.1 (Safe.new (Nat.le_of_eq gb233.symm))))
    have R247 : CHr Z consts_1 s.vm h0 s.vm h246 := R241.trans (CHr.wr W246 sf248 R241.1)
    have O249 := O242.wr W246 ge240
    have y250 : Arv Z h246 b233 k233 .char (3 : Int32) [(.int ca), (.int cb), (.int (0 : Int32))] (.int (0 : Int32)) := Arv.set Ar246 q246 S246 M246 H246 G246 (own_ft_char (z := cb) r_cb) W246 1 rfl (Nat.le_of_ble_eq_true rfl)
    have N246 := Fr.snoc X246 N239 ge240
    have g251 : Go p e below T246 (mkF m 110 #[iv p0, iv p1, iv p2, iv p3, iv p4, iv p5, iv (3 : Int32), iv ca, iv cb, iv cc, iv cd, .unset, .unset, .unset] [(.ref b233), (.ref b226), (.ref b226)]) A0 := fun t kont => g245 t (st246 t kont)
    have g252 : Go p e below T246 (mkF m 114 #[iv p0, iv p1, iv p2, iv p3, iv p4, iv p5, iv (3 : Int32), iv ca, iv cb, iv cc, iv cd, .unset, .unset, .unset] [(.int cc), (.int (2 : Int32)), (.ref b233), (.ref b233), (.ref b226), (.ref b226)]) A0 := by
      intro t kont
      refine g251 t ?_
      refine XS.dup X246.here hx rfl (hb hby at_110) rfl rfl ?_
      show Steps p.tables e below (T246.setTop (mkF m 111 #[iv p0, iv p1, iv p2, iv p3, iv p4, iv p5, iv (3 : Int32), iv ca, iv cb, iv cc, iv cd, .unset, .unset, .unset] [(.ref b233), (.ref b233), (.ref b226), (.ref b226)])) _
      refine XS.iconst X246.here hx rfl (hb hby at_111) ?_
      show Steps p.tables e below (T246.setTop (mkF m 112 #[iv p0, iv p1, iv p2, iv p3, iv p4, iv p5, iv (3 : Int32), iv ca, iv cb, iv cc, iv cd, .unset, .unset, .unset] [(.int (2 : Int32)), (.ref b233), (.ref b233), (.ref b226), (.ref b226)])) _
      refine XS.iload X246.here hx rfl (hb hby at_112) rfl ?_
      show Steps p.tables e below (T246.setTop (mkF m 114 #[iv p0, iv p1, iv p2, iv p3, iv p4, iv p5, iv (3 : Int32), iv ca, iv cb, iv cc, iv cd, .unset, .unset, .unset] [(.int cc), (.int (2 : Int32)), (.ref b233), (.ref b233), (.ref b226), (.ref b226)])) _
      exact kont
    have zz253 := y250
    obtain ⟨cl253, Ar253, q253, S253, M253, H253, G253⟩ := zz253
    have in253 : ¬ ((2 : Int32) < 0 ∨ cl253.slots.size ≤ ((2 : Int32)).toNatClampNeg) := inb_of S253 ⟨by decide, by decide⟩
    obtain ⟨T253, h253, X253, e253, W253, st253⟩ := stC X246 hx hZ e246 Ar253 (j := (2 : Int32)) in253 (g := (mkF m 114 #[iv p0, iv p1, iv p2, iv p3, iv p4, iv p5, iv (3 : Int32), iv ca, iv cb, iv cc, iv cd, .unset, .unset, .unset] [(.int cc), (.int (2 : Int32)), (.ref b233), (.ref b233), (.ref b226), (.ref b226)])) rfl rfl (hb hby at_114)
    rw [show nar .char cc = cc from r_cc] at W253
    have sf255 : Safe Z consts_1 s.vm h246 b233 := (Safe.wr W246 sf248 R241.1 sf248)
    have R254 : CHr Z consts_1 s.vm h0 s.vm h253 := R247.trans (CHr.wr W253 sf255 R247.1)
    have O256 := O249.wr W253 ge240
    have y257 : Arv Z h253 b233 k233 .char (3 : Int32) [(.int ca), (.int cb), (.int cc)] (.int (0 : Int32)) := Arv.set Ar253 q253 S253 M253 H253 G253 (own_ft_char (z := cc) r_cc) W253 2 rfl (Nat.le_of_ble_eq_true rfl)
    have N253 := Fr.snoc X253 N246 ge240
    have g258 : Go p e below T253 (mkF m 115 #[iv p0, iv p1, iv p2, iv p3, iv p4, iv p5, iv (3 : Int32), iv ca, iv cb, iv cc, iv cd, .unset, .unset, .unset] [(.ref b233), (.ref b226), (.ref b226)]) A0 := fun t kont => g252 t (st253 t kont)
    have y260 : Fld Z h253 b226 "java/lang/String" "value" "[B" .null := ((((y229.ext E233).other W239 (Or.inl (Nat.ne_of_lt (Nat.lt_of_lt_of_le A226.lt (Nat.le_of_eq gb233.symm))))).other W246 (Or.inl (Nat.ne_of_lt (Nat.lt_of_lt_of_le A226.lt (Nat.le_of_eq gb233.symm))))).other W253 (Or.inl (Nat.ne_of_lt (Nat.lt_of_lt_of_le A226.lt (Nat.le_of_eq gb233.symm)))))
    have y261 : Fld Z h253 b226 "java/lang/String" "coder" "B" (.int (0 : Int32)) := ((((y230.ext E233).other W239 (Or.inl (Nat.ne_of_lt (Nat.lt_of_lt_of_le A226.lt (Nat.le_of_eq gb233.symm))))).other W246 (Or.inl (Nat.ne_of_lt (Nat.lt_of_lt_of_le A226.lt (Nat.le_of_eq gb233.symm))))).other W253 (Or.inl (Nat.ne_of_lt (Nat.lt_of_lt_of_le A226.lt (Nat.le_of_eq gb233.symm)))))
    have y262 : Exa Z h253 b226 "java/lang/String" := ((((A226.ext E233).wr W239).wr W246).wr W253)
    have ge263 : n0 ≤ b226 := Nat.le_trans (own_old_le O0) (Nat.le_of_eq gb226.symm)
    obtain ⟨_, _, ⟨T259, L259, k259, n259⟩, -, X259, ⟨Lc259, hQ259, l259, y259, z259⟩, st259⟩ := X253.specialBack hx (y := (⟨"java/lang/String", "<init>", "([C)V"⟩ : MethodName)) rfl hown (mvT hZ (hw _ (List.mem_of_getElem? (i := 48) rfl))) (mvT hZ (hw _ (List.mem_of_getElem? (i := 49) rfl))) (mvT hZ (hw _ (List.mem_of_getElem? (i := 50) rfl))) (by decide) (backOf (W := 1) (rm_sIni3 l Z a0 hw [] b226 b233 k233 ca cb cc i_COMPACT_STRINGS h253 n0 O256 y260 y261 y262 ge263 y257 (b_ca) (b_cb) (b_cc) S0_ hcs) hZ (hw _ (List.mem_of_getElem? (i := 50) rfl)) (hw _ (List.mem_of_getElem? (i := 2) rfl)) (by decide) (by decide)) (g := (mkF m 115 #[iv p0, iv p1, iv p2, iv p3, iv p4, iv p5, iv (3 : Int32), iv ca, iv cb, iv cc, iv cd, .unset, .unset, .unset] [(.ref b233), (.ref b226), (.ref b226)])) rfl (by rw [hml]; rfl) (Steps.refl _) (a := b226) (argsL := [(.ref b233)]) (rest := [(.ref b226)]) (lenOf pd_12 rfl) rfl (by show 2 * 0 + _ ≤ _; exact Nat.le_of_eq rfl) (hb hby at_115) (fun _ _ => ⟨rfl, e253, (by decide : 2 + 1 ≤ _), (by decide : 7 + 3 ≤ _)⟩)
    dsimp only [Pt.U, Pt.locs, Pt.cells, Pt.slots] at X259 l259 y259 z259 st259 hQ259
    subst l259 y259 z259
    obtain ⟨r264, r265, rfl, M259, K259, y266, y267, y268, y269, y270⟩ := hQ259
    have N259 := Fr.app N253 M259
    have sf272 : Safe Z consts_1 s.vm h253 b226 := (Safe.wr W253 sf255 R247.1 (Safe.wr W246 sf248 R241.1 (Safe.wr W239 (Safe.ext E233 R227.1 (Safe.new (Nat.le_of_eq gb233.symm))) R234.1 (Safe.ext E233 R227.1 (Safe.ext E226 R0.1 (Safe.new (Nat.le_of_eq gb226.symm)))))))
    have R271 : CHr Z consts_1 s.vm h0 s.vm T259.heap := R254.trans (CHr.keep K259 (sfS sf272 sf0) R254.1)
    have O273 := O256.keep K259 (allS ge263 all0)
    have g274 : Go p e below T259 (mkF m 118 #[iv p0, iv p1, iv p2, iv p3, iv p4, iv p5, iv (3 : Int32), iv ca, iv cb, iv cc, iv cd, .unset, .unset, .unset] [(.ref b226)]) A0 := fun t kont => g258 t (st259.trans kont)
    have g275 : Go p e below T259 (mkF m 162 #[iv p0, iv p1, iv p2, iv p3, iv p4, iv p5, iv (3 : Int32), iv ca, iv cb, iv cc, iv cd, rv b226, .unset, .unset] [(.int ((p5 &&& (255 : Int32)).toUInt32.toUInt16.toUInt32.toInt32))]) A0 := by
      intro t kont
      refine g274 t ?_
      refine XS.astore X259.here hx rfl (hb hby at_118) rfl rfl (l' := #[iv p0, iv p1, iv p2, iv p3, iv p4, iv p5, iv (3 : Int32), iv ca, iv cb, iv cc, iv cd, rv b226, .unset, .unset]) rfl ?_
      show Steps p.tables e below (T259.setTop (mkF m 120 #[iv p0, iv p1, iv p2, iv p3, iv p4, iv p5, iv (3 : Int32), iv ca, iv cb, iv cc, iv cd, rv b226, .unset, .unset] [])) _
      refine XS.goto X259.here hx rfl (pc0 := 120) (pc' := 155) rfl (hb hby at_120) (by decide) (by decide) ?_
      show Steps p.tables e below (T259.setTop (mkF m 155 #[iv p0, iv p1, iv p2, iv p3, iv p4, iv p5, iv (3 : Int32), iv ca, iv cb, iv cc, iv cd, rv b226, .unset, .unset] [])) _
      refine XS.iload X259.here hx rfl (hb hby at_155) rfl ?_
      show Steps p.tables e below (T259.setTop (mkF m 157 #[iv p0, iv p1, iv p2, iv p3, iv p4, iv p5, iv (3 : Int32), iv ca, iv cb, iv cc, iv cd, rv b226, .unset, .unset] [(.int p5)])) _
      refine XS.sipush X259.here hx rfl (hb hby at_157) ?_
      show Steps p.tables e below (T259.setTop (mkF m 160 #[iv p0, iv p1, iv p2, iv p3, iv p4, iv p5, iv (3 : Int32), iv ca, iv cb, iv cc, iv cd, rv b226, .unset, .unset] [(.int (255 : Int32)), (.int p5)])) _
      refine XS.iand X259.here hx rfl (hb hby at_160) rfl ?_
      show Steps p.tables e below (T259.setTop (mkF m 161 #[iv p0, iv p1, iv p2, iv p3, iv p4, iv p5, iv (3 : Int32), iv ca, iv cb, iv cc, iv cd, rv b226, .unset, .unset] [(.int (p5 &&& (255 : Int32)))])) _
      refine XS.i2c X259.here hx rfl (hb hby at_161) rfl ?_
      show Steps p.tables e below (T259.setTop (mkF m 162 #[iv p0, iv p1, iv p2, iv p3, iv p4, iv p5, iv (3 : Int32), iv ca, iv cb, iv cc, iv cd, rv b226, .unset, .unset] [(.int ((p5 &&& (255 : Int32)).toUInt32.toUInt16.toUInt32.toInt32))])) _
      exact kont
    obtain ⟨_, _, ⟨T276, L276, k276, n276⟩, -, X276, ⟨Lc276, hQ276, l276, y276, z276⟩, st276⟩ := Jvm.LawKit.callS X259 hx (y := (⟨"java/lang/String", "valueOf", "(C)Ljava/lang/String;"⟩ : MethodName)) hown (mvT hZ (hw _ (List.mem_of_getElem? (i := 0) rfl))) (mvT hZ (hw _ (List.mem_of_getElem? (i := 1) rfl))) (mvT hZ (hw _ (List.mem_of_getElem? (i := 2) rfl))) (mvT hZ (hw _ (List.mem_of_getElem? (i := 3) rfl))) (by decide) (backOf (W := 0) (rm_valC l Z a0 hw [] ((p5 &&& (255 : Int32)).toUInt32.toUInt16.toUInt32.toInt32) i_COMPACT_STRINGS T259.heap n0 O273 S0_ hcs (own_c255 p5)) hZ (hw _ (List.mem_of_getElem? (i := 3) rfl)) (hw _ (List.mem_of_getElem? (i := 2) rfl)) (by decide) (by decide)) (g := (mkF m 162 #[iv p0, iv p1, iv p2, iv p3, iv p4, iv p5, iv (3 : Int32), iv ca, iv cb, iv cc, iv cd, rv b226, .unset, .unset] [(.int ((p5 &&& (255 : Int32)).toUInt32.toUInt16.toUInt32.toInt32))])) rfl (by rw [hml]; rfl) (argsL := [(.int ((p5 &&& (255 : Int32)).toUInt32.toUInt16.toUInt32.toInt32))]) (rest := []) (lenOf pd_10 rfl) rfl (by show 2 * 0 + _ ≤ _; exact Nat.le_of_eq rfl) (hb hby at_162) (fun _ _ => ⟨rfl, rfl, (by decide : 3 + 2 ≤ _), (by decide : 10 + 5 ≤ _)⟩)
    dsimp only [Pt.U, Pt.locs, Pt.cells, Pt.slots] at X276 l276 y276 z276 st276 hQ276
    subst l276 y276 z276
    obtain ⟨r277, r278, r279, rfl, M276, K276, y280, y281, y282, y283, y284, y285⟩ := hQ276
    have N276 := Fr.app N259 M276
    have R286 : CHr Z consts_1 s.vm h0 s.vm T276.heap := R271.trans (CHr.keep K276 sf0 R271.1)
    have O287 := O273.keep K276 all0
    have g288 : Go p e below T276 (mkF m 165 #[iv p0, iv p1, iv p2, iv p3, iv p4, iv p5, iv (3 : Int32), iv ca, iv cb, iv cc, iv cd, rv b226, .unset, .unset] [(.ref r277)]) A0 := fun t kont => g275 t (st276 t kont)
    have g289 : Go p e below T276 (mkF m 198 #[iv p0, iv p1, iv p2, iv p3, iv p4, iv p5, iv (3 : Int32), iv ca, iv cb, iv cc, iv cd, rv b226, rv r277, iv (0 : Int32)] [(.ref b226), (.ref r277)]) A0 := by
      intro t kont
      refine g288 t ?_
      refine XS.astore X276.here hx rfl (hb hby at_165) rfl rfl (l' := #[iv p0, iv p1, iv p2, iv p3, iv p4, iv p5, iv (3 : Int32), iv ca, iv cb, iv cc, iv cd, rv b226, rv r277, .unset]) rfl ?_
      show Steps p.tables e below (T276.setTop (mkF m 167 #[iv p0, iv p1, iv p2, iv p3, iv p4, iv p5, iv (3 : Int32), iv ca, iv cb, iv cc, iv cd, rv b226, rv r277, .unset] [])) _
      refine XS.iload X276.here hx rfl (hb hby at_167) rfl ?_
      show Steps p.tables e below (T276.setTop (mkF m 169 #[iv p0, iv p1, iv p2, iv p3, iv p4, iv p5, iv (3 : Int32), iv ca, iv cb, iv cc, iv cd, rv b226, rv r277, .unset] [(.int (3 : Int32))])) _
      refine XS.iconst X276.here hx rfl (hb hby at_169) ?_
      show Steps p.tables e below (T276.setTop (mkF m 170 #[iv p0, iv p1, iv p2, iv p3, iv p4, iv p5, iv (3 : Int32), iv ca, iv cb, iv cc, iv cd, rv b226, rv r277, .unset] [(.int (1 : Int32)), (.int (3 : Int32))])) _
      refine XS.icmpYes X276.here hx rfl (pc0 := 170) (pc' := 184) rfl (hb hby at_170) rfl (feq (by decide : ¬ ((3 : Int32) = (1 : Int32)))).2 (by decide) (by decide) ?_
      show Steps p.tables e below (T276.setTop (mkF m 184 #[iv p0, iv p1, iv p2, iv p3, iv p4, iv p5, iv (3 : Int32), iv ca, iv cb, iv cc, iv cd, rv b226, rv r277, .unset] [])) _
      refine XS.iconst X276.here hx rfl (hb hby at_184) ?_
      show Steps p.tables e below (T276.setTop (mkF m 185 #[iv p0, iv p1, iv p2, iv p3, iv p4, iv p5, iv (3 : Int32), iv ca, iv cb, iv cc, iv cd, rv b226, rv r277, .unset] [(.int (0 : Int32))])) _
      refine XS.istore X276.here hx rfl (hb hby at_185) rfl (l' := #[iv p0, iv p1, iv p2, iv p3, iv p4, iv p5, iv (3 : Int32), iv ca, iv cb, iv cc, iv cd, rv b226, rv r277, iv (0 : Int32)]) rfl ?_
      show Steps p.tables e below (T276.setTop (mkF m 187 #[iv p0, iv p1, iv p2, iv p3, iv p4, iv p5, iv (3 : Int32), iv ca, iv cb, iv cc, iv cd, rv b226, rv r277, iv (0 : Int32)] [])) _
      refine XS.iload X276.here hx rfl (hb hby at_187) rfl ?_
      show Steps p.tables e below (T276.setTop (mkF m 189 #[iv p0, iv p1, iv p2, iv p3, iv p4, iv p5, iv (3 : Int32), iv ca, iv cb, iv cc, iv cd, rv b226, rv r277, iv (0 : Int32)] [(.int (0 : Int32))])) _
      refine XS.ifYes X276.here hx rfl (pc0 := 189) (pc' := 194) rfl (hb hby at_189) rfl ((if0 _ _).trans (teq (by decide : (0 : Int32) = (0 : Int32))).1) (by decide) (by decide) ?_
      show Steps p.tables e below (T276.setTop (mkF m 194 #[iv p0, iv p1, iv p2, iv p3, iv p4, iv p5, iv (3 : Int32), iv ca, iv cb, iv cc, iv cd, rv b226, rv r277, iv (0 : Int32)] [])) _
      refine XS.aload X276.here hx rfl (hb hby at_194) rfl rfl ?_
      show Steps p.tables e below (T276.setTop (mkF m 196 #[iv p0, iv p1, iv p2, iv p3, iv p4, iv p5, iv (3 : Int32), iv ca, iv cb, iv cc, iv cd, rv b226, rv r277, iv (0 : Int32)] [(.ref r277)])) _
      refine XS.aload X276.here hx rfl (hb hby at_196) rfl rfl ?_
      show Steps p.tables e below (T276.setTop (mkF m 198 #[iv p0, iv p1, iv p2, iv p3, iv p4, iv p5, iv (3 : Int32), iv ca, iv cb, iv cc, iv cd, rv b226, rv r277, iv (0 : Int32)] [(.ref b226), (.ref r277)])) _
      exact kont
    have y291 : Fld Z T276.heap b226 "java/lang/String" "coder" "B" (.int (0 : Int32)) := (y267.keep K276 nin0)
    have y292 : Fld Z T276.heap b226 "java/lang/String" "value" "[B" (.ref r264) := (y268.keep K276 nin0)
    have y293 : Exa Z T276.heap b226 "java/lang/String" := (y266.keep K276)
    have y294 : Arv Z T276.heap r264 r265 .byte (3 : Int32) [(.int (ca.toInt8.toInt32)), (.int (cb.toInt8.toInt32)), (.int (cc.toInt8.toInt32))] (.int (0 : Int32)) := (y270.keep K276 nin0)
    obtain ⟨_, _, ⟨T290, L290, k290, n290⟩, -, X290, hS290, hg290, ⟨Lc290, hQ290, l290, y290, z290, C290⟩, st290⟩ := callSS X276 hx (y := (⟨"com/example/rolegate/rolegate/Permission", "requireRoleName", "(Ljava/lang/String;Ljava/lang/String;)V"⟩ : MethodName)) hown (mvT hZ (hw _ (List.mem_of_getElem? (i := 26) rfl))) (mvT hZ (hw _ (List.mem_of_getElem? (i := 27) rfl))) (mvT hZ (hw _ (List.mem_of_getElem? (i := 28) rfl))) (mvT hZ (hw _ (List.mem_of_getElem? (i := 29) rfl))) (by decide) (backOfSH (W := 0) (rm_req3 l Z a0 hw [] r277 b226 r264 r265 i_COMPACT_STRINGS [(.int (ca.toInt8.toInt32)), (.int (cb.toInt8.toInt32)), (.int (cc.toInt8.toInt32))] T276.heap n0 O287 S0_ hcs y291 y292 y293 y294) hZ (hw _ (List.mem_of_getElem? (i := 29) rfl)) (hw _ (List.mem_of_getElem? (i := 28) rfl)) (by decide) (by decide) (own_EW hw) R286.1) (g := (mkF m 198 #[iv p0, iv p1, iv p2, iv p3, iv p4, iv p5, iv (3 : Int32), iv ca, iv cb, iv cc, iv cd, rv b226, rv r277, iv (0 : Int32)] [(.ref b226), (.ref r277)])) rfl (by rw [hml]; rfl) (argsL := [(.ref r277), (.ref b226)]) (rest := []) (lenOf pd_11 rfl) rfl (by show 2 * 0 + _ ≤ _; exact Nat.le_of_eq rfl) (hb hby at_198) (fun _ _ => ⟨rfl, rfl, (by decide : 5 + 2 ≤ _), (by decide : 15 + 8 ≤ _)⟩)
    dsimp only [Pt.U, Pt.locs, Pt.cells, Pt.slots] at X290 l290 y290 z290 st290 hQ290 hS290 hg290 C290
    subst l290 y290 z290
    obtain ⟨X290, hS, hZ, hown⟩ := rebS hS (n1 := T276.heap.size) (Nat.le_trans hk (Nat.le_trans (Nat.le_trans (Nat.le_trans (Nat.le_trans (Nat.le_trans (Nat.le_trans E226.1 E233.1) (Keep.of_wr W239).1) (Keep.of_wr W246).1) (Keep.of_wr W253).1) K259.1) K276.1)) X290 hS290 hg290 hZ hown
    obtain ⟨rfl, M290, K290⟩ := hQ290
    have N290 := Fr.app N276 M290
    have R295 : CHr Z consts_1 s.vm h0 T290.vm T290.heap := R286.trans C290
    have O296 := O287.keep K290 all0
    have g297 : Go p e below T290 (mkF m 201 #[iv p0, iv p1, iv p2, iv p3, iv p4, iv p5, iv (3 : Int32), iv ca, iv cb, iv cc, iv cd, rv b226, rv r277, iv (0 : Int32)] []) A0 := fun t kont => g289 t (st290.trans kont)
    have g298 : Go p e below T290 (mkF m 202 #[iv p0, iv p1, iv p2, iv p3, iv p4, iv p5, iv (3 : Int32), iv ca, iv cb, iv cc, iv cd, rv b226, rv r277, iv (0 : Int32)] [(.int (1 : Int32))]) A0 := by
      intro t kont
      refine g297 t ?_
      refine XS.iconst X290.here hx rfl (hb hby at_201) ?_
      show Steps p.tables e below (T290.setTop (mkF m 202 #[iv p0, iv p1, iv p2, iv p3, iv p4, iv p5, iv (3 : Int32), iv ca, iv cb, iv cc, iv cd, rv b226, rv r277, iv (0 : Int32)] [(.int (1 : Int32))])) _
      exact kont
    obtain ⟨fs, hr, hrun, hended, hRW⟩ := X290.leaveW hS (Nat.le_refl _) (v := some (.int (1 : Int32))) (fun h => by rw [Bd.returns] at h; cases h)
    refine ⟨_, _, g298 _ (retN X290 hx (t := .boolean) Bd.returns (by simp) (hb hby at_202) hr), hrun, hended, _, _, rfl, ?_, ?_, hRW.1, hRW.2.1, hRW.2.2.1, hRW.2.2.2.mono (by decide) (by decide)⟩
    ·
      show Q_law Z p0 p1 p2 p3 p4 p5 i_COMPACT_STRINGS h0 n0 _ T290.heap _
      exact ⟨rfl, N290⟩
    ·
      rw [hh]
      show CHr Z consts_1 s.vm h0 T290.vm T290.heap
      exact R295.trans (CHv.at X290 hZ (own_EW hw) R295.1)
  have g299 : Go p e below s₁ (mkF m 123 #[iv p0, iv p1, iv p2, iv p3, iv p4, iv p5, iv k, iv ca, iv cb, iv cc, iv cd, .unset, .unset, .unset] []) A0 := by
    intro t kont
    refine g224 t ?_
    refine XS.icmpYes X0.here hx rfl (pc0 := 90) (pc' := 123) rfl (hb hby at_90) rfl (feq c223).2 (by decide) (by decide) ?_
    show Steps p.tables e below (s₁.setTop (mkF m 123 #[iv p0, iv p1, iv p2, iv p3, iv p4, iv p5, iv k, iv ca, iv cb, iv cc, iv cd, .unset, .unset, .unset] [])) _
    exact kont
  obtain ⟨T300, h300, X300, e300, E300, A300, D300, -, st300⟩ := newO X0 hx hZ hown (hw _ (List.mem_of_getElem? (i := 46) rfl)) (hw _ (List.mem_of_getElem? (i := 10) rfl)) (hw _ (List.mem_of_getElem? (i := 2) rfl)) e0 (g := (mkF m 123 #[iv p0, iv p1, iv p2, iv p3, iv p4, iv p5, iv k, iv ca, iv cb, iv cc, iv cd, .unset, .unset, .unset] [])) rfl (hb hby at_123) (by decide) (by decide)
  obtain ⟨b300, gb300⟩ : ∃ z, z = h0.size := ⟨_, rfl⟩
  rw [← gb300] at A300 D300 st300
  have R301 : CHr Z consts_1 s.vm h0 s.vm h300 := R0.trans (CHr.ext E300 R0.1)
  have O302 := O0.ext E300
  have y303 : Fld Z h300 b300 "java/lang/String" "value" "[B" .null := D300 (Or.inr (hw _ (List.mem_of_getElem? (i := 23) rfl))) (ty := (.array .byte)) (by decide)
  have y304 : Fld Z h300 b300 "java/lang/String" "coder" "B" (.int (0 : Int32)) := D300 (Or.inr (hw _ (List.mem_of_getElem? (i := 25) rfl))) (ty := .byte) (by decide)
  have g305 : Go p e below T300 (mkF m 126 #[iv p0, iv p1, iv p2, iv p3, iv p4, iv p5, iv k, iv ca, iv cb, iv cc, iv cd, .unset, .unset, .unset] [(.ref b300)]) A0 := fun t kont => g299 t (st300 t kont)
  have g306 : Go p e below T300 (mkF m 128 #[iv p0, iv p1, iv p2, iv p3, iv p4, iv p5, iv k, iv ca, iv cb, iv cc, iv cd, .unset, .unset, .unset] [(.int (4 : Int32)), (.ref b300), (.ref b300)]) A0 := by
    intro t kont
    refine g305 t ?_
    refine XS.dup X300.here hx rfl (hb hby at_126) rfl rfl ?_
    show Steps p.tables e below (T300.setTop (mkF m 127 #[iv p0, iv p1, iv p2, iv p3, iv p4, iv p5, iv k, iv ca, iv cb, iv cc, iv cd, .unset, .unset, .unset] [(.ref b300), (.ref b300)])) _
    refine XS.iconst X300.here hx rfl (hb hby at_127) ?_
    show Steps p.tables e below (T300.setTop (mkF m 128 #[iv p0, iv p1, iv p2, iv p3, iv p4, iv p5, iv k, iv ca, iv cb, iv cc, iv cd, .unset, .unset, .unset] [(.int (4 : Int32)), (.ref b300), (.ref b300)])) _
    exact kont
  obtain ⟨T307, h307, k307, X307, e307, E307, A307, F307, st307⟩ := newPE X300 hx hZ (hw _ (List.mem_of_getElem? (i := 47) rfl)) e300 (g := (mkF m 128 #[iv p0, iv p1, iv p2, iv p3, iv p4, iv p5, iv k, iv ca, iv cb, iv cc, iv cd, .unset, .unset, .unset] [(.int (4 : Int32)), (.ref b300), (.ref b300)])) rfl (hb hby at_128) rfl (by decide) (cap := 4) (by decide) (by decide) (by decide) (by decide) (ad := "[C") (by decide)
  obtain ⟨b307, gb307⟩ : ∃ z, z = h300.size := ⟨_, rfl⟩
  rw [← gb307] at A307 F307 st307
  have R308 : CHr Z consts_1 s.vm h0 s.vm h307 := R301.trans (CHr.ext E307 R301.1)
  have O309 := O302.ext E307
  have y310 : Arv Z h307 b307 k307 .char (4 : Int32) [(.int (0 : Int32)), (.int (0 : Int32)), (.int (0 : Int32)), (.int (0 : Int32))] (.int (0 : Int32)) := (Arv.new A307 (by decide)).pad (pad_rep [] (.int (0 : Int32)) 4)
  have g311 : Go p e below T307 (mkF m 130 #[iv p0, iv p1, iv p2, iv p3, iv p4, iv p5, iv k, iv ca, iv cb, iv cc, iv cd, .unset, .unset, .unset] [(.ref b307), (.ref b300), (.ref b300)]) A0 := fun t kont => g306 t (st307 t kont)
  have g312 : Go p e below T307 (mkF m 134 #[iv p0, iv p1, iv p2, iv p3, iv p4, iv p5, iv k, iv ca, iv cb, iv cc, iv cd, .unset, .unset, .unset] [(.int ca), (.int (0 : Int32)), (.ref b307), (.ref b307), (.ref b300), (.ref b300)]) A0 := by
    intro t kont
    refine g311 t ?_
    refine XS.dup X307.here hx rfl (hb hby at_130) rfl rfl ?_
    show Steps p.tables e below (T307.setTop (mkF m 131 #[iv p0, iv p1, iv p2, iv p3, iv p4, iv p5, iv k, iv ca, iv cb, iv cc, iv cd, .unset, .unset, .unset] [(.ref b307), (.ref b307), (.ref b300), (.ref b300)])) _
    refine XS.iconst X307.here hx rfl (hb hby at_131) ?_
    show Steps p.tables e below (T307.setTop (mkF m 132 #[iv p0, iv p1, iv p2, iv p3, iv p4, iv p5, iv k, iv ca, iv cb, iv cc, iv cd, .unset, .unset, .unset] [(.int (0 : Int32)), (.ref b307), (.ref b307), (.ref b300), (.ref b300)])) _
    refine XS.iload X307.here hx rfl (hb hby at_132) rfl ?_
    show Steps p.tables e below (T307.setTop (mkF m 134 #[iv p0, iv p1, iv p2, iv p3, iv p4, iv p5, iv k, iv ca, iv cb, iv cc, iv cd, .unset, .unset, .unset] [(.int ca), (.int (0 : Int32)), (.ref b307), (.ref b307), (.ref b300), (.ref b300)])) _
    exact kont
  have ge314 : n0 ≤ b307 := Nat.le_trans (own_old_le O302) (Nat.le_of_eq gb307.symm)
  have zz313 := y310
  obtain ⟨cl313, Ar313, q313, S313, M313, H313, G313⟩ := zz313
  have in313 : ¬ ((0 : Int32) < 0 ∨ cl313.slots.size ≤ ((0 : Int32)).toNatClampNeg) := inb_of S313 ⟨by decide, by decide⟩
  obtain ⟨T313, h313, X313, e313, W313, st313⟩ := stC X307 hx hZ e307 Ar313 (j := (0 : Int32)) in313 (g := (mkF m 134 #[iv p0, iv p1, iv p2, iv p3, iv p4, iv p5, iv k, iv ca, iv cb, iv cc, iv cd, .unset, .unset, .unset] [(.int ca), (.int (0 : Int32)), (.ref b307), (.ref b307), (.ref b300), (.ref b300)])) rfl rfl (hb hby at_134)
  rw [show nar .char ca = ca from r_ca] at W313
  have R315 : CHr Z consts_1 s.vm h0 s.vm h313 := R308.trans (CHr.wr W313 (Safe.ext E307 R301.1 (Safe.new (Nat.le_of_eq gb307.symm))) R308.1)
  have O316 := O309.wr W313 ge314
  have y317 : Arv Z h313 b307 k307 .char (4 : Int32) [(.int ca), (.int (0 : Int32)), (.int (0 : Int32)), (.int (0 : Int32))] (.int (0 : Int32)) := Arv.set Ar313 q313 S313 M313 H313 G313 (own_ft_char (z := ca) r_ca) W313 0 rfl (Nat.le_of_ble_eq_true rfl)
  have N313 := Fr.snoc X313 N0 ge314
  have g318 : Go p e below T313 (mkF m 135 #[iv p0, iv p1, iv p2, iv p3, iv p4, iv p5, iv k, iv ca, iv cb, iv cc, iv cd, .unset, .unset, .unset] [(.ref b307), (.ref b300), (.ref b300)]) A0 := fun t kont => g312 t (st313 t kont)
  have g319 : Go p e below T313 (mkF m 139 #[iv p0, iv p1, iv p2, iv p3, iv p4, iv p5, iv k, iv ca, iv cb, iv cc, iv cd, .unset, .unset, .unset] [(.int cb), (.int (1 : Int32)), (.ref b307), (.ref b307), (.ref b300), (.ref b300)]) A0 := by
    intro t kont
    refine g318 t ?_
    refine XS.dup X313.here hx rfl (hb hby at_135) rfl rfl ?_
    show Steps p.tables e below (T313.setTop (mkF m 136 #[iv p0, iv p1, iv p2, iv p3, iv p4, iv p5, iv k, iv ca, iv cb, iv cc, iv cd, .unset, .unset, .unset] [(.ref b307), (.ref b307), (.ref b300), (.ref b300)])) _
    refine XS.iconst X313.here hx rfl (hb hby at_136) ?_
    show Steps p.tables e below (T313.setTop (mkF m 137 #[iv p0, iv p1, iv p2, iv p3, iv p4, iv p5, iv k, iv ca, iv cb, iv cc, iv cd, .unset, .unset, .unset] [(.int (1 : Int32)), (.ref b307), (.ref b307), (.ref b300), (.ref b300)])) _
    refine XS.iload X313.here hx rfl (hb hby at_137) rfl ?_
    show Steps p.tables e below (T313.setTop (mkF m 139 #[iv p0, iv p1, iv p2, iv p3, iv p4, iv p5, iv k, iv ca, iv cb, iv cc, iv cd, .unset, .unset, .unset] [(.int cb), (.int (1 : Int32)), (.ref b307), (.ref b307), (.ref b300), (.ref b300)])) _
    exact kont
  have zz320 := y317
  obtain ⟨cl320, Ar320, q320, S320, M320, H320, G320⟩ := zz320
  have in320 : ¬ ((1 : Int32) < 0 ∨ cl320.slots.size ≤ ((1 : Int32)).toNatClampNeg) := inb_of S320 ⟨by decide, by decide⟩
  obtain ⟨T320, h320, X320, e320, W320, st320⟩ := stC X313 hx hZ e313 Ar320 (j := (1 : Int32)) in320 (g := (mkF m 139 #[iv p0, iv p1, iv p2, iv p3, iv p4, iv p5, iv k, iv ca, iv cb, iv cc, iv cd, .unset, .unset, .unset] [(.int cb), (.int (1 : Int32)), (.ref b307), (.ref b307), (.ref b300), (.ref b300)])) rfl rfl (hb hby at_139)
  rw [show nar .char cb = cb from r_cb] at W320
  have sf322 : Safe Z consts_1 s.vm h313 b307 := (Safe.wr W313 (Safe.ext E307 R301.1 (Safe.new (Nat.le_of_eq gb307.symm))) R308.1 (Safe.ext E307 R301.1 (Safe.new (Nat.le_of_eq gb307.symm))))
  have R321 : CHr Z consts_1 s.vm h0 s.vm h320 := R315.trans (CHr.wr W320 sf322 R315.1)
  have O323 := O316.wr W320 ge314
  have y324 : Arv Z h320 b307 k307 .char (4 : Int32) [(.int ca), (.int cb), (.int (0 : Int32)), (.int (0 : Int32))] (.int (0 : Int32)) := Arv.set Ar320 q320 S320 M320 H320 G320 (own_ft_char (z := cb) r_cb) W320 1 rfl (Nat.le_of_ble_eq_true rfl)
  have N320 := Fr.snoc X320 N313 ge314
  have g325 : Go p e below T320 (mkF m 140 #[iv p0, iv p1, iv p2, iv p3, iv p4, iv p5, iv k, iv ca, iv cb, iv cc, iv cd, .unset, .unset, .unset] [(.ref b307), (.ref b300), (.ref b300)]) A0 := fun t kont => g319 t (st320 t kont)
  have g326 : Go p e below T320 (mkF m 144 #[iv p0, iv p1, iv p2, iv p3, iv p4, iv p5, iv k, iv ca, iv cb, iv cc, iv cd, .unset, .unset, .unset] [(.int cc), (.int (2 : Int32)), (.ref b307), (.ref b307), (.ref b300), (.ref b300)]) A0 := by
    intro t kont
    refine g325 t ?_
    refine XS.dup X320.here hx rfl (hb hby at_140) rfl rfl ?_
    show Steps p.tables e below (T320.setTop (mkF m 141 #[iv p0, iv p1, iv p2, iv p3, iv p4, iv p5, iv k, iv ca, iv cb, iv cc, iv cd, .unset, .unset, .unset] [(.ref b307), (.ref b307), (.ref b300), (.ref b300)])) _
    refine XS.iconst X320.here hx rfl (hb hby at_141) ?_
    show Steps p.tables e below (T320.setTop (mkF m 142 #[iv p0, iv p1, iv p2, iv p3, iv p4, iv p5, iv k, iv ca, iv cb, iv cc, iv cd, .unset, .unset, .unset] [(.int (2 : Int32)), (.ref b307), (.ref b307), (.ref b300), (.ref b300)])) _
    refine XS.iload X320.here hx rfl (hb hby at_142) rfl ?_
    show Steps p.tables e below (T320.setTop (mkF m 144 #[iv p0, iv p1, iv p2, iv p3, iv p4, iv p5, iv k, iv ca, iv cb, iv cc, iv cd, .unset, .unset, .unset] [(.int cc), (.int (2 : Int32)), (.ref b307), (.ref b307), (.ref b300), (.ref b300)])) _
    exact kont
  have zz327 := y324
  obtain ⟨cl327, Ar327, q327, S327, M327, H327, G327⟩ := zz327
  have in327 : ¬ ((2 : Int32) < 0 ∨ cl327.slots.size ≤ ((2 : Int32)).toNatClampNeg) := inb_of S327 ⟨by decide, by decide⟩
  obtain ⟨T327, h327, X327, e327, W327, st327⟩ := stC X320 hx hZ e320 Ar327 (j := (2 : Int32)) in327 (g := (mkF m 144 #[iv p0, iv p1, iv p2, iv p3, iv p4, iv p5, iv k, iv ca, iv cb, iv cc, iv cd, .unset, .unset, .unset] [(.int cc), (.int (2 : Int32)), (.ref b307), (.ref b307), (.ref b300), (.ref b300)])) rfl rfl (hb hby at_144)
  rw [show nar .char cc = cc from r_cc] at W327
  have sf329 : Safe Z consts_1 s.vm h320 b307 := (Safe.wr W320 sf322 R315.1 sf322)
  have R328 : CHr Z consts_1 s.vm h0 s.vm h327 := R321.trans (CHr.wr W327 sf329 R321.1)
  have O330 := O323.wr W327 ge314
  have y331 : Arv Z h327 b307 k307 .char (4 : Int32) [(.int ca), (.int cb), (.int cc), (.int (0 : Int32))] (.int (0 : Int32)) := Arv.set Ar327 q327 S327 M327 H327 G327 (own_ft_char (z := cc) r_cc) W327 2 rfl (Nat.le_of_ble_eq_true rfl)
  have N327 := Fr.snoc X327 N320 ge314
  have g332 : Go p e below T327 (mkF m 145 #[iv p0, iv p1, iv p2, iv p3, iv p4, iv p5, iv k, iv ca, iv cb, iv cc, iv cd, .unset, .unset, .unset] [(.ref b307), (.ref b300), (.ref b300)]) A0 := fun t kont => g326 t (st327 t kont)
  have g333 : Go p e below T327 (mkF m 149 #[iv p0, iv p1, iv p2, iv p3, iv p4, iv p5, iv k, iv ca, iv cb, iv cc, iv cd, .unset, .unset, .unset] [(.int cd), (.int (3 : Int32)), (.ref b307), (.ref b307), (.ref b300), (.ref b300)]) A0 := by
    intro t kont
    refine g332 t ?_
    refine XS.dup X327.here hx rfl (hb hby at_145) rfl rfl ?_
    show Steps p.tables e below (T327.setTop (mkF m 146 #[iv p0, iv p1, iv p2, iv p3, iv p4, iv p5, iv k, iv ca, iv cb, iv cc, iv cd, .unset, .unset, .unset] [(.ref b307), (.ref b307), (.ref b300), (.ref b300)])) _
    refine XS.iconst X327.here hx rfl (hb hby at_146) ?_
    show Steps p.tables e below (T327.setTop (mkF m 147 #[iv p0, iv p1, iv p2, iv p3, iv p4, iv p5, iv k, iv ca, iv cb, iv cc, iv cd, .unset, .unset, .unset] [(.int (3 : Int32)), (.ref b307), (.ref b307), (.ref b300), (.ref b300)])) _
    refine XS.iload X327.here hx rfl (hb hby at_147) rfl ?_
    show Steps p.tables e below (T327.setTop (mkF m 149 #[iv p0, iv p1, iv p2, iv p3, iv p4, iv p5, iv k, iv ca, iv cb, iv cc, iv cd, .unset, .unset, .unset] [(.int cd), (.int (3 : Int32)), (.ref b307), (.ref b307), (.ref b300), (.ref b300)])) _
    exact kont
  have zz334 := y331
  obtain ⟨cl334, Ar334, q334, S334, M334, H334, G334⟩ := zz334
  have in334 : ¬ ((3 : Int32) < 0 ∨ cl334.slots.size ≤ ((3 : Int32)).toNatClampNeg) := inb_of S334 ⟨by decide, by decide⟩
  obtain ⟨T334, h334, X334, e334, W334, st334⟩ := stC X327 hx hZ e327 Ar334 (j := (3 : Int32)) in334 (g := (mkF m 149 #[iv p0, iv p1, iv p2, iv p3, iv p4, iv p5, iv k, iv ca, iv cb, iv cc, iv cd, .unset, .unset, .unset] [(.int cd), (.int (3 : Int32)), (.ref b307), (.ref b307), (.ref b300), (.ref b300)])) rfl rfl (hb hby at_149)
  rw [show nar .char cd = cd from r_cd] at W334
  have sf336 : Safe Z consts_1 s.vm h327 b307 := (Safe.wr W327 sf329 R321.1 sf329)
  have R335 : CHr Z consts_1 s.vm h0 s.vm h334 := R328.trans (CHr.wr W334 sf336 R328.1)
  have O337 := O330.wr W334 ge314
  have y338 : Arv Z h334 b307 k307 .char (4 : Int32) [(.int ca), (.int cb), (.int cc), (.int cd)] (.int (0 : Int32)) := Arv.set Ar334 q334 S334 M334 H334 G334 (own_ft_char (z := cd) r_cd) W334 3 rfl (Nat.le_of_ble_eq_true rfl)
  have N334 := Fr.snoc X334 N327 ge314
  have g339 : Go p e below T334 (mkF m 150 #[iv p0, iv p1, iv p2, iv p3, iv p4, iv p5, iv k, iv ca, iv cb, iv cc, iv cd, .unset, .unset, .unset] [(.ref b307), (.ref b300), (.ref b300)]) A0 := fun t kont => g333 t (st334 t kont)
  have y341 : Fld Z h334 b300 "java/lang/String" "value" "[B" .null := (((((y303.ext E307).other W313 (Or.inl (Nat.ne_of_lt (Nat.lt_of_lt_of_le A300.lt (Nat.le_of_eq gb307.symm))))).other W320 (Or.inl (Nat.ne_of_lt (Nat.lt_of_lt_of_le A300.lt (Nat.le_of_eq gb307.symm))))).other W327 (Or.inl (Nat.ne_of_lt (Nat.lt_of_lt_of_le A300.lt (Nat.le_of_eq gb307.symm))))).other W334 (Or.inl (Nat.ne_of_lt (Nat.lt_of_lt_of_le A300.lt (Nat.le_of_eq gb307.symm)))))
  have y342 : Fld Z h334 b300 "java/lang/String" "coder" "B" (.int (0 : Int32)) := (((((y304.ext E307).other W313 (Or.inl (Nat.ne_of_lt (Nat.lt_of_lt_of_le A300.lt (Nat.le_of_eq gb307.symm))))).other W320 (Or.inl (Nat.ne_of_lt (Nat.lt_of_lt_of_le A300.lt (Nat.le_of_eq gb307.symm))))).other W327 (Or.inl (Nat.ne_of_lt (Nat.lt_of_lt_of_le A300.lt (Nat.le_of_eq gb307.symm))))).other W334 (Or.inl (Nat.ne_of_lt (Nat.lt_of_lt_of_le A300.lt (Nat.le_of_eq gb307.symm)))))
  have y343 : Exa Z h334 b300 "java/lang/String" := (((((A300.ext E307).wr W313).wr W320).wr W327).wr W334)
  have ge344 : n0 ≤ b300 := Nat.le_trans (own_old_le O0) (Nat.le_of_eq gb300.symm)
  obtain ⟨_, _, ⟨T340, L340, k340, n340⟩, -, X340, ⟨Lc340, hQ340, l340, y340, z340⟩, st340⟩ := X334.specialBack hx (y := (⟨"java/lang/String", "<init>", "([C)V"⟩ : MethodName)) rfl hown (mvT hZ (hw _ (List.mem_of_getElem? (i := 48) rfl))) (mvT hZ (hw _ (List.mem_of_getElem? (i := 49) rfl))) (mvT hZ (hw _ (List.mem_of_getElem? (i := 50) rfl))) (by decide) (backOf (W := 1) (rm_sIni4 l Z a0 hw [] b300 b307 k307 ca cb cc cd i_COMPACT_STRINGS h334 n0 O337 y341 y342 y343 ge344 y338 (b_ca) (b_cb) (b_cc) (b_cd) S0_ hcs) hZ (hw _ (List.mem_of_getElem? (i := 50) rfl)) (hw _ (List.mem_of_getElem? (i := 2) rfl)) (by decide) (by decide)) (g := (mkF m 150 #[iv p0, iv p1, iv p2, iv p3, iv p4, iv p5, iv k, iv ca, iv cb, iv cc, iv cd, .unset, .unset, .unset] [(.ref b307), (.ref b300), (.ref b300)])) rfl (by rw [hml]; rfl) (Steps.refl _) (a := b300) (argsL := [(.ref b307)]) (rest := [(.ref b300)]) (lenOf pd_12 rfl) rfl (by show 2 * 0 + _ ≤ _; exact Nat.le_of_eq rfl) (hb hby at_150) (fun _ _ => ⟨rfl, e334, (by decide : 2 + 1 ≤ _), (by decide : 8 + 4 ≤ _)⟩)
  dsimp only [Pt.U, Pt.locs, Pt.cells, Pt.slots] at X340 l340 y340 z340 st340 hQ340
  subst l340 y340 z340
  obtain ⟨r345, r346, rfl, M340, K340, y347, y348, y349, y350, y351⟩ := hQ340
  have N340 := Fr.app N334 M340
  have sf353 : Safe Z consts_1 s.vm h334 b300 := (Safe.wr W334 sf336 R328.1 (Safe.wr W327 sf329 R321.1 (Safe.wr W320 sf322 R315.1 (Safe.wr W313 (Safe.ext E307 R301.1 (Safe.new (Nat.le_of_eq gb307.symm))) R308.1 (Safe.ext E307 R301.1 (Safe.ext E300 R0.1 (Safe.new (Nat.le_of_eq gb300.symm))))))))
  have R352 : CHr Z consts_1 s.vm h0 s.vm T340.heap := R335.trans (CHr.keep K340 (sfS sf353 sf0) R335.1)
  have O354 := O337.keep K340 (allS ge344 all0)
  have g355 : Go p e below T340 (mkF m 153 #[iv p0, iv p1, iv p2, iv p3, iv p4, iv p5, iv k, iv ca, iv cb, iv cc, iv cd, .unset, .unset, .unset] [(.ref b300)]) A0 := fun t kont => g339 t (st340.trans kont)
  have g356 : Go p e below T340 (mkF m 162 #[iv p0, iv p1, iv p2, iv p3, iv p4, iv p5, iv k, iv ca, iv cb, iv cc, iv cd, rv b300, .unset, .unset] [(.int ((p5 &&& (255 : Int32)).toUInt32.toUInt16.toUInt32.toInt32))]) A0 := by
    intro t kont
    refine g355 t ?_
    refine XS.astore X340.here hx rfl (hb hby at_153) rfl rfl (l' := #[iv p0, iv p1, iv p2, iv p3, iv p4, iv p5, iv k, iv ca, iv cb, iv cc, iv cd, rv b300, .unset, .unset]) rfl ?_
    show Steps p.tables e below (T340.setTop (mkF m 155 #[iv p0, iv p1, iv p2, iv p3, iv p4, iv p5, iv k, iv ca, iv cb, iv cc, iv cd, rv b300, .unset, .unset] [])) _
    refine XS.iload X340.here hx rfl (hb hby at_155) rfl ?_
    show Steps p.tables e below (T340.setTop (mkF m 157 #[iv p0, iv p1, iv p2, iv p3, iv p4, iv p5, iv k, iv ca, iv cb, iv cc, iv cd, rv b300, .unset, .unset] [(.int p5)])) _
    refine XS.sipush X340.here hx rfl (hb hby at_157) ?_
    show Steps p.tables e below (T340.setTop (mkF m 160 #[iv p0, iv p1, iv p2, iv p3, iv p4, iv p5, iv k, iv ca, iv cb, iv cc, iv cd, rv b300, .unset, .unset] [(.int (255 : Int32)), (.int p5)])) _
    refine XS.iand X340.here hx rfl (hb hby at_160) rfl ?_
    show Steps p.tables e below (T340.setTop (mkF m 161 #[iv p0, iv p1, iv p2, iv p3, iv p4, iv p5, iv k, iv ca, iv cb, iv cc, iv cd, rv b300, .unset, .unset] [(.int (p5 &&& (255 : Int32)))])) _
    refine XS.i2c X340.here hx rfl (hb hby at_161) rfl ?_
    show Steps p.tables e below (T340.setTop (mkF m 162 #[iv p0, iv p1, iv p2, iv p3, iv p4, iv p5, iv k, iv ca, iv cb, iv cc, iv cd, rv b300, .unset, .unset] [(.int ((p5 &&& (255 : Int32)).toUInt32.toUInt16.toUInt32.toInt32))])) _
    exact kont
  obtain ⟨_, _, ⟨T357, L357, k357, n357⟩, -, X357, ⟨Lc357, hQ357, l357, y357, z357⟩, st357⟩ := Jvm.LawKit.callS X340 hx (y := (⟨"java/lang/String", "valueOf", "(C)Ljava/lang/String;"⟩ : MethodName)) hown (mvT hZ (hw _ (List.mem_of_getElem? (i := 0) rfl))) (mvT hZ (hw _ (List.mem_of_getElem? (i := 1) rfl))) (mvT hZ (hw _ (List.mem_of_getElem? (i := 2) rfl))) (mvT hZ (hw _ (List.mem_of_getElem? (i := 3) rfl))) (by decide) (backOf (W := 0) (rm_valC l Z a0 hw [] ((p5 &&& (255 : Int32)).toUInt32.toUInt16.toUInt32.toInt32) i_COMPACT_STRINGS T340.heap n0 O354 S0_ hcs (own_c255 p5)) hZ (hw _ (List.mem_of_getElem? (i := 3) rfl)) (hw _ (List.mem_of_getElem? (i := 2) rfl)) (by decide) (by decide)) (g := (mkF m 162 #[iv p0, iv p1, iv p2, iv p3, iv p4, iv p5, iv k, iv ca, iv cb, iv cc, iv cd, rv b300, .unset, .unset] [(.int ((p5 &&& (255 : Int32)).toUInt32.toUInt16.toUInt32.toInt32))])) rfl (by rw [hml]; rfl) (argsL := [(.int ((p5 &&& (255 : Int32)).toUInt32.toUInt16.toUInt32.toInt32))]) (rest := []) (lenOf pd_10 rfl) rfl (by show 2 * 0 + _ ≤ _; exact Nat.le_of_eq rfl) (hb hby at_162) (fun _ _ => ⟨rfl, rfl, (by decide : 3 + 2 ≤ _), (by decide : 12 + 5 ≤ _)⟩)
  dsimp only [Pt.U, Pt.locs, Pt.cells, Pt.slots] at X357 l357 y357 z357 st357 hQ357
  subst l357 y357 z357
  obtain ⟨r358, r359, r360, rfl, M357, K357, y361, y362, y363, y364, y365, y366⟩ := hQ357
  have N357 := Fr.app N340 M357
  have R367 : CHr Z consts_1 s.vm h0 s.vm T357.heap := R352.trans (CHr.keep K357 sf0 R352.1)
  have O368 := O354.keep K357 all0
  have g369 : Go p e below T357 (mkF m 165 #[iv p0, iv p1, iv p2, iv p3, iv p4, iv p5, iv k, iv ca, iv cb, iv cc, iv cd, rv b300, .unset, .unset] [(.ref r358)]) A0 := fun t kont => g356 t (st357 t kont)
  have g370 : Go p e below T357 (mkF m 198 #[iv p0, iv p1, iv p2, iv p3, iv p4, iv p5, iv k, iv ca, iv cb, iv cc, iv cd, rv b300, rv r358, iv (0 : Int32)] [(.ref b300), (.ref r358)]) A0 := by
    intro t kont
    refine g369 t ?_
    refine XS.astore X357.here hx rfl (hb hby at_165) rfl rfl (l' := #[iv p0, iv p1, iv p2, iv p3, iv p4, iv p5, iv k, iv ca, iv cb, iv cc, iv cd, rv b300, rv r358, .unset]) rfl ?_
    show Steps p.tables e below (T357.setTop (mkF m 167 #[iv p0, iv p1, iv p2, iv p3, iv p4, iv p5, iv k, iv ca, iv cb, iv cc, iv cd, rv b300, rv r358, .unset] [])) _
    refine XS.iload X357.here hx rfl (hb hby at_167) rfl ?_
    show Steps p.tables e below (T357.setTop (mkF m 169 #[iv p0, iv p1, iv p2, iv p3, iv p4, iv p5, iv k, iv ca, iv cb, iv cc, iv cd, rv b300, rv r358, .unset] [(.int k)])) _
    refine XS.iconst X357.here hx rfl (hb hby at_169) ?_
    show Steps p.tables e below (T357.setTop (mkF m 170 #[iv p0, iv p1, iv p2, iv p3, iv p4, iv p5, iv k, iv ca, iv cb, iv cc, iv cd, rv b300, rv r358, .unset] [(.int (1 : Int32)), (.int k)])) _
    refine XS.icmpYes X357.here hx rfl (pc0 := 170) (pc' := 184) rfl (hb hby at_170) rfl (feq c111).2 (by decide) (by decide) ?_
    show Steps p.tables e below (T357.setTop (mkF m 184 #[iv p0, iv p1, iv p2, iv p3, iv p4, iv p5, iv k, iv ca, iv cb, iv cc, iv cd, rv b300, rv r358, .unset] [])) _
    refine XS.iconst X357.here hx rfl (hb hby at_184) ?_
    show Steps p.tables e below (T357.setTop (mkF m 185 #[iv p0, iv p1, iv p2, iv p3, iv p4, iv p5, iv k, iv ca, iv cb, iv cc, iv cd, rv b300, rv r358, .unset] [(.int (0 : Int32))])) _
    refine XS.istore X357.here hx rfl (hb hby at_185) rfl (l' := #[iv p0, iv p1, iv p2, iv p3, iv p4, iv p5, iv k, iv ca, iv cb, iv cc, iv cd, rv b300, rv r358, iv (0 : Int32)]) rfl ?_
    show Steps p.tables e below (T357.setTop (mkF m 187 #[iv p0, iv p1, iv p2, iv p3, iv p4, iv p5, iv k, iv ca, iv cb, iv cc, iv cd, rv b300, rv r358, iv (0 : Int32)] [])) _
    refine XS.iload X357.here hx rfl (hb hby at_187) rfl ?_
    show Steps p.tables e below (T357.setTop (mkF m 189 #[iv p0, iv p1, iv p2, iv p3, iv p4, iv p5, iv k, iv ca, iv cb, iv cc, iv cd, rv b300, rv r358, iv (0 : Int32)] [(.int (0 : Int32))])) _
    refine XS.ifYes X357.here hx rfl (pc0 := 189) (pc' := 194) rfl (hb hby at_189) rfl ((if0 _ _).trans (teq (by decide : (0 : Int32) = (0 : Int32))).1) (by decide) (by decide) ?_
    show Steps p.tables e below (T357.setTop (mkF m 194 #[iv p0, iv p1, iv p2, iv p3, iv p4, iv p5, iv k, iv ca, iv cb, iv cc, iv cd, rv b300, rv r358, iv (0 : Int32)] [])) _
    refine XS.aload X357.here hx rfl (hb hby at_194) rfl rfl ?_
    show Steps p.tables e below (T357.setTop (mkF m 196 #[iv p0, iv p1, iv p2, iv p3, iv p4, iv p5, iv k, iv ca, iv cb, iv cc, iv cd, rv b300, rv r358, iv (0 : Int32)] [(.ref r358)])) _
    refine XS.aload X357.here hx rfl (hb hby at_196) rfl rfl ?_
    show Steps p.tables e below (T357.setTop (mkF m 198 #[iv p0, iv p1, iv p2, iv p3, iv p4, iv p5, iv k, iv ca, iv cb, iv cc, iv cd, rv b300, rv r358, iv (0 : Int32)] [(.ref b300), (.ref r358)])) _
    exact kont
  have y372 : Fld Z T357.heap b300 "java/lang/String" "coder" "B" (.int (0 : Int32)) := (y348.keep K357 nin0)
  have y373 : Fld Z T357.heap b300 "java/lang/String" "value" "[B" (.ref r345) := (y349.keep K357 nin0)
  have y374 : Exa Z T357.heap b300 "java/lang/String" := (y347.keep K357)
  have y375 : Arv Z T357.heap r345 r346 .byte (4 : Int32) [(.int (ca.toInt8.toInt32)), (.int (cb.toInt8.toInt32)), (.int (cc.toInt8.toInt32)), (.int (cd.toInt8.toInt32))] (.int (0 : Int32)) := (y351.keep K357 nin0)
  obtain ⟨_, _, ⟨T371, L371, k371, n371⟩, -, X371, hS371, hg371, ⟨Lc371, hQ371, l371, y371, z371, C371⟩, st371⟩ := callSS X357 hx (y := (⟨"com/example/rolegate/rolegate/Permission", "requireRoleName", "(Ljava/lang/String;Ljava/lang/String;)V"⟩ : MethodName)) hown (mvT hZ (hw _ (List.mem_of_getElem? (i := 26) rfl))) (mvT hZ (hw _ (List.mem_of_getElem? (i := 27) rfl))) (mvT hZ (hw _ (List.mem_of_getElem? (i := 28) rfl))) (mvT hZ (hw _ (List.mem_of_getElem? (i := 29) rfl))) (by decide) (backOfSH (W := 0) (rm_req4 l Z a0 hw [] r358 b300 r345 r346 i_COMPACT_STRINGS [(.int (ca.toInt8.toInt32)), (.int (cb.toInt8.toInt32)), (.int (cc.toInt8.toInt32)), (.int (cd.toInt8.toInt32))] T357.heap n0 O368 S0_ hcs y372 y373 y374 y375) hZ (hw _ (List.mem_of_getElem? (i := 29) rfl)) (hw _ (List.mem_of_getElem? (i := 28) rfl)) (by decide) (by decide) (own_EW hw) R367.1) (g := (mkF m 198 #[iv p0, iv p1, iv p2, iv p3, iv p4, iv p5, iv k, iv ca, iv cb, iv cc, iv cd, rv b300, rv r358, iv (0 : Int32)] [(.ref b300), (.ref r358)])) rfl (by rw [hml]; rfl) (argsL := [(.ref r358), (.ref b300)]) (rest := []) (lenOf pd_11 rfl) rfl (by show 2 * 0 + _ ≤ _; exact Nat.le_of_eq rfl) (hb hby at_198) (fun _ _ => ⟨rfl, rfl, (by decide : 5 + 2 ≤ _), (by decide : 17 + 8 ≤ _)⟩)
  dsimp only [Pt.U, Pt.locs, Pt.cells, Pt.slots] at X371 l371 y371 z371 st371 hQ371 hS371 hg371 C371
  subst l371 y371 z371
  obtain ⟨X371, hS, hZ, hown⟩ := rebS hS (n1 := T357.heap.size) (Nat.le_trans hk (Nat.le_trans (Nat.le_trans (Nat.le_trans (Nat.le_trans (Nat.le_trans (Nat.le_trans (Nat.le_trans E300.1 E307.1) (Keep.of_wr W313).1) (Keep.of_wr W320).1) (Keep.of_wr W327).1) (Keep.of_wr W334).1) K340.1) K357.1)) X371 hS371 hg371 hZ hown
  obtain ⟨rfl, M371, K371⟩ := hQ371
  have N371 := Fr.app N357 M371
  have R376 : CHr Z consts_1 s.vm h0 T371.vm T371.heap := R367.trans C371
  have O377 := O368.keep K371 all0
  have g378 : Go p e below T371 (mkF m 201 #[iv p0, iv p1, iv p2, iv p3, iv p4, iv p5, iv k, iv ca, iv cb, iv cc, iv cd, rv b300, rv r358, iv (0 : Int32)] []) A0 := fun t kont => g370 t (st371.trans kont)
  have g379 : Go p e below T371 (mkF m 202 #[iv p0, iv p1, iv p2, iv p3, iv p4, iv p5, iv k, iv ca, iv cb, iv cc, iv cd, rv b300, rv r358, iv (0 : Int32)] [(.int (1 : Int32))]) A0 := by
    intro t kont
    refine g378 t ?_
    refine XS.iconst X371.here hx rfl (hb hby at_201) ?_
    show Steps p.tables e below (T371.setTop (mkF m 202 #[iv p0, iv p1, iv p2, iv p3, iv p4, iv p5, iv k, iv ca, iv cb, iv cc, iv cd, rv b300, rv r358, iv (0 : Int32)] [(.int (1 : Int32))])) _
    exact kont
  obtain ⟨fs, hr, hrun, hended, hRW⟩ := X371.leaveW hS (Nat.le_refl _) (v := some (.int (1 : Int32))) (fun h => by rw [Bd.returns] at h; cases h)
  refine ⟨_, _, g379 _ (retN X371 hx (t := .boolean) Bd.returns (by simp) (hb hby at_202) hr), hrun, hended, _, _, rfl, ?_, ?_, hRW.1, hRW.2.1, hRW.2.2.1, hRW.2.2.2.mono (by decide) (by decide)⟩
  ·
    show Q_law Z p0 p1 p2 p3 p4 p5 i_COMPACT_STRINGS h0 n0 _ T371.heap _
    exact ⟨rfl, N371⟩
  ·
    rw [hh]
    show CHr Z consts_1 s.vm h0 T371.vm T371.heap
    exact R376.trans (CHv.at X371 hZ (own_EW hw) R376.1)
set_option maxRecDepth 65536 in
set_option maxHeartbeats 40000000 in
theorem comes_1 {Post : Tables → Env → Array Value → State → Outcome → State → Prop} (hpost : ∀ tb e args s v u, (limb_1_1.after args s (.returned v) u = true ∧ limb_1_2.after args s (.returned v) u = true ∧ True) → ReturnedEndW s (.returned v) u (Jvm.fieldLocs frame_1_writes args s ++ Jvm.arrayLocs frame_1_arrays args s ++ Jvm.staticLocs frame_1_statics s) 24 1152 → Post tb e args s (.returned v) u) :
    ArmFor flags0 classFile x code maxLocals ret World_1 tables_1 room_1 Calls_1 rest_1 Pre_1 Post := by
  intro l hfl _ _ p e ha hc hk s m args below hf hA hF happ hP
  obtain ⟨hcalls, hrest, hpre⟩ := hP
  obtain ⟨-, -, -, hnamed, -, -, -, hat⟩ := (Spec.applies_iff hf).mp happ
  obtain ⟨hg, hn⟩ := and_e (Cond.before_iff.mp (show (Jvm.Cond.and given_1 narrow_1).before args s = true from hpre))
  obtain ⟨hcount, hg⟩ := and_e hg
  obtain ⟨ha0, hg⟩ := and_e hg
  obtain ⟨ha1, hg⟩ := and_e hg
  obtain ⟨ha2, hg⟩ := and_e hg
  obtain ⟨ha3, hg⟩ := and_e hg
  obtain ⟨ha4, hg⟩ := and_e hg
  have ha5 := hg
  obtain ⟨w0, w1, w2, w3, w4, w5, rfl⟩ : ∃ w0 w1 w2 w3 w4 w5 : Value, args = #[w0, w1, w2, w3, w4, w5] := by
    have hs : args.size = 6 := by simpa [Cond.value, given_1] using hcount
    obtain ⟨L⟩ := args
    match L, hs with
    | [w0, w1, w2, w3, w4, w5], _ => exact ⟨w0, w1, w2, w3, w4, w5, rfl⟩
  have hw := fun d (hd : d ∈ tables_1) => atoms_spec (ws := Jvm.Cond.code x code maxLocals ret :: tables_1) hat d (List.mem_cons_of_mem _ hd)
  obtain ⟨hsets, hown0⟩ := atoms_of _ (rest_1_c_eq ▸ (show rest_1_c.before _ s = true from hrest))
  have hfit : Fit s := fun {y c} hc i hi => by
    obtain ⟨ha, rfl⟩ := Array.getElem?_eq_some_iff.mp hc
    have q := List.all_eq_true.mp ((Array.all_eq_true_iff_forall_mem.mp hF) _ (Array.getElem_mem ha)) i (List.mem_range.mpr hi)
    simpa [Array.getElem?_eq_getElem hi] using q
  obtain ⟨p0, ea0⟩ := is_v ha0
  obtain rfl : w0 = (.int p0) := Option.some.inj ea0
  obtain ⟨p1, ea1⟩ := is_v ha1
  obtain rfl : w1 = (.int p1) := Option.some.inj ea1
  obtain ⟨p2, ea2⟩ := is_v ha2
  obtain rfl : w2 = (.int p2) := Option.some.inj ea2
  obtain ⟨p3, ea3⟩ := is_v ha3
  obtain rfl : w3 = (.int p3) := Option.some.inj ea3
  obtain ⟨p4, ea4⟩ := is_v ha4
  obtain rfl : w4 = (.int p4) := Option.some.inj ea4
  obtain ⟨p5, ea5⟩ := is_v ha5
  obtain rfl : w5 = (.int p5) := Option.some.inj ea5
  obtain ⟨i_COMPACT_STRINGS, ev_COMPACT_STRINGS⟩ := is_v (Cond.before_iff.mp (hsets _ (List.mem_of_getElem? (i := 1) rfl)))
  obtain ⟨v_SIOOBE_FORMATTER, ev_SIOOBE_FORMATTER, r_SIOOBE_FORMATTER⟩ := isR_v (Cond.before_iff.mp (hsets _ (List.mem_of_getElem? (i := 8) rfl)))
  have S_COMPACT_STRINGS : Sta s s.heap "java/lang/String" "COMPACT_STRINGS" "Z" (.int i_COMPACT_STRINGS) := Sta.start ev_COMPACT_STRINGS (Or.inl (hsets _ (List.mem_of_getElem? (i := 0) rfl)))
  have S_SIOOBE_FORMATTER : Sta s s.heap "jdk/internal/util/Preconditions" "SIOOBE_FORMATTER" "Ljava/util/function/BiFunction;" v_SIOOBE_FORMATTER := Sta.start ev_SIOOBE_FORMATTER (Or.inl (hsets _ (List.mem_of_getElem? (i := 7) rfl)))
  have c_COMPACT_STRINGS : ¬ (i_COMPACT_STRINGS = (0 : Int32)) := gotF (Cond.eq_ints ev_COMPACT_STRINGS (Term.int_eval (0))) (not_v (Cond.before_iff.mp (hsets _ (List.mem_of_getElem? (i := 2) rfl))))
  have hch : CHv s consts_1 s.vm s.heap := CHv.start (own_EW hw) (fun p hp => hcalls.1 p hp) (own_compact hsets) (hw _ (List.mem_of_getElem? (i := 14) rfl)) (hw _ (List.mem_of_getElem? (i := 10) rfl))
  obtain ⟨n, o, h1, h2, h3, _, L, rfl, ⟨rfl, N⟩, -, hq⟩ := rm_law l s _ hw tables_1 p0 p1 p2 p3 p4 p5 i_COMPACT_STRINGS s.heap s.heap.size (Old.start s) S_COMPACT_STRINGS c_COMPACT_STRINGS p e ha hc hk s m _ below hf ((Spec.applies_iff_loose hf).mp happ).1 ⟨rfl, State.Warmed39.refl s, rfl, hch⟩ trivial
  refine ⟨n, _, h1, h2, h3, hpost _ _ _ _ _ _ ⟨Cond.after_iff.mpr rfl, Cond.after_iff.mpr (eq_i res_at (Term.int_eval (1)) rfl), trivial⟩ ⟨hq.1, hq.2.1, hq.2.2.1, (hq.2.2.2.sift fun y hy => Or.inr (N y hy)).mono (by decide) (by decide)⟩⟩
theorem main_1_1 : Claimed_1_1 := comes_1 fun _ _ _ _ _ _ h hF => ⟨h.1, hF⟩
theorem main_1_2 : Claimed_1_2 := comes_1 fun _ _ _ _ _ _ h hF => ⟨h.2.1, hF⟩
end Jvm.Pilot.@@N@@
namespace Jvm.Pilot.@@N@@
open Jvm Jvm.ClassFile Sem Op Lib Jvm.Free Jvm.Stand Jvm.Pilot.@@N@@.Jvm.D
/-! MADE BY PROGRAM (witnessworld.py) out of the Statement's table words and the real class files: 20 classes; the members and pool entries that the words name. The judged class is class 1, her method 1. -/
namespace start1
open Jvm.ClassFile
def u (s : String) : CpInfo := .utf8 (stringToUtf16 s)
/-- a pool by its gaps: so many unusable entries, then the entry; so many at the end -/
def gap : Nat → List CpInfo → List CpInfo
  | 0, r => r
  | n + 1, r => .unusable :: gap n r
def poolList (es : List (Nat × CpInfo)) (last : Nat) : List CpInfo := es.foldr (fun e r => gap e.1 (e.2 :: r)) (gap last [])
def pool (es : List (Nat × CpInfo)) (last : Nat) : Array CpInfo := ⟨poolList es last⟩
def fileOf (pool : Array CpInfo) (this : Nat) (attrs : Array Attribute := #[]) (ms : Array MethodInfo := #[]) (fl : Nat := 33) (sup : Nat := 0) (ifs : Array Nat := #[]) (fds : Array FieldInfo := #[]) : ClassFile where
  minorVersion := 0
  majorVersion := 65
  constantPool := pool
  accessFlags := fl
  thisClass := this
  superClass := sup
  interfaces := ifs
  fields := fds
  methods := ms
  attributes := attrs
def plain (name : String) (sup : Option ClassId) : Class where
  name := name
  kind := .ordinary
  loader := none
  accessFlags := 33
  super := sup
  interfaces := #[]
  cf := none
  fields := #[]
  methods := #[]
  instanceTypes := #[]
  staticTypes := #[]
  resolved := #[]
  callSites := []
  init := .initialized
  statics := none
  mirror := none

def pool0 : Array CpInfo := pool [(5, u "<init>"), (0, u "()V"), (1, .class_ 10), (1, u "java/lang/Object")] 113

def k0c0 : Code := { maxStack := 0, maxLocals := 1, code := object_method_1_code, exceptionTable := #[], attributes := #[] }
def k0m0 : Method := { name := "<init>", desc := "()V", sig := { parameters := [], returnType := none }, accessFlags := 1, code := some k0c0 }
/-- java/lang/Object -/
def k0 : Class := { plain "java/lang/Object" none with
  accessFlags := 33
  interfaces := #[]
  cf := some (fileOf pool0 8 #[] #[{ accessFlags := 1, nameIndex := 5, descriptorIndex := 6, attributes := #[] }] 33 0 #[] #[])
  fields := #[]
  methods := #[k0m0]
  instanceTypes := #[]
  staticTypes := #[]
  resolved := Array.replicate 124 none
  statics := none }

def pool1 : Array CpInfo := pool [(2, .class_ 4), (1, u "java/lang/Object"), (0, u "<init>"), (0, u "()V"), (0, .methodref 8 9), (0, .class_ 10), (0, .nameAndType 11 12), (0, u "java/lang/String"), (0, u "valueOf"), (0, u "(C)Ljava/lang/String;"), (0, .methodref 8 14), (0, .nameAndType 5 15), (0, u "([C)V"), (0, .methodref 17 18), (0, .class_ 19), (0, .nameAndType 20 21), (0, u "com/example/rolegate/rolegate/Permission"), (0, u "requireRoleName"), (0, u "(Ljava/lang/String;Ljava/lang/String;)V"), (0, .class_ 23), (0, u "com/example/rolegate/rolegate/PermissionRequireRoleNamePinLaw"), (2, u "law"), (0, u "(IIIIII)Z")] 3

def k1m0 : Method := { name := "<init>", desc := "()V", sig := { parameters := [], returnType := none }, accessFlags := 1, code := none }
def k1c1 : Code := { maxStack := 6, maxLocals := 14, code := code, exceptionTable := #[], attributes := #[] }
def k1m1 : Method := { name := "law", desc := "(IIIIII)Z", sig := { parameters := [.int, .int, .int, .int, .int, .int], returnType := some .boolean }, accessFlags := 9, code := some k1c1 }
/-- com/example/rolegate/rolegate/PermissionRequireRoleNamePinLaw -/
def k1 : Class := { plain "com/example/rolegate/rolegate/PermissionRequireRoleNamePinLaw" (some 0) with
  accessFlags := 49
  interfaces := #[]
  cf := some (fileOf pool1 22 #[] #[{ accessFlags := 1, nameIndex := 5, descriptorIndex := 6, attributes := #[] }, { accessFlags := 9, nameIndex := 26, descriptorIndex := 27, attributes := #[] }] 49 2 #[] #[])
  fields := #[]
  methods := #[k1m0, k1m1]
  instanceTypes := #[]
  staticTypes := #[]
  resolved := Array.replicate 31 none
  statics := none }

def pool2 : Array CpInfo := pool [(1, .class_ 2), (0, u "java/io/Serializable"), (0, .class_ 4), (0, u "java/lang/Object")] 2

/-- java/io/Serializable -/
def k2 : Class := { plain "java/io/Serializable" (some 0) with
  accessFlags := 1537
  interfaces := #[]
  cf := some (fileOf pool2 1 #[] #[] 1537 3 #[] #[])
  fields := #[]
  methods := #[]
  instanceTypes := #[]
  staticTypes := #[]
  resolved := Array.replicate 7 none
  statics := none }

def pool3 : Array CpInfo := pool [(1, .class_ 2), (0, u "java/lang/Comparable"), (0, .class_ 4), (0, u "java/lang/Object")] 7

/-- java/lang/Comparable -/
def k3 : Class := { plain "java/lang/Comparable" (some 0) with
  accessFlags := 1537
  interfaces := #[]
  cf := some (fileOf pool3 1 #[] #[] 1537 3 #[] #[])
  fields := #[]
  methods := #[]
  instanceTypes := #[]
  staticTypes := #[]
  resolved := Array.replicate 12 none
  statics := none }

def pool4 : Array CpInfo := pool [(2, .class_ 4), (1, u "java/lang/CharSequence"), (42, .class_ 48), (0, u "java/lang/CharSequence$1CodePointIterator"), (10, .class_ 60), (0, u "java/lang/CharSequence$1CharIterator"), (5, .class_ 67), (0, u "java/lang/Object")] 63

/-- java/lang/CharSequence -/
def k4 : Class := { plain "java/lang/CharSequence" (some 0) with
  accessFlags := 1537
  interfaces := #[]
  cf := some (fileOf pool4 2 #[.nestMembers #[47, 59]] #[] 1537 66 #[] #[])
  fields := #[]
  methods := #[]
  instanceTypes := #[]
  staticTypes := #[]
  resolved := Array.replicate 131 none
  statics := none }

def pool5 : Array CpInfo := pool [(1, .class_ 2), (0, u "java/lang/constant/Constable"), (0, .class_ 4), (0, u "java/lang/Object")] 6

/-- java/lang/constant/Constable -/
def k5 : Class := { plain "java/lang/constant/Constable" (some 0) with
  accessFlags := 1537
  interfaces := #[]
  cf := some (fileOf pool5 1 #[] #[] 1537 3 #[] #[])
  fields := #[]
  methods := #[]
  instanceTypes := #[]
  staticTypes := #[]
  resolved := Array.replicate 11 none
  statics := none }

def pool6 : Array CpInfo := pool [(1, .class_ 2), (0, u "java/lang/constant/ConstantDesc"), (0, .class_ 4), (0, u "java/lang/Object")] 32

/-- java/lang/constant/ConstantDesc -/
def k6 : Class := { plain "java/lang/constant/ConstantDesc" (some 0) with
  accessFlags := 1537
  interfaces := #[]
  cf := some (fileOf pool6 1 #[] #[] 1537 3 #[] #[])
  fields := #[]
  methods := #[]
  instanceTypes := #[]
  staticTypes := #[]
  resolved := Array.replicate 37 none
  statics := none }

def pool7 : Array CpInfo := pool [(1, .methodref 2 3), (0, .class_ 4), (0, .nameAndType 5 6), (0, u "java/lang/Object"), (0, u "<init>"), (0, u "()V"), (2, .fieldref 10 11), (0, .class_ 12), (0, .nameAndType 13 14), (0, u "java/lang/String"), (0, u "value"), (0, u "[B"), (0, .fieldref 10 16), (0, .nameAndType 17 18), (0, u "coder"), (0, u "B"), (2, u "hash"), (0, u "I"), (2, u "hashIsZero"), (0, u "Z"), (0, .methodref 10 28), (0, .nameAndType 5 29), (0, u "([CIILjava/lang/Void;)V"), (8, .fieldref 10 39), (0, .nameAndType 40 26), (0, u "COMPACT_STRINGS"), (1, .class_ 44), (1, u "java/lang/StringUTF16"), (0, u "compress"), (1, .methodref 42 48), (0, .nameAndType 49 50), (0, u "coderFromArrayLen"), (0, u "([BI)B"), (2, u "toBytes"), (53, .class_ 109), (1, u "java/lang/StringLatin1"), (32, u "()Z"), (34, .methodref 42 178), (0, .nameAndType 45 179), (0, u "([CII)[B"), (29, .methodref 10 210), (0, .nameAndType 5 211), (0, u "([BB)V"), (157, u "(C)Z"), (171, .methodref 107 542), (0, .nameAndType 543 544), (0, u "equals"), (0, u "([B[B)Z"), (28, u "(Ljava/lang/Object;)Z"), (1, .class_ 576), (0, u "java/lang/CharSequence"), (22, u "CASE_INSENSITIVE_ORDER"), (0, u "Ljava/util/Comparator;"), (91, u "isEmpty"), (89, u "valueOf"), (0, u "(C)Ljava/lang/String;"), (226, u "([C)V"), (4, .methodref 107 1016), (0, .nameAndType 1017 369), (0, u "canEncode"), (0, .methodref 107 1019), (0, .nameAndType 53 1020), (0, u "(C)[B"), (80, u "serialPersistentFields"), (0, u "[Ljava/io/ObjectStreamField;"), (0, .class_ 1104), (0, u "java/lang/String$CaseInsensitiveComparator"), (1, .class_ 1107), (0, u "java/io/Serializable"), (0, .class_ 1109), (0, u "java/lang/Comparable"), (0, .class_ 1111), (0, u "java/lang/constant/Constable"), (0, .class_ 1113), (0, u "java/lang/constant/ConstantDesc"), (2, u "serialVersionUID"), (0, u "J"), (3, u "REPL"), (0, u "C"), (2, u "LATIN1"), (1, u "UTF16")] 323

def k7m0 : Method := { name := "<init>", desc := "()V", sig := { parameters := [], returnType := none }, accessFlags := 1, code := none }
def k7c1 : Code := { maxStack := 5, maxLocals := 2, code := jdk_42_method_3_code, exceptionTable := #[], attributes := #[] }
def k7m1 : Method := { name := "<init>", desc := "([C)V", sig := { parameters := [(.array .char)], returnType := none }, accessFlags := 1, code := some k7c1 }
def k7c2 : Code := { maxStack := 1, maxLocals := 1, code := jdk_42_method_55_code, exceptionTable := #[], attributes := #[] }
def k7m2 : Method := { name := "isEmpty", desc := "()Z", sig := { parameters := [], returnType := some .boolean }, accessFlags := 1, code := some k7c2 }
def k7c3 : Code := { maxStack := 2, maxLocals := 3, code := jdk_42_method_66_code, exceptionTable := #[], attributes := #[] }
def k7m3 : Method := { name := "equals", desc := "(Ljava/lang/Object;)Z", sig := { parameters := [(.object "java/lang/Object")], returnType := some .boolean }, accessFlags := 1, code := some k7c3 }
def k7c4 : Code := { maxStack := 4, maxLocals := 1, code := jdk_42_method_139_code, exceptionTable := #[], attributes := #[] }
def k7m4 : Method := { name := "valueOf", desc := "(C)Ljava/lang/String;", sig := { parameters := [.char], returnType := some (.object "java/lang/String") }, accessFlags := 9, code := some k7c4 }
def k7c5 : Code := { maxStack := 4, maxLocals := 6, code := jdk_42_method_149_code, exceptionTable := #[], attributes := #[] }
def k7m5 : Method := { name := "<init>", desc := "([CIILjava/lang/Void;)V", sig := { parameters := [(.array .char), .int, .int, (.object "java/lang/Void")], returnType := none }, accessFlags := 2, code := some k7c5 }
def k7c6 : Code := { maxStack := 2, maxLocals := 3, code := jdk_42_method_151_code, exceptionTable := #[], attributes := #[] }
def k7m6 : Method := { name := "<init>", desc := "([BB)V", sig := { parameters := [(.array .byte), .byte], returnType := none }, accessFlags := 0, code := some k7c6 }
/-- java/lang/String -/
def k7 : Class := { plain "java/lang/String" (some 0) with
  accessFlags := 49
  interfaces := #[2, 3, 4, 5, 6]
  cf := some (fileOf pool7 10 #[.nestMembers #[1103]] #[{ accessFlags := 1, nameIndex := 5, descriptorIndex := 6, attributes := #[] }, { accessFlags := 1, nameIndex := 5, descriptorIndex := 1010, attributes := #[] }, { accessFlags := 1, nameIndex := 692, descriptorIndex := 142, attributes := #[] }, { accessFlags := 1, nameIndex := 543, descriptorIndex := 573, attributes := #[] }, { accessFlags := 9, nameIndex := 782, descriptorIndex := 783, attributes := #[] }, { accessFlags := 2, nameIndex := 5, descriptorIndex := 29, attributes := #[] }, { accessFlags := 0, nameIndex := 5, descriptorIndex := 211, attributes := #[] }] 49 2 #[1106, 1108, 575, 1110, 1112] #[{ accessFlags := 18, nameIndex := 13, descriptorIndex := 14, attributes := #[] }, { accessFlags := 18, nameIndex := 17, descriptorIndex := 18, attributes := #[] }, { accessFlags := 2, nameIndex := 21, descriptorIndex := 22, attributes := #[] }, { accessFlags := 2, nameIndex := 25, descriptorIndex := 26, attributes := #[] }, { accessFlags := 26, nameIndex := 1116, descriptorIndex := 1117, attributes := #[] }, { accessFlags := 24, nameIndex := 40, descriptorIndex := 26, attributes := #[] }, { accessFlags := 26, nameIndex := 1101, descriptorIndex := 1102, attributes := #[] }, { accessFlags := 26, nameIndex := 1121, descriptorIndex := 1122, attributes := #[] }, { accessFlags := 25, nameIndex := 599, descriptorIndex := 600, attributes := #[] }, { accessFlags := 24, nameIndex := 1125, descriptorIndex := 18, attributes := #[] }, { accessFlags := 24, nameIndex := 1127, descriptorIndex := 18, attributes := #[] }])
  fields := #[{ name := "value", type := (.array .byte), accessFlags := 18, slot := 0, constantValue := 0 }, { name := "coder", type := .byte, accessFlags := 18, slot := 1, constantValue := 0 }, { name := "hash", type := .int, accessFlags := 2, slot := 2, constantValue := 0 }, { name := "hashIsZero", type := .boolean, accessFlags := 2, slot := 3, constantValue := 0 }, { name := "serialVersionUID", type := .long, accessFlags := 26, slot := 0, constantValue := 0 }, { name := "COMPACT_STRINGS", type := .boolean, accessFlags := 24, slot := 1, constantValue := 0 }, { name := "serialPersistentFields", type := (.array (.object "java/io/ObjectStreamField")), accessFlags := 26, slot := 2, constantValue := 0 }, { name := "REPL", type := .char, accessFlags := 26, slot := 3, constantValue := 0 }, { name := "CASE_INSENSITIVE_ORDER", type := (.object "java/util/Comparator"), accessFlags := 25, slot := 4, constantValue := 0 }, { name := "LATIN1", type := .byte, accessFlags := 24, slot := 5, constantValue := 0 }, { name := "UTF16", type := .byte, accessFlags := 24, slot := 6, constantValue := 0 }]
  methods := #[k7m0, k7m1, k7m2, k7m3, k7m4, k7m5, k7m6]
  instanceTypes := #[(.array .byte), .byte, .int, .boolean]
  staticTypes := #[.long, .boolean, (.array (.object "java/io/ObjectStreamField")), .char, (.object "java/util/Comparator"), .byte, .byte]
  resolved := Array.replicate 1451 none
  statics := some 0 }

def pool8 : Array CpInfo := pool [(4, .class_ 6), (1, u "java/lang/Object"), (0, u "<init>"), (0, u "()V"), (5, .class_ 16), (1, u "java/lang/StringLatin1"), (73, u "canEncode"), (14, u "(C)Z"), (15, u "$assertionsDisabled"), (0, u "Z"), (98, .class_ 223), (1, u "java/lang/StringLatin1$LinesSpliterator"), (57, u "equals"), (0, u "([B[B)Z"), (97, u "toBytes"), (1, u "(C)[B"), (7, .class_ 391), (0, u "java/lang/StringLatin1$CharsSpliterator")] 3

def k8m0 : Method := { name := "<init>", desc := "()V", sig := { parameters := [], returnType := none }, accessFlags := 0, code := none }
def k8c1 : Code := { maxStack := 2, maxLocals := 1, code := jdk_43_method_3_code, exceptionTable := #[], attributes := #[] }
def k8m1 : Method := { name := "canEncode", desc := "(C)Z", sig := { parameters := [.char], returnType := some .boolean }, accessFlags := 9, code := some k8c1 }
def k8c2 : Code := { maxStack := 3, maxLocals := 3, code := jdk_43_method_13_code, exceptionTable := #[], attributes := #[] }
def k8m2 : Method := { name := "equals", desc := "([B[B)Z", sig := { parameters := [(.array .byte), (.array .byte)], returnType := some .boolean }, accessFlags := 9, code := some k8c2 }
def k8c3 : Code := { maxStack := 4, maxLocals := 1, code := jdk_43_method_46_code, exceptionTable := #[], attributes := #[] }
def k8m3 : Method := { name := "toBytes", desc := "(C)[B", sig := { parameters := [.char], returnType := some (.array .byte) }, accessFlags := 9, code := some k8c3 }
/-- java/lang/StringLatin1 -/
def k8 : Class := { plain "java/lang/StringLatin1" (some 0) with
  accessFlags := 48
  interfaces := #[]
  cf := some (fileOf pool8 14 #[.nestMembers #[390, 221]] #[{ accessFlags := 0, nameIndex := 7, descriptorIndex := 8, attributes := #[] }, { accessFlags := 9, nameIndex := 90, descriptorIndex := 105, attributes := #[] }, { accessFlags := 9, nameIndex := 281, descriptorIndex := 282, attributes := #[] }, { accessFlags := 9, nameIndex := 380, descriptorIndex := 382, attributes := #[] }] 48 4 #[] #[{ accessFlags := 4120, nameIndex := 121, descriptorIndex := 122, attributes := #[] }])
  fields := #[{ name := "$assertionsDisabled", type := .boolean, accessFlags := 4120, slot := 0, constantValue := 0 }]
  methods := #[k8m0, k8m1, k8m2, k8m3]
  instanceTypes := #[]
  staticTypes := #[.boolean]
  resolved := Array.replicate 395 none
  statics := none }

def pool9 : Array CpInfo := pool [(2, .class_ 4), (1, u "java/lang/Object"), (3, .class_ 10), (1, u "com/example/rolegate/rolegate/Permission"), (0, u "holder"), (0, u "Lcom/example/rolegate/rolegate/Permission$Holder;"), (2, u "role"), (0, u "Ljava/lang/String;"), (2, u "type"), (0, u "Lcom/example/rolegate/rolegate/Permission$Type;"), (4, u "(Ljava/lang/String;Ljava/lang/String;)V"), (5, .class_ 33), (1, u "com/example/rolegate/rolegate/Permission$Holder"), (4, u "requireRoleName"), (1, .class_ 42), (1, u "com/example/rolegate/rolegate/Permission$Type"), (54, u "()Z"), (24, .class_ 124), (1, u "java/lang/String"), (21, .methodref 122 147), (0, .nameAndType 148 97), (0, u "isEmpty"), (0, .string 150), (0, u "*"), (0, .methodref 122 152), (0, .nameAndType 153 154), (0, u "equals"), (0, u "(Ljava/lang/Object;)Z"), (22, u "EVERY_ROLE")] 53

def k9c0 : Code := { maxStack := 4, maxLocals := 2, code := prog_17_method_5_code, exceptionTable := #[], attributes := #[] }
def k9m0 : Method := { name := "requireRoleName", desc := "(Ljava/lang/String;Ljava/lang/String;)V", sig := { parameters := [(.object "java/lang/String"), (.object "java/lang/String")], returnType := none }, accessFlags := 8, code := some k9c0 }
/-- com/example/rolegate/rolegate/Permission -/
def k9 : Class := { plain "com/example/rolegate/rolegate/Permission" (some 0) with
  accessFlags := 1056
  interfaces := #[]
  cf := some (fileOf pool9 8 #[.nestMembers #[40, 31]] #[{ accessFlags := 8, nameIndex := 38, descriptorIndex := 25, attributes := #[] }] 1056 2 #[] #[{ accessFlags := 24, nameIndex := 177, descriptorIndex := 16, attributes := #[] }, { accessFlags := 18, nameIndex := 11, descriptorIndex := 12, attributes := #[] }, { accessFlags := 18, nameIndex := 15, descriptorIndex := 16, attributes := #[] }, { accessFlags := 18, nameIndex := 19, descriptorIndex := 20, attributes := #[] }])
  fields := #[{ name := "EVERY_ROLE", type := (.object "java/lang/String"), accessFlags := 24, slot := 0, constantValue := 0 }, { name := "holder", type := (.object "com/example/rolegate/rolegate/Permission$Holder"), accessFlags := 18, slot := 0, constantValue := 0 }, { name := "role", type := (.object "java/lang/String"), accessFlags := 18, slot := 1, constantValue := 0 }, { name := "type", type := (.object "com/example/rolegate/rolegate/Permission$Type"), accessFlags := 18, slot := 2, constantValue := 0 }]
  methods := #[k9m0]
  instanceTypes := #[(.object "com/example/rolegate/rolegate/Permission$Holder"), (.object "java/lang/String"), (.object "com/example/rolegate/rolegate/Permission$Type")]
  staticTypes := #[(.object "java/lang/String")]
  resolved := Array.replicate 231 none
  statics := none }

def pool10 : Array CpInfo := pool [(6, .class_ 8), (1, u "java/lang/Object"), (0, u "<init>"), (0, u "()V"), (1, .class_ 14), (1, u "java/lang/StringUTF16"), (31, u "$assertionsDisabled"), (0, u "Z"), (13, u "HI_BYTE_SHIFT"), (0, u "I"), (2, u "LO_BYTE_SHIFT"), (49, .methodref 12 116), (0, .nameAndType 117 118), (0, u "compress"), (0, u "([CI[BII)I"), (3, u "([CII)[B"), (138, u "coderFromArrayLen"), (0, u "([BI)B"), (106, .class_ 371), (1, u "java/lang/StringUTF16$LinesSpliterator"), (58, u "MAX_LENGTH"), (196, .class_ 628), (0, u "java/lang/StringUTF16$CodePointsSpliterator"), (0, .class_ 630), (0, u "java/lang/StringUTF16$CharsSpliterator")] 4

def k10m0 : Method := { name := "<init>", desc := "()V", sig := { parameters := [], returnType := none }, accessFlags := 0, code := none }
def k10c1 : Code := { maxStack := 2, maxLocals := 2, code := jdk_52_method_15_code, exceptionTable := #[], attributes := #[] }
def k10m1 : Method := { name := "coderFromArrayLen", desc := "([BI)B", sig := { parameters := [(.array .byte), .int], returnType := some .byte }, accessFlags := 8, code := some k10c1 }
def k10c2 : Code := { maxStack := 5, maxLocals := 6, code := jdk_52_method_16_code, exceptionTable := #[], attributes := #[] }
def k10m2 : Method := { name := "compress", desc := "([CII)[B", sig := { parameters := [(.array .char), .int, .int], returnType := some (.array .byte) }, accessFlags := 9, code := some k10c2 }
def k10c3 : Code := { maxStack := 3, maxLocals := 7, code := jdk_52_method_21_code, exceptionTable := #[], attributes := #[] }
def k10m3 : Method := { name := "compress", desc := "([CI[BII)I", sig := { parameters := [(.array .char), .int, (.array .byte), .int, .int], returnType := some .int }, accessFlags := 9, code := some k10c3 }
/-- java/lang/StringUTF16 -/
def k10 : Class := { plain "java/lang/StringUTF16" (some 0) with
  accessFlags := 48
  interfaces := #[]
  cf := some (fileOf pool10 12 #[.nestMembers #[627, 629, 369]] #[{ accessFlags := 0, nameIndex := 9, descriptorIndex := 10, attributes := #[] }, { accessFlags := 8, nameIndex := 261, descriptorIndex := 262, attributes := #[] }, { accessFlags := 9, nameIndex := 117, descriptorIndex := 122, attributes := #[] }, { accessFlags := 9, nameIndex := 117, descriptorIndex := 118, attributes := #[] }] 48 6 #[] #[{ accessFlags := 26, nameIndex := 61, descriptorIndex := 62, attributes := #[] }, { accessFlags := 26, nameIndex := 65, descriptorIndex := 62, attributes := #[] }, { accessFlags := 24, nameIndex := 430, descriptorIndex := 62, attributes := #[] }, { accessFlags := 4120, nameIndex := 46, descriptorIndex := 47, attributes := #[] }])
  fields := #[{ name := "HI_BYTE_SHIFT", type := .int, accessFlags := 26, slot := 0, constantValue := 0 }, { name := "LO_BYTE_SHIFT", type := .int, accessFlags := 26, slot := 1, constantValue := 0 }, { name := "MAX_LENGTH", type := .int, accessFlags := 24, slot := 2, constantValue := 0 }, { name := "$assertionsDisabled", type := .boolean, accessFlags := 4120, slot := 3, constantValue := 0 }]
  methods := #[k10m0, k10m1, k10m2, k10m3]
  instanceTypes := #[]
  staticTypes := #[.int, .int, .int, .boolean]
  resolved := Array.replicate 635 none
  statics := none }

def pool11 : Array CpInfo := pool [(2, .class_ 4), (1, u "java/lang/Object"), (0, u "<init>"), (0, u "()V"), (17, .class_ 26), (1, u "jdk/internal/util/Preconditions"), (28, .class_ 56), (0, u "jdk/internal/util/Preconditions$4"), (57, .class_ 115), (0, u "jdk/internal/util/Preconditions$1"), (7, u "SIOOBE_FORMATTER"), (0, u "Ljava/util/function/BiFunction;"), (0, .class_ 126), (0, u "jdk/internal/util/Preconditions$2"), (3, u "AIOOBE_FORMATTER"), (0, .class_ 132), (0, u "jdk/internal/util/Preconditions$3"), (3, u "IOOBE_FORMATTER")] 57

def k11m0 : Method := { name := "<init>", desc := "()V", sig := { parameters := [], returnType := none }, accessFlags := 1, code := none }
/-- jdk/internal/util/Preconditions -/
def k11 : Class := { plain "jdk/internal/util/Preconditions" (some 0) with
  accessFlags := 33
  interfaces := #[]
  cf := some (fileOf pool11 24 #[.nestMembers #[55, 131, 125, 114]] #[{ accessFlags := 1, nameIndex := 5, descriptorIndex := 6, attributes := #[] }] 33 2 #[] #[{ accessFlags := 25, nameIndex := 123, descriptorIndex := 124, attributes := #[] }, { accessFlags := 25, nameIndex := 130, descriptorIndex := 124, attributes := #[] }, { accessFlags := 25, nameIndex := 136, descriptorIndex := 124, attributes := #[] }])
  fields := #[{ name := "SIOOBE_FORMATTER", type := (.object "java/util/function/BiFunction"), accessFlags := 25, slot := 0, constantValue := 0 }, { name := "AIOOBE_FORMATTER", type := (.object "java/util/function/BiFunction"), accessFlags := 25, slot := 1, constantValue := 0 }, { name := "IOOBE_FORMATTER", type := (.object "java/util/function/BiFunction"), accessFlags := 25, slot := 2, constantValue := 0 }]
  methods := #[k11m0]
  instanceTypes := #[]
  staticTypes := #[(.object "java/util/function/BiFunction"), (.object "java/util/function/BiFunction"), (.object "java/util/function/BiFunction")]
  resolved := Array.replicate 194 none
  statics := some 1 }

def pool12 : Array CpInfo := pool [(9, u "<init>"), (6, .class_ 18), (1, u "java/lang/Object"), (0, u "()V"), (1, .class_ 23), (1, u "jdk/internal/util/ArraysSupport"), (0, u "LOG2_ARRAY_LONG_INDEX_SCALE"), (0, u "I"), (2, u "U"), (0, u "Ljdk/internal/misc/Unsafe;"), (8, u "BIG_ENDIAN"), (0, u "Z"), (8, u "LOG2_BYTE_BIT_SIZE"), (4, u "LOG2_ARRAY_INT_INDEX_SCALE"), (54, u "JLA"), (0, u "Ljdk/internal/access/JavaLangAccess;"), (11, u "LOG2_ARRAY_BOOLEAN_INDEX_SCALE"), (9, u "LOG2_ARRAY_BYTE_INDEX_SCALE"), (5, u "LOG2_ARRAY_CHAR_INDEX_SCALE"), (5, u "LOG2_ARRAY_SHORT_INDEX_SCALE"), (18, u "LOG2_ARRAY_FLOAT_INDEX_SCALE"), (24, u "LOG2_ARRAY_DOUBLE_INDEX_SCALE"), (89, u "T_BOOLEAN"), (2, u "T_CHAR"), (1, u "T_FLOAT"), (1, u "T_DOUBLE"), (1, u "T_BYTE"), (1, u "T_SHORT"), (1, u "T_INT"), (1, u "T_LONG"), (1, u "SOFT_MAX_ARRAY_LENGTH")] 83

def k12m0 : Method := { name := "<init>", desc := "()V", sig := { parameters := [], returnType := none }, accessFlags := 2, code := none }
/-- jdk/internal/util/ArraysSupport -/
def k12 : Class := { plain "jdk/internal/util/ArraysSupport" (some 0) with
  accessFlags := 33
  interfaces := #[]
  cf := some (fileOf pool12 21 #[] #[{ accessFlags := 2, nameIndex := 9, descriptorIndex := 19, attributes := #[] }] 33 16 #[] #[{ accessFlags := 24, nameIndex := 28, descriptorIndex := 29, attributes := #[] }, { accessFlags := 26, nameIndex := 38, descriptorIndex := 39, attributes := #[] }, { accessFlags := 25, nameIndex := 121, descriptorIndex := 25, attributes := #[] }, { accessFlags := 25, nameIndex := 131, descriptorIndex := 25, attributes := #[] }, { accessFlags := 25, nameIndex := 137, descriptorIndex := 25, attributes := #[] }, { accessFlags := 25, nameIndex := 143, descriptorIndex := 25, attributes := #[] }, { accessFlags := 25, nameIndex := 53, descriptorIndex := 25, attributes := #[] }, { accessFlags := 25, nameIndex := 24, descriptorIndex := 25, attributes := #[] }, { accessFlags := 25, nameIndex := 162, descriptorIndex := 25, attributes := #[] }, { accessFlags := 25, nameIndex := 187, descriptorIndex := 25, attributes := #[] }, { accessFlags := 26, nameIndex := 48, descriptorIndex := 25, attributes := #[] }, { accessFlags := 25, nameIndex := 277, descriptorIndex := 25, attributes := #[] }, { accessFlags := 25, nameIndex := 280, descriptorIndex := 25, attributes := #[] }, { accessFlags := 25, nameIndex := 282, descriptorIndex := 25, attributes := #[] }, { accessFlags := 25, nameIndex := 284, descriptorIndex := 25, attributes := #[] }, { accessFlags := 25, nameIndex := 286, descriptorIndex := 25, attributes := #[] }, { accessFlags := 25, nameIndex := 288, descriptorIndex := 25, attributes := #[] }, { accessFlags := 25, nameIndex := 290, descriptorIndex := 25, attributes := #[] }, { accessFlags := 25, nameIndex := 292, descriptorIndex := 25, attributes := #[] }, { accessFlags := 26, nameIndex := 108, descriptorIndex := 109, attributes := #[] }, { accessFlags := 25, nameIndex := 294, descriptorIndex := 25, attributes := #[] }])
  fields := #[{ name := "U", type := (.object "jdk/internal/misc/Unsafe"), accessFlags := 24, slot := 0, constantValue := 0 }, { name := "BIG_ENDIAN", type := .boolean, accessFlags := 26, slot := 1, constantValue := 0 }, { name := "LOG2_ARRAY_BOOLEAN_INDEX_SCALE", type := .int, accessFlags := 25, slot := 2, constantValue := 0 }, { name := "LOG2_ARRAY_BYTE_INDEX_SCALE", type := .int, accessFlags := 25, slot := 3, constantValue := 0 }, { name := "LOG2_ARRAY_CHAR_INDEX_SCALE", type := .int, accessFlags := 25, slot := 4, constantValue := 0 }, { name := "LOG2_ARRAY_SHORT_INDEX_SCALE", type := .int, accessFlags := 25, slot := 5, constantValue := 0 }, { name := "LOG2_ARRAY_INT_INDEX_SCALE", type := .int, accessFlags := 25, slot := 6, constantValue := 0 }, { name := "LOG2_ARRAY_LONG_INDEX_SCALE", type := .int, accessFlags := 25, slot := 7, constantValue := 0 }, { name := "LOG2_ARRAY_FLOAT_INDEX_SCALE", type := .int, accessFlags := 25, slot := 8, constantValue := 0 }, { name := "LOG2_ARRAY_DOUBLE_INDEX_SCALE", type := .int, accessFlags := 25, slot := 9, constantValue := 0 }, { name := "LOG2_BYTE_BIT_SIZE", type := .int, accessFlags := 26, slot := 10, constantValue := 0 }, { name := "T_BOOLEAN", type := .int, accessFlags := 25, slot := 11, constantValue := 0 }, { name := "T_CHAR", type := .int, accessFlags := 25, slot := 12, constantValue := 0 }, { name := "T_FLOAT", type := .int, accessFlags := 25, slot := 13, constantValue := 0 }, { name := "T_DOUBLE", type := .int, accessFlags := 25, slot := 14, constantValue := 0 }, { name := "T_BYTE", type := .int, accessFlags := 25, slot := 15, constantValue := 0 }, { name := "T_SHORT", type := .int, accessFlags := 25, slot := 16, constantValue := 0 }, { name := "T_INT", type := .int, accessFlags := 25, slot := 17, constantValue := 0 }, { name := "T_LONG", type := .int, accessFlags := 25, slot := 18, constantValue := 0 }, { name := "JLA", type := (.object "jdk/internal/access/JavaLangAccess"), accessFlags := 26, slot := 19, constantValue := 0 }, { name := "SOFT_MAX_ARRAY_LENGTH", type := .int, accessFlags := 25, slot := 20, constantValue := 0 }]
  methods := #[k12m0]
  instanceTypes := #[]
  staticTypes := #[(.object "jdk/internal/misc/Unsafe"), .boolean, .int, .int, .int, .int, .int, .int, .int, .int, .int, .int, .int, .int, .int, .int, .int, .int, .int, (.object "jdk/internal/access/JavaLangAccess"), .int]
  resolved := Array.replicate 378 none
  statics := none }

def pool13 : Array CpInfo := pool [(1, u "java/lang/Cloneable"), (0, .class_ 1), (0, u "java/lang/Object"), (0, .class_ 3)] 3

/-- java/lang/Cloneable -/
def k13 : Class := { plain "java/lang/Cloneable" (some 0) with
  accessFlags := 1537
  interfaces := #[]
  cf := some (fileOf pool13 2 #[] #[] 1537 4 #[] #[])
  fields := #[]
  methods := #[]
  instanceTypes := #[]
  staticTypes := #[]
  resolved := Array.replicate 8 none
  statics := none }

/-- the primitive byte -/
def k14 : Class := { plain "byte" none with kind := .primitive 'B', accessFlags := 0x411 }
/-- [B -/
def k15 : Class := { plain "[B" (some 0) with kind := .array 14 .byte, interfaces := #[13, 2], accessFlags := 1041 }

/-- the primitive char -/
def k16 : Class := { plain "char" none with kind := .primitive 'C', accessFlags := 0x411 }
/-- [C -/
def k17 : Class := { plain "[C" (some 0) with kind := .array 16 .char, interfaces := #[13, 2], accessFlags := 1041 }

/-- the primitive int -/
def k18 : Class := { plain "int" none with kind := .primitive 'I', accessFlags := 0x411 }
/-- [I -/
def k19 : Class := { plain "[I" (some 0) with kind := .array 18 .int, interfaces := #[13, 2], accessFlags := 1041 }

def heap : Heap := #[{ cls := 7, slots := #[.long 0, .int 1, .null, .int 0, .null, .int 0, .int 0], vm := .statics 7 },
  { cls := 11, slots := #[.null, .null, .null], vm := .statics 11 }]
def classes : Array Class := #[k0, k1, k2, k3, k4, k5, k6, k7, k8, k9, k10, k11, k12, k13, k14, k15, k16, k17, k18, k19]
def interned : List (Array UInt16 × Addr) := []
def slotsUsed : Nat := 10
def theMethod : MethodId := ⟨1, 1⟩
def args0 : Array Value := #[.int 1, .int 65, .int 66, .int 67, .int 68, .int 69]
def aboutOver (below : List Frame) : State where
  vm := { classes := classes, interned := interned.toArray }
  heap := heap
  slotsUsed := slotsUsed
  threads := #[{ frames := .invoking theMethod args0 :: below }]
def below0 : List Frame := [.native { method := ⟨0, 0⟩, args := #[] }]
def about1 : State := aboutOver below0
def p0 : Program := .bare "" "" ""
def e0 : Env := launch0.env 0 0 0
theorem w_frames : about1.frames = Frame.invoking theMethod args0 :: below0 := rfl
set_option maxRecDepth 65536 in
theorem w_args : argsFit about1.vm theMethod args0 = true := by decide +kernel
set_option maxRecDepth 65536 in
theorem w_heap : heapFits about1 = true := by decide +kernel
set_option maxRecDepth 65536 in
theorem w_runnable : about1.curStatus? = some .runnable := by decide +kernel
set_option maxRecDepth 65536 in
theorem w_alone : about1.alone = true := by decide +kernel
set_option maxRecDepth 65536 in
theorem w_named : about1.methodNamed? x = some theMethod := by decide +kernel
set_option maxRecDepth 65536 in
theorem w_hears : about1.hears theMethod below0 = true := by decide +kernel
set_option maxRecDepth 65536 in
theorem w_ripe : about1.ripe theMethod args0 below0 = true := by decide +kernel
theorem w_running : about1.status = .running := rfl
set_option maxRecDepth 65536 in
theorem w_room : about1.hasRoom e0.platform room_1 = true :=
  launch0.hasRoom_least _ room_1 (by decide +kernel) (by decide +kernel) (by decide +kernel) (by decide +kernel) (by decide +kernel) (by decide +kernel)
theorem allAtoms_all (ts : List Jvm.Cond) (a : Array Jvm.Value) (st : Jvm.State) : (allAtoms ts).before a st = ts.all (fun c => c.before a st) := by
  induction ts with
  | nil => rfl
  | cons c t ih =>
    show (Jvm.Cond.and c (allAtoms t)).before a st = _
    rw [Jvm.Cond.before_and, ih, List.all_cons]
def words1 : List Jvm.Cond := Jvm.Cond.code x code maxLocals ret :: tables_1
/-- a 'code' word, met by the world's own term for the bytes: nothing is compared byte by byte -/
theorem code_word {y : MethodName} {bytes : ByteArray} {mx : Nat} {rt : Option FieldType} {a : Array Value} {s : State} {m : MethodId} {meth : Method} {c : Code} (h1 : s.methodNamed? y = some m) (h2 : s.vm.method? m = some meth) (h3 : meth.code = some c) (h4 : c.code = bytes)
    (h5 : (c.maxLocals == mx && c.exceptionTable.isEmpty && decide (c.maxStack ≤ mostOperands) && decide (meth.sig.returnType = rt) && !meth.locks && decide (parseMethodDescriptor y.desc = some meth.sig)) = true) : (Jvm.Cond.code y bytes mx rt).before a s = true := by
  simp only [Bool.and_eq_true, beq_iff_eq, Bool.not_eq_true', decide_eq_true_eq] at h5
  obtain ⟨⟨⟨⟨⟨g1, g2⟩, g3⟩, g4⟩, g5⟩, g6⟩ := h5
  simp [Cond.before, Cond.holds, Cond.value, h1, h2, h3, h4, g1, g2, g3, g4, g5, g6]
def isCode : Jvm.Cond → Bool
  | .code _ _ _ _ => true
  | _ => false
theorem all_split {L : List Jvm.Cond} {P : Jvm.Cond → Bool} (h1 : L.all (fun c => isCode c || P c) = true) (h2 : ∀ c ∈ L.filter isCode, P c = true) : L.all P = true := by
  refine List.all_eq_true.mpr fun c hc => ?_
  have h := List.all_eq_true.mp h1 c hc
  rcases Bool.eq_false_or_eq_true (isCode c) with hi | hi
  · exact h2 c (List.mem_filter.mpr ⟨hc, hi⟩)
  · simpa [hi] using h
set_option maxRecDepth 65536 in
theorem w_c0 : (Jvm.Cond.code x code maxLocals ret).before args0 about1 = true := code_word (m := ⟨1, 1⟩) (meth := k1m1) (c := k1c1) (by decide +kernel) rfl rfl rfl (by decide +kernel)
set_option maxRecDepth 65536 in
theorem w_c1 : (Jvm.Cond.code ({ cls := "java/lang/String", name := "valueOf", desc := "(C)Ljava/lang/String;" } : Jvm.MethodName) jdk_42_method_139_code (1 : Nat) (Option.some (Jvm.ClassFile.FieldType.object "java/lang/String"))).before args0 about1 = true := code_word (m := ⟨7, 4⟩) (meth := k7m4) (c := k7c4) (by decide +kernel) rfl rfl rfl (by decide +kernel)
set_option maxRecDepth 65536 in
theorem w_c2 : (Jvm.Cond.code ({ cls := "java/lang/StringLatin1", name := "canEncode", desc := "(C)Z" } : Jvm.MethodName) jdk_43_method_3_code (1 : Nat) (Option.some Jvm.ClassFile.FieldType.boolean)).before args0 about1 = true := code_word (m := ⟨8, 1⟩) (meth := k8m1) (c := k8c1) (by decide +kernel) rfl rfl rfl (by decide +kernel)
set_option maxRecDepth 65536 in
theorem w_c3 : (Jvm.Cond.code ({ cls := "java/lang/StringLatin1", name := "toBytes", desc := "(C)[B" } : Jvm.MethodName) jdk_43_method_46_code (1 : Nat) (Option.some (Jvm.ClassFile.FieldType.array Jvm.ClassFile.FieldType.byte))).before args0 about1 = true := code_word (m := ⟨8, 3⟩) (meth := k8m3) (c := k8c3) (by decide +kernel) rfl rfl rfl (by decide +kernel)
set_option maxRecDepth 65536 in
theorem w_c4 : (Jvm.Cond.code ({ cls := "java/lang/String", name := "<init>", desc := "([BB)V" } : Jvm.MethodName) jdk_42_method_151_code (3 : Nat) (Option.none : Option Jvm.ClassFile.FieldType)).before args0 about1 = true := code_word (m := ⟨7, 6⟩) (meth := k7m6) (c := k7c6) (by decide +kernel) rfl rfl rfl (by decide +kernel)
set_option maxRecDepth 65536 in
theorem w_c5 : (Jvm.Cond.code ({ cls := "java/lang/Object", name := "<init>", desc := "()V" } : Jvm.MethodName) object_method_1_code (1 : Nat) (Option.none : Option Jvm.ClassFile.FieldType)).before args0 about1 = true := code_word (m := ⟨0, 0⟩) (meth := k0m0) (c := k0c0) (by decide +kernel) rfl rfl rfl (by decide +kernel)
set_option maxRecDepth 65536 in
theorem w_c6 : (Jvm.Cond.code ({ cls := "com/example/rolegate/rolegate/Permission", name := "requireRoleName", desc := "(Ljava/lang/String;Ljava/lang/String;)V" } : Jvm.MethodName) prog_17_method_5_code (2 : Nat) (Option.none : Option Jvm.ClassFile.FieldType)).before args0 about1 = true := code_word (m := ⟨9, 0⟩) (meth := k9m0) (c := k9c0) (by decide +kernel) rfl rfl rfl (by decide +kernel)
set_option maxRecDepth 65536 in
theorem w_c7 : (Jvm.Cond.code ({ cls := "java/lang/String", name := "isEmpty", desc := "()Z" } : Jvm.MethodName) jdk_42_method_55_code (1 : Nat) (Option.some Jvm.ClassFile.FieldType.boolean)).before args0 about1 = true := code_word (m := ⟨7, 2⟩) (meth := k7m2) (c := k7c2) (by decide +kernel) rfl rfl rfl (by decide +kernel)
set_option maxRecDepth 65536 in
theorem w_c8 : (Jvm.Cond.code ({ cls := "java/lang/String", name := "equals", desc := "(Ljava/lang/Object;)Z" } : Jvm.MethodName) jdk_42_method_66_code (3 : Nat) (Option.some Jvm.ClassFile.FieldType.boolean)).before args0 about1 = true := code_word (m := ⟨7, 3⟩) (meth := k7m3) (c := k7c3) (by decide +kernel) rfl rfl rfl (by decide +kernel)
set_option maxRecDepth 65536 in
theorem w_c9 : (Jvm.Cond.code ({ cls := "java/lang/StringLatin1", name := "equals", desc := "([B[B)Z" } : Jvm.MethodName) jdk_43_method_13_code (3 : Nat) (Option.some Jvm.ClassFile.FieldType.boolean)).before args0 about1 = true := code_word (m := ⟨8, 2⟩) (meth := k8m2) (c := k8c2) (by decide +kernel) rfl rfl rfl (by decide +kernel)
set_option maxRecDepth 65536 in
theorem w_c10 : (Jvm.Cond.code ({ cls := "java/lang/String", name := "<init>", desc := "([C)V" } : Jvm.MethodName) jdk_42_method_3_code (2 : Nat) (Option.none : Option Jvm.ClassFile.FieldType)).before args0 about1 = true := code_word (m := ⟨7, 1⟩) (meth := k7m1) (c := k7c1) (by decide +kernel) rfl rfl rfl (by decide +kernel)
set_option maxRecDepth 65536 in
theorem w_c11 : (Jvm.Cond.code ({ cls := "java/lang/String", name := "<init>", desc := "([CIILjava/lang/Void;)V" } : Jvm.MethodName) jdk_42_method_149_code (6 : Nat) (Option.none : Option Jvm.ClassFile.FieldType)).before args0 about1 = true := code_word (m := ⟨7, 5⟩) (meth := k7m5) (c := k7c5) (by decide +kernel) rfl rfl rfl (by decide +kernel)
set_option maxRecDepth 65536 in
theorem w_c12 : (Jvm.Cond.code ({ cls := "java/lang/StringUTF16", name := "compress", desc := "([CII)[B" } : Jvm.MethodName) jdk_52_method_16_code (6 : Nat) (Option.some (Jvm.ClassFile.FieldType.array Jvm.ClassFile.FieldType.byte))).before args0 about1 = true := code_word (m := ⟨10, 2⟩) (meth := k10m2) (c := k10c2) (by decide +kernel) rfl rfl rfl (by decide +kernel)
set_option maxRecDepth 65536 in
theorem w_c13 : (Jvm.Cond.code ({ cls := "java/lang/StringUTF16", name := "compress", desc := "([CI[BII)I" } : Jvm.MethodName) jdk_52_method_21_code (7 : Nat) (Option.some Jvm.ClassFile.FieldType.int)).before args0 about1 = true := code_word (m := ⟨10, 3⟩) (meth := k10m3) (c := k10c3) (by decide +kernel) rfl rfl rfl (by decide +kernel)
set_option maxRecDepth 65536 in
theorem w_c14 : (Jvm.Cond.code ({ cls := "java/lang/StringUTF16", name := "coderFromArrayLen", desc := "([BI)B" } : Jvm.MethodName) jdk_52_method_15_code (2 : Nat) (Option.some Jvm.ClassFile.FieldType.byte)).before args0 about1 = true := code_word (m := ⟨10, 1⟩) (meth := k10m1) (c := k10c1) (by decide +kernel) rfl rfl rfl (by decide +kernel)
def codes1 : List Jvm.Cond := [Jvm.Cond.code x code maxLocals ret, Jvm.Cond.code ({ cls := "java/lang/String", name := "valueOf", desc := "(C)Ljava/lang/String;" } : Jvm.MethodName) jdk_42_method_139_code (1 : Nat) (Option.some (Jvm.ClassFile.FieldType.object "java/lang/String")), Jvm.Cond.code ({ cls := "java/lang/StringLatin1", name := "canEncode", desc := "(C)Z" } : Jvm.MethodName) jdk_43_method_3_code (1 : Nat) (Option.some Jvm.ClassFile.FieldType.boolean), Jvm.Cond.code ({ cls := "java/lang/StringLatin1", name := "toBytes", desc := "(C)[B" } : Jvm.MethodName) jdk_43_method_46_code (1 : Nat) (Option.some (Jvm.ClassFile.FieldType.array Jvm.ClassFile.FieldType.byte)), Jvm.Cond.code ({ cls := "java/lang/String", name := "<init>", desc := "([BB)V" } : Jvm.MethodName) jdk_42_method_151_code (3 : Nat) (Option.none : Option Jvm.ClassFile.FieldType), Jvm.Cond.code ({ cls := "java/lang/Object", name := "<init>", desc := "()V" } : Jvm.MethodName) object_method_1_code (1 : Nat) (Option.none : Option Jvm.ClassFile.FieldType), Jvm.Cond.code ({ cls := "com/example/rolegate/rolegate/Permission", name := "requireRoleName", desc := "(Ljava/lang/String;Ljava/lang/String;)V" } : Jvm.MethodName) prog_17_method_5_code (2 : Nat) (Option.none : Option Jvm.ClassFile.FieldType), Jvm.Cond.code ({ cls := "java/lang/String", name := "isEmpty", desc := "()Z" } : Jvm.MethodName) jdk_42_method_55_code (1 : Nat) (Option.some Jvm.ClassFile.FieldType.boolean), Jvm.Cond.code ({ cls := "java/lang/String", name := "equals", desc := "(Ljava/lang/Object;)Z" } : Jvm.MethodName) jdk_42_method_66_code (3 : Nat) (Option.some Jvm.ClassFile.FieldType.boolean), Jvm.Cond.code ({ cls := "java/lang/StringLatin1", name := "equals", desc := "([B[B)Z" } : Jvm.MethodName) jdk_43_method_13_code (3 : Nat) (Option.some Jvm.ClassFile.FieldType.boolean), Jvm.Cond.code ({ cls := "java/lang/String", name := "<init>", desc := "([C)V" } : Jvm.MethodName) jdk_42_method_3_code (2 : Nat) (Option.none : Option Jvm.ClassFile.FieldType), Jvm.Cond.code ({ cls := "java/lang/String", name := "<init>", desc := "([CIILjava/lang/Void;)V" } : Jvm.MethodName) jdk_42_method_149_code (6 : Nat) (Option.none : Option Jvm.ClassFile.FieldType), Jvm.Cond.code ({ cls := "java/lang/StringUTF16", name := "compress", desc := "([CII)[B" } : Jvm.MethodName) jdk_52_method_16_code (6 : Nat) (Option.some (Jvm.ClassFile.FieldType.array Jvm.ClassFile.FieldType.byte)), Jvm.Cond.code ({ cls := "java/lang/StringUTF16", name := "compress", desc := "([CI[BII)I" } : Jvm.MethodName) jdk_52_method_21_code (7 : Nat) (Option.some Jvm.ClassFile.FieldType.int), Jvm.Cond.code ({ cls := "java/lang/StringUTF16", name := "coderFromArrayLen", desc := "([BI)B" } : Jvm.MethodName) jdk_52_method_15_code (2 : Nat) (Option.some Jvm.ClassFile.FieldType.byte)]
set_option maxRecDepth 65536 in
theorem codes_eq : words1.filter isCode = codes1 := rfl
theorem w_codes : ∀ c ∈ words1.filter isCode, c.before args0 about1 = true := by
  rw [codes_eq]
  intro c hc
  simp only [codes1, List.mem_cons, List.not_mem_nil, or_false] at hc
  rcases hc with rfl | rfl | rfl | rfl | rfl | rfl | rfl | rfl | rfl | rfl | rfl | rfl | rfl | rfl | rfl
  · exact w_c0
  · exact w_c1
  · exact w_c2
  · exact w_c3
  · exact w_c4
  · exact w_c5
  · exact w_c6
  · exact w_c7
  · exact w_c8
  · exact w_c9
  · exact w_c10
  · exact w_c11
  · exact w_c12
  · exact w_c13
  · exact w_c14
set_option maxRecDepth 65536 in
theorem w_t1 : (words1.take 24).all (fun c => isCode c || c.before args0 about1) = true := by decide +kernel
set_option maxRecDepth 65536 in
theorem w_t2 : ((words1.drop 24).take 24).all (fun c => isCode c || c.before args0 about1) = true := by decide +kernel
set_option maxRecDepth 65536 in
theorem w_t3 : ((words1.drop 24).drop 24).all (fun c => isCode c || c.before args0 about1) = true := by decide +kernel
theorem w_tables : (allAtoms (Jvm.Cond.code x code maxLocals ret :: tables_1)).before args0 about1 = true := by
  rw [allAtoms_all]
  show words1.all (fun c => c.before args0 about1) = true
  refine all_split ?_ w_codes
  rw [← List.take_append_drop 24 words1, List.all_append, w_t1, ← List.take_append_drop 24 (words1.drop 24), List.all_append, w_t2, w_t3]
  rfl
set_option maxRecDepth 65536 in
theorem w_rest : rest_1_c.before args0 about1 = true := by decide +kernel
set_option maxRecDepth 65536 in
theorem w_case : (Jvm.Cond.and given_1 narrow_1).before args0 about1 = true := by decide +kernel
set_option maxRecDepth 65536 in
theorem w_consts : constsHeld consts_1 about1 := Jvm.Lit.constsHeldB_iff.mp (by decide +kernel)
theorem w_applies : (headSpec (Jvm.Cond.code x code maxLocals ret :: tables_1) room_1).applies x e0.platform about1 = true :=
  (Spec.applies_iff w_frames).mpr ⟨w_running, w_runnable, w_alone, w_named, w_hears, w_ripe, w_room, w_tables⟩
theorem atStart : AtStart classFile x code maxLocals ret World_1 tables_1 room_1 Calls_1 rest_1 Pre_1 launch0 p0 e0 about1 theMethod args0 below0 :=
  ⟨lists_1, trivial, launch0.admits_env _ _ _, launch0.least_env, fairChoices_fair.cas, fairChoices_fair.clock, w_frames, w_args, w_heap, w_applies, ⟨w_consts, trivial⟩, w_rest, w_case⟩
end start1
theorem witness_1 : WitnessClaimed_1 := ⟨start1.p0, start1.e0, start1.about1, start1.theMethod, start1.args0, start1.below0, start1.atStart⟩
end Jvm.Pilot.@@N@@
