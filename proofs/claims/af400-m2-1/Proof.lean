import JvmDerived
import JvmDerived.Pilot.@@N@@Statement
import JvmDerived.Pilot.@@N@@Code
set_option linter.unusedVariables false
set_option linter.unusedSimpArgs false
namespace Jvm.RoadKit
open Sem ClassFile Op Lib Jvm.Stand Jvm.Free Jvm.LawKit
section New
variable {p : Program} {l : Launch} {e : Env} {R : Room} {s : State} {m : MethodId} {args : Array Value} {below : List Frame} {meth : Method} {c : Code} {T : State} {locs : List Loc} {cells slots : Nat}
theorem retI (X : Stand p l e R s m args below meth c T locs cells slots) (hx : p.tables.exec = Jvm.exec) {pc : Nat} {Ls : Array Slot} {z : Int32} {rest : List Value} (hret : meth.sig.returnType = some .int) (hd : decode c.code pc = .ok (.ireturn, 1)) {fs : List Frame}
    (hl : ∀ (f : JFrame) (acts : List Action), f.method = m → f.locked = none → f.entered = [] → (doReturn e (T.setTop f) acts (some (.int z))).1 = T.setFrames fs) : Steps p.tables e below (T.setTop (mkF m pc Ls (.int z :: rest))) (T.setFrames fs) := by
  have hm' : T.vm.method? m = some meth := X.method'
  have hn : narrow .int (.int z) = .int z := rfl
  show Steps p.tables e below (T.setTop { method := m, pc := pc, locals := Ls, stack := _ :: rest, locked := none }) _
  jvm_step X.here [X.here.top, hx, hd, hm', hret, hn]
  first | (intro acts; rw [hl _ acts rfl rfl rfl]) | rw [hl _ _ rfl rfl rfl]
  exact Steps.refl _
end New
abbrev Go (p : Program) (e : Env) (below : List Frame) (T : State) (f : JFrame) (A : State) : Prop := ∀ t, Steps p.tables e below (T.setTop f) t → Steps p.tables e below A t
theorem own_retA (w : Value) (h : w.isRef = true) (t : FieldType) (ht : t.isReference = true) : narrow t w = w := by
  cases w <;> simp [Value.isRef] at h <;> cases t <;> simp [FieldType.isReference] at ht <;> rfl
theorem own_fitA (w : Value) (h : w.isRef = true) (t : FieldType) (ht : t.isReference = true) : fits t w = true := by
  cases w <;> simp [Value.isRef] at h <;> cases t <;> simp [FieldType.isReference] at ht <;> rfl
theorem own_narb (x : Int32) : nar .byte (x.toInt8.toInt32) = x.toInt8.toInt32 := by
  show x.toInt8.toInt32.toInt8.toInt32 = _
  simp
theorem own_ft_byte {z y : Int32} (e : nar .byte z = y) : fits .byte (.int y) = true := by rw [← e]; exact fits_nar_byte z
theorem own_ft_char {z y : Int32} (e : nar .char z = y) : fits .char (.int y) = true := by rw [← e]; exact fits_nar_char z
theorem own_ft_short {z y : Int32} (e : nar .short z = y) : fits .short (.int y) = true := by rw [← e]; exact fits_nar_short z
theorem own_ft_boolean {z y : Int32} (e : nar .boolean z = y) : fits .boolean (.int y) = true := by rw [← e]; exact fits_nar_bool z
theorem own_nw_byte {z y : Int32} (e : nar .byte z = y) : narrow .byte (.int z) = .int y := by rw [← e]; rfl
theorem own_nw_char {z y : Int32} (e : nar .char z = y) : narrow .char (.int z) = .int y := by rw [← e]; rfl
theorem own_nw_short {z y : Int32} (e : nar .short z = y) : narrow .short (.int z) = .int y := by rw [← e]; rfl
theorem own_nw_boolean {z y : Int32} (e : nar .boolean z = y) : narrow .boolean (.int z) = .int y := by rw [← e]; rfl
theorem own_narc (x : Int32) : nar .char (x.toUInt32.toUInt16.toUInt32.toInt32) = x.toUInt32.toUInt16.toUInt32.toInt32 := by
  show x.toUInt32.toUInt16.toUInt32.toInt32.toUInt32.toUInt16.toUInt32.toInt32 = _
  have q := c_i2c x
  have r := c_i2c x.toUInt32.toUInt16.toUInt32.toInt32
  apply Int32.toInt_inj.mp
  omega
theorem own_ext_refl {h : Heap} : Ext h h := ⟨Nat.le_refl _, fun _ _ q => q⟩
theorem own_ext_trans {h h' h2 : Heap} (A : Ext h h') (B : Ext h' h2) : Ext h h2 := ⟨Nat.le_trans A.1 B.1, fun a c q => B.2 a c (A.2 a c q)⟩
theorem own_ext_keep {h h' : Heap} (K : Keep h h' []) : Ext h h' := ⟨K.1, fun a c q => K.2.1 a c q nin0⟩
theorem own_lcmp_self (x : Int64) : lcmpW x x = (0 : Int32) := by rw [lcW]; exact (lc_eq x x).mpr rfl
theorem own_catV {v : Value} (h : v.isRef = true) : v.category = 1 := by cases v <;> simp [Value.isRef] at h <;> rfl
end Jvm.RoadKit
namespace Jvm.RoadKit
open Sem ClassFile Op Lib Jvm.Stand Jvm.Free Jvm.LawKit
theorem own_old_le {Z : State} {n0 : Nat} {h : Heap} (O : Old Z n0 h) : n0 ≤ h.size := O.1 ▸ O.2.1
theorem own_fld_int {args : Array Value} {s : State} {t : Term} {C n d : String} {k : Int32} {a : Addr} (h : (Cond.eq (.field t C n d) (.int k)).value args s none s [] = some true) (ev : t.eval args s none [] s = some (.ref a)) : Fld s s.heap a C n d (.int k) := by
  obtain ⟨x, y, h1, h2, -, k2⟩ := cmp_v (Or.inl h)
  cases h2.symm.trans (Term.int_eval k)
  obtain ⟨z, rfl⟩ := k2
  have e : z = k := gotT (Cond.eq_ints h1 h2) h
  subst e
  exact Fld.start ((fld_at ev).symm.trans h1)
theorem own_eqint {args : Array Value} {s : State} {t : Term} {k : Int32} (h : (Cond.eq t (.int k)).value args s none s [] = some true) : t.eval args s none [] s = some (.int k) := by
  obtain ⟨x, y, h1, h2, -, k2⟩ := cmp_v (Or.inl h)
  cases h2.symm.trans (Term.int_eval k)
  obtain ⟨z, rfl⟩ := k2
  have e : z = k := gotT (Cond.eq_ints h1 h2) h
  subst e
  exact h1
end Jvm.RoadKit
namespace Jvm.RoadKit
open Sem ClassFile Op Lib Jvm.Stand Jvm.Free Jvm.LawKit
theorem own_c255 (x : Int32) : ¬ ((255 : Int32) < ((x &&& (255 : Int32)).toUInt32.toUInt16.toUInt32.toInt32)) := by
  rw [i2c_mask, Int32.lt_iff_toInt_lt]
  have h : (x &&& 255).toInt ≤ 255 := (c_and x 255 (by decide)).2
  show ¬ (255 < (x &&& 255).toInt)
  omega
theorem own_c0 (x : Int32) : ¬ (((x &&& (255 : Int32)).toUInt32.toUInt16.toUInt32.toInt32) < (0 : Int32)) := by
  rw [i2c_mask, Int32.lt_iff_toInt_lt]
  have h : 0 ≤ (x &&& 255).toInt := (c_and x 255 (by decide)).1
  show ¬ ((x &&& 255).toInt < 0)
  omega
end Jvm.RoadKit
namespace Jvm.Pilot.@@N@@
open Jvm Jvm.ClassFile Sem Op Lib Jvm.Free Jvm.Stand Jvm.LawKit Jvm.RoadKit Bundle Jvm.Pilot.@@N@@.Jvm.D
theorem d8_0 : decode jdk_43_method_3_code 0 = .ok (.iload_n 0, 1) := by decide +kernel
theorem d8_1 : decode jdk_43_method_3_code 1 = .ok (.sipush 255, 3) := by decide +kernel
theorem d8_4 : decode jdk_43_method_3_code 4 = .ok (.if_icmp .gt 7, 3) := by decide +kernel
theorem d8_7 : decode jdk_43_method_3_code 7 = .ok (.iconst 1, 1) := by decide +kernel
theorem d8_8 : decode jdk_43_method_3_code 8 = .ok (.goto 4, 3) := by decide +kernel
theorem d8_12 : decode jdk_43_method_3_code 12 = .ok (.ireturn, 1) := by decide +kernel
theorem pn_java_lang_StringLatin1 : plainName "java/lang/StringLatin1" = true := by first | (simp [plainName, overriddenIn]; done) | decide +kernel
theorem ef_canE (m : MethodId) (x0 : Int32)  : entryFrame m #[(.int x0)] 1 = mkF m 0 #[.val (.int x0)] [] := by first | (simp [entryFrame, mkF, argsToLocals, Value.category]; done) | rfl
def Q_canE (Z : State) (ch : Int32) (h0 : Heap) (n0 : Nat) (v : Option Value) (h : Heap) (L : List Loc) : Prop := v = some (.int (1 : Int32)) ∧ Fr n0 L ∧ h = h0
set_option maxRecDepth 65536 in
set_option maxHeartbeats 40000000 in
theorem rm_canE (l : Launch) (Z : State) (a0 : Array Value) (hw : ∀ d ∈ tables_1, d.before a0 Z = true) (ws : List Jvm.Cond) (ch : Int32) (h0 : Heap) (n0 : Nat) (O0 : Old Z n0 h0) (h1 : ¬ ((255 : Int32) < ch)) :
    MetFree l (⟨"java/lang/StringLatin1", "canEncode", "(C)Z"⟩ : MethodName) (head1 (Jvm.Cond.code (⟨"java/lang/StringLatin1", "canEncode", "(C)Z"⟩ : MethodName) jdk_43_method_3_code 1 (some .boolean) :: ws) ({ frames := 0, cells := 0, slots := 0, locals := 0 } : Room)) (fun a U => a = #[(.int ch)] ∧ Z.Warmed39 U.vm ∧ U.heap = h0) (fun _ _ _ _ _ => True) (fun _ U o U' => ∃ v L, o = .returned v ∧ Q_canE Z ch h0 n0 v U'.heap L ∧ FrameEnd U o U' L ({ frames := 0, cells := 0, slots := 0, locals := 0 } : Room).cells ({ frames := 0, cells := 0, slots := 0, locals := 0 } : Room).slots) := by
  refine MetFree.of_bodySF (plainFor_of_name pn_java_lang_StringLatin1) hisR ?_
  intro p e s m args below meth c s₁ Bd hml0 hP hK
  obtain ⟨rfl, hZ, hh⟩ := hP
  have hx := Bd.exec
  have hby := Bd.bytes
  have hml : c.maxLocals = 1 := hml0
  have hown : s.vm.findClass "java/lang/StringLatin1" = some m.cls := findClass_of_methodNamed Bd.named
  have hnm := (name_of_methodNamed Bd.named Bd.method).1
  have X0 : Stand p l e ({ frames := 0, cells := 0, slots := 0, locals := 0 } : Room) s m #[(.int ch)] below meth c s₁ [] 0 0 := Stand.of_body Bd
  have e0 : s₁.heap = h0 := by rw [← hh, Bd.state]; rfl
  have N0 := Fr.nil n0
  have g0 : Go p e below s₁ (mkF m 0 #[iv ch] []) (s₁.setTop (entryFrame m #[(.int ch)] 1)) := fun t kont => castTop (ef_canE m ch ) kont
  generalize s₁.setTop (entryFrame m #[(.int ch)] 1) = A0 at g0 ⊢
  have g101 : Go p e below s₁ (mkF m 12 #[iv ch] [(.int (1 : Int32))]) A0 := by
    intro t kont
    refine g0 t ?_
    refine XS.iloadN X0.here hx rfl (hb hby d8_0) rfl ?_
    show Steps p.tables e below (s₁.setTop (mkF m 1 #[iv ch] [(.int ch)])) _
    refine XS.sipush X0.here hx rfl (hb hby d8_1) ?_
    show Steps p.tables e below (s₁.setTop (mkF m 4 #[iv ch] [(.int (255 : Int32)), (.int ch)])) _
    refine XS.icmpNo X0.here hx rfl (hb hby d8_4) rfl (flt h1).2.2.1 ?_
    show Steps p.tables e below (s₁.setTop (mkF m 7 #[iv ch] [])) _
    refine XS.iconst X0.here hx rfl (hb hby d8_7) ?_
    show Steps p.tables e below (s₁.setTop (mkF m 8 #[iv ch] [(.int (1 : Int32))])) _
    refine XS.goto X0.here hx rfl (pc0 := 8) (pc' := 12) rfl (hb hby d8_8) (by decide) (by decide) ?_
    show Steps p.tables e below (s₁.setTop (mkF m 12 #[iv ch] [(.int (1 : Int32))])) _
    exact kont
  obtain ⟨fs, hr, hrun, hended, hW, hsame⟩ := X0.leave (v := some (.int (1 : Int32))) (fun h => by rw [Bd.returns] at h; cases h)
  refine ⟨_, _, g101 _ (retN X0 hx (t := .boolean) Bd.returns (by simp) (hb hby d8_12) hr), hrun, hended, _, _, rfl, ?_, ⟨_, rfl⟩, hW, hsame.mono (by decide) (by decide)⟩
  show Q_canE Z ch h0 n0 _ s₁.heap _
  rw [e0]
  exact ⟨rfl, N0, rfl⟩
theorem d9_0 : decode jdk_43_method_46_code 0 = .ok (.iconst 1, 1) := by decide +kernel
theorem d9_1 : decode jdk_43_method_46_code 1 = .ok (.newarray .byte, 2) := by decide +kernel
theorem d9_3 : decode jdk_43_method_46_code 3 = .ok (.dup, 1) := by decide +kernel
theorem d9_4 : decode jdk_43_method_46_code 4 = .ok (.iconst 0, 1) := by decide +kernel
theorem d9_5 : decode jdk_43_method_46_code 5 = .ok (.iload_n 0, 1) := by decide +kernel
theorem d9_6 : decode jdk_43_method_46_code 6 = .ok (.i2b, 1) := by decide +kernel
theorem d9_7 : decode jdk_43_method_46_code 7 = .ok (.bastore, 1) := by decide +kernel
theorem d9_8 : decode jdk_43_method_46_code 8 = .ok (.areturn, 1) := by decide +kernel
theorem ef_toB (m : MethodId) (x0 : Int32)  : entryFrame m #[(.int x0)] 1 = mkF m 0 #[.val (.int x0)] [] := by first | (simp [entryFrame, mkF, argsToLocals, Value.category]; done) | rfl
def Q_toB (Z : State) (ch : Int32) (h0 : Heap) (n0 : Nat) (v : Option Value) (h : Heap) (L : List Loc) : Prop := ∃ (r : Addr), ∃ (kid : ClassId), v = some (.ref r) ∧ Fr n0 L ∧ Keep h0 h [] ∧ h0.size ≤ r ∧ (Exa Z h r "[B") ∧ (Arv Z h r kid .byte (1 : Int32) [(.int (ch.toInt8.toInt32))] (.int (0 : Int32)))
set_option maxRecDepth 65536 in
set_option maxHeartbeats 40000000 in
theorem rm_toB (l : Launch) (Z : State) (a0 : Array Value) (hw : ∀ d ∈ tables_1, d.before a0 Z = true) (ws : List Jvm.Cond) (ch : Int32) (h0 : Heap) (n0 : Nat) (O0 : Old Z n0 h0)  :
    MetFree l (⟨"java/lang/StringLatin1", "toBytes", "(C)[B"⟩ : MethodName) (head1 (Jvm.Cond.code (⟨"java/lang/StringLatin1", "toBytes", "(C)[B"⟩ : MethodName) jdk_43_method_46_code 1 (some (.array .byte)) :: ws) ({ frames := 0, cells := 1, slots := 1, locals := 0 } : Room)) (fun a U => a = #[(.int ch)] ∧ Z.Warmed39 U.vm ∧ U.heap = h0) (fun _ _ _ _ _ => True) (fun _ U o U' => ∃ v L, o = .returned v ∧ Q_toB Z ch h0 n0 v U'.heap L ∧ FrameEnd U o U' L ({ frames := 0, cells := 1, slots := 1, locals := 0 } : Room).cells ({ frames := 0, cells := 1, slots := 1, locals := 0 } : Room).slots) := by
  refine MetFree.of_bodySF (plainFor_of_name pn_java_lang_StringLatin1) hisR ?_
  intro p e s m args below meth c s₁ Bd hml0 hP hK
  obtain ⟨rfl, hZ, hh⟩ := hP
  have hx := Bd.exec
  have hby := Bd.bytes
  have hml : c.maxLocals = 1 := hml0
  have hown : s.vm.findClass "java/lang/StringLatin1" = some m.cls := findClass_of_methodNamed Bd.named
  have hnm := (name_of_methodNamed Bd.named Bd.method).1
  have X0 : Stand p l e ({ frames := 0, cells := 1, slots := 1, locals := 0 } : Room) s m #[(.int ch)] below meth c s₁ [] 0 0 := Stand.of_body Bd
  have e0 : s₁.heap = h0 := by rw [← hh, Bd.state]; rfl
  have N0 := Fr.nil n0
  have g0 : Go p e below s₁ (mkF m 0 #[iv ch] []) (s₁.setTop (entryFrame m #[(.int ch)] 1)) := fun t kont => castTop (ef_toB m ch ) kont
  generalize s₁.setTop (entryFrame m #[(.int ch)] 1) = A0 at g0 ⊢
  have g101 : Go p e below s₁ (mkF m 1 #[iv ch] [(.int (1 : Int32))]) A0 := by
    intro t kont
    refine g0 t ?_
    refine XS.iconst X0.here hx rfl (hb hby d9_0) ?_
    show Steps p.tables e below (s₁.setTop (mkF m 1 #[iv ch] [(.int (1 : Int32))])) _
    exact kont
  obtain ⟨T102, h102, k102, X102, e102, E102, A102, F102, st102⟩ := newPE X0 hx hZ (hw _ (List.mem_of_getElem? (i := 19) rfl)) e0 (g := (mkF m 1 #[iv ch] [(.int (1 : Int32))])) rfl (hb hby d9_1) rfl (by decide) (cap := 1) (by decide) (by decide) (by decide) (by decide) (ad := "[B") (by decide)
  obtain ⟨b102, gb102⟩ : ∃ z, z = h0.size := ⟨_, rfl⟩
  rw [← gb102] at A102 F102 st102
  have O103 := O0.ext E102
  have y104 : Arv Z h102 b102 k102 .byte (1 : Int32) [(.int (0 : Int32))] (.int (0 : Int32)) := (Arv.new A102 (by decide)).pad (pad_rep [] (.int (0 : Int32)) 1)
  have g105 : Go p e below T102 (mkF m 3 #[iv ch] [(.ref b102)]) A0 := fun t kont => g101 t (st102 t kont)
  have g106 : Go p e below T102 (mkF m 7 #[iv ch] [(.int (ch.toInt8.toInt32)), (.int (0 : Int32)), (.ref b102), (.ref b102)]) A0 := by
    intro t kont
    refine g105 t ?_
    refine XS.dup X102.here hx rfl (hb hby d9_3) rfl rfl ?_
    show Steps p.tables e below (T102.setTop (mkF m 4 #[iv ch] [(.ref b102), (.ref b102)])) _
    refine XS.iconst X102.here hx rfl (hb hby d9_4) ?_
    show Steps p.tables e below (T102.setTop (mkF m 5 #[iv ch] [(.int (0 : Int32)), (.ref b102), (.ref b102)])) _
    refine XS.iloadN X102.here hx rfl (hb hby d9_5) rfl ?_
    show Steps p.tables e below (T102.setTop (mkF m 6 #[iv ch] [(.int ch), (.int (0 : Int32)), (.ref b102), (.ref b102)])) _
    refine XS.i2b X102.here hx rfl (hb hby d9_6) rfl ?_
    show Steps p.tables e below (T102.setTop (mkF m 7 #[iv ch] [(.int (ch.toInt8.toInt32)), (.int (0 : Int32)), (.ref b102), (.ref b102)])) _
    exact kont
  have ge108 : n0 ≤ b102 := Nat.le_trans (own_old_le O0) (Nat.le_of_eq gb102.symm)
  have zz107 := y104
  obtain ⟨cl107, Ar107, q107, S107, M107, H107, G107⟩ := zz107
  have in107 : ¬ ((0 : Int32) < 0 ∨ cl107.slots.size ≤ ((0 : Int32)).toNatClampNeg) := inb_of S107 ⟨by decide, by decide⟩
  obtain ⟨T107, h107, X107, e107, W107, st107⟩ := stB X102 hx hZ e102 Ar107 (j := (0 : Int32)) in107 (g := (mkF m 7 #[iv ch] [(.int (ch.toInt8.toInt32)), (.int (0 : Int32)), (.ref b102), (.ref b102)])) rfl rfl (hb hby d9_7)
  rw [show nar .byte (ch.toInt8.toInt32) = (ch.toInt8.toInt32) from (own_narb _)] at W107
  have O109 := O103.wr W107 ge108
  have y110 : Arv Z h107 b102 k102 .byte (1 : Int32) [(.int (ch.toInt8.toInt32))] (.int (0 : Int32)) := Arv.set Ar107 q107 S107 M107 H107 G107 (own_ft_byte (z := (ch.toInt8.toInt32)) (own_narb _)) W107 0 rfl (Nat.le_of_ble_eq_true rfl)
  have N107 := Fr.snoc X107 N0 ge108
  have g111 : Go p e below T107 (mkF m 8 #[iv ch] [(.ref b102)]) A0 := fun t kont => g106 t (st107 t kont)
  have K112 : Keep h0 h107 [] := (((Keep.refl h0 []).ext E102).wr W107 (Or.inr (Nat.le_of_eq gb102.symm)))
  have y113 : Exa Z h107 b102 "[B" := (F102.wr W107)
  obtain ⟨fs, hr, hrun, hended, hW, hsame⟩ := X107.leave (v := some (.ref b102)) (fun h => by rw [Bd.returns] at h; cases h)
  refine ⟨_, _, g111 _ (retOut X107 hx Bd.returns rfl (Or.inr (Or.inr (Or.inr (Or.inr ⟨rfl, rfl, rfl⟩)))) (hb hby d9_8) hr), hrun, hended, _, _, rfl, ?_, ⟨_, rfl⟩, hW, hsame.mono (by decide) (by decide)⟩
  show Q_toB Z ch h0 n0 _ T107.heap _
  rw [e107]
  exact ⟨b102, k102, rfl, N107, K112, (Nat.le_of_eq gb102.symm), y113, y110⟩
theorem d10_0 : decode jdk_42_method_151_code 0 = .ok (.aload_n 0, 1) := by decide +kernel
theorem d10_1 : decode jdk_42_method_151_code 1 = .ok (.invokespecial 1, 3) := by decide +kernel
theorem d10_4 : decode jdk_42_method_151_code 4 = .ok (.aload_n 0, 1) := by decide +kernel
theorem d10_5 : decode jdk_42_method_151_code 5 = .ok (.aload_n 1, 1) := by decide +kernel
theorem d10_6 : decode jdk_42_method_151_code 6 = .ok (.putfield 9, 3) := by decide +kernel
theorem d10_9 : decode jdk_42_method_151_code 9 = .ok (.aload_n 0, 1) := by decide +kernel
theorem d10_10 : decode jdk_42_method_151_code 10 = .ok (.iload_n 2, 1) := by decide +kernel
theorem d10_11 : decode jdk_42_method_151_code 11 = .ok (.putfield 15, 3) := by decide +kernel
theorem d10_14 : decode jdk_42_method_151_code 14 = .ok (.return_, 1) := by decide +kernel
theorem pn_java_lang_String : plainName "java/lang/String" = true := by first | (simp [plainName, overriddenIn]; done) | decide +kernel
theorem ef_strI (m : MethodId) (x0 : Addr) (x1 : Addr) (x2 : Int32)  : entryFrame m #[(.ref x0), (.ref x1), (.int x2)] 3 = mkF m 0 #[.val (.ref x0), .val (.ref x1), .val (.int x2)] [] := by first | (simp [entryFrame, mkF, argsToLocals, Value.category]; done) | rfl
def Q_strI (Z : State) (a1 : Addr) (b1 : Addr) (h0 : Heap) (n0 : Nat) (v : Option Value) (h : Heap) (L : List Loc) : Prop := v = none ∧ Fr n0 L ∧ Keep h0 h [a1] ∧ (Exa Z h a1 "java/lang/String") ∧ (Fld Z h a1 "java/lang/String" "value" "[B" (.ref b1)) ∧ (Fld Z h a1 "java/lang/String" "coder" "B" (.int (0 : Int32)))
set_option maxRecDepth 65536 in
set_option maxHeartbeats 40000000 in
theorem rm_strI (l : Launch) (Z : State) (a0 : Array Value) (hw : ∀ d ∈ tables_1, d.before a0 Z = true) (ws : List Jvm.Cond) (a1 : Addr) (b1 : Addr) (h0 : Heap) (n0 : Nat) (O0 : Old Z n0 h0) (F0_ : Fld Z h0 a1 "java/lang/String" "value" "[B" .null) (F1_ : Fld Z h0 a1 "java/lang/String" "coder" "B" (.int (0 : Int32))) (E2_ : Exa Z h0 a1 "java/lang/String") (G3_ : n0 ≤ a1) :
    MetFree l (⟨"java/lang/String", "<init>", "([BB)V"⟩ : MethodName) (head1 (Jvm.Cond.code (⟨"java/lang/String", "<init>", "([BB)V"⟩ : MethodName) jdk_42_method_151_code 3 none :: ws) ({ frames := 1, cells := 0, slots := 0, locals := 12 } : Room)) (fun a U => a = #[(.ref a1), (.ref b1), (.int (0 : Int32))] ∧ Z.Warmed39 U.vm ∧ U.heap = h0) (fun _ _ _ _ _ => True) (fun _ U o U' => ∃ v L, o = .returned v ∧ Q_strI Z a1 b1 h0 n0 v U'.heap L ∧ FrameEnd U o U' L ({ frames := 1, cells := 0, slots := 0, locals := 12 } : Room).cells ({ frames := 1, cells := 0, slots := 0, locals := 12 } : Room).slots) := by
  refine MetFree.of_bodySF (plainFor_of_name pn_java_lang_String) hisR ?_
  intro p e s m args below meth c s₁ Bd hml0 hP hK
  obtain ⟨rfl, hZ, hh⟩ := hP
  have hx := Bd.exec
  have hby := Bd.bytes
  have hml : c.maxLocals = 3 := hml0
  have hown : s.vm.findClass "java/lang/String" = some m.cls := findClass_of_methodNamed Bd.named
  have hnm := (name_of_methodNamed Bd.named Bd.method).1
  have X0 : Stand p l e ({ frames := 1, cells := 0, slots := 0, locals := 12 } : Room) s m #[(.ref a1), (.ref b1), (.int (0 : Int32))] below meth c s₁ [] 0 0 := Stand.of_body Bd
  have e0 : s₁.heap = h0 := by rw [← hh, Bd.state]; rfl
  have N0 := Fr.nil n0
  have g0 : Go p e below s₁ (mkF m 0 #[rv a1, rv b1, iv (0 : Int32)] []) (s₁.setTop (entryFrame m #[(.ref a1), (.ref b1), (.int (0 : Int32))] 3)) := fun t kont => castTop (ef_strI m a1 b1 (0 : Int32) ) kont
  generalize s₁.setTop (entryFrame m #[(.ref a1), (.ref b1), (.int (0 : Int32))] 3) = A0 at g0 ⊢
  have g101 : Go p e below s₁ (mkF m 1 #[rv a1, rv b1, iv (0 : Int32)] [(.ref a1)]) A0 := by
    intro t kont
    refine g0 t ?_
    refine XS.aloadN X0.here hx rfl (hb hby d10_0) rfl rfl ?_
    show Steps p.tables e below (s₁.setTop (mkF m 1 #[rv a1, rv b1, iv (0 : Int32)] [(.ref a1)])) _
    exact kont
  obtain ⟨T102, X102, e102, st102⟩ := initO X0 hx hZ hown (hw _ (List.mem_of_getElem? (i := 11) rfl)) (hw _ (List.mem_of_getElem? (i := 12) rfl)) (hw _ (List.mem_of_getElem? (i := 13) rfl)) e0 (g := (mkF m 1 #[rv a1, rv b1, iv (0 : Int32)] [(.ref a1)])) rfl (by rw [hml]; rfl) rfl (hb hby d10_1) (by decide) (W := 0) (by show 2 * 0 + _ ≤ _; exact Nat.le_of_eq rfl) (by decide)
  have g103 : Go p e below T102 (mkF m 4 #[rv a1, rv b1, iv (0 : Int32)] []) A0 := fun t kont => g101 t (st102 t kont)
  have g104 : Go p e below T102 (mkF m 6 #[rv a1, rv b1, iv (0 : Int32)] [(.ref b1), (.ref a1)]) A0 := by
    intro t kont
    refine g103 t ?_
    refine XS.aloadN X102.here hx rfl (hb hby d10_4) rfl rfl ?_
    show Steps p.tables e below (T102.setTop (mkF m 5 #[rv a1, rv b1, iv (0 : Int32)] [(.ref a1)])) _
    refine XS.aloadN X102.here hx rfl (hb hby d10_5) rfl rfl ?_
    show Steps p.tables e below (T102.setTop (mkF m 6 #[rv a1, rv b1, iv (0 : Int32)] [(.ref b1), (.ref a1)])) _
    exact kont
  obtain ⟨T105, h105, X105, e105, W105, st105⟩ := putF X102 hx hZ hown (host := "") (Or.inl (hw _ (List.mem_of_getElem? (i := 28) rfl))) Via.refl e102 F0_ E2_ (Or.inr ⟨(hw _ (List.mem_of_getElem? (i := 29) rfl)), rfl, hnm⟩) (hw _ (List.mem_of_getElem? (i := 2) rfl)) (ty := (.array .byte)) (by decide) rfl rfl (g := (mkF m 6 #[rv a1, rv b1, iv (0 : Int32)] [(.ref b1), (.ref a1)])) rfl rfl (hb hby d10_6)
  have O106 := O0.wr W105 G3_
  have y107 : Fld Z h105 a1 "java/lang/String" "value" "[B" (.ref b1) := F0_.same W105
  have N105 := Fr.snoc X105 N0 G3_
  have g108 : Go p e below T105 (mkF m 9 #[rv a1, rv b1, iv (0 : Int32)] []) A0 := fun t kont => g104 t (st105 t kont)
  have g109 : Go p e below T105 (mkF m 11 #[rv a1, rv b1, iv (0 : Int32)] [(.int (0 : Int32)), (.ref a1)]) A0 := by
    intro t kont
    refine g108 t ?_
    refine XS.aloadN X105.here hx rfl (hb hby d10_9) rfl rfl ?_
    show Steps p.tables e below (T105.setTop (mkF m 10 #[rv a1, rv b1, iv (0 : Int32)] [(.ref a1)])) _
    refine XS.iloadN X105.here hx rfl (hb hby d10_10) rfl ?_
    show Steps p.tables e below (T105.setTop (mkF m 11 #[rv a1, rv b1, iv (0 : Int32)] [(.int (0 : Int32)), (.ref a1)])) _
    exact kont
  have y110 : Exa Z h105 a1 "java/lang/String" := (E2_.wr W105)
  have y111 : Fld Z h105 a1 "java/lang/String" "coder" "B" (.int (0 : Int32)) := (F1_.other W105 (Or.inr (slot_ne (Or.inr (hw _ (List.mem_of_getElem? (i := 27) rfl))) (Or.inr (hw _ (List.mem_of_getElem? (i := 29) rfl))) (by decide) (t := .byte) (t' := (.array .byte)) (by decide) (by decide))))
  obtain ⟨T112, h112, X112, e112, W112, st112⟩ := putFN X105 hx hZ hown (hw _ (List.mem_of_getElem? (i := 26) rfl)) Via.refl e105 y111 y110 (Or.inr ⟨(hw _ (List.mem_of_getElem? (i := 27) rfl)), rfl, hnm⟩) (hw _ (List.mem_of_getElem? (i := 2) rfl)) (ty := .byte) (v := (.int (0 : Int32))) (v' := (.int (0 : Int32))) (by decide) (own_nw_byte (by decide : nar .byte (0 : Int32) = (0 : Int32))) (own_ft_byte (by decide : nar .byte (0 : Int32) = (0 : Int32))) (g := (mkF m 11 #[rv a1, rv b1, iv (0 : Int32)] [(.int (0 : Int32)), (.ref a1)])) rfl rfl (hb hby d10_11)
  have O113 := O106.wr W112 G3_
  have y114 : Fld Z h112 a1 "java/lang/String" "coder" "B" (.int (0 : Int32)) := y111.same W112
  have N112 := Fr.snoc X112 N105 G3_
  have g115 : Go p e below T112 (mkF m 14 #[rv a1, rv b1, iv (0 : Int32)] []) A0 := fun t kont => g109 t (st112 t kont)
  have K116 : Keep h0 h112 [a1] := (((Keep.refl h0 [a1]).wr W105 (Or.inl (List.mem_of_getElem? (i := 0) rfl))).wr W112 (Or.inl (List.mem_of_getElem? (i := 0) rfl)))
  have y117 : Exa Z h112 a1 "java/lang/String" := (y110.wr W112)
  have y118 : Fld Z h112 a1 "java/lang/String" "value" "[B" (.ref b1) := (y107.other W112 (Or.inr (slot_ne (Or.inr (hw _ (List.mem_of_getElem? (i := 29) rfl))) (Or.inr (hw _ (List.mem_of_getElem? (i := 27) rfl))) (by decide) (t := (.array .byte)) (t' := .byte) (by decide) (by decide))))
  obtain ⟨fs, hr, hrun, hended, hW, hsame⟩ := X112.leave (v := none) (fun _ => rfl)
  refine ⟨_, _, g115 _ (X112.returnOut hx Bd.returns (hb hby d10_14) hr), hrun, hended, _, _, rfl, ?_, ⟨_, rfl⟩, hW, hsame.mono (by decide) (by decide)⟩
  show Q_strI Z a1 b1 h0 n0 _ T112.heap _
  rw [e112]
  exact ⟨rfl, N112, K116, y117, y118, y114⟩
theorem d7_0 : decode jdk_42_method_139_code 0 = .ok (.getstatic 38, 3) := by decide +kernel
theorem d7_3 : decode jdk_42_method_139_code 3 = .ok (.ifCond .eq 23, 3) := by decide +kernel
theorem d7_6 : decode jdk_42_method_139_code 6 = .ok (.iload_n 0, 1) := by decide +kernel
theorem d7_7 : decode jdk_42_method_139_code 7 = .ok (.invokestatic 1015, 3) := by decide +kernel
theorem pd_0 : parseMethodDescriptor "(C)Z" = some ⟨[.char], some .boolean⟩ := by decide +kernel
theorem d7_10 : decode jdk_42_method_139_code 10 = .ok (.ifCond .eq 16, 3) := by decide +kernel
theorem d7_13 : decode jdk_42_method_139_code 13 = .ok (.new 10, 3) := by decide +kernel
theorem d7_16 : decode jdk_42_method_139_code 16 = .ok (.dup, 1) := by decide +kernel
theorem d7_17 : decode jdk_42_method_139_code 17 = .ok (.iload_n 0, 1) := by decide +kernel
theorem d7_18 : decode jdk_42_method_139_code 18 = .ok (.invokestatic 1018, 3) := by decide +kernel
theorem pd_1 : parseMethodDescriptor "(C)[B" = some ⟨[.char], some (.array .byte)⟩ := by decide +kernel
theorem d7_21 : decode jdk_42_method_139_code 21 = .ok (.iconst 0, 1) := by decide +kernel
theorem d7_22 : decode jdk_42_method_139_code 22 = .ok (.invokespecial 209, 3) := by decide +kernel
theorem pd_2 : parseMethodDescriptor "([BB)V" = some ⟨[(.array .byte), .byte], none⟩ := by decide +kernel
theorem d7_25 : decode jdk_42_method_139_code 25 = .ok (.areturn, 1) := by decide +kernel
theorem ef_valC (m : MethodId) (x0 : Int32)  : entryFrame m #[(.int x0)] 1 = mkF m 0 #[.val (.int x0)] [] := by first | (simp [entryFrame, mkF, argsToLocals, Value.category]; done) | rfl
def Q_valC (Z : State) (ch : Int32) (cs : Int32) (h0 : Heap) (n0 : Nat) (v : Option Value) (h : Heap) (L : List Loc) : Prop := ∃ (r : Addr), ∃ (b : Addr), ∃ (kid : ClassId), v = some (.ref r) ∧ Fr n0 L ∧ Keep h0 h [] ∧ h0.size ≤ r ∧ (Exa Z h r "java/lang/String") ∧ (Fld Z h r "java/lang/String" "coder" "B" (.int (0 : Int32))) ∧ (Fld Z h r "java/lang/String" "value" "[B" (.ref b)) ∧ h0.size ≤ b ∧ (Arv Z h b kid .byte (1 : Int32) [(.int (ch.toInt8.toInt32))] (.int (0 : Int32)))
set_option maxRecDepth 65536 in
set_option maxHeartbeats 40000000 in
theorem rm_valC (l : Launch) (Z : State) (a0 : Array Value) (hw : ∀ d ∈ tables_1, d.before a0 Z = true) (ws : List Jvm.Cond) (ch : Int32) (cs : Int32) (h0 : Heap) (n0 : Nat) (O0 : Old Z n0 h0) (S0_ : Sta Z Z.heap "java/lang/String" "COMPACT_STRINGS" "Z" (.int cs)) (hcs : ¬ (cs = (0 : Int32))) (h1 : ¬ ((255 : Int32) < ch)) :
    MetFree l (⟨"java/lang/String", "valueOf", "(C)Ljava/lang/String;"⟩ : MethodName) (head1 (Jvm.Cond.code (⟨"java/lang/String", "valueOf", "(C)Ljava/lang/String;"⟩ : MethodName) jdk_42_method_139_code 1 (some (.object "java/lang/String")) :: ws) ({ frames := 2, cells := 2, slots := 5, locals := 27 } : Room)) (fun a U => a = #[(.int ch)] ∧ Z.Warmed39 U.vm ∧ U.heap = h0) (fun _ _ _ _ _ => True) (fun _ U o U' => ∃ v L, o = .returned v ∧ Q_valC Z ch cs h0 n0 v U'.heap L ∧ FrameEnd U o U' L ({ frames := 2, cells := 2, slots := 5, locals := 27 } : Room).cells ({ frames := 2, cells := 2, slots := 5, locals := 27 } : Room).slots) := by
  refine MetFree.of_bodySF (plainFor_of_name pn_java_lang_String) hisR ?_
  intro p e s m args below meth c s₁ Bd hml0 hP hK
  obtain ⟨rfl, hZ, hh⟩ := hP
  have hx := Bd.exec
  have hby := Bd.bytes
  have hml : c.maxLocals = 1 := hml0
  have hown : s.vm.findClass "java/lang/String" = some m.cls := findClass_of_methodNamed Bd.named
  have hnm := (name_of_methodNamed Bd.named Bd.method).1
  have X0 : Stand p l e ({ frames := 2, cells := 2, slots := 5, locals := 27 } : Room) s m #[(.int ch)] below meth c s₁ [] 0 0 := Stand.of_body Bd
  have e0 : s₁.heap = h0 := by rw [← hh, Bd.state]; rfl
  have N0 := Fr.nil n0
  have g0 : Go p e below s₁ (mkF m 0 #[iv ch] []) (s₁.setTop (entryFrame m #[(.int ch)] 1)) := fun t kont => castTop (ef_valC m ch ) kont
  generalize s₁.setTop (entryFrame m #[(.int ch)] 1) = A0 at g0 ⊢
  have y101 : Sta Z h0 "java/lang/String" "COMPACT_STRINGS" "Z" (.int cs) := S0_.ext O0.2
  obtain ⟨T102, X102, e102, st102⟩ := getS2 X0 hx hZ hown (host := "") (Or.inl (hw _ (List.mem_of_getElem? (i := 14) rfl))) Via.refl e0 y101 (g := (mkF m 0 #[iv ch] [])) rfl (hb hby d7_0)
  have g103 : Go p e below T102 (mkF m 3 #[iv ch] [(.int cs)]) A0 := fun t kont => g0 t (st102 t kont)
  have g104 : Go p e below T102 (mkF m 7 #[iv ch] [(.int ch)]) A0 := by
    intro t kont
    refine g103 t ?_
    refine XS.ifNo X102.here hx rfl (hb hby d7_3) rfl ((if0 _ _).trans (feq hcs).1) ?_
    show Steps p.tables e below (T102.setTop (mkF m 6 #[iv ch] [])) _
    refine XS.iloadN X102.here hx rfl (hb hby d7_6) rfl ?_
    show Steps p.tables e below (T102.setTop (mkF m 7 #[iv ch] [(.int ch)])) _
    exact kont
  obtain ⟨_, _, ⟨T105, L105, k105, n105⟩, -, X105, ⟨Lc105, hQ105, l105, y105, z105⟩, st105⟩ := Jvm.LawKit.callS X102 hx (y := (⟨"java/lang/StringLatin1", "canEncode", "(C)Z"⟩ : MethodName)) hown (mvT hZ (hw _ (List.mem_of_getElem? (i := 33) rfl))) (mvT hZ (hw _ (List.mem_of_getElem? (i := 34) rfl))) (mvT hZ (hw _ (List.mem_of_getElem? (i := 35) rfl))) (mvT hZ (hw _ (List.mem_of_getElem? (i := 36) rfl))) (by decide) (backOf (W := 0) (rm_canE l Z a0 hw [] ch h0 n0 O0 h1) hZ (hw _ (List.mem_of_getElem? (i := 36) rfl)) (hw _ (List.mem_of_getElem? (i := 35) rfl)) (by decide) (by decide)) (g := (mkF m 7 #[iv ch] [(.int ch)])) rfl (by rw [hml]; rfl) (argsL := [(.int ch)]) (rest := []) (lenOf pd_0 rfl) rfl (by show 2 * 0 + _ ≤ _; exact Nat.le_of_eq rfl) (hb hby d7_7) (fun _ _ => ⟨rfl, e102, (by decide : 0 + 0 ≤ _), (by decide : 0 + 0 ≤ _)⟩)
  dsimp only [Pt.U, Pt.locs, Pt.cells, Pt.slots] at X105 l105 y105 z105 st105 hQ105
  subst l105 y105 z105
  obtain ⟨rfl, M105, e105⟩ := hQ105
  have N105 := Fr.app N0 M105
  have g106 : Go p e below T105 (mkF m 10 #[iv ch] [(.int (1 : Int32))]) A0 := fun t kont => g104 t (st105 t kont)
  have g107 : Go p e below T105 (mkF m 13 #[iv ch] []) A0 := by
    intro t kont
    refine g106 t ?_
    refine XS.ifNo X105.here hx rfl (hb hby d7_10) rfl ((if0 _ _).trans (feq (by decide : ¬ ((1 : Int32) = (0 : Int32)))).1) ?_
    show Steps p.tables e below (T105.setTop (mkF m 13 #[iv ch] [])) _
    exact kont
  obtain ⟨T108, h108, X108, e108, E108, A108, D108, -, st108⟩ := newO X105 hx hZ hown (hw _ (List.mem_of_getElem? (i := 37) rfl)) (hw _ (List.mem_of_getElem? (i := 2) rfl)) (hw _ (List.mem_of_getElem? (i := 3) rfl)) e105 (g := (mkF m 13 #[iv ch] [])) rfl (hb hby d7_13) (by decide) (by decide)
  obtain ⟨b108, gb108⟩ : ∃ z, z = h0.size := ⟨_, rfl⟩
  rw [← gb108] at A108 D108 st108
  have O109 := O0.ext E108
  have y110 : Fld Z h108 b108 "java/lang/String" "coder" "B" (.int (0 : Int32)) := D108 (Or.inr (hw _ (List.mem_of_getElem? (i := 27) rfl))) (ty := .byte) (by decide)
  have y111 : Fld Z h108 b108 "java/lang/String" "value" "[B" .null := D108 (Or.inr (hw _ (List.mem_of_getElem? (i := 29) rfl))) (ty := (.array .byte)) (by decide)
  have g112 : Go p e below T108 (mkF m 16 #[iv ch] [(.ref b108)]) A0 := fun t kont => g107 t (st108 t kont)
  have g113 : Go p e below T108 (mkF m 18 #[iv ch] [(.int ch), (.ref b108), (.ref b108)]) A0 := by
    intro t kont
    refine g112 t ?_
    refine XS.dup X108.here hx rfl (hb hby d7_16) rfl rfl ?_
    show Steps p.tables e below (T108.setTop (mkF m 17 #[iv ch] [(.ref b108), (.ref b108)])) _
    refine XS.iloadN X108.here hx rfl (hb hby d7_17) rfl ?_
    show Steps p.tables e below (T108.setTop (mkF m 18 #[iv ch] [(.int ch), (.ref b108), (.ref b108)])) _
    exact kont
  obtain ⟨_, _, ⟨T114, L114, k114, n114⟩, -, X114, ⟨Lc114, hQ114, l114, y114, z114⟩, st114⟩ := Jvm.LawKit.callS X108 hx (y := (⟨"java/lang/StringLatin1", "toBytes", "(C)[B"⟩ : MethodName)) hown (mvT hZ (hw _ (List.mem_of_getElem? (i := 38) rfl))) (mvT hZ (hw _ (List.mem_of_getElem? (i := 39) rfl))) (mvT hZ (hw _ (List.mem_of_getElem? (i := 35) rfl))) (mvT hZ (hw _ (List.mem_of_getElem? (i := 40) rfl))) (by decide) (backOf (W := 2) (rm_toB l Z a0 hw [] ch h108 n0 O109 ) hZ (hw _ (List.mem_of_getElem? (i := 40) rfl)) (hw _ (List.mem_of_getElem? (i := 35) rfl)) (by decide) (by decide)) (g := (mkF m 18 #[iv ch] [(.int ch), (.ref b108), (.ref b108)])) rfl (by rw [hml]; rfl) (argsL := [(.int ch)]) (rest := [(.ref b108), (.ref b108)]) (lenOf pd_1 rfl) rfl (by show 2 * 0 + _ ≤ _; exact Nat.le_of_eq rfl) (hb hby d7_18) (fun _ _ => ⟨rfl, e108, (by decide : 1 + 1 ≤ _), (by decide : 4 + 1 ≤ _)⟩)
  dsimp only [Pt.U, Pt.locs, Pt.cells, Pt.slots] at X114 l114 y114 z114 st114 hQ114
  subst l114 y114 z114
  obtain ⟨r115, r116, rfl, M114, K114, y117, y118, y119⟩ := hQ114
  have N114 := Fr.app N105 M114
  have O120 := O109.keep K114 all0
  have g121 : Go p e below T114 (mkF m 21 #[iv ch] [(.ref r115), (.ref b108), (.ref b108)]) A0 := fun t kont => g113 t (st114 t kont)
  have g122 : Go p e below T114 (mkF m 22 #[iv ch] [(.int (0 : Int32)), (.ref r115), (.ref b108), (.ref b108)]) A0 := by
    intro t kont
    refine g121 t ?_
    refine XS.iconst X114.here hx rfl (hb hby d7_21) ?_
    show Steps p.tables e below (T114.setTop (mkF m 22 #[iv ch] [(.int (0 : Int32)), (.ref r115), (.ref b108), (.ref b108)])) _
    exact kont
  have y124 : Fld Z T114.heap b108 "java/lang/String" "value" "[B" .null := (y111.keep K114 nin0)
  have y125 : Fld Z T114.heap b108 "java/lang/String" "coder" "B" (.int (0 : Int32)) := (y110.keep K114 nin0)
  have y126 : Exa Z T114.heap b108 "java/lang/String" := (A108.keep K114)
  have ge127 : n0 ≤ b108 := Nat.le_trans (own_old_le O0) (Nat.le_of_eq gb108.symm)
  obtain ⟨_, _, ⟨T123, L123, k123, n123⟩, -, X123, ⟨Lc123, hQ123, l123, y123, z123⟩, st123⟩ := X114.specialBack hx (y := (⟨"java/lang/String", "<init>", "([BB)V"⟩ : MethodName)) rfl hown (mvT hZ (hw _ (List.mem_of_getElem? (i := 41) rfl))) (mvT hZ (hw _ (List.mem_of_getElem? (i := 42) rfl))) (mvT hZ (hw _ (List.mem_of_getElem? (i := 43) rfl))) (by decide) (backOf (W := 1) (rm_strI l Z a0 hw [] b108 r115 T114.heap n0 O120 y124 y125 y126 ge127) hZ (hw _ (List.mem_of_getElem? (i := 43) rfl)) (hw _ (List.mem_of_getElem? (i := 3) rfl)) (by decide) (by decide)) (g := (mkF m 22 #[iv ch] [(.int (0 : Int32)), (.ref r115), (.ref b108), (.ref b108)])) rfl (by rw [hml]; rfl) (Steps.refl _) (a := b108) (argsL := [(.ref r115), (.int (0 : Int32))]) (rest := [(.ref b108)]) (lenOf pd_2 rfl) rfl (by show 2 * 0 + _ ≤ _; exact Nat.le_of_eq rfl) (hb hby d7_22) (fun _ _ => ⟨rfl, rfl, (by decide : 2 + 0 ≤ _), (by decide : 5 + 0 ≤ _)⟩)
  dsimp only [Pt.U, Pt.locs, Pt.cells, Pt.slots] at X123 l123 y123 z123 st123 hQ123
  subst l123 y123 z123
  obtain ⟨rfl, M123, K123, y128, y129, y130⟩ := hQ123
  have N123 := Fr.app N114 M123
  have O131 := O120.keep K123 (allS ge127 all0)
  have g132 : Go p e below T123 (mkF m 25 #[iv ch] [(.ref b108)]) A0 := fun t kont => g122 t (st123.trans kont)
  have K133 : Keep h0 T123.heap [] := ((((Keep.refl h0 []).ext E108).trans K114 (fun x hx => nomatch hx)).trans K123 (allS (P := fun x => x ∈ [] ∨ h0.size ≤ x) (Or.inr (Nat.le_of_eq gb108.symm)) all0))
  have y134 : Arv Z T123.heap r115 r116 .byte (1 : Int32) [(.int (ch.toInt8.toInt32))] (.int (0 : Int32)) := (y119.keep K123 (ninS (Ne.symm (Nat.ne_of_lt (Nat.lt_of_lt_of_le A108.lt y117))) nin0))
  obtain ⟨fs, hr, hrun, hended, hW, hsame⟩ := X123.leave (v := some (.ref b108)) (fun h => by rw [Bd.returns] at h; cases h)
  refine ⟨_, _, g132 _ (retOut X123 hx Bd.returns rfl (Or.inr (Or.inr (Or.inr (Or.inr ⟨rfl, rfl, rfl⟩)))) (hb hby d7_25) hr), hrun, hended, _, _, rfl, ?_, ⟨_, rfl⟩, hW, hsame.mono (by decide) (by decide)⟩
  show Q_valC Z ch cs h0 n0 _ T123.heap _
  exact ⟨b108, r115, r116, rfl, N123, K133, (Nat.le_of_eq gb108.symm), y128, y130, y129, (Nat.le_trans E108.1 y117), y134⟩
theorem d5_0 : decode jdk_52_method_21_code 0 = .ok (.iconst 0, 1) := by decide +kernel
theorem d5_1 : decode jdk_52_method_21_code 1 = .ok (.istore 5, 2) := by decide +kernel
theorem d5_3 : decode jdk_52_method_21_code 3 = .ok (.iload 5, 2) := by decide +kernel
theorem d5_5 : decode jdk_52_method_21_code 5 = .ok (.iload 4, 2) := by decide +kernel
theorem d5_7 : decode jdk_52_method_21_code 7 = .ok (.if_icmp .ge 37, 3) := by decide +kernel
theorem d5_10 : decode jdk_52_method_21_code 10 = .ok (.aload_n 0, 1) := by decide +kernel
theorem d5_11 : decode jdk_52_method_21_code 11 = .ok (.iload_n 1, 1) := by decide +kernel
theorem d5_12 : decode jdk_52_method_21_code 12 = .ok (.caload, 1) := by decide +kernel
theorem d5_13 : decode jdk_52_method_21_code 13 = .ok (.istore 6, 2) := by decide +kernel
theorem d5_15 : decode jdk_52_method_21_code 15 = .ok (.iload 6, 2) := by decide +kernel
theorem d5_17 : decode jdk_52_method_21_code 17 = .ok (.sipush 255, 3) := by decide +kernel
theorem d5_20 : decode jdk_52_method_21_code 20 = .ok (.if_icmp .le 6, 3) := by decide +kernel
theorem d5_26 : decode jdk_52_method_21_code 26 = .ok (.aload_n 2, 1) := by decide +kernel
theorem d5_27 : decode jdk_52_method_21_code 27 = .ok (.iload_n 3, 1) := by decide +kernel
theorem d5_28 : decode jdk_52_method_21_code 28 = .ok (.iload 6, 2) := by decide +kernel
theorem d5_30 : decode jdk_52_method_21_code 30 = .ok (.i2b, 1) := by decide +kernel
theorem d5_31 : decode jdk_52_method_21_code 31 = .ok (.bastore, 1) := by decide +kernel
theorem d5_32 : decode jdk_52_method_21_code 32 = .ok (.iinc 1 1, 3) := by decide +kernel
theorem d5_35 : decode jdk_52_method_21_code 35 = .ok (.iinc 3 1, 3) := by decide +kernel
theorem d5_38 : decode jdk_52_method_21_code 38 = .ok (.iinc 5 1, 3) := by decide +kernel
theorem d5_41 : decode jdk_52_method_21_code 41 = .ok (.goto (-38), 3) := by decide +kernel
theorem d5_44 : decode jdk_52_method_21_code 44 = .ok (.iload 4, 2) := by decide +kernel
theorem d5_46 : decode jdk_52_method_21_code 46 = .ok (.ireturn, 1) := by decide +kernel
theorem pn_java_lang_StringUTF16 : plainName "java/lang/StringUTF16" = true := by first | (simp [plainName, overriddenIn]; done) | decide +kernel
theorem ef_cmp2 (m : MethodId) (x0 : Addr) (x1 : Int32) (x2 : Addr) (x3 : Int32) (x4 : Int32)  : entryFrame m #[(.ref x0), (.int x1), (.ref x2), (.int x3), (.int x4)] 7 = mkF m 0 #[.val (.ref x0), .val (.int x1), .val (.ref x2), .val (.int x3), .val (.int x4), .unset, .unset] [] := by first | (simp [entryFrame, mkF, argsToLocals, Value.category]; done) | rfl
def Q_cmp2 (Z : State) (s1 : Addr) (d1 : Addr) (ks : ClassId) (kd : ClassId) (c0_ : Int32) (c1_ : Int32) (h0 : Heap) (n0 : Nat) (v : Option Value) (h : Heap) (L : List Loc) : Prop := v = some (.int (2 : Int32)) ∧ Fr n0 L ∧ Keep h0 h [d1] ∧ (Arv Z h d1 kd .byte (2 : Int32) [(.int (c0_.toInt8.toInt32)), (.int (c1_.toInt8.toInt32))] (.int (0 : Int32)))
set_option maxRecDepth 65536 in
set_option maxHeartbeats 40000000 in
theorem rm_cmp2 (l : Launch) (Z : State) (a0 : Array Value) (hw : ∀ d ∈ tables_1, d.before a0 Z = true) (ws : List Jvm.Cond) (s1 : Addr) (d1 : Addr) (ks : ClassId) (kd : ClassId) (c0_ : Int32) (c1_ : Int32) (h0 : Heap) (n0 : Nat) (O0 : Old Z n0 h0) (A0_ : Arv Z h0 s1 ks .char (2 : Int32) [(.int c0_), (.int c1_)] (.int (0 : Int32))) (A1_ : Arv Z h0 d1 kd .byte (2 : Int32) [(.int (0 : Int32)), (.int (0 : Int32))] (.int (0 : Int32))) (G2_ : n0 ≤ d1) (NE3_ : ¬ (s1 = d1)) (hc0 : ¬ ((255 : Int32) < c0_)) (hc1 : ¬ ((255 : Int32) < c1_)) :
    MetFree l (⟨"java/lang/StringUTF16", "compress", "([CI[BII)I"⟩ : MethodName) (head1 (Jvm.Cond.code (⟨"java/lang/StringUTF16", "compress", "([CI[BII)I"⟩ : MethodName) jdk_52_method_21_code 7 (some .int) :: ws) ({ frames := 0, cells := 0, slots := 0, locals := 0 } : Room)) (fun a U => a = #[(.ref s1), (.int (0 : Int32)), (.ref d1), (.int (0 : Int32)), (.int (2 : Int32))] ∧ Z.Warmed39 U.vm ∧ U.heap = h0) (fun _ _ _ _ _ => True) (fun _ U o U' => ∃ v L, o = .returned v ∧ Q_cmp2 Z s1 d1 ks kd c0_ c1_ h0 n0 v U'.heap L ∧ FrameEnd U o U' L ({ frames := 0, cells := 0, slots := 0, locals := 0 } : Room).cells ({ frames := 0, cells := 0, slots := 0, locals := 0 } : Room).slots) := by
  refine MetFree.of_bodySF (plainFor_of_name pn_java_lang_StringUTF16) hisR ?_
  intro p e s m args below meth c s₁ Bd hml0 hP hK
  obtain ⟨rfl, hZ, hh⟩ := hP
  have hx := Bd.exec
  have hby := Bd.bytes
  have hml : c.maxLocals = 7 := hml0
  have hown : s.vm.findClass "java/lang/StringUTF16" = some m.cls := findClass_of_methodNamed Bd.named
  have hnm := (name_of_methodNamed Bd.named Bd.method).1
  have X0 : Stand p l e ({ frames := 0, cells := 0, slots := 0, locals := 0 } : Room) s m #[(.ref s1), (.int (0 : Int32)), (.ref d1), (.int (0 : Int32)), (.int (2 : Int32))] below meth c s₁ [] 0 0 := Stand.of_body Bd
  have e0 : s₁.heap = h0 := by rw [← hh, Bd.state]; rfl
  have N0 := Fr.nil n0
  have g0 : Go p e below s₁ (mkF m 0 #[rv s1, iv (0 : Int32), rv d1, iv (0 : Int32), iv (2 : Int32), .unset, .unset] []) (s₁.setTop (entryFrame m #[(.ref s1), (.int (0 : Int32)), (.ref d1), (.int (0 : Int32)), (.int (2 : Int32))] 7)) := fun t kont => castTop (ef_cmp2 m s1 (0 : Int32) d1 (0 : Int32) (2 : Int32) ) kont
  generalize s₁.setTop (entryFrame m #[(.ref s1), (.int (0 : Int32)), (.ref d1), (.int (0 : Int32)), (.int (2 : Int32))] 7) = A0 at g0 ⊢
  have g101 : Go p e below s₁ (mkF m 12 #[rv s1, iv (0 : Int32), rv d1, iv (0 : Int32), iv (2 : Int32), iv (0 : Int32), .unset] [(.int (0 : Int32)), (.ref s1)]) A0 := by
    intro t kont
    refine g0 t ?_
    refine XS.iconst X0.here hx rfl (hb hby d5_0) ?_
    show Steps p.tables e below (s₁.setTop (mkF m 1 #[rv s1, iv (0 : Int32), rv d1, iv (0 : Int32), iv (2 : Int32), .unset, .unset] [(.int (0 : Int32))])) _
    refine XS.istore X0.here hx rfl (hb hby d5_1) rfl (l' := #[rv s1, iv (0 : Int32), rv d1, iv (0 : Int32), iv (2 : Int32), iv (0 : Int32), .unset]) rfl ?_
    show Steps p.tables e below (s₁.setTop (mkF m 3 #[rv s1, iv (0 : Int32), rv d1, iv (0 : Int32), iv (2 : Int32), iv (0 : Int32), .unset] [])) _
    refine XS.iload X0.here hx rfl (hb hby d5_3) rfl ?_
    show Steps p.tables e below (s₁.setTop (mkF m 5 #[rv s1, iv (0 : Int32), rv d1, iv (0 : Int32), iv (2 : Int32), iv (0 : Int32), .unset] [(.int (0 : Int32))])) _
    refine XS.iload X0.here hx rfl (hb hby d5_5) rfl ?_
    show Steps p.tables e below (s₁.setTop (mkF m 7 #[rv s1, iv (0 : Int32), rv d1, iv (0 : Int32), iv (2 : Int32), iv (0 : Int32), .unset] [(.int (2 : Int32)), (.int (0 : Int32))])) _
    refine XS.icmpNo X0.here hx rfl (hb hby d5_7) rfl (tlt (by decide : (0 : Int32) < (2 : Int32))).2.1 ?_
    show Steps p.tables e below (s₁.setTop (mkF m 10 #[rv s1, iv (0 : Int32), rv d1, iv (0 : Int32), iv (2 : Int32), iv (0 : Int32), .unset] [])) _
    refine XS.aloadN X0.here hx rfl (hb hby d5_10) rfl rfl ?_
    show Steps p.tables e below (s₁.setTop (mkF m 11 #[rv s1, iv (0 : Int32), rv d1, iv (0 : Int32), iv (2 : Int32), iv (0 : Int32), .unset] [(.ref s1)])) _
    refine XS.iloadN X0.here hx rfl (hb hby d5_11) rfl ?_
    show Steps p.tables e below (s₁.setTop (mkF m 12 #[rv s1, iv (0 : Int32), rv d1, iv (0 : Int32), iv (2 : Int32), iv (0 : Int32), .unset] [(.int (0 : Int32)), (.ref s1)])) _
    exact kont
  have zz102 := A0_
  obtain ⟨cl102, Ar102, q102, S102, M102, H102, G102⟩ := zz102
  have in102 : ¬ ((0 : Int32) < 0 ∨ cl102.slots.size ≤ ((0 : Int32)).toNatClampNeg) := inb_of S102 ⟨by decide, by decide⟩
  have at102 : cl102.slots[((0 : Int32)).toNatClampNeg]? = some (.int c0_) := Has.at H102 in102 rfl
  have g103 : Go p e below s₁ (mkF m 13 #[rv s1, iv (0 : Int32), rv d1, iv (0 : Int32), iv (2 : Int32), iv (0 : Int32), .unset] [(.int c0_)]) A0 := fun t kont => g101 t (X0.caload hx (j := (0 : Int32)) (v := (.int c0_)) (by rw [e0]; exact Ar102.1) (State.isArrayOf_alike hZ.alike Ar102.2.1) Ar102.2.2 in102 at102 (g := (mkF m 12 #[rv s1, iv (0 : Int32), rv d1, iv (0 : Int32), iv (2 : Int32), iv (0 : Int32), .unset] [(.int (0 : Int32)), (.ref s1)])) rfl rfl (hb hby d5_12) t kont)
  have g104 : Go p e below s₁ (mkF m 31 #[rv s1, iv (0 : Int32), rv d1, iv (0 : Int32), iv (2 : Int32), iv (0 : Int32), iv c0_] [(.int (c0_.toInt8.toInt32)), (.int (0 : Int32)), (.ref d1)]) A0 := by
    intro t kont
    refine g103 t ?_
    refine XS.istore X0.here hx rfl (hb hby d5_13) rfl (l' := #[rv s1, iv (0 : Int32), rv d1, iv (0 : Int32), iv (2 : Int32), iv (0 : Int32), iv c0_]) rfl ?_
    show Steps p.tables e below (s₁.setTop (mkF m 15 #[rv s1, iv (0 : Int32), rv d1, iv (0 : Int32), iv (2 : Int32), iv (0 : Int32), iv c0_] [])) _
    refine XS.iload X0.here hx rfl (hb hby d5_15) rfl ?_
    show Steps p.tables e below (s₁.setTop (mkF m 17 #[rv s1, iv (0 : Int32), rv d1, iv (0 : Int32), iv (2 : Int32), iv (0 : Int32), iv c0_] [(.int c0_)])) _
    refine XS.sipush X0.here hx rfl (hb hby d5_17) ?_
    show Steps p.tables e below (s₁.setTop (mkF m 20 #[rv s1, iv (0 : Int32), rv d1, iv (0 : Int32), iv (2 : Int32), iv (0 : Int32), iv c0_] [(.int (255 : Int32)), (.int c0_)])) _
    refine XS.icmpYes X0.here hx rfl (pc0 := 20) (pc' := 26) rfl (hb hby d5_20) rfl (flt hc0).2.2.2 (by decide) (by decide) ?_
    show Steps p.tables e below (s₁.setTop (mkF m 26 #[rv s1, iv (0 : Int32), rv d1, iv (0 : Int32), iv (2 : Int32), iv (0 : Int32), iv c0_] [])) _
    refine XS.aloadN X0.here hx rfl (hb hby d5_26) rfl rfl ?_
    show Steps p.tables e below (s₁.setTop (mkF m 27 #[rv s1, iv (0 : Int32), rv d1, iv (0 : Int32), iv (2 : Int32), iv (0 : Int32), iv c0_] [(.ref d1)])) _
    refine XS.iloadN X0.here hx rfl (hb hby d5_27) rfl ?_
    show Steps p.tables e below (s₁.setTop (mkF m 28 #[rv s1, iv (0 : Int32), rv d1, iv (0 : Int32), iv (2 : Int32), iv (0 : Int32), iv c0_] [(.int (0 : Int32)), (.ref d1)])) _
    refine XS.iload X0.here hx rfl (hb hby d5_28) rfl ?_
    show Steps p.tables e below (s₁.setTop (mkF m 30 #[rv s1, iv (0 : Int32), rv d1, iv (0 : Int32), iv (2 : Int32), iv (0 : Int32), iv c0_] [(.int c0_), (.int (0 : Int32)), (.ref d1)])) _
    refine XS.i2b X0.here hx rfl (hb hby d5_30) rfl ?_
    show Steps p.tables e below (s₁.setTop (mkF m 31 #[rv s1, iv (0 : Int32), rv d1, iv (0 : Int32), iv (2 : Int32), iv (0 : Int32), iv c0_] [(.int (c0_.toInt8.toInt32)), (.int (0 : Int32)), (.ref d1)])) _
    exact kont
  have zz105 := A1_
  obtain ⟨cl105, Ar105, q105, S105, M105, H105, G105⟩ := zz105
  have in105 : ¬ ((0 : Int32) < 0 ∨ cl105.slots.size ≤ ((0 : Int32)).toNatClampNeg) := inb_of S105 ⟨by decide, by decide⟩
  obtain ⟨T105, h105, X105, e105, W105, st105⟩ := stB X0 hx hZ e0 Ar105 (j := (0 : Int32)) in105 (g := (mkF m 31 #[rv s1, iv (0 : Int32), rv d1, iv (0 : Int32), iv (2 : Int32), iv (0 : Int32), iv c0_] [(.int (c0_.toInt8.toInt32)), (.int (0 : Int32)), (.ref d1)])) rfl rfl (hb hby d5_31)
  rw [show nar .byte (c0_.toInt8.toInt32) = (c0_.toInt8.toInt32) from (own_narb _)] at W105
  have O106 := O0.wr W105 G2_
  have y107 : Arv Z h105 d1 kd .byte (2 : Int32) [(.int (c0_.toInt8.toInt32)), (.int (0 : Int32))] (.int (0 : Int32)) := Arv.set Ar105 q105 S105 M105 H105 G105 (own_ft_byte (z := (c0_.toInt8.toInt32)) (own_narb _)) W105 0 rfl (Nat.le_of_ble_eq_true rfl)
  have N105 := Fr.snoc X105 N0 G2_
  have g108 : Go p e below T105 (mkF m 32 #[rv s1, iv (0 : Int32), rv d1, iv (0 : Int32), iv (2 : Int32), iv (0 : Int32), iv c0_] []) A0 := fun t kont => g104 t (st105 t kont)
  have g109 : Go p e below T105 (mkF m 12 #[rv s1, iv (1 : Int32), rv d1, iv (1 : Int32), iv (2 : Int32), iv (1 : Int32), iv c0_] [(.int (1 : Int32)), (.ref s1)]) A0 := by
    intro t kont
    refine g108 t ?_
    refine XS.iinc X105.here hx rfl (hb hby d5_32) rfl (l' := #[rv s1, iv (1 : Int32), rv d1, iv (0 : Int32), iv (2 : Int32), iv (0 : Int32), iv c0_]) rfl ?_
    show Steps p.tables e below (T105.setTop (mkF m 35 #[rv s1, iv (1 : Int32), rv d1, iv (0 : Int32), iv (2 : Int32), iv (0 : Int32), iv c0_] [])) _
    refine XS.iinc X105.here hx rfl (hb hby d5_35) rfl (l' := #[rv s1, iv (1 : Int32), rv d1, iv (1 : Int32), iv (2 : Int32), iv (0 : Int32), iv c0_]) rfl ?_
    show Steps p.tables e below (T105.setTop (mkF m 38 #[rv s1, iv (1 : Int32), rv d1, iv (1 : Int32), iv (2 : Int32), iv (0 : Int32), iv c0_] [])) _
    refine XS.iinc X105.here hx rfl (hb hby d5_38) rfl (l' := #[rv s1, iv (1 : Int32), rv d1, iv (1 : Int32), iv (2 : Int32), iv (1 : Int32), iv c0_]) rfl ?_
    show Steps p.tables e below (T105.setTop (mkF m 41 #[rv s1, iv (1 : Int32), rv d1, iv (1 : Int32), iv (2 : Int32), iv (1 : Int32), iv c0_] [])) _
    refine XS.goto X105.here hx rfl (pc0 := 41) (pc' := 3) rfl (hb hby d5_41) (by decide) (by decide) ?_
    show Steps p.tables e below (T105.setTop (mkF m 3 #[rv s1, iv (1 : Int32), rv d1, iv (1 : Int32), iv (2 : Int32), iv (1 : Int32), iv c0_] [])) _
    refine XS.iload X105.here hx rfl (hb hby d5_3) rfl ?_
    show Steps p.tables e below (T105.setTop (mkF m 5 #[rv s1, iv (1 : Int32), rv d1, iv (1 : Int32), iv (2 : Int32), iv (1 : Int32), iv c0_] [(.int (1 : Int32))])) _
    refine XS.iload X105.here hx rfl (hb hby d5_5) rfl ?_
    show Steps p.tables e below (T105.setTop (mkF m 7 #[rv s1, iv (1 : Int32), rv d1, iv (1 : Int32), iv (2 : Int32), iv (1 : Int32), iv c0_] [(.int (2 : Int32)), (.int (1 : Int32))])) _
    refine XS.icmpNo X105.here hx rfl (hb hby d5_7) rfl (tlt (by decide : (1 : Int32) < (2 : Int32))).2.1 ?_
    show Steps p.tables e below (T105.setTop (mkF m 10 #[rv s1, iv (1 : Int32), rv d1, iv (1 : Int32), iv (2 : Int32), iv (1 : Int32), iv c0_] [])) _
    refine XS.aloadN X105.here hx rfl (hb hby d5_10) rfl rfl ?_
    show Steps p.tables e below (T105.setTop (mkF m 11 #[rv s1, iv (1 : Int32), rv d1, iv (1 : Int32), iv (2 : Int32), iv (1 : Int32), iv c0_] [(.ref s1)])) _
    refine XS.iloadN X105.here hx rfl (hb hby d5_11) rfl ?_
    show Steps p.tables e below (T105.setTop (mkF m 12 #[rv s1, iv (1 : Int32), rv d1, iv (1 : Int32), iv (2 : Int32), iv (1 : Int32), iv c0_] [(.int (1 : Int32)), (.ref s1)])) _
    exact kont
  have y110 : Arv Z h105 s1 ks .char (2 : Int32) [(.int c0_), (.int c1_)] (.int (0 : Int32)) := (A0_.other W105 NE3_)
  have zz111 := y110
  obtain ⟨cl111, Ar111, q111, S111, M111, H111, G111⟩ := zz111
  have in111 : ¬ ((1 : Int32) < 0 ∨ cl111.slots.size ≤ ((1 : Int32)).toNatClampNeg) := inb_of S111 ⟨by decide, by decide⟩
  have at111 : cl111.slots[((1 : Int32)).toNatClampNeg]? = some (.int c1_) := Has.at H111 in111 rfl
  have g112 : Go p e below T105 (mkF m 13 #[rv s1, iv (1 : Int32), rv d1, iv (1 : Int32), iv (2 : Int32), iv (1 : Int32), iv c0_] [(.int c1_)]) A0 := fun t kont => g109 t (X105.caload hx (j := (1 : Int32)) (v := (.int c1_)) (by rw [e105]; exact Ar111.1) (State.isArrayOf_alike hZ.alike Ar111.2.1) Ar111.2.2 in111 at111 (g := (mkF m 12 #[rv s1, iv (1 : Int32), rv d1, iv (1 : Int32), iv (2 : Int32), iv (1 : Int32), iv c0_] [(.int (1 : Int32)), (.ref s1)])) rfl rfl (hb hby d5_12) t kont)
  have g113 : Go p e below T105 (mkF m 31 #[rv s1, iv (1 : Int32), rv d1, iv (1 : Int32), iv (2 : Int32), iv (1 : Int32), iv c1_] [(.int (c1_.toInt8.toInt32)), (.int (1 : Int32)), (.ref d1)]) A0 := by
    intro t kont
    refine g112 t ?_
    refine XS.istore X105.here hx rfl (hb hby d5_13) rfl (l' := #[rv s1, iv (1 : Int32), rv d1, iv (1 : Int32), iv (2 : Int32), iv (1 : Int32), iv c1_]) rfl ?_
    show Steps p.tables e below (T105.setTop (mkF m 15 #[rv s1, iv (1 : Int32), rv d1, iv (1 : Int32), iv (2 : Int32), iv (1 : Int32), iv c1_] [])) _
    refine XS.iload X105.here hx rfl (hb hby d5_15) rfl ?_
    show Steps p.tables e below (T105.setTop (mkF m 17 #[rv s1, iv (1 : Int32), rv d1, iv (1 : Int32), iv (2 : Int32), iv (1 : Int32), iv c1_] [(.int c1_)])) _
    refine XS.sipush X105.here hx rfl (hb hby d5_17) ?_
    show Steps p.tables e below (T105.setTop (mkF m 20 #[rv s1, iv (1 : Int32), rv d1, iv (1 : Int32), iv (2 : Int32), iv (1 : Int32), iv c1_] [(.int (255 : Int32)), (.int c1_)])) _
    refine XS.icmpYes X105.here hx rfl (pc0 := 20) (pc' := 26) rfl (hb hby d5_20) rfl (flt hc1).2.2.2 (by decide) (by decide) ?_
    show Steps p.tables e below (T105.setTop (mkF m 26 #[rv s1, iv (1 : Int32), rv d1, iv (1 : Int32), iv (2 : Int32), iv (1 : Int32), iv c1_] [])) _
    refine XS.aloadN X105.here hx rfl (hb hby d5_26) rfl rfl ?_
    show Steps p.tables e below (T105.setTop (mkF m 27 #[rv s1, iv (1 : Int32), rv d1, iv (1 : Int32), iv (2 : Int32), iv (1 : Int32), iv c1_] [(.ref d1)])) _
    refine XS.iloadN X105.here hx rfl (hb hby d5_27) rfl ?_
    show Steps p.tables e below (T105.setTop (mkF m 28 #[rv s1, iv (1 : Int32), rv d1, iv (1 : Int32), iv (2 : Int32), iv (1 : Int32), iv c1_] [(.int (1 : Int32)), (.ref d1)])) _
    refine XS.iload X105.here hx rfl (hb hby d5_28) rfl ?_
    show Steps p.tables e below (T105.setTop (mkF m 30 #[rv s1, iv (1 : Int32), rv d1, iv (1 : Int32), iv (2 : Int32), iv (1 : Int32), iv c1_] [(.int c1_), (.int (1 : Int32)), (.ref d1)])) _
    refine XS.i2b X105.here hx rfl (hb hby d5_30) rfl ?_
    show Steps p.tables e below (T105.setTop (mkF m 31 #[rv s1, iv (1 : Int32), rv d1, iv (1 : Int32), iv (2 : Int32), iv (1 : Int32), iv c1_] [(.int (c1_.toInt8.toInt32)), (.int (1 : Int32)), (.ref d1)])) _
    exact kont
  have zz114 := y107
  obtain ⟨cl114, Ar114, q114, S114, M114, H114, G114⟩ := zz114
  have in114 : ¬ ((1 : Int32) < 0 ∨ cl114.slots.size ≤ ((1 : Int32)).toNatClampNeg) := inb_of S114 ⟨by decide, by decide⟩
  obtain ⟨T114, h114, X114, e114, W114, st114⟩ := stB X105 hx hZ e105 Ar114 (j := (1 : Int32)) in114 (g := (mkF m 31 #[rv s1, iv (1 : Int32), rv d1, iv (1 : Int32), iv (2 : Int32), iv (1 : Int32), iv c1_] [(.int (c1_.toInt8.toInt32)), (.int (1 : Int32)), (.ref d1)])) rfl rfl (hb hby d5_31)
  rw [show nar .byte (c1_.toInt8.toInt32) = (c1_.toInt8.toInt32) from (own_narb _)] at W114
  have O115 := O106.wr W114 G2_
  have y116 : Arv Z h114 d1 kd .byte (2 : Int32) [(.int (c0_.toInt8.toInt32)), (.int (c1_.toInt8.toInt32))] (.int (0 : Int32)) := Arv.set Ar114 q114 S114 M114 H114 G114 (own_ft_byte (z := (c1_.toInt8.toInt32)) (own_narb _)) W114 1 rfl (Nat.le_of_ble_eq_true rfl)
  have N114 := Fr.snoc X114 N105 G2_
  have g117 : Go p e below T114 (mkF m 32 #[rv s1, iv (1 : Int32), rv d1, iv (1 : Int32), iv (2 : Int32), iv (1 : Int32), iv c1_] []) A0 := fun t kont => g113 t (st114 t kont)
  have g118 : Go p e below T114 (mkF m 46 #[rv s1, iv (2 : Int32), rv d1, iv (2 : Int32), iv (2 : Int32), iv (2 : Int32), iv c1_] [(.int (2 : Int32))]) A0 := by
    intro t kont
    refine g117 t ?_
    refine XS.iinc X114.here hx rfl (hb hby d5_32) rfl (l' := #[rv s1, iv (2 : Int32), rv d1, iv (1 : Int32), iv (2 : Int32), iv (1 : Int32), iv c1_]) rfl ?_
    show Steps p.tables e below (T114.setTop (mkF m 35 #[rv s1, iv (2 : Int32), rv d1, iv (1 : Int32), iv (2 : Int32), iv (1 : Int32), iv c1_] [])) _
    refine XS.iinc X114.here hx rfl (hb hby d5_35) rfl (l' := #[rv s1, iv (2 : Int32), rv d1, iv (2 : Int32), iv (2 : Int32), iv (1 : Int32), iv c1_]) rfl ?_
    show Steps p.tables e below (T114.setTop (mkF m 38 #[rv s1, iv (2 : Int32), rv d1, iv (2 : Int32), iv (2 : Int32), iv (1 : Int32), iv c1_] [])) _
    refine XS.iinc X114.here hx rfl (hb hby d5_38) rfl (l' := #[rv s1, iv (2 : Int32), rv d1, iv (2 : Int32), iv (2 : Int32), iv (2 : Int32), iv c1_]) rfl ?_
    show Steps p.tables e below (T114.setTop (mkF m 41 #[rv s1, iv (2 : Int32), rv d1, iv (2 : Int32), iv (2 : Int32), iv (2 : Int32), iv c1_] [])) _
    refine XS.goto X114.here hx rfl (pc0 := 41) (pc' := 3) rfl (hb hby d5_41) (by decide) (by decide) ?_
    show Steps p.tables e below (T114.setTop (mkF m 3 #[rv s1, iv (2 : Int32), rv d1, iv (2 : Int32), iv (2 : Int32), iv (2 : Int32), iv c1_] [])) _
    refine XS.iload X114.here hx rfl (hb hby d5_3) rfl ?_
    show Steps p.tables e below (T114.setTop (mkF m 5 #[rv s1, iv (2 : Int32), rv d1, iv (2 : Int32), iv (2 : Int32), iv (2 : Int32), iv c1_] [(.int (2 : Int32))])) _
    refine XS.iload X114.here hx rfl (hb hby d5_5) rfl ?_
    show Steps p.tables e below (T114.setTop (mkF m 7 #[rv s1, iv (2 : Int32), rv d1, iv (2 : Int32), iv (2 : Int32), iv (2 : Int32), iv c1_] [(.int (2 : Int32)), (.int (2 : Int32))])) _
    refine XS.icmpYes X114.here hx rfl (pc0 := 7) (pc' := 44) rfl (hb hby d5_7) rfl (flt (by decide : ¬ ((2 : Int32) < (2 : Int32)))).2.1 (by decide) (by decide) ?_
    show Steps p.tables e below (T114.setTop (mkF m 44 #[rv s1, iv (2 : Int32), rv d1, iv (2 : Int32), iv (2 : Int32), iv (2 : Int32), iv c1_] [])) _
    refine XS.iload X114.here hx rfl (hb hby d5_44) rfl ?_
    show Steps p.tables e below (T114.setTop (mkF m 46 #[rv s1, iv (2 : Int32), rv d1, iv (2 : Int32), iv (2 : Int32), iv (2 : Int32), iv c1_] [(.int (2 : Int32))])) _
    exact kont
  have K119 : Keep h0 h114 [d1] := (((Keep.refl h0 [d1]).wr W105 (Or.inl (List.mem_of_getElem? (i := 0) rfl))).wr W114 (Or.inl (List.mem_of_getElem? (i := 0) rfl)))
  obtain ⟨fs, hr, hrun, hended, hW, hsame⟩ := X114.leave (v := some (.int (2 : Int32))) (fun h => by rw [Bd.returns] at h; cases h)
  refine ⟨_, _, g118 _ (retI X114 hx Bd.returns (hb hby d5_46) hr), hrun, hended, _, _, rfl, ?_, ⟨_, rfl⟩, hW, hsame.mono (by decide) (by decide)⟩
  show Q_cmp2 Z s1 d1 ks kd c0_ c1_ h0 n0 _ T114.heap _
  rw [e114]
  exact ⟨rfl, N114, K119, y116⟩
theorem d4_0 : decode jdk_52_method_16_code 0 = .ok (.iload_n 2, 1) := by decide +kernel
theorem d4_1 : decode jdk_52_method_16_code 1 = .ok (.newarray .byte, 2) := by decide +kernel
theorem d4_3 : decode jdk_52_method_16_code 3 = .ok (.astore_n 3, 1) := by decide +kernel
theorem d4_4 : decode jdk_52_method_16_code 4 = .ok (.aload_n 0, 1) := by decide +kernel
theorem d4_5 : decode jdk_52_method_16_code 5 = .ok (.iload_n 1, 1) := by decide +kernel
theorem d4_6 : decode jdk_52_method_16_code 6 = .ok (.aload_n 3, 1) := by decide +kernel
theorem d4_7 : decode jdk_52_method_16_code 7 = .ok (.iconst 0, 1) := by decide +kernel
theorem d4_8 : decode jdk_52_method_16_code 8 = .ok (.iload_n 2, 1) := by decide +kernel
theorem d4_9 : decode jdk_52_method_16_code 9 = .ok (.invokestatic 115, 3) := by decide +kernel
theorem pd_3 : parseMethodDescriptor "([CI[BII)I" = some ⟨[(.array .char), .int, (.array .byte), .int, .int], some .int⟩ := by decide +kernel
theorem d4_12 : decode jdk_52_method_16_code 12 = .ok (.istore 4, 2) := by decide +kernel
theorem d4_14 : decode jdk_52_method_16_code 14 = .ok (.iload 4, 2) := by decide +kernel
theorem d4_16 : decode jdk_52_method_16_code 16 = .ok (.iload_n 2, 1) := by decide +kernel
theorem d4_17 : decode jdk_52_method_16_code 17 = .ok (.if_icmp .eq 40, 3) := by decide +kernel
theorem d4_57 : decode jdk_52_method_16_code 57 = .ok (.aload_n 3, 1) := by decide +kernel
theorem d4_58 : decode jdk_52_method_16_code 58 = .ok (.areturn, 1) := by decide +kernel
theorem ef_com2 (m : MethodId) (x0 : Addr) (x1 : Int32) (x2 : Int32)  : entryFrame m #[(.ref x0), (.int x1), (.int x2)] 6 = mkF m 0 #[.val (.ref x0), .val (.int x1), .val (.int x2), .unset, .unset, .unset] [] := by first | (simp [entryFrame, mkF, argsToLocals, Value.category]; done) | rfl
def Q_com2 (Z : State) (s1 : Addr) (ks : ClassId) (c0_ : Int32) (c1_ : Int32) (h0 : Heap) (n0 : Nat) (v : Option Value) (h : Heap) (L : List Loc) : Prop := ∃ (r : Addr), ∃ (kid : ClassId), v = some (.ref r) ∧ Fr n0 L ∧ Keep h0 h [] ∧ h0.size ≤ r ∧ (Exa Z h r "[B") ∧ (Arv Z h r kid .byte (2 : Int32) [(.int (c0_.toInt8.toInt32)), (.int (c1_.toInt8.toInt32))] (.int (0 : Int32)))
set_option maxRecDepth 65536 in
set_option maxHeartbeats 40000000 in
theorem rm_com2 (l : Launch) (Z : State) (a0 : Array Value) (hw : ∀ d ∈ tables_1, d.before a0 Z = true) (ws : List Jvm.Cond) (s1 : Addr) (ks : ClassId) (c0_ : Int32) (c1_ : Int32) (h0 : Heap) (n0 : Nat) (O0 : Old Z n0 h0) (A0_ : Arv Z h0 s1 ks .char (2 : Int32) [(.int c0_), (.int c1_)] (.int (0 : Int32))) (hc0 : ¬ ((255 : Int32) < c0_)) (hc1 : ¬ ((255 : Int32) < c1_)) :
    MetFree l (⟨"java/lang/StringUTF16", "compress", "([CII)[B"⟩ : MethodName) (head1 (Jvm.Cond.code (⟨"java/lang/StringUTF16", "compress", "([CII)[B"⟩ : MethodName) jdk_52_method_16_code 6 (some (.array .byte)) :: ws) ({ frames := 1, cells := 1, slots := 2, locals := 18 } : Room)) (fun a U => a = #[(.ref s1), (.int (0 : Int32)), (.int (2 : Int32))] ∧ Z.Warmed39 U.vm ∧ U.heap = h0) (fun _ _ _ _ _ => True) (fun _ U o U' => ∃ v L, o = .returned v ∧ Q_com2 Z s1 ks c0_ c1_ h0 n0 v U'.heap L ∧ FrameEnd U o U' L ({ frames := 1, cells := 1, slots := 2, locals := 18 } : Room).cells ({ frames := 1, cells := 1, slots := 2, locals := 18 } : Room).slots) := by
  refine MetFree.of_bodySF (plainFor_of_name pn_java_lang_StringUTF16) hisR ?_
  intro p e s m args below meth c s₁ Bd hml0 hP hK
  obtain ⟨rfl, hZ, hh⟩ := hP
  have hx := Bd.exec
  have hby := Bd.bytes
  have hml : c.maxLocals = 6 := hml0
  have hown : s.vm.findClass "java/lang/StringUTF16" = some m.cls := findClass_of_methodNamed Bd.named
  have hnm := (name_of_methodNamed Bd.named Bd.method).1
  have X0 : Stand p l e ({ frames := 1, cells := 1, slots := 2, locals := 18 } : Room) s m #[(.ref s1), (.int (0 : Int32)), (.int (2 : Int32))] below meth c s₁ [] 0 0 := Stand.of_body Bd
  have e0 : s₁.heap = h0 := by rw [← hh, Bd.state]; rfl
  have N0 := Fr.nil n0
  have g0 : Go p e below s₁ (mkF m 0 #[rv s1, iv (0 : Int32), iv (2 : Int32), .unset, .unset, .unset] []) (s₁.setTop (entryFrame m #[(.ref s1), (.int (0 : Int32)), (.int (2 : Int32))] 6)) := fun t kont => castTop (ef_com2 m s1 (0 : Int32) (2 : Int32) ) kont
  generalize s₁.setTop (entryFrame m #[(.ref s1), (.int (0 : Int32)), (.int (2 : Int32))] 6) = A0 at g0 ⊢
  have g101 : Go p e below s₁ (mkF m 1 #[rv s1, iv (0 : Int32), iv (2 : Int32), .unset, .unset, .unset] [(.int (2 : Int32))]) A0 := by
    intro t kont
    refine g0 t ?_
    refine XS.iloadN X0.here hx rfl (hb hby d4_0) rfl ?_
    show Steps p.tables e below (s₁.setTop (mkF m 1 #[rv s1, iv (0 : Int32), iv (2 : Int32), .unset, .unset, .unset] [(.int (2 : Int32))])) _
    exact kont
  obtain ⟨T102, h102, k102, X102, e102, E102, A102, F102, st102⟩ := newPE X0 hx hZ (hw _ (List.mem_of_getElem? (i := 19) rfl)) e0 (g := (mkF m 1 #[rv s1, iv (0 : Int32), iv (2 : Int32), .unset, .unset, .unset] [(.int (2 : Int32))])) rfl (hb hby d4_1) rfl (by decide) (cap := 2) (by decide) (by decide) (by decide) (by decide) (ad := "[B") (by decide)
  obtain ⟨b102, gb102⟩ : ∃ z, z = h0.size := ⟨_, rfl⟩
  rw [← gb102] at A102 F102 st102
  have O103 := O0.ext E102
  have y104 : Arv Z h102 b102 k102 .byte (2 : Int32) [(.int (0 : Int32)), (.int (0 : Int32))] (.int (0 : Int32)) := (Arv.new A102 (by decide)).pad (pad_rep [] (.int (0 : Int32)) 2)
  have g105 : Go p e below T102 (mkF m 3 #[rv s1, iv (0 : Int32), iv (2 : Int32), .unset, .unset, .unset] [(.ref b102)]) A0 := fun t kont => g101 t (st102 t kont)
  have g106 : Go p e below T102 (mkF m 9 #[rv s1, iv (0 : Int32), iv (2 : Int32), rv b102, .unset, .unset] [(.int (2 : Int32)), (.int (0 : Int32)), (.ref b102), (.int (0 : Int32)), (.ref s1)]) A0 := by
    intro t kont
    refine g105 t ?_
    refine XS.astoreN X102.here hx rfl (hb hby d4_3) rfl rfl (l' := #[rv s1, iv (0 : Int32), iv (2 : Int32), rv b102, .unset, .unset]) rfl ?_
    show Steps p.tables e below (T102.setTop (mkF m 4 #[rv s1, iv (0 : Int32), iv (2 : Int32), rv b102, .unset, .unset] [])) _
    refine XS.aloadN X102.here hx rfl (hb hby d4_4) rfl rfl ?_
    show Steps p.tables e below (T102.setTop (mkF m 5 #[rv s1, iv (0 : Int32), iv (2 : Int32), rv b102, .unset, .unset] [(.ref s1)])) _
    refine XS.iloadN X102.here hx rfl (hb hby d4_5) rfl ?_
    show Steps p.tables e below (T102.setTop (mkF m 6 #[rv s1, iv (0 : Int32), iv (2 : Int32), rv b102, .unset, .unset] [(.int (0 : Int32)), (.ref s1)])) _
    refine XS.aloadN X102.here hx rfl (hb hby d4_6) rfl rfl ?_
    show Steps p.tables e below (T102.setTop (mkF m 7 #[rv s1, iv (0 : Int32), iv (2 : Int32), rv b102, .unset, .unset] [(.ref b102), (.int (0 : Int32)), (.ref s1)])) _
    refine XS.iconst X102.here hx rfl (hb hby d4_7) ?_
    show Steps p.tables e below (T102.setTop (mkF m 8 #[rv s1, iv (0 : Int32), iv (2 : Int32), rv b102, .unset, .unset] [(.int (0 : Int32)), (.ref b102), (.int (0 : Int32)), (.ref s1)])) _
    refine XS.iloadN X102.here hx rfl (hb hby d4_8) rfl ?_
    show Steps p.tables e below (T102.setTop (mkF m 9 #[rv s1, iv (0 : Int32), iv (2 : Int32), rv b102, .unset, .unset] [(.int (2 : Int32)), (.int (0 : Int32)), (.ref b102), (.int (0 : Int32)), (.ref s1)])) _
    exact kont
  have y108 : Arv Z h102 s1 ks .char (2 : Int32) [(.int c0_), (.int c1_)] (.int (0 : Int32)) := (A0_.ext E102)
  have ge109 : n0 ≤ b102 := Nat.le_trans (own_old_le O0) (Nat.le_of_eq gb102.symm)
  obtain ⟨_, _, ⟨T107, L107, k107, n107⟩, -, X107, ⟨Lc107, hQ107, l107, y107, z107⟩, st107⟩ := Jvm.LawKit.callS X102 hx (y := (⟨"java/lang/StringUTF16", "compress", "([CI[BII)I"⟩ : MethodName)) hown (mvT hZ (hw _ (List.mem_of_getElem? (i := 20) rfl))) (mvT hZ (hw _ (List.mem_of_getElem? (i := 21) rfl))) (mvT hZ (hw _ (List.mem_of_getElem? (i := 17) rfl))) (mvT hZ (hw _ (List.mem_of_getElem? (i := 22) rfl))) (by decide) (backOf (W := 0) (rm_cmp2 l Z a0 hw [] s1 b102 ks k102 c0_ c1_ h102 n0 O103 y108 y104 ge109 (Nat.ne_of_lt (Nat.lt_of_lt_of_le A0_.lt (Nat.le_of_eq gb102.symm))) hc0 hc1) hZ (hw _ (List.mem_of_getElem? (i := 22) rfl)) (hw _ (List.mem_of_getElem? (i := 17) rfl)) (by decide) (by decide)) (g := (mkF m 9 #[rv s1, iv (0 : Int32), iv (2 : Int32), rv b102, .unset, .unset] [(.int (2 : Int32)), (.int (0 : Int32)), (.ref b102), (.int (0 : Int32)), (.ref s1)])) rfl (by rw [hml]; rfl) (argsL := [(.ref s1), (.int (0 : Int32)), (.ref b102), (.int (0 : Int32)), (.int (2 : Int32))]) (rest := []) (lenOf pd_3 rfl) rfl (by show 2 * 0 + _ ≤ _; exact Nat.le_of_eq rfl) (hb hby d4_9) (fun _ _ => ⟨rfl, e102, (by decide : 1 + 0 ≤ _), (by decide : 2 + 0 ≤ _)⟩)
  dsimp only [Pt.U, Pt.locs, Pt.cells, Pt.slots] at X107 l107 y107 z107 st107 hQ107
  subst l107 y107 z107
  obtain ⟨rfl, M107, K107, y110⟩ := hQ107
  have N107 := Fr.app N0 M107
  have O111 := O103.keep K107 (allS ge109 all0)
  have g112 : Go p e below T107 (mkF m 12 #[rv s1, iv (0 : Int32), iv (2 : Int32), rv b102, .unset, .unset] [(.int (2 : Int32))]) A0 := fun t kont => g106 t (st107 t kont)
  have g113 : Go p e below T107 (mkF m 58 #[rv s1, iv (0 : Int32), iv (2 : Int32), rv b102, iv (2 : Int32), .unset] [(.ref b102)]) A0 := by
    intro t kont
    refine g112 t ?_
    refine XS.istore X107.here hx rfl (hb hby d4_12) rfl (l' := #[rv s1, iv (0 : Int32), iv (2 : Int32), rv b102, iv (2 : Int32), .unset]) rfl ?_
    show Steps p.tables e below (T107.setTop (mkF m 14 #[rv s1, iv (0 : Int32), iv (2 : Int32), rv b102, iv (2 : Int32), .unset] [])) _
    refine XS.iload X107.here hx rfl (hb hby d4_14) rfl ?_
    show Steps p.tables e below (T107.setTop (mkF m 16 #[rv s1, iv (0 : Int32), iv (2 : Int32), rv b102, iv (2 : Int32), .unset] [(.int (2 : Int32))])) _
    refine XS.iloadN X107.here hx rfl (hb hby d4_16) rfl ?_
    show Steps p.tables e below (T107.setTop (mkF m 17 #[rv s1, iv (0 : Int32), iv (2 : Int32), rv b102, iv (2 : Int32), .unset] [(.int (2 : Int32)), (.int (2 : Int32))])) _
    refine XS.icmpYes X107.here hx rfl (pc0 := 17) (pc' := 57) rfl (hb hby d4_17) rfl (teq (by decide : (2 : Int32) = (2 : Int32))).1 (by decide) (by decide) ?_
    show Steps p.tables e below (T107.setTop (mkF m 57 #[rv s1, iv (0 : Int32), iv (2 : Int32), rv b102, iv (2 : Int32), .unset] [])) _
    refine XS.aloadN X107.here hx rfl (hb hby d4_57) rfl rfl ?_
    show Steps p.tables e below (T107.setTop (mkF m 58 #[rv s1, iv (0 : Int32), iv (2 : Int32), rv b102, iv (2 : Int32), .unset] [(.ref b102)])) _
    exact kont
  have K114 : Keep h0 T107.heap [] := (((Keep.refl h0 []).ext E102).trans K107 (allS (P := fun x => x ∈ [] ∨ h0.size ≤ x) (Or.inr (Nat.le_of_eq gb102.symm)) all0))
  have y115 : Exa Z T107.heap b102 "[B" := (F102.keep K107)
  obtain ⟨fs, hr, hrun, hended, hW, hsame⟩ := X107.leave (v := some (.ref b102)) (fun h => by rw [Bd.returns] at h; cases h)
  refine ⟨_, _, g113 _ (retOut X107 hx Bd.returns rfl (Or.inr (Or.inr (Or.inr (Or.inr ⟨rfl, rfl, rfl⟩)))) (hb hby d4_58) hr), hrun, hended, _, _, rfl, ?_, ⟨_, rfl⟩, hW, hsame.mono (by decide) (by decide)⟩
  show Q_com2 Z s1 ks c0_ c1_ h0 n0 _ T107.heap _
  exact ⟨b102, k102, rfl, N107, K114, (Nat.le_of_eq gb102.symm), y115, y110⟩
theorem d6_0 : decode jdk_52_method_15_code 0 = .ok (.iload_n 1, 1) := by decide +kernel
theorem d6_1 : decode jdk_52_method_15_code 1 = .ok (.aload_n 0, 1) := by decide +kernel
theorem d6_2 : decode jdk_52_method_15_code 2 = .ok (.arraylength, 1) := by decide +kernel
theorem d6_3 : decode jdk_52_method_15_code 3 = .ok (.isub, 1) := by decide +kernel
theorem d6_4 : decode jdk_52_method_15_code 4 = .ok (.bipush 31, 2) := by decide +kernel
theorem d6_6 : decode jdk_52_method_15_code 6 = .ok (.iushr, 1) := by decide +kernel
theorem d6_7 : decode jdk_52_method_15_code 7 = .ok (.i2b, 1) := by decide +kernel
theorem d6_8 : decode jdk_52_method_15_code 8 = .ok (.ireturn, 1) := by decide +kernel
theorem ef_cfa2 (m : MethodId) (x0 : Addr) (x1 : Int32)  : entryFrame m #[(.ref x0), (.int x1)] 2 = mkF m 0 #[.val (.ref x0), .val (.int x1)] [] := by first | (simp [entryFrame, mkF, argsToLocals, Value.category]; done) | rfl
def Q_cfa2 (Z : State) (b1 : Addr) (kid : ClassId) (vs : List Value) (h0 : Heap) (n0 : Nat) (v : Option Value) (h : Heap) (L : List Loc) : Prop := v = some (.int (0 : Int32)) ∧ Fr n0 L ∧ h = h0
set_option maxRecDepth 65536 in
set_option maxHeartbeats 40000000 in
theorem rm_cfa2 (l : Launch) (Z : State) (a0 : Array Value) (hw : ∀ d ∈ tables_1, d.before a0 Z = true) (ws : List Jvm.Cond) (b1 : Addr) (kid : ClassId) (vs : List Value) (h0 : Heap) (n0 : Nat) (O0 : Old Z n0 h0) (A0_ : Arv Z h0 b1 kid .byte (2 : Int32) vs (.int (0 : Int32))) :
    MetFree l (⟨"java/lang/StringUTF16", "coderFromArrayLen", "([BI)B"⟩ : MethodName) (head1 (Jvm.Cond.code (⟨"java/lang/StringUTF16", "coderFromArrayLen", "([BI)B"⟩ : MethodName) jdk_52_method_15_code 2 (some .byte) :: ws) ({ frames := 0, cells := 0, slots := 0, locals := 0 } : Room)) (fun a U => a = #[(.ref b1), (.int (2 : Int32))] ∧ Z.Warmed39 U.vm ∧ U.heap = h0) (fun _ _ _ _ _ => True) (fun _ U o U' => ∃ v L, o = .returned v ∧ Q_cfa2 Z b1 kid vs h0 n0 v U'.heap L ∧ FrameEnd U o U' L ({ frames := 0, cells := 0, slots := 0, locals := 0 } : Room).cells ({ frames := 0, cells := 0, slots := 0, locals := 0 } : Room).slots) := by
  refine MetFree.of_bodySF (plainFor_of_name pn_java_lang_StringUTF16) hisR ?_
  intro p e s m args below meth c s₁ Bd hml0 hP hK
  obtain ⟨rfl, hZ, hh⟩ := hP
  have hx := Bd.exec
  have hby := Bd.bytes
  have hml : c.maxLocals = 2 := hml0
  have hown : s.vm.findClass "java/lang/StringUTF16" = some m.cls := findClass_of_methodNamed Bd.named
  have hnm := (name_of_methodNamed Bd.named Bd.method).1
  have X0 : Stand p l e ({ frames := 0, cells := 0, slots := 0, locals := 0 } : Room) s m #[(.ref b1), (.int (2 : Int32))] below meth c s₁ [] 0 0 := Stand.of_body Bd
  have e0 : s₁.heap = h0 := by rw [← hh, Bd.state]; rfl
  have N0 := Fr.nil n0
  have g0 : Go p e below s₁ (mkF m 0 #[rv b1, iv (2 : Int32)] []) (s₁.setTop (entryFrame m #[(.ref b1), (.int (2 : Int32))] 2)) := fun t kont => castTop (ef_cfa2 m b1 (2 : Int32) ) kont
  generalize s₁.setTop (entryFrame m #[(.ref b1), (.int (2 : Int32))] 2) = A0 at g0 ⊢
  have g101 : Go p e below s₁ (mkF m 2 #[rv b1, iv (2 : Int32)] [(.ref b1), (.int (2 : Int32))]) A0 := by
    intro t kont
    refine g0 t ?_
    refine XS.iloadN X0.here hx rfl (hb hby d6_0) rfl ?_
    show Steps p.tables e below (s₁.setTop (mkF m 1 #[rv b1, iv (2 : Int32)] [(.int (2 : Int32))])) _
    refine XS.aloadN X0.here hx rfl (hb hby d6_1) rfl rfl ?_
    show Steps p.tables e below (s₁.setTop (mkF m 2 #[rv b1, iv (2 : Int32)] [(.ref b1), (.int (2 : Int32))])) _
    exact kont
  have zz102 := A0_
  obtain ⟨cl102, Ar102, -, S102, M102, -, -⟩ := zz102
  have g103 : Go p e below s₁ (mkF m 3 #[rv b1, iv (2 : Int32)] [(.int (2 : Int32)), (.int (2 : Int32))]) A0 := by
    intro t kont
    refine g101 t ?_
    refine X0.arraylength hx (by rw [e0]; exact Ar102.1) (State.isArrayOf_alike hZ.alike Ar102.2.1) (g := (mkF m 2 #[rv b1, iv (2 : Int32)] [(.ref b1), (.int (2 : Int32))])) rfl rfl (hb hby d6_2) _ ?_
    rw [len_of S102 M102]
    exact kont
  have g104 : Go p e below s₁ (mkF m 8 #[rv b1, iv (2 : Int32)] [(.int (0 : Int32))]) A0 := by
    intro t kont
    refine g103 t ?_
    refine XS.isub X0.here hx rfl (hb hby d6_3) rfl ?_
    show Steps p.tables e below (s₁.setTop (mkF m 4 #[rv b1, iv (2 : Int32)] [(.int (0 : Int32))])) _
    refine XS.bipush X0.here hx rfl (hb hby d6_4) ?_
    show Steps p.tables e below (s₁.setTop (mkF m 6 #[rv b1, iv (2 : Int32)] [(.int (31 : Int32)), (.int (0 : Int32))])) _
    refine XS.iushr X0.here hx rfl (hb hby d6_6) rfl ?_
    show Steps p.tables e below (s₁.setTop (mkF m 7 #[rv b1, iv (2 : Int32)] [(.int (0 : Int32))])) _
    refine XS.i2b X0.here hx rfl (hb hby d6_7) rfl ?_
    show Steps p.tables e below (s₁.setTop (mkF m 8 #[rv b1, iv (2 : Int32)] [(.int (0 : Int32))])) _
    exact kont
  obtain ⟨fs, hr, hrun, hended, hW, hsame⟩ := X0.leave (v := some (.int (0 : Int32))) (fun h => by rw [Bd.returns] at h; cases h)
  refine ⟨_, _, g104 _ (retN X0 hx (t := .byte) Bd.returns (by simp) (hb hby d6_8) hr), hrun, hended, _, _, rfl, ?_, ⟨_, rfl⟩, hW, hsame.mono (by decide) (by decide)⟩
  show Q_cfa2 Z b1 kid vs h0 n0 _ s₁.heap _
  rw [e0]
  exact ⟨rfl, N0, rfl⟩
theorem d2_0 : decode jdk_42_method_149_code 0 = .ok (.aload_n 0, 1) := by decide +kernel
theorem d2_1 : decode jdk_42_method_149_code 1 = .ok (.invokespecial 1, 3) := by decide +kernel
theorem d2_4 : decode jdk_42_method_149_code 4 = .ok (.iload_n 3, 1) := by decide +kernel
theorem d2_5 : decode jdk_42_method_149_code 5 = .ok (.ifCond .ne 22, 3) := by decide +kernel
theorem d2_27 : decode jdk_42_method_149_code 27 = .ok (.getstatic 38, 3) := by decide +kernel
theorem d2_30 : decode jdk_42_method_149_code 30 = .ok (.ifCond .eq 28, 3) := by decide +kernel
theorem d2_33 : decode jdk_42_method_149_code 33 = .ok (.aload_n 1, 1) := by decide +kernel
theorem d2_34 : decode jdk_42_method_149_code 34 = .ok (.iload_n 2, 1) := by decide +kernel
theorem d2_35 : decode jdk_42_method_149_code 35 = .ok (.iload_n 3, 1) := by decide +kernel
theorem d2_36 : decode jdk_42_method_149_code 36 = .ok (.invokestatic 177, 3) := by decide +kernel
theorem pd_4 : parseMethodDescriptor "([CII)[B" = some ⟨[(.array .char), .int, .int], some (.array .byte)⟩ := by decide +kernel
theorem d2_39 : decode jdk_42_method_149_code 39 = .ok (.astore 5, 2) := by decide +kernel
theorem d2_41 : decode jdk_42_method_149_code 41 = .ok (.aload_n 0, 1) := by decide +kernel
theorem d2_42 : decode jdk_42_method_149_code 42 = .ok (.aload 5, 2) := by decide +kernel
theorem d2_44 : decode jdk_42_method_149_code 44 = .ok (.iload_n 3, 1) := by decide +kernel
theorem d2_45 : decode jdk_42_method_149_code 45 = .ok (.invokestatic 47, 3) := by decide +kernel
theorem pd_5 : parseMethodDescriptor "([BI)B" = some ⟨[(.array .byte), .int], some .byte⟩ := by decide +kernel
theorem d2_48 : decode jdk_42_method_149_code 48 = .ok (.putfield 15, 3) := by decide +kernel
theorem d2_51 : decode jdk_42_method_149_code 51 = .ok (.aload_n 0, 1) := by decide +kernel
theorem d2_52 : decode jdk_42_method_149_code 52 = .ok (.aload 5, 2) := by decide +kernel
theorem d2_54 : decode jdk_42_method_149_code 54 = .ok (.putfield 9, 3) := by decide +kernel
theorem d2_57 : decode jdk_42_method_149_code 57 = .ok (.return_, 1) := by decide +kernel
theorem ef_sin2 (m : MethodId) (x0 : Addr) (x1 : Addr) (x2 : Int32) (x3 : Int32)  : entryFrame m #[(.ref x0), (.ref x1), (.int x2), (.int x3), .null] 6 = mkF m 0 #[.val (.ref x0), .val (.ref x1), .val (.int x2), .val (.int x3), .val .null, .unset] [] := by first | (simp [entryFrame, mkF, argsToLocals, Value.category]; done) | rfl
def Q_sin2 (Z : State) (a1 : Addr) (s1 : Addr) (ks : ClassId) (c0_ : Int32) (c1_ : Int32) (cs : Int32) (h0 : Heap) (n0 : Nat) (v : Option Value) (h : Heap) (L : List Loc) : Prop := ∃ (r : Addr), ∃ (kid : ClassId), v = none ∧ Fr n0 L ∧ Keep h0 h [a1] ∧ (Exa Z h a1 "java/lang/String") ∧ (Fld Z h a1 "java/lang/String" "coder" "B" (.int (0 : Int32))) ∧ (Fld Z h a1 "java/lang/String" "value" "[B" (.ref r)) ∧ h0.size ≤ r ∧ (Arv Z h r kid .byte (2 : Int32) [(.int (c0_.toInt8.toInt32)), (.int (c1_.toInt8.toInt32))] (.int (0 : Int32)))
set_option maxRecDepth 65536 in
set_option maxHeartbeats 40000000 in
theorem rm_sin2 (l : Launch) (Z : State) (a0 : Array Value) (hw : ∀ d ∈ tables_1, d.before a0 Z = true) (ws : List Jvm.Cond) (a1 : Addr) (s1 : Addr) (ks : ClassId) (c0_ : Int32) (c1_ : Int32) (cs : Int32) (h0 : Heap) (n0 : Nat) (O0 : Old Z n0 h0) (F0_ : Fld Z h0 a1 "java/lang/String" "value" "[B" .null) (F1_ : Fld Z h0 a1 "java/lang/String" "coder" "B" (.int (0 : Int32))) (E2_ : Exa Z h0 a1 "java/lang/String") (G3_ : n0 ≤ a1) (A4_ : Arv Z h0 s1 ks .char (2 : Int32) [(.int c0_), (.int c1_)] (.int (0 : Int32))) (hc0 : ¬ ((255 : Int32) < c0_)) (hc1 : ¬ ((255 : Int32) < c1_)) (S7_ : Sta Z Z.heap "java/lang/String" "COMPACT_STRINGS" "Z" (.int cs)) (hcs : ¬ (cs = (0 : Int32))) :
    MetFree l (⟨"java/lang/String", "<init>", "([CIILjava/lang/Void;)V"⟩ : MethodName) (head1 (Jvm.Cond.code (⟨"java/lang/String", "<init>", "([CIILjava/lang/Void;)V"⟩ : MethodName) jdk_42_method_149_code 6 none :: ws) ({ frames := 2, cells := 1, slots := 2, locals := 35 } : Room)) (fun a U => a = #[(.ref a1), (.ref s1), (.int (0 : Int32)), (.int (2 : Int32)), .null] ∧ Z.Warmed39 U.vm ∧ U.heap = h0) (fun _ _ _ _ _ => True) (fun _ U o U' => ∃ v L, o = .returned v ∧ Q_sin2 Z a1 s1 ks c0_ c1_ cs h0 n0 v U'.heap L ∧ FrameEnd U o U' L ({ frames := 2, cells := 1, slots := 2, locals := 35 } : Room).cells ({ frames := 2, cells := 1, slots := 2, locals := 35 } : Room).slots) := by
  refine MetFree.of_bodySF (plainFor_of_name pn_java_lang_String) hisR ?_
  intro p e s m args below meth c s₁ Bd hml0 hP hK
  obtain ⟨rfl, hZ, hh⟩ := hP
  have hx := Bd.exec
  have hby := Bd.bytes
  have hml : c.maxLocals = 6 := hml0
  have hown : s.vm.findClass "java/lang/String" = some m.cls := findClass_of_methodNamed Bd.named
  have hnm := (name_of_methodNamed Bd.named Bd.method).1
  have X0 : Stand p l e ({ frames := 2, cells := 1, slots := 2, locals := 35 } : Room) s m #[(.ref a1), (.ref s1), (.int (0 : Int32)), (.int (2 : Int32)), .null] below meth c s₁ [] 0 0 := Stand.of_body Bd
  have e0 : s₁.heap = h0 := by rw [← hh, Bd.state]; rfl
  have N0 := Fr.nil n0
  have g0 : Go p e below s₁ (mkF m 0 #[rv a1, rv s1, iv (0 : Int32), iv (2 : Int32), .val .null, .unset] []) (s₁.setTop (entryFrame m #[(.ref a1), (.ref s1), (.int (0 : Int32)), (.int (2 : Int32)), .null] 6)) := fun t kont => castTop (ef_sin2 m a1 s1 (0 : Int32) (2 : Int32) ) kont
  generalize s₁.setTop (entryFrame m #[(.ref a1), (.ref s1), (.int (0 : Int32)), (.int (2 : Int32)), .null] 6) = A0 at g0 ⊢
  have g101 : Go p e below s₁ (mkF m 1 #[rv a1, rv s1, iv (0 : Int32), iv (2 : Int32), .val .null, .unset] [(.ref a1)]) A0 := by
    intro t kont
    refine g0 t ?_
    refine XS.aloadN X0.here hx rfl (hb hby d2_0) rfl rfl ?_
    show Steps p.tables e below (s₁.setTop (mkF m 1 #[rv a1, rv s1, iv (0 : Int32), iv (2 : Int32), .val .null, .unset] [(.ref a1)])) _
    exact kont
  obtain ⟨T102, X102, e102, st102⟩ := initO X0 hx hZ hown (hw _ (List.mem_of_getElem? (i := 11) rfl)) (hw _ (List.mem_of_getElem? (i := 12) rfl)) (hw _ (List.mem_of_getElem? (i := 13) rfl)) e0 (g := (mkF m 1 #[rv a1, rv s1, iv (0 : Int32), iv (2 : Int32), .val .null, .unset] [(.ref a1)])) rfl (by rw [hml]; rfl) rfl (hb hby d2_1) (by decide) (W := 0) (by show 2 * 0 + _ ≤ _; exact Nat.le_of_eq rfl) (by decide)
  have g103 : Go p e below T102 (mkF m 4 #[rv a1, rv s1, iv (0 : Int32), iv (2 : Int32), .val .null, .unset] []) A0 := fun t kont => g101 t (st102 t kont)
  have g104 : Go p e below T102 (mkF m 27 #[rv a1, rv s1, iv (0 : Int32), iv (2 : Int32), .val .null, .unset] []) A0 := by
    intro t kont
    refine g103 t ?_
    refine XS.iloadN X102.here hx rfl (hb hby d2_4) rfl ?_
    show Steps p.tables e below (T102.setTop (mkF m 5 #[rv a1, rv s1, iv (0 : Int32), iv (2 : Int32), .val .null, .unset] [(.int (2 : Int32))])) _
    refine XS.ifYes X102.here hx rfl (pc0 := 5) (pc' := 27) rfl (hb hby d2_5) rfl ((if0 _ _).trans (feq (by decide : ¬ ((2 : Int32) = (0 : Int32)))).2) (by decide) (by decide) ?_
    show Steps p.tables e below (T102.setTop (mkF m 27 #[rv a1, rv s1, iv (0 : Int32), iv (2 : Int32), .val .null, .unset] [])) _
    exact kont
  have y105 : Sta Z h0 "java/lang/String" "COMPACT_STRINGS" "Z" (.int cs) := S7_.ext O0.2
  obtain ⟨T106, X106, e106, st106⟩ := getS2 X102 hx hZ hown (host := "") (Or.inl (hw _ (List.mem_of_getElem? (i := 14) rfl))) Via.refl e102 y105 (g := (mkF m 27 #[rv a1, rv s1, iv (0 : Int32), iv (2 : Int32), .val .null, .unset] [])) rfl (hb hby d2_27)
  have g107 : Go p e below T106 (mkF m 30 #[rv a1, rv s1, iv (0 : Int32), iv (2 : Int32), .val .null, .unset] [(.int cs)]) A0 := fun t kont => g104 t (st106 t kont)
  have g108 : Go p e below T106 (mkF m 36 #[rv a1, rv s1, iv (0 : Int32), iv (2 : Int32), .val .null, .unset] [(.int (2 : Int32)), (.int (0 : Int32)), (.ref s1)]) A0 := by
    intro t kont
    refine g107 t ?_
    refine XS.ifNo X106.here hx rfl (hb hby d2_30) rfl ((if0 _ _).trans (feq hcs).1) ?_
    show Steps p.tables e below (T106.setTop (mkF m 33 #[rv a1, rv s1, iv (0 : Int32), iv (2 : Int32), .val .null, .unset] [])) _
    refine XS.aloadN X106.here hx rfl (hb hby d2_33) rfl rfl ?_
    show Steps p.tables e below (T106.setTop (mkF m 34 #[rv a1, rv s1, iv (0 : Int32), iv (2 : Int32), .val .null, .unset] [(.ref s1)])) _
    refine XS.iloadN X106.here hx rfl (hb hby d2_34) rfl ?_
    show Steps p.tables e below (T106.setTop (mkF m 35 #[rv a1, rv s1, iv (0 : Int32), iv (2 : Int32), .val .null, .unset] [(.int (0 : Int32)), (.ref s1)])) _
    refine XS.iloadN X106.here hx rfl (hb hby d2_35) rfl ?_
    show Steps p.tables e below (T106.setTop (mkF m 36 #[rv a1, rv s1, iv (0 : Int32), iv (2 : Int32), .val .null, .unset] [(.int (2 : Int32)), (.int (0 : Int32)), (.ref s1)])) _
    exact kont
  obtain ⟨_, _, ⟨T109, L109, k109, n109⟩, -, X109, ⟨Lc109, hQ109, l109, y109, z109⟩, st109⟩ := Jvm.LawKit.callS X106 hx (y := (⟨"java/lang/StringUTF16", "compress", "([CII)[B"⟩ : MethodName)) hown (mvT hZ (hw _ (List.mem_of_getElem? (i := 15) rfl))) (mvT hZ (hw _ (List.mem_of_getElem? (i := 16) rfl))) (mvT hZ (hw _ (List.mem_of_getElem? (i := 17) rfl))) (mvT hZ (hw _ (List.mem_of_getElem? (i := 18) rfl))) (by decide) (backOf (W := 0) (rm_com2 l Z a0 hw [] s1 ks c0_ c1_ h0 n0 O0 A4_ hc0 hc1) hZ (hw _ (List.mem_of_getElem? (i := 18) rfl)) (hw _ (List.mem_of_getElem? (i := 17) rfl)) (by decide) (by decide)) (g := (mkF m 36 #[rv a1, rv s1, iv (0 : Int32), iv (2 : Int32), .val .null, .unset] [(.int (2 : Int32)), (.int (0 : Int32)), (.ref s1)])) rfl (by rw [hml]; rfl) (argsL := [(.ref s1), (.int (0 : Int32)), (.int (2 : Int32))]) (rest := []) (lenOf pd_4 rfl) rfl (by show 2 * 0 + _ ≤ _; exact Nat.le_of_eq rfl) (hb hby d2_36) (fun _ _ => ⟨rfl, e106, (by decide : 0 + 1 ≤ _), (by decide : 0 + 2 ≤ _)⟩)
  dsimp only [Pt.U, Pt.locs, Pt.cells, Pt.slots] at X109 l109 y109 z109 st109 hQ109
  subst l109 y109 z109
  obtain ⟨r110, r111, rfl, M109, K109, y112, y113, y114⟩ := hQ109
  have N109 := Fr.app N0 M109
  have O115 := O0.keep K109 all0
  have g116 : Go p e below T109 (mkF m 39 #[rv a1, rv s1, iv (0 : Int32), iv (2 : Int32), .val .null, .unset] [(.ref r110)]) A0 := fun t kont => g108 t (st109 t kont)
  have g117 : Go p e below T109 (mkF m 45 #[rv a1, rv s1, iv (0 : Int32), iv (2 : Int32), .val .null, rv r110] [(.int (2 : Int32)), (.ref r110), (.ref a1)]) A0 := by
    intro t kont
    refine g116 t ?_
    refine XS.astore X109.here hx rfl (hb hby d2_39) rfl rfl (l' := #[rv a1, rv s1, iv (0 : Int32), iv (2 : Int32), .val .null, rv r110]) rfl ?_
    show Steps p.tables e below (T109.setTop (mkF m 41 #[rv a1, rv s1, iv (0 : Int32), iv (2 : Int32), .val .null, rv r110] [])) _
    refine XS.aloadN X109.here hx rfl (hb hby d2_41) rfl rfl ?_
    show Steps p.tables e below (T109.setTop (mkF m 42 #[rv a1, rv s1, iv (0 : Int32), iv (2 : Int32), .val .null, rv r110] [(.ref a1)])) _
    refine XS.aload X109.here hx rfl (hb hby d2_42) rfl rfl ?_
    show Steps p.tables e below (T109.setTop (mkF m 44 #[rv a1, rv s1, iv (0 : Int32), iv (2 : Int32), .val .null, rv r110] [(.ref r110), (.ref a1)])) _
    refine XS.iloadN X109.here hx rfl (hb hby d2_44) rfl ?_
    show Steps p.tables e below (T109.setTop (mkF m 45 #[rv a1, rv s1, iv (0 : Int32), iv (2 : Int32), .val .null, rv r110] [(.int (2 : Int32)), (.ref r110), (.ref a1)])) _
    exact kont
  obtain ⟨_, _, ⟨T118, L118, k118, n118⟩, -, X118, ⟨Lc118, hQ118, l118, y118, z118⟩, st118⟩ := Jvm.LawKit.callS X109 hx (y := (⟨"java/lang/StringUTF16", "coderFromArrayLen", "([BI)B"⟩ : MethodName)) hown (mvT hZ (hw _ (List.mem_of_getElem? (i := 23) rfl))) (mvT hZ (hw _ (List.mem_of_getElem? (i := 24) rfl))) (mvT hZ (hw _ (List.mem_of_getElem? (i := 17) rfl))) (mvT hZ (hw _ (List.mem_of_getElem? (i := 25) rfl))) (by decide) (backOf (W := 1) (rm_cfa2 l Z a0 hw [] r110 r111 [(.int (c0_.toInt8.toInt32)), (.int (c1_.toInt8.toInt32))] T109.heap n0 O115 y114) hZ (hw _ (List.mem_of_getElem? (i := 25) rfl)) (hw _ (List.mem_of_getElem? (i := 17) rfl)) (by decide) (by decide)) (g := (mkF m 45 #[rv a1, rv s1, iv (0 : Int32), iv (2 : Int32), .val .null, rv r110] [(.int (2 : Int32)), (.ref r110), (.ref a1)])) rfl (by rw [hml]; rfl) (argsL := [(.ref r110), (.int (2 : Int32))]) (rest := [(.ref a1)]) (lenOf pd_5 rfl) rfl (by show 2 * 0 + _ ≤ _; exact Nat.le_of_eq rfl) (hb hby d2_45) (fun _ _ => ⟨rfl, rfl, (by decide : 1 + 0 ≤ _), (by decide : 2 + 0 ≤ _)⟩)
  dsimp only [Pt.U, Pt.locs, Pt.cells, Pt.slots] at X118 l118 y118 z118 st118 hQ118
  subst l118 y118 z118
  obtain ⟨rfl, M118, e118⟩ := hQ118
  have N118 := Fr.app N109 M118
  have g119 : Go p e below T118 (mkF m 48 #[rv a1, rv s1, iv (0 : Int32), iv (2 : Int32), .val .null, rv r110] [(.int (0 : Int32)), (.ref a1)]) A0 := fun t kont => g117 t (st118 t kont)
  have y120 : Exa Z T109.heap a1 "java/lang/String" := (E2_.keep K109)
  have y121 : Fld Z T109.heap a1 "java/lang/String" "coder" "B" (.int (0 : Int32)) := (F1_.keep K109 nin0)
  obtain ⟨T122, h122, X122, e122, W122, st122⟩ := putFN X118 hx hZ hown (hw _ (List.mem_of_getElem? (i := 26) rfl)) Via.refl e118 y121 y120 (Or.inr ⟨(hw _ (List.mem_of_getElem? (i := 27) rfl)), rfl, hnm⟩) (hw _ (List.mem_of_getElem? (i := 2) rfl)) (ty := .byte) (v := (.int (0 : Int32))) (v' := (.int (0 : Int32))) (by decide) (own_nw_byte (by decide : nar .byte (0 : Int32) = (0 : Int32))) (own_ft_byte (by decide : nar .byte (0 : Int32) = (0 : Int32))) (g := (mkF m 48 #[rv a1, rv s1, iv (0 : Int32), iv (2 : Int32), .val .null, rv r110] [(.int (0 : Int32)), (.ref a1)])) rfl rfl (hb hby d2_48)
  have O123 := O115.wr W122 G3_
  have y124 : Fld Z h122 a1 "java/lang/String" "coder" "B" (.int (0 : Int32)) := y121.same W122
  have N122 := Fr.snoc X122 N118 G3_
  have g125 : Go p e below T122 (mkF m 51 #[rv a1, rv s1, iv (0 : Int32), iv (2 : Int32), .val .null, rv r110] []) A0 := fun t kont => g119 t (st122 t kont)
  have g126 : Go p e below T122 (mkF m 54 #[rv a1, rv s1, iv (0 : Int32), iv (2 : Int32), .val .null, rv r110] [(.ref r110), (.ref a1)]) A0 := by
    intro t kont
    refine g125 t ?_
    refine XS.aloadN X122.here hx rfl (hb hby d2_51) rfl rfl ?_
    show Steps p.tables e below (T122.setTop (mkF m 52 #[rv a1, rv s1, iv (0 : Int32), iv (2 : Int32), .val .null, rv r110] [(.ref a1)])) _
    refine XS.aload X122.here hx rfl (hb hby d2_52) rfl rfl ?_
    show Steps p.tables e below (T122.setTop (mkF m 54 #[rv a1, rv s1, iv (0 : Int32), iv (2 : Int32), .val .null, rv r110] [(.ref r110), (.ref a1)])) _
    exact kont
  have y127 : Exa Z h122 a1 "java/lang/String" := (y120.wr W122)
  have y128 : Fld Z h122 a1 "java/lang/String" "value" "[B" .null := ((F0_.keep K109 nin0).other W122 (Or.inr (slot_ne (Or.inr (hw _ (List.mem_of_getElem? (i := 29) rfl))) (Or.inr (hw _ (List.mem_of_getElem? (i := 27) rfl))) (by decide) (t := (.array .byte)) (t' := .byte) (by decide) (by decide))))
  obtain ⟨T129, h129, X129, e129, W129, st129⟩ := putF X122 hx hZ hown (host := "") (Or.inl (hw _ (List.mem_of_getElem? (i := 28) rfl))) Via.refl e122 y128 y127 (Or.inr ⟨(hw _ (List.mem_of_getElem? (i := 29) rfl)), rfl, hnm⟩) (hw _ (List.mem_of_getElem? (i := 2) rfl)) (ty := (.array .byte)) (by decide) rfl rfl (g := (mkF m 54 #[rv a1, rv s1, iv (0 : Int32), iv (2 : Int32), .val .null, rv r110] [(.ref r110), (.ref a1)])) rfl rfl (hb hby d2_54)
  have O130 := O123.wr W129 G3_
  have y131 : Fld Z h129 a1 "java/lang/String" "value" "[B" (.ref r110) := y128.same W129
  have N129 := Fr.snoc X129 N122 G3_
  have g132 : Go p e below T129 (mkF m 57 #[rv a1, rv s1, iv (0 : Int32), iv (2 : Int32), .val .null, rv r110] []) A0 := fun t kont => g126 t (st129 t kont)
  have K133 : Keep h0 h129 [a1] := ((((Keep.refl h0 [a1]).trans K109 (fun x hx => nomatch hx)).wr W122 (Or.inl (List.mem_of_getElem? (i := 0) rfl))).wr W129 (Or.inl (List.mem_of_getElem? (i := 0) rfl)))
  have y134 : Exa Z h129 a1 "java/lang/String" := (y127.wr W129)
  have y135 : Fld Z h129 a1 "java/lang/String" "coder" "B" (.int (0 : Int32)) := (y124.other W129 (Or.inr (slot_ne (Or.inr (hw _ (List.mem_of_getElem? (i := 27) rfl))) (Or.inr (hw _ (List.mem_of_getElem? (i := 29) rfl))) (by decide) (t := .byte) (t' := (.array .byte)) (by decide) (by decide))))
  have y136 : Arv Z h129 r110 r111 .byte (2 : Int32) [(.int (c0_.toInt8.toInt32)), (.int (c1_.toInt8.toInt32))] (.int (0 : Int32)) := ((y114.other W122 (Ne.symm (Nat.ne_of_lt (Nat.lt_of_lt_of_le F0_.lt y112)))).other W129 (Ne.symm (Nat.ne_of_lt (Nat.lt_of_lt_of_le F0_.lt y112))))
  obtain ⟨fs, hr, hrun, hended, hW, hsame⟩ := X129.leave (v := none) (fun _ => rfl)
  refine ⟨_, _, g132 _ (X129.returnOut hx Bd.returns (hb hby d2_57) hr), hrun, hended, _, _, rfl, ?_, ⟨_, rfl⟩, hW, hsame.mono (by decide) (by decide)⟩
  show Q_sin2 Z a1 s1 ks c0_ c1_ cs h0 n0 _ T129.heap _
  rw [e129]
  exact ⟨r110, r111, rfl, N129, K133, y134, y135, y131, y112, y136⟩
theorem d1_0 : decode jdk_42_method_3_code 0 = .ok (.aload_n 0, 1) := by decide +kernel
theorem d1_1 : decode jdk_42_method_3_code 1 = .ok (.aload_n 1, 1) := by decide +kernel
theorem d1_2 : decode jdk_42_method_3_code 2 = .ok (.iconst 0, 1) := by decide +kernel
theorem d1_3 : decode jdk_42_method_3_code 3 = .ok (.aload_n 1, 1) := by decide +kernel
theorem d1_4 : decode jdk_42_method_3_code 4 = .ok (.arraylength, 1) := by decide +kernel
theorem d1_5 : decode jdk_42_method_3_code 5 = .ok (.aconst_null, 1) := by decide +kernel
theorem d1_6 : decode jdk_42_method_3_code 6 = .ok (.invokespecial 27, 3) := by decide +kernel
theorem pd_6 : parseMethodDescriptor "([CIILjava/lang/Void;)V" = some ⟨[(.array .char), .int, .int, (.object "java/lang/Void")], none⟩ := by decide +kernel
theorem d1_9 : decode jdk_42_method_3_code 9 = .ok (.return_, 1) := by decide +kernel
theorem ef_sIni2 (m : MethodId) (x0 : Addr) (x1 : Addr)  : entryFrame m #[(.ref x0), (.ref x1)] 2 = mkF m 0 #[.val (.ref x0), .val (.ref x1)] [] := by first | (simp [entryFrame, mkF, argsToLocals, Value.category]; done) | rfl
def Q_sIni2 (Z : State) (a1 : Addr) (s1 : Addr) (ks : ClassId) (c0_ : Int32) (c1_ : Int32) (cs : Int32) (h0 : Heap) (n0 : Nat) (v : Option Value) (h : Heap) (L : List Loc) : Prop := ∃ (r : Addr), ∃ (kid : ClassId), v = none ∧ Fr n0 L ∧ Keep h0 h [a1] ∧ (Exa Z h a1 "java/lang/String") ∧ (Fld Z h a1 "java/lang/String" "coder" "B" (.int (0 : Int32))) ∧ (Fld Z h a1 "java/lang/String" "value" "[B" (.ref r)) ∧ h0.size ≤ r ∧ (Arv Z h r kid .byte (2 : Int32) [(.int (c0_.toInt8.toInt32)), (.int (c1_.toInt8.toInt32))] (.int (0 : Int32)))
set_option maxRecDepth 65536 in
set_option maxHeartbeats 40000000 in
theorem rm_sIni2 (l : Launch) (Z : State) (a0 : Array Value) (hw : ∀ d ∈ tables_1, d.before a0 Z = true) (ws : List Jvm.Cond) (a1 : Addr) (s1 : Addr) (ks : ClassId) (c0_ : Int32) (c1_ : Int32) (cs : Int32) (h0 : Heap) (n0 : Nat) (O0 : Old Z n0 h0) (F0_ : Fld Z h0 a1 "java/lang/String" "value" "[B" .null) (F1_ : Fld Z h0 a1 "java/lang/String" "coder" "B" (.int (0 : Int32))) (E2_ : Exa Z h0 a1 "java/lang/String") (G3_ : n0 ≤ a1) (A4_ : Arv Z h0 s1 ks .char (2 : Int32) [(.int c0_), (.int c1_)] (.int (0 : Int32))) (hc0 : ¬ ((255 : Int32) < c0_)) (hc1 : ¬ ((255 : Int32) < c1_)) (S7_ : Sta Z Z.heap "java/lang/String" "COMPACT_STRINGS" "Z" (.int cs)) (hcs : ¬ (cs = (0 : Int32))) :
    MetFree l (⟨"java/lang/String", "<init>", "([C)V"⟩ : MethodName) (head1 (Jvm.Cond.code (⟨"java/lang/String", "<init>", "([C)V"⟩ : MethodName) jdk_42_method_3_code 2 none :: ws) ({ frames := 3, cells := 1, slots := 2, locals := 52 } : Room)) (fun a U => a = #[(.ref a1), (.ref s1)] ∧ Z.Warmed39 U.vm ∧ U.heap = h0) (fun _ _ _ _ _ => True) (fun _ U o U' => ∃ v L, o = .returned v ∧ Q_sIni2 Z a1 s1 ks c0_ c1_ cs h0 n0 v U'.heap L ∧ FrameEnd U o U' L ({ frames := 3, cells := 1, slots := 2, locals := 52 } : Room).cells ({ frames := 3, cells := 1, slots := 2, locals := 52 } : Room).slots) := by
  refine MetFree.of_bodySF (plainFor_of_name pn_java_lang_String) hisR ?_
  intro p e s m args below meth c s₁ Bd hml0 hP hK
  obtain ⟨rfl, hZ, hh⟩ := hP
  have hx := Bd.exec
  have hby := Bd.bytes
  have hml : c.maxLocals = 2 := hml0
  have hown : s.vm.findClass "java/lang/String" = some m.cls := findClass_of_methodNamed Bd.named
  have hnm := (name_of_methodNamed Bd.named Bd.method).1
  have X0 : Stand p l e ({ frames := 3, cells := 1, slots := 2, locals := 52 } : Room) s m #[(.ref a1), (.ref s1)] below meth c s₁ [] 0 0 := Stand.of_body Bd
  have e0 : s₁.heap = h0 := by rw [← hh, Bd.state]; rfl
  have N0 := Fr.nil n0
  have g0 : Go p e below s₁ (mkF m 0 #[rv a1, rv s1] []) (s₁.setTop (entryFrame m #[(.ref a1), (.ref s1)] 2)) := fun t kont => castTop (ef_sIni2 m a1 s1 ) kont
  generalize s₁.setTop (entryFrame m #[(.ref a1), (.ref s1)] 2) = A0 at g0 ⊢
  have g101 : Go p e below s₁ (mkF m 4 #[rv a1, rv s1] [(.ref s1), (.int (0 : Int32)), (.ref s1), (.ref a1)]) A0 := by
    intro t kont
    refine g0 t ?_
    refine XS.aloadN X0.here hx rfl (hb hby d1_0) rfl rfl ?_
    show Steps p.tables e below (s₁.setTop (mkF m 1 #[rv a1, rv s1] [(.ref a1)])) _
    refine XS.aloadN X0.here hx rfl (hb hby d1_1) rfl rfl ?_
    show Steps p.tables e below (s₁.setTop (mkF m 2 #[rv a1, rv s1] [(.ref s1), (.ref a1)])) _
    refine XS.iconst X0.here hx rfl (hb hby d1_2) ?_
    show Steps p.tables e below (s₁.setTop (mkF m 3 #[rv a1, rv s1] [(.int (0 : Int32)), (.ref s1), (.ref a1)])) _
    refine XS.aloadN X0.here hx rfl (hb hby d1_3) rfl rfl ?_
    show Steps p.tables e below (s₁.setTop (mkF m 4 #[rv a1, rv s1] [(.ref s1), (.int (0 : Int32)), (.ref s1), (.ref a1)])) _
    exact kont
  have zz102 := A4_
  obtain ⟨cl102, Ar102, -, S102, M102, -, -⟩ := zz102
  have g103 : Go p e below s₁ (mkF m 5 #[rv a1, rv s1] [(.int (2 : Int32)), (.int (0 : Int32)), (.ref s1), (.ref a1)]) A0 := by
    intro t kont
    refine g101 t ?_
    refine X0.arraylength hx (by rw [e0]; exact Ar102.1) (State.isArrayOf_alike hZ.alike Ar102.2.1) (g := (mkF m 4 #[rv a1, rv s1] [(.ref s1), (.int (0 : Int32)), (.ref s1), (.ref a1)])) rfl rfl (hb hby d1_4) _ ?_
    rw [len_of S102 M102]
    exact kont
  have g104 : Go p e below s₁ (mkF m 6 #[rv a1, rv s1] [.null, (.int (2 : Int32)), (.int (0 : Int32)), (.ref s1), (.ref a1)]) A0 := by
    intro t kont
    refine g103 t ?_
    refine XS.aconstNull X0.here hx rfl (hb hby d1_5) ?_
    show Steps p.tables e below (s₁.setTop (mkF m 6 #[rv a1, rv s1] [.null, (.int (2 : Int32)), (.int (0 : Int32)), (.ref s1), (.ref a1)])) _
    exact kont
  obtain ⟨_, _, ⟨T105, L105, k105, n105⟩, -, X105, ⟨Lc105, hQ105, l105, y105, z105⟩, st105⟩ := X0.specialBack hx (y := (⟨"java/lang/String", "<init>", "([CIILjava/lang/Void;)V"⟩ : MethodName)) rfl hown (mvT hZ (hw _ (List.mem_of_getElem? (i := 7) rfl))) (mvT hZ (hw _ (List.mem_of_getElem? (i := 8) rfl))) (mvT hZ (hw _ (List.mem_of_getElem? (i := 10) rfl))) (by decide) (backOf (W := 0) (rm_sin2 l Z a0 hw [] a1 s1 ks c0_ c1_ cs h0 n0 O0 F0_ F1_ E2_ G3_ A4_ hc0 hc1 S7_ hcs) hZ (hw _ (List.mem_of_getElem? (i := 10) rfl)) (hw _ (List.mem_of_getElem? (i := 3) rfl)) (by decide) (by decide)) (g := (mkF m 6 #[rv a1, rv s1] [.null, (.int (2 : Int32)), (.int (0 : Int32)), (.ref s1), (.ref a1)])) rfl (by rw [hml]; rfl) (Steps.refl _) (a := a1) (argsL := [(.ref s1), (.int (0 : Int32)), (.int (2 : Int32)), .null]) (rest := []) (lenOf pd_6 rfl) rfl (by show 2 * 0 + _ ≤ _; exact Nat.le_of_eq rfl) (hb hby d1_6) (fun _ _ => ⟨rfl, e0, (by decide : 0 + 1 ≤ _), (by decide : 0 + 2 ≤ _)⟩)
  dsimp only [Pt.U, Pt.locs, Pt.cells, Pt.slots] at X105 l105 y105 z105 st105 hQ105
  subst l105 y105 z105
  obtain ⟨r106, r107, rfl, M105, K105, y108, y109, y110, y111, y112⟩ := hQ105
  have N105 := Fr.app N0 M105
  have O113 := O0.keep K105 (allS G3_ all0)
  have g114 : Go p e below T105 (mkF m 9 #[rv a1, rv s1] []) A0 := fun t kont => g104 t (st105.trans kont)
  have K115 : Keep h0 T105.heap [a1] := ((Keep.refl h0 [a1]).trans K105 (allS (P := fun x => x ∈ [a1] ∨ h0.size ≤ x) (Or.inl (List.mem_of_getElem? (i := 0) rfl)) all0))
  obtain ⟨fs, hr, hrun, hended, hW, hsame⟩ := X105.leave (v := none) (fun _ => rfl)
  refine ⟨_, _, g114 _ (X105.returnOut hx Bd.returns (hb hby d1_9) hr), hrun, hended, _, _, rfl, ?_, ⟨_, rfl⟩, hW, hsame.mono (by decide) (by decide)⟩
  show Q_sIni2 Z a1 s1 ks c0_ c1_ cs h0 n0 _ T105.heap _
  exact ⟨r106, r107, rfl, N105, K115, y108, y109, y110, y111, y112⟩
theorem d11_0 : decode prog_13_method_1_code 0 = .ok (.aload_n 0, 1) := by decide +kernel
theorem d11_1 : decode prog_13_method_1_code 1 = .ok (.invokespecial 1, 3) := by decide +kernel
theorem d11_4 : decode prog_13_method_1_code 4 = .ok (.aload_n 0, 1) := by decide +kernel
theorem d11_5 : decode prog_13_method_1_code 5 = .ok (.aload_n 1, 1) := by decide +kernel
theorem d11_6 : decode prog_13_method_1_code 6 = .ok (.putfield 7, 3) := by decide +kernel
theorem d11_9 : decode prog_13_method_1_code 9 = .ok (.aload_n 0, 1) := by decide +kernel
theorem d11_10 : decode prog_13_method_1_code 10 = .ok (.iload_n 2, 1) := by decide +kernel
theorem d11_11 : decode prog_13_method_1_code 11 = .ok (.putfield 13, 3) := by decide +kernel
theorem d11_14 : decode prog_13_method_1_code 14 = .ok (.return_, 1) := by decide +kernel
theorem pn_com_example_subsume_subsume_engine_Individual : plainName "com/example/subsume/subsume/engine/Individual" = true := by first | (simp [plainName, overriddenIn]; done) | decide +kernel
theorem ef_indI (m : MethodId) (x0 : Addr) (x1 : Value) (x2 : Int32) (h1 : x1.isRef = true) : entryFrame m #[(.ref x0), x1, (.int x2)] 3 = mkF m 0 #[.val (.ref x0), .val x1, .val (.int x2)] [] := by (rcases ref_cases h1 with rfl | ⟨_, rfl⟩) <;> first | (simp [entryFrame, mkF, argsToLocals, Value.category]; done) | rfl
def Q_indI (Z : State) (a1 : Addr) (v1 : Value) (i1 : Int32) (h0 : Heap) (n0 : Nat) (v : Option Value) (h : Heap) (L : List Loc) : Prop := v = none ∧ Fr n0 L ∧ Keep h0 h [a1] ∧ (Exa Z h a1 "com/example/subsume/subsume/engine/Individual")
set_option maxRecDepth 65536 in
set_option maxHeartbeats 40000000 in
theorem rm_indI (l : Launch) (Z : State) (a0 : Array Value) (hw : ∀ d ∈ tables_1, d.before a0 Z = true) (ws : List Jvm.Cond) (a1 : Addr) (v1 : Value) (i1 : Int32) (h0 : Heap) (n0 : Nat) (O0 : Old Z n0 h0) (hv1 : v1.isRef = true) (F1_ : Fld Z h0 a1 "com/example/subsume/subsume/engine/Individual" "name" "Ljava/lang/String;" .null) (F2_ : Fld Z h0 a1 "com/example/subsume/subsume/engine/Individual" "id" "I" (.int (0 : Int32))) (E3_ : Exa Z h0 a1 "com/example/subsume/subsume/engine/Individual") (G4_ : n0 ≤ a1) :
    MetFree l (⟨"com/example/subsume/subsume/engine/Individual", "<init>", "(Ljava/lang/String;I)V"⟩ : MethodName) (head1 (Jvm.Cond.code (⟨"com/example/subsume/subsume/engine/Individual", "<init>", "(Ljava/lang/String;I)V"⟩ : MethodName) prog_13_method_1_code 3 none :: ws) ({ frames := 1, cells := 0, slots := 0, locals := 12 } : Room)) (fun a U => a = #[(.ref a1), v1, (.int i1)] ∧ Z.Warmed39 U.vm ∧ U.heap = h0) (fun _ _ _ _ _ => True) (fun _ U o U' => ∃ v L, o = .returned v ∧ Q_indI Z a1 v1 i1 h0 n0 v U'.heap L ∧ FrameEnd U o U' L ({ frames := 1, cells := 0, slots := 0, locals := 12 } : Room).cells ({ frames := 1, cells := 0, slots := 0, locals := 12 } : Room).slots) := by
  refine MetFree.of_bodySF (plainFor_of_name pn_com_example_subsume_subsume_engine_Individual) hisR ?_
  intro p e s m args below meth c s₁ Bd hml0 hP hK
  obtain ⟨rfl, hZ, hh⟩ := hP
  have hx := Bd.exec
  have hby := Bd.bytes
  have hml : c.maxLocals = 3 := hml0
  have hown : s.vm.findClass "com/example/subsume/subsume/engine/Individual" = some m.cls := findClass_of_methodNamed Bd.named
  have hnm := (name_of_methodNamed Bd.named Bd.method).1
  have X0 : Stand p l e ({ frames := 1, cells := 0, slots := 0, locals := 12 } : Room) s m #[(.ref a1), v1, (.int i1)] below meth c s₁ [] 0 0 := Stand.of_body Bd
  have e0 : s₁.heap = h0 := by rw [← hh, Bd.state]; rfl
  have N0 := Fr.nil n0
  have g0 : Go p e below s₁ (mkF m 0 #[rv a1, .val v1, iv i1] []) (s₁.setTop (entryFrame m #[(.ref a1), v1, (.int i1)] 3)) := fun t kont => castTop (ef_indI m a1 v1 i1 (hv1)) kont
  generalize s₁.setTop (entryFrame m #[(.ref a1), v1, (.int i1)] 3) = A0 at g0 ⊢
  have g101 : Go p e below s₁ (mkF m 1 #[rv a1, .val v1, iv i1] [(.ref a1)]) A0 := by
    intro t kont
    refine g0 t ?_
    refine XS.aloadN X0.here hx rfl (hb hby d11_0) rfl rfl ?_
    show Steps p.tables e below (s₁.setTop (mkF m 1 #[rv a1, .val v1, iv i1] [(.ref a1)])) _
    exact kont
  obtain ⟨T102, X102, e102, st102⟩ := initO X0 hx hZ hown (hw _ (List.mem_of_getElem? (i := 50) rfl)) (hw _ (List.mem_of_getElem? (i := 12) rfl)) (hw _ (List.mem_of_getElem? (i := 13) rfl)) e0 (g := (mkF m 1 #[rv a1, .val v1, iv i1] [(.ref a1)])) rfl (by rw [hml]; rfl) rfl (hb hby d11_1) (by decide) (W := 0) (by show 2 * 0 + _ ≤ _; exact Nat.le_of_eq rfl) (by decide)
  have g103 : Go p e below T102 (mkF m 4 #[rv a1, .val v1, iv i1] []) A0 := fun t kont => g101 t (st102 t kont)
  have g104 : Go p e below T102 (mkF m 6 #[rv a1, .val v1, iv i1] [v1, (.ref a1)]) A0 := by
    intro t kont
    refine g103 t ?_
    refine XS.aloadN X102.here hx rfl (hb hby d11_4) rfl rfl ?_
    show Steps p.tables e below (T102.setTop (mkF m 5 #[rv a1, .val v1, iv i1] [(.ref a1)])) _
    refine XS.aloadN X102.here hx rfl (hb hby d11_5) rfl (hv1) ?_
    show Steps p.tables e below (T102.setTop (mkF m 6 #[rv a1, .val v1, iv i1] [v1, (.ref a1)])) _
    exact kont
  obtain ⟨T105, h105, X105, e105, W105, st105⟩ := putF X102 hx hZ hown (host := "") (Or.inl (hw _ (List.mem_of_getElem? (i := 51) rfl))) Via.refl e102 F1_ E3_ (Or.inr ⟨(hw _ (List.mem_of_getElem? (i := 52) rfl)), rfl, hnm⟩) (hw _ (List.mem_of_getElem? (i := 45) rfl)) (ty := (.object "java/lang/String")) (by decide) (own_retA _ (hv1) _ rfl) (own_fitA _ (hv1) _ rfl) (g := (mkF m 6 #[rv a1, .val v1, iv i1] [v1, (.ref a1)])) rfl rfl (hb hby d11_6)
  have O106 := O0.wr W105 G4_
  have y107 : Fld Z h105 a1 "com/example/subsume/subsume/engine/Individual" "name" "Ljava/lang/String;" v1 := F1_.same W105
  have N105 := Fr.snoc X105 N0 G4_
  have g108 : Go p e below T105 (mkF m 9 #[rv a1, .val v1, iv i1] []) A0 := fun t kont => g104 t (st105 t kont)
  have g109 : Go p e below T105 (mkF m 11 #[rv a1, .val v1, iv i1] [(.int i1), (.ref a1)]) A0 := by
    intro t kont
    refine g108 t ?_
    refine XS.aloadN X105.here hx rfl (hb hby d11_9) rfl rfl ?_
    show Steps p.tables e below (T105.setTop (mkF m 10 #[rv a1, .val v1, iv i1] [(.ref a1)])) _
    refine XS.iloadN X105.here hx rfl (hb hby d11_10) rfl ?_
    show Steps p.tables e below (T105.setTop (mkF m 11 #[rv a1, .val v1, iv i1] [(.int i1), (.ref a1)])) _
    exact kont
  have y110 : Exa Z h105 a1 "com/example/subsume/subsume/engine/Individual" := (E3_.wr W105)
  have y111 : Fld Z h105 a1 "com/example/subsume/subsume/engine/Individual" "id" "I" (.int (0 : Int32)) := (F2_.other W105 (Or.inr (slot_ne (Or.inr (hw _ (List.mem_of_getElem? (i := 54) rfl))) (Or.inr (hw _ (List.mem_of_getElem? (i := 52) rfl))) (by decide) (t := .int) (t' := (.object "java/lang/String")) (by decide) (by decide))))
  obtain ⟨T112, h112, X112, e112, W112, st112⟩ := putF X105 hx hZ hown (host := "") (Or.inl (hw _ (List.mem_of_getElem? (i := 53) rfl))) Via.refl e105 y111 y110 (Or.inr ⟨(hw _ (List.mem_of_getElem? (i := 54) rfl)), rfl, hnm⟩) (hw _ (List.mem_of_getElem? (i := 45) rfl)) (ty := .int) (by decide) rfl rfl (g := (mkF m 11 #[rv a1, .val v1, iv i1] [(.int i1), (.ref a1)])) rfl rfl (hb hby d11_11)
  have O113 := O106.wr W112 G4_
  have y114 : Fld Z h112 a1 "com/example/subsume/subsume/engine/Individual" "id" "I" (.int i1) := y111.same W112
  have N112 := Fr.snoc X112 N105 G4_
  have g115 : Go p e below T112 (mkF m 14 #[rv a1, .val v1, iv i1] []) A0 := fun t kont => g109 t (st112 t kont)
  have K116 : Keep h0 h112 [a1] := (((Keep.refl h0 [a1]).wr W105 (Or.inl (List.mem_of_getElem? (i := 0) rfl))).wr W112 (Or.inl (List.mem_of_getElem? (i := 0) rfl)))
  have y117 : Exa Z h112 a1 "com/example/subsume/subsume/engine/Individual" := (y110.wr W112)
  obtain ⟨fs, hr, hrun, hended, hW, hsame⟩ := X112.leave (v := none) (fun _ => rfl)
  refine ⟨_, _, g115 _ (X112.returnOut hx Bd.returns (hb hby d11_14) hr), hrun, hended, _, _, rfl, ?_, ⟨_, rfl⟩, hW, hsame.mono (by decide) (by decide)⟩
  show Q_indI Z a1 v1 i1 h0 n0 _ T112.heap _
  rw [e112]
  exact ⟨rfl, N112, K116, y117⟩
theorem d13_0 : decode jdk_30_method_1_code 0 = .ok (.aload_n 0, 1) := by decide +kernel
theorem d13_1 : decode jdk_30_method_1_code 1 = .ok (.invokespecial 1, 3) := by decide +kernel
theorem d13_4 : decode jdk_30_method_1_code 4 = .ok (.return_, 1) := by decide +kernel
theorem pn_java_lang_Record : plainName "java/lang/Record" = true := by first | (simp [plainName, overriddenIn]; done) | decide +kernel
theorem ef_rec (m : MethodId) (x0 : Addr)  : entryFrame m #[(.ref x0)] 1 = mkF m 0 #[.val (.ref x0)] [] := by first | (simp [entryFrame, mkF, argsToLocals, Value.category]; done) | rfl
def Q_rec (Z : State) (a1 : Addr) (h0 : Heap) (n0 : Nat) (v : Option Value) (h : Heap) (L : List Loc) : Prop := v = none ∧ Fr n0 L ∧ h = h0
set_option maxRecDepth 65536 in
set_option maxHeartbeats 40000000 in
theorem rm_rec (l : Launch) (Z : State) (a0 : Array Value) (hw : ∀ d ∈ tables_1, d.before a0 Z = true) (ws : List Jvm.Cond) (a1 : Addr) (h0 : Heap) (n0 : Nat) (O0 : Old Z n0 h0)  :
    MetFree l (⟨"java/lang/Record", "<init>", "()V"⟩ : MethodName) (head1 (Jvm.Cond.code (⟨"java/lang/Record", "<init>", "()V"⟩ : MethodName) jdk_30_method_1_code 1 none :: ws) ({ frames := 1, cells := 0, slots := 0, locals := 12 } : Room)) (fun a U => a = #[(.ref a1)] ∧ Z.Warmed39 U.vm ∧ U.heap = h0) (fun _ _ _ _ _ => True) (fun _ U o U' => ∃ v L, o = .returned v ∧ Q_rec Z a1 h0 n0 v U'.heap L ∧ FrameEnd U o U' L ({ frames := 1, cells := 0, slots := 0, locals := 12 } : Room).cells ({ frames := 1, cells := 0, slots := 0, locals := 12 } : Room).slots) := by
  refine MetFree.of_bodySF (plainFor_of_name pn_java_lang_Record) hisR ?_
  intro p e s m args below meth c s₁ Bd hml0 hP hK
  obtain ⟨rfl, hZ, hh⟩ := hP
  have hx := Bd.exec
  have hby := Bd.bytes
  have hml : c.maxLocals = 1 := hml0
  have hown : s.vm.findClass "java/lang/Record" = some m.cls := findClass_of_methodNamed Bd.named
  have hnm := (name_of_methodNamed Bd.named Bd.method).1
  have X0 : Stand p l e ({ frames := 1, cells := 0, slots := 0, locals := 12 } : Room) s m #[(.ref a1)] below meth c s₁ [] 0 0 := Stand.of_body Bd
  have e0 : s₁.heap = h0 := by rw [← hh, Bd.state]; rfl
  have N0 := Fr.nil n0
  have g0 : Go p e below s₁ (mkF m 0 #[rv a1] []) (s₁.setTop (entryFrame m #[(.ref a1)] 1)) := fun t kont => castTop (ef_rec m a1 ) kont
  generalize s₁.setTop (entryFrame m #[(.ref a1)] 1) = A0 at g0 ⊢
  have g101 : Go p e below s₁ (mkF m 1 #[rv a1] [(.ref a1)]) A0 := by
    intro t kont
    refine g0 t ?_
    refine XS.aloadN X0.here hx rfl (hb hby d13_0) rfl rfl ?_
    show Steps p.tables e below (s₁.setTop (mkF m 1 #[rv a1] [(.ref a1)])) _
    exact kont
  obtain ⟨T102, X102, e102, st102⟩ := initO X0 hx hZ hown (hw _ (List.mem_of_getElem? (i := 66) rfl)) (hw _ (List.mem_of_getElem? (i := 12) rfl)) (hw _ (List.mem_of_getElem? (i := 13) rfl)) e0 (g := (mkF m 1 #[rv a1] [(.ref a1)])) rfl (by rw [hml]; rfl) rfl (hb hby d13_1) (by decide) (W := 0) (by show 2 * 0 + _ ≤ _; exact Nat.le_of_eq rfl) (by decide)
  have g103 : Go p e below T102 (mkF m 4 #[rv a1] []) A0 := fun t kont => g101 t (st102 t kont)
  obtain ⟨fs, hr, hrun, hended, hW, hsame⟩ := X102.leave (v := none) (fun _ => rfl)
  refine ⟨_, _, g103 _ (X102.returnOut hx Bd.returns (hb hby d13_4) hr), hrun, hended, _, _, rfl, ?_, ⟨_, rfl⟩, hW, hsame.mono (by decide) (by decide)⟩
  show Q_rec Z a1 h0 n0 _ T102.heap _
  rw [e102]
  exact ⟨rfl, N0, rfl⟩
theorem d12_0 : decode prog_14_method_1_code 0 = .ok (.aload_n 0, 1) := by decide +kernel
theorem d12_1 : decode prog_14_method_1_code 1 = .ok (.invokespecial 1, 3) := by decide +kernel
theorem pd_7 : parseMethodDescriptor "()V" = some ⟨[], none⟩ := by decide +kernel
theorem d12_4 : decode prog_14_method_1_code 4 = .ok (.aload_n 0, 1) := by decide +kernel
theorem d12_5 : decode prog_14_method_1_code 5 = .ok (.aload_n 1, 1) := by decide +kernel
theorem d12_6 : decode prog_14_method_1_code 6 = .ok (.putfield 7, 3) := by decide +kernel
theorem d12_9 : decode prog_14_method_1_code 9 = .ok (.aload_n 0, 1) := by decide +kernel
theorem d12_10 : decode prog_14_method_1_code 10 = .ok (.aload_n 2, 1) := by decide +kernel
theorem d12_11 : decode prog_14_method_1_code 11 = .ok (.putfield 13, 3) := by decide +kernel
theorem d12_14 : decode prog_14_method_1_code 14 = .ok (.return_, 1) := by decide +kernel
theorem pn_com_example_subsume_subsume_engine_IndividualEquality : plainName "com/example/subsume/subsume/engine/IndividualEquality" = true := by first | (simp [plainName, overriddenIn]; done) | decide +kernel
theorem ef_relI (m : MethodId) (x0 : Addr) (x1 : Addr) (x2 : Addr)  : entryFrame m #[(.ref x0), (.ref x1), (.ref x2)] 3 = mkF m 0 #[.val (.ref x0), .val (.ref x1), .val (.ref x2)] [] := by first | (simp [entryFrame, mkF, argsToLocals, Value.category]; done) | rfl
def Q_relI (Z : State) (a1 : Addr) (b1 : Addr) (b2 : Addr) (h0 : Heap) (n0 : Nat) (v : Option Value) (h : Heap) (L : List Loc) : Prop := v = none ∧ Fr n0 L ∧ Keep h0 h [a1] ∧ (Exa Z h a1 "com/example/subsume/subsume/engine/IndividualEquality") ∧ (Fld Z h a1 "com/example/subsume/subsume/engine/IndividualEquality" "individual" "Lcom/example/subsume/subsume/engine/Individual;" (.ref b1)) ∧ (Fld Z h a1 "com/example/subsume/subsume/engine/IndividualEquality" "other" "Lcom/example/subsume/subsume/engine/Individual;" (.ref b2))
set_option maxRecDepth 65536 in
set_option maxHeartbeats 40000000 in
theorem rm_relI (l : Launch) (Z : State) (a0 : Array Value) (hw : ∀ d ∈ tables_1, d.before a0 Z = true) (ws : List Jvm.Cond) (a1 : Addr) (b1 : Addr) (b2 : Addr) (h0 : Heap) (n0 : Nat) (O0 : Old Z n0 h0) (F0_ : Fld Z h0 a1 "com/example/subsume/subsume/engine/IndividualEquality" "individual" "Lcom/example/subsume/subsume/engine/Individual;" .null) (F1_ : Fld Z h0 a1 "com/example/subsume/subsume/engine/IndividualEquality" "other" "Lcom/example/subsume/subsume/engine/Individual;" .null) (E2_ : Exa Z h0 a1 "com/example/subsume/subsume/engine/IndividualEquality") (G3_ : n0 ≤ a1) :
    MetFree l (⟨"com/example/subsume/subsume/engine/IndividualEquality", "<init>", "(Lcom/example/subsume/subsume/engine/Individual;Lcom/example/subsume/subsume/engine/Individual;)V"⟩ : MethodName) (head1 (Jvm.Cond.code (⟨"com/example/subsume/subsume/engine/IndividualEquality", "<init>", "(Lcom/example/subsume/subsume/engine/Individual;Lcom/example/subsume/subsume/engine/Individual;)V"⟩ : MethodName) prog_14_method_1_code 3 none :: ws) ({ frames := 2, cells := 0, slots := 0, locals := 24 } : Room)) (fun a U => a = #[(.ref a1), (.ref b1), (.ref b2)] ∧ Z.Warmed39 U.vm ∧ U.heap = h0) (fun _ _ _ _ _ => True) (fun _ U o U' => ∃ v L, o = .returned v ∧ Q_relI Z a1 b1 b2 h0 n0 v U'.heap L ∧ FrameEnd U o U' L ({ frames := 2, cells := 0, slots := 0, locals := 24 } : Room).cells ({ frames := 2, cells := 0, slots := 0, locals := 24 } : Room).slots) := by
  refine MetFree.of_bodySF (plainFor_of_name pn_com_example_subsume_subsume_engine_IndividualEquality) hisR ?_
  intro p e s m args below meth c s₁ Bd hml0 hP hK
  obtain ⟨rfl, hZ, hh⟩ := hP
  have hx := Bd.exec
  have hby := Bd.bytes
  have hml : c.maxLocals = 3 := hml0
  have hown : s.vm.findClass "com/example/subsume/subsume/engine/IndividualEquality" = some m.cls := findClass_of_methodNamed Bd.named
  have hnm := (name_of_methodNamed Bd.named Bd.method).1
  have X0 : Stand p l e ({ frames := 2, cells := 0, slots := 0, locals := 24 } : Room) s m #[(.ref a1), (.ref b1), (.ref b2)] below meth c s₁ [] 0 0 := Stand.of_body Bd
  have e0 : s₁.heap = h0 := by rw [← hh, Bd.state]; rfl
  have N0 := Fr.nil n0
  have g0 : Go p e below s₁ (mkF m 0 #[rv a1, rv b1, rv b2] []) (s₁.setTop (entryFrame m #[(.ref a1), (.ref b1), (.ref b2)] 3)) := fun t kont => castTop (ef_relI m a1 b1 b2 ) kont
  generalize s₁.setTop (entryFrame m #[(.ref a1), (.ref b1), (.ref b2)] 3) = A0 at g0 ⊢
  have g101 : Go p e below s₁ (mkF m 1 #[rv a1, rv b1, rv b2] [(.ref a1)]) A0 := by
    intro t kont
    refine g0 t ?_
    refine XS.aloadN X0.here hx rfl (hb hby d12_0) rfl rfl ?_
    show Steps p.tables e below (s₁.setTop (mkF m 1 #[rv a1, rv b1, rv b2] [(.ref a1)])) _
    exact kont
  obtain ⟨_, _, ⟨T102, L102, k102, n102⟩, -, X102, ⟨Lc102, hQ102, l102, y102, z102⟩, st102⟩ := X0.specialBack hx (y := (⟨"java/lang/Record", "<init>", "()V"⟩ : MethodName)) rfl hown (mvT hZ (hw _ (List.mem_of_getElem? (i := 61) rfl))) (mvT hZ (hw _ (List.mem_of_getElem? (i := 62) rfl))) (mvT hZ (hw _ (List.mem_of_getElem? (i := 65) rfl))) (by decide) (backOf (W := 0) (rm_rec l Z a0 hw [] a1 h0 n0 O0 ) hZ (hw _ (List.mem_of_getElem? (i := 65) rfl)) (hw _ (List.mem_of_getElem? (i := 64) rfl)) (by decide) (by decide)) (g := (mkF m 1 #[rv a1, rv b1, rv b2] [(.ref a1)])) rfl (by rw [hml]; rfl) (Steps.refl _) (a := a1) (argsL := []) (rest := []) (lenOf pd_7 rfl) rfl (by show 2 * 0 + _ ≤ _; exact Nat.le_of_eq rfl) (hb hby d12_1) (fun _ _ => ⟨rfl, e0, (by decide : 0 + 0 ≤ _), (by decide : 0 + 0 ≤ _)⟩)
  dsimp only [Pt.U, Pt.locs, Pt.cells, Pt.slots] at X102 l102 y102 z102 st102 hQ102
  subst l102 y102 z102
  obtain ⟨rfl, M102, e102⟩ := hQ102
  have N102 := Fr.app N0 M102
  have g103 : Go p e below T102 (mkF m 4 #[rv a1, rv b1, rv b2] []) A0 := fun t kont => g101 t (st102.trans kont)
  have g104 : Go p e below T102 (mkF m 6 #[rv a1, rv b1, rv b2] [(.ref b1), (.ref a1)]) A0 := by
    intro t kont
    refine g103 t ?_
    refine XS.aloadN X102.here hx rfl (hb hby d12_4) rfl rfl ?_
    show Steps p.tables e below (T102.setTop (mkF m 5 #[rv a1, rv b1, rv b2] [(.ref a1)])) _
    refine XS.aloadN X102.here hx rfl (hb hby d12_5) rfl rfl ?_
    show Steps p.tables e below (T102.setTop (mkF m 6 #[rv a1, rv b1, rv b2] [(.ref b1), (.ref a1)])) _
    exact kont
  obtain ⟨T105, h105, X105, e105, W105, st105⟩ := putF X102 hx hZ hown (host := "") (Or.inl (hw _ (List.mem_of_getElem? (i := 67) rfl))) Via.refl e102 F0_ E2_ (Or.inr ⟨(hw _ (List.mem_of_getElem? (i := 68) rfl)), rfl, hnm⟩) (hw _ (List.mem_of_getElem? (i := 56) rfl)) (ty := (.object "com/example/subsume/subsume/engine/Individual")) (by decide) rfl rfl (g := (mkF m 6 #[rv a1, rv b1, rv b2] [(.ref b1), (.ref a1)])) rfl rfl (hb hby d12_6)
  have O106 := O0.wr W105 G3_
  have y107 : Fld Z h105 a1 "com/example/subsume/subsume/engine/IndividualEquality" "individual" "Lcom/example/subsume/subsume/engine/Individual;" (.ref b1) := F0_.same W105
  have N105 := Fr.snoc X105 N102 G3_
  have g108 : Go p e below T105 (mkF m 9 #[rv a1, rv b1, rv b2] []) A0 := fun t kont => g104 t (st105 t kont)
  have g109 : Go p e below T105 (mkF m 11 #[rv a1, rv b1, rv b2] [(.ref b2), (.ref a1)]) A0 := by
    intro t kont
    refine g108 t ?_
    refine XS.aloadN X105.here hx rfl (hb hby d12_9) rfl rfl ?_
    show Steps p.tables e below (T105.setTop (mkF m 10 #[rv a1, rv b1, rv b2] [(.ref a1)])) _
    refine XS.aloadN X105.here hx rfl (hb hby d12_10) rfl rfl ?_
    show Steps p.tables e below (T105.setTop (mkF m 11 #[rv a1, rv b1, rv b2] [(.ref b2), (.ref a1)])) _
    exact kont
  have y110 : Exa Z h105 a1 "com/example/subsume/subsume/engine/IndividualEquality" := (E2_.wr W105)
  have y111 : Fld Z h105 a1 "com/example/subsume/subsume/engine/IndividualEquality" "other" "Lcom/example/subsume/subsume/engine/Individual;" .null := (F1_.other W105 (Or.inr (slot_ne (Or.inr (hw _ (List.mem_of_getElem? (i := 70) rfl))) (Or.inr (hw _ (List.mem_of_getElem? (i := 68) rfl))) (by decide) (t := (.object "com/example/subsume/subsume/engine/Individual")) (t' := (.object "com/example/subsume/subsume/engine/Individual")) (by decide) (by decide))))
  obtain ⟨T112, h112, X112, e112, W112, st112⟩ := putF X105 hx hZ hown (host := "") (Or.inl (hw _ (List.mem_of_getElem? (i := 69) rfl))) Via.refl e105 y111 y110 (Or.inr ⟨(hw _ (List.mem_of_getElem? (i := 70) rfl)), rfl, hnm⟩) (hw _ (List.mem_of_getElem? (i := 56) rfl)) (ty := (.object "com/example/subsume/subsume/engine/Individual")) (by decide) rfl rfl (g := (mkF m 11 #[rv a1, rv b1, rv b2] [(.ref b2), (.ref a1)])) rfl rfl (hb hby d12_11)
  have O113 := O106.wr W112 G3_
  have y114 : Fld Z h112 a1 "com/example/subsume/subsume/engine/IndividualEquality" "other" "Lcom/example/subsume/subsume/engine/Individual;" (.ref b2) := y111.same W112
  have N112 := Fr.snoc X112 N105 G3_
  have g115 : Go p e below T112 (mkF m 14 #[rv a1, rv b1, rv b2] []) A0 := fun t kont => g109 t (st112 t kont)
  have K116 : Keep h0 h112 [a1] := (((Keep.refl h0 [a1]).wr W105 (Or.inl (List.mem_of_getElem? (i := 0) rfl))).wr W112 (Or.inl (List.mem_of_getElem? (i := 0) rfl)))
  have y117 : Exa Z h112 a1 "com/example/subsume/subsume/engine/IndividualEquality" := (y110.wr W112)
  have y118 : Fld Z h112 a1 "com/example/subsume/subsume/engine/IndividualEquality" "individual" "Lcom/example/subsume/subsume/engine/Individual;" (.ref b1) := (y107.other W112 (Or.inr (slot_ne (Or.inr (hw _ (List.mem_of_getElem? (i := 68) rfl))) (Or.inr (hw _ (List.mem_of_getElem? (i := 70) rfl))) (by decide) (t := (.object "com/example/subsume/subsume/engine/Individual")) (t' := (.object "com/example/subsume/subsume/engine/Individual")) (by decide) (by decide))))
  obtain ⟨fs, hr, hrun, hended, hW, hsame⟩ := X112.leave (v := none) (fun _ => rfl)
  refine ⟨_, _, g115 _ (X112.returnOut hx Bd.returns (hb hby d12_14) hr), hrun, hended, _, _, rfl, ?_, ⟨_, rfl⟩, hW, hsame.mono (by decide) (by decide)⟩
  show Q_relI Z a1 b1 b2 h0 n0 _ T112.heap _
  rw [e112]
  exact ⟨rfl, N112, K116, y117, y118, y114⟩
theorem d20_0 : decode jdk_31_method_10_code 0 = .ok (.aload_n 0, 1) := by decide +kernel
theorem d20_1 : decode jdk_31_method_10_code 1 = .ok (.ifnonnull 11, 3) := by decide +kernel
theorem d20_12 : decode jdk_31_method_10_code 12 = .ok (.aload_n 0, 1) := by decide +kernel
theorem d20_13 : decode jdk_31_method_10_code 13 = .ok (.areturn, 1) := by decide +kernel
theorem pn_java_util_Objects : plainName "java/util/Objects" = true := by first | (simp [plainName, overriddenIn]; done) | decide +kernel
theorem ef_rnn (m : MethodId) (x0 : Addr)  : entryFrame m #[(.ref x0)] 1 = mkF m 0 #[.val (.ref x0)] [] := by first | (simp [entryFrame, mkF, argsToLocals, Value.category]; done) | rfl
def Q_rnn (Z : State) (a1 : Addr) (h0 : Heap) (n0 : Nat) (v : Option Value) (h : Heap) (L : List Loc) : Prop := v = some (.ref a1) ∧ Fr n0 L ∧ h = h0
set_option maxRecDepth 65536 in
set_option maxHeartbeats 40000000 in
theorem rm_rnn (l : Launch) (Z : State) (a0 : Array Value) (hw : ∀ d ∈ tables_1, d.before a0 Z = true) (ws : List Jvm.Cond) (a1 : Addr) (h0 : Heap) (n0 : Nat) (O0 : Old Z n0 h0)  :
    MetFree l (⟨"java/util/Objects", "requireNonNull", "(Ljava/lang/Object;)Ljava/lang/Object;"⟩ : MethodName) (head1 (Jvm.Cond.code (⟨"java/util/Objects", "requireNonNull", "(Ljava/lang/Object;)Ljava/lang/Object;"⟩ : MethodName) jdk_31_method_10_code 1 (some (.object "java/lang/Object")) :: ws) ({ frames := 0, cells := 0, slots := 0, locals := 0 } : Room)) (fun a U => a = #[(.ref a1)] ∧ Z.Warmed39 U.vm ∧ U.heap = h0) (fun _ _ _ _ _ => True) (fun _ U o U' => ∃ v L, o = .returned v ∧ Q_rnn Z a1 h0 n0 v U'.heap L ∧ FrameEnd U o U' L ({ frames := 0, cells := 0, slots := 0, locals := 0 } : Room).cells ({ frames := 0, cells := 0, slots := 0, locals := 0 } : Room).slots) := by
  refine MetFree.of_bodySF (plainFor_of_name pn_java_util_Objects) hisR ?_
  intro p e s m args below meth c s₁ Bd hml0 hP hK
  obtain ⟨rfl, hZ, hh⟩ := hP
  have hx := Bd.exec
  have hby := Bd.bytes
  have hml : c.maxLocals = 1 := hml0
  have hown : s.vm.findClass "java/util/Objects" = some m.cls := findClass_of_methodNamed Bd.named
  have hnm := (name_of_methodNamed Bd.named Bd.method).1
  have X0 : Stand p l e ({ frames := 0, cells := 0, slots := 0, locals := 0 } : Room) s m #[(.ref a1)] below meth c s₁ [] 0 0 := Stand.of_body Bd
  have e0 : s₁.heap = h0 := by rw [← hh, Bd.state]; rfl
  have N0 := Fr.nil n0
  have g0 : Go p e below s₁ (mkF m 0 #[rv a1] []) (s₁.setTop (entryFrame m #[(.ref a1)] 1)) := fun t kont => castTop (ef_rnn m a1 ) kont
  generalize s₁.setTop (entryFrame m #[(.ref a1)] 1) = A0 at g0 ⊢
  have g101 : Go p e below s₁ (mkF m 13 #[rv a1] [(.ref a1)]) A0 := by
    intro t kont
    refine g0 t ?_
    refine XS.aloadN X0.here hx rfl (hb hby d20_0) rfl rfl ?_
    show Steps p.tables e below (s₁.setTop (mkF m 1 #[rv a1] [(.ref a1)])) _
    refine XS.ifnonnullYes X0.here hx rfl (pc0 := 1) (pc' := 12) rfl (hb hby d20_1) rfl (by decide) (by decide) ?_
    show Steps p.tables e below (s₁.setTop (mkF m 12 #[rv a1] [])) _
    refine XS.aloadN X0.here hx rfl (hb hby d20_12) rfl rfl ?_
    show Steps p.tables e below (s₁.setTop (mkF m 13 #[rv a1] [(.ref a1)])) _
    exact kont
  obtain ⟨fs, hr, hrun, hended, hW, hsame⟩ := X0.leave (v := some (.ref a1)) (fun h => by rw [Bd.returns] at h; cases h)
  refine ⟨_, _, g101 _ (retOut X0 hx Bd.returns rfl (Or.inr (Or.inr (Or.inr (Or.inr ⟨rfl, rfl, rfl⟩)))) (hb hby d20_13) hr), hrun, hended, _, _, rfl, ?_, ⟨_, rfl⟩, hW, hsame.mono (by decide) (by decide)⟩
  show Q_rnn Z a1 h0 n0 _ s₁.heap _
  rw [e0]
  exact ⟨rfl, N0, rfl⟩
theorem d19_0 : decode jdk_22_method_1_code 0 = .ok (.aload_n 0, 1) := by decide +kernel
theorem d19_1 : decode jdk_22_method_1_code 1 = .ok (.invokespecial 1, 3) := by decide +kernel
theorem d19_4 : decode jdk_22_method_1_code 4 = .ok (.return_, 1) := by decide +kernel
theorem pn_java_util_AbstractCollection : plainName "java/util/AbstractCollection" = true := by first | (simp [plainName, overriddenIn]; done) | decide +kernel
theorem ef_ini0 (m : MethodId) (x0 : Addr)  : entryFrame m #[(.ref x0)] 1 = mkF m 0 #[.val (.ref x0)] [] := by first | (simp [entryFrame, mkF, argsToLocals, Value.category]; done) | rfl
def Q_ini0 (Z : State) (a1 : Addr) (h0 : Heap) (n0 : Nat) (v : Option Value) (h : Heap) (L : List Loc) : Prop := v = none ∧ Fr n0 L ∧ h = h0
set_option maxRecDepth 65536 in
set_option maxHeartbeats 40000000 in
theorem rm_ini0 (l : Launch) (Z : State) (a0 : Array Value) (hw : ∀ d ∈ tables_1, d.before a0 Z = true) (ws : List Jvm.Cond) (a1 : Addr) (h0 : Heap) (n0 : Nat) (O0 : Old Z n0 h0)  :
    MetFree l (⟨"java/util/AbstractCollection", "<init>", "()V"⟩ : MethodName) (head1 (Jvm.Cond.code (⟨"java/util/AbstractCollection", "<init>", "()V"⟩ : MethodName) jdk_22_method_1_code 1 none :: ws) ({ frames := 1, cells := 0, slots := 0, locals := 12 } : Room)) (fun a U => a = #[(.ref a1)] ∧ Z.Warmed39 U.vm ∧ U.heap = h0) (fun _ _ _ _ _ => True) (fun _ U o U' => ∃ v L, o = .returned v ∧ Q_ini0 Z a1 h0 n0 v U'.heap L ∧ FrameEnd U o U' L ({ frames := 1, cells := 0, slots := 0, locals := 12 } : Room).cells ({ frames := 1, cells := 0, slots := 0, locals := 12 } : Room).slots) := by
  refine MetFree.of_bodySF (plainFor_of_name pn_java_util_AbstractCollection) hisR ?_
  intro p e s m args below meth c s₁ Bd hml0 hP hK
  obtain ⟨rfl, hZ, hh⟩ := hP
  have hx := Bd.exec
  have hby := Bd.bytes
  have hml : c.maxLocals = 1 := hml0
  have hown : s.vm.findClass "java/util/AbstractCollection" = some m.cls := findClass_of_methodNamed Bd.named
  have hnm := (name_of_methodNamed Bd.named Bd.method).1
  have X0 : Stand p l e ({ frames := 1, cells := 0, slots := 0, locals := 12 } : Room) s m #[(.ref a1)] below meth c s₁ [] 0 0 := Stand.of_body Bd
  have e0 : s₁.heap = h0 := by rw [← hh, Bd.state]; rfl
  have N0 := Fr.nil n0
  have g0 : Go p e below s₁ (mkF m 0 #[rv a1] []) (s₁.setTop (entryFrame m #[(.ref a1)] 1)) := fun t kont => castTop (ef_ini0 m a1 ) kont
  generalize s₁.setTop (entryFrame m #[(.ref a1)] 1) = A0 at g0 ⊢
  have g101 : Go p e below s₁ (mkF m 1 #[rv a1] [(.ref a1)]) A0 := by
    intro t kont
    refine g0 t ?_
    refine XS.aloadN X0.here hx rfl (hb hby d19_0) rfl rfl ?_
    show Steps p.tables e below (s₁.setTop (mkF m 1 #[rv a1] [(.ref a1)])) _
    exact kont
  obtain ⟨T102, X102, e102, st102⟩ := initO X0 hx hZ hown (hw _ (List.mem_of_getElem? (i := 105) rfl)) (hw _ (List.mem_of_getElem? (i := 12) rfl)) (hw _ (List.mem_of_getElem? (i := 13) rfl)) e0 (g := (mkF m 1 #[rv a1] [(.ref a1)])) rfl (by rw [hml]; rfl) rfl (hb hby d19_1) (by decide) (W := 0) (by show 2 * 0 + _ ≤ _; exact Nat.le_of_eq rfl) (by decide)
  have g103 : Go p e below T102 (mkF m 4 #[rv a1] []) A0 := fun t kont => g101 t (st102 t kont)
  obtain ⟨fs, hr, hrun, hended, hW, hsame⟩ := X102.leave (v := none) (fun _ => rfl)
  refine ⟨_, _, g103 _ (X102.returnOut hx Bd.returns (hb hby d19_4) hr), hrun, hended, _, _, rfl, ?_, ⟨_, rfl⟩, hW, hsame.mono (by decide) (by decide)⟩
  show Q_ini0 Z a1 h0 n0 _ T102.heap _
  rw [e102]
  exact ⟨rfl, N0, rfl⟩
theorem d18_0 : decode jdk_47_method_1_code 0 = .ok (.aload_n 0, 1) := by decide +kernel
theorem d18_1 : decode jdk_47_method_1_code 1 = .ok (.invokespecial 1, 3) := by decide +kernel
theorem d18_4 : decode jdk_47_method_1_code 4 = .ok (.return_, 1) := by decide +kernel
theorem pn_java_util_ImmutableCollections_AbstractImmutableCollection : plainName "java/util/ImmutableCollections$AbstractImmutableCollection" = true := by first | (simp [plainName, overriddenIn]; done) | decide +kernel
theorem ef_ini1 (m : MethodId) (x0 : Addr)  : entryFrame m #[(.ref x0)] 1 = mkF m 0 #[.val (.ref x0)] [] := by first | (simp [entryFrame, mkF, argsToLocals, Value.category]; done) | rfl
def Q_ini1 (Z : State) (a1 : Addr) (h0 : Heap) (n0 : Nat) (v : Option Value) (h : Heap) (L : List Loc) : Prop := v = none ∧ Fr n0 L ∧ h = h0
set_option maxRecDepth 65536 in
set_option maxHeartbeats 40000000 in
theorem rm_ini1 (l : Launch) (Z : State) (a0 : Array Value) (hw : ∀ d ∈ tables_1, d.before a0 Z = true) (ws : List Jvm.Cond) (a1 : Addr) (h0 : Heap) (n0 : Nat) (O0 : Old Z n0 h0)  :
    MetFree l (⟨"java/util/ImmutableCollections$AbstractImmutableCollection", "<init>", "()V"⟩ : MethodName) (head1 (Jvm.Cond.code (⟨"java/util/ImmutableCollections$AbstractImmutableCollection", "<init>", "()V"⟩ : MethodName) jdk_47_method_1_code 1 none :: ws) ({ frames := 2, cells := 0, slots := 0, locals := 24 } : Room)) (fun a U => a = #[(.ref a1)] ∧ Z.Warmed39 U.vm ∧ U.heap = h0) (fun _ _ _ _ _ => True) (fun _ U o U' => ∃ v L, o = .returned v ∧ Q_ini1 Z a1 h0 n0 v U'.heap L ∧ FrameEnd U o U' L ({ frames := 2, cells := 0, slots := 0, locals := 24 } : Room).cells ({ frames := 2, cells := 0, slots := 0, locals := 24 } : Room).slots) := by
  refine MetFree.of_bodySF (plainFor_of_name pn_java_util_ImmutableCollections_AbstractImmutableCollection) hisR ?_
  intro p e s m args below meth c s₁ Bd hml0 hP hK
  obtain ⟨rfl, hZ, hh⟩ := hP
  have hx := Bd.exec
  have hby := Bd.bytes
  have hml : c.maxLocals = 1 := hml0
  have hown : s.vm.findClass "java/util/ImmutableCollections$AbstractImmutableCollection" = some m.cls := findClass_of_methodNamed Bd.named
  have hnm := (name_of_methodNamed Bd.named Bd.method).1
  have X0 : Stand p l e ({ frames := 2, cells := 0, slots := 0, locals := 24 } : Room) s m #[(.ref a1)] below meth c s₁ [] 0 0 := Stand.of_body Bd
  have e0 : s₁.heap = h0 := by rw [← hh, Bd.state]; rfl
  have N0 := Fr.nil n0
  have g0 : Go p e below s₁ (mkF m 0 #[rv a1] []) (s₁.setTop (entryFrame m #[(.ref a1)] 1)) := fun t kont => castTop (ef_ini1 m a1 ) kont
  generalize s₁.setTop (entryFrame m #[(.ref a1)] 1) = A0 at g0 ⊢
  have g101 : Go p e below s₁ (mkF m 1 #[rv a1] [(.ref a1)]) A0 := by
    intro t kont
    refine g0 t ?_
    refine XS.aloadN X0.here hx rfl (hb hby d18_0) rfl rfl ?_
    show Steps p.tables e below (s₁.setTop (mkF m 1 #[rv a1] [(.ref a1)])) _
    exact kont
  obtain ⟨_, _, ⟨T102, L102, k102, n102⟩, -, X102, ⟨Lc102, hQ102, l102, y102, z102⟩, st102⟩ := X0.specialBack hx (y := (⟨"java/util/AbstractCollection", "<init>", "()V"⟩ : MethodName)) rfl hown (mvT hZ (hw _ (List.mem_of_getElem? (i := 99) rfl))) (mvT hZ (hw _ (List.mem_of_getElem? (i := 100) rfl))) (mvT hZ (hw _ (List.mem_of_getElem? (i := 104) rfl))) (by decide) (backOf (W := 0) (rm_ini0 l Z a0 hw [] a1 h0 n0 O0 ) hZ (hw _ (List.mem_of_getElem? (i := 104) rfl)) (hw _ (List.mem_of_getElem? (i := 103) rfl)) (by decide) (by decide)) (g := (mkF m 1 #[rv a1] [(.ref a1)])) rfl (by rw [hml]; rfl) (Steps.refl _) (a := a1) (argsL := []) (rest := []) (lenOf pd_7 rfl) rfl (by show 2 * 0 + _ ≤ _; exact Nat.le_of_eq rfl) (hb hby d18_1) (fun _ _ => ⟨rfl, e0, (by decide : 0 + 0 ≤ _), (by decide : 0 + 0 ≤ _)⟩)
  dsimp only [Pt.U, Pt.locs, Pt.cells, Pt.slots] at X102 l102 y102 z102 st102 hQ102
  subst l102 y102 z102
  obtain ⟨rfl, M102, e102⟩ := hQ102
  have N102 := Fr.app N0 M102
  have g103 : Go p e below T102 (mkF m 4 #[rv a1] []) A0 := fun t kont => g101 t (st102.trans kont)
  obtain ⟨fs, hr, hrun, hended, hW, hsame⟩ := X102.leave (v := none) (fun _ => rfl)
  refine ⟨_, _, g103 _ (X102.returnOut hx Bd.returns (hb hby d18_4) hr), hrun, hended, _, _, rfl, ?_, ⟨_, rfl⟩, hW, hsame.mono (by decide) (by decide)⟩
  show Q_ini1 Z a1 h0 n0 _ T102.heap _
  rw [e102]
  exact ⟨rfl, N102, rfl⟩
theorem d17_0 : decode jdk_46_method_1_code 0 = .ok (.aload_n 0, 1) := by decide +kernel
theorem d17_1 : decode jdk_46_method_1_code 1 = .ok (.invokespecial 1, 3) := by decide +kernel
theorem d17_4 : decode jdk_46_method_1_code 4 = .ok (.return_, 1) := by decide +kernel
theorem pn_java_util_ImmutableCollections_AbstractImmutableList : plainName "java/util/ImmutableCollections$AbstractImmutableList" = true := by first | (simp [plainName, overriddenIn]; done) | decide +kernel
theorem ef_ini2 (m : MethodId) (x0 : Addr)  : entryFrame m #[(.ref x0)] 1 = mkF m 0 #[.val (.ref x0)] [] := by first | (simp [entryFrame, mkF, argsToLocals, Value.category]; done) | rfl
def Q_ini2 (Z : State) (a1 : Addr) (h0 : Heap) (n0 : Nat) (v : Option Value) (h : Heap) (L : List Loc) : Prop := v = none ∧ Fr n0 L ∧ h = h0
set_option maxRecDepth 65536 in
set_option maxHeartbeats 40000000 in
theorem rm_ini2 (l : Launch) (Z : State) (a0 : Array Value) (hw : ∀ d ∈ tables_1, d.before a0 Z = true) (ws : List Jvm.Cond) (a1 : Addr) (h0 : Heap) (n0 : Nat) (O0 : Old Z n0 h0)  :
    MetFree l (⟨"java/util/ImmutableCollections$AbstractImmutableList", "<init>", "()V"⟩ : MethodName) (head1 (Jvm.Cond.code (⟨"java/util/ImmutableCollections$AbstractImmutableList", "<init>", "()V"⟩ : MethodName) jdk_46_method_1_code 1 none :: ws) ({ frames := 3, cells := 0, slots := 0, locals := 36 } : Room)) (fun a U => a = #[(.ref a1)] ∧ Z.Warmed39 U.vm ∧ U.heap = h0) (fun _ _ _ _ _ => True) (fun _ U o U' => ∃ v L, o = .returned v ∧ Q_ini2 Z a1 h0 n0 v U'.heap L ∧ FrameEnd U o U' L ({ frames := 3, cells := 0, slots := 0, locals := 36 } : Room).cells ({ frames := 3, cells := 0, slots := 0, locals := 36 } : Room).slots) := by
  refine MetFree.of_bodySF (plainFor_of_name pn_java_util_ImmutableCollections_AbstractImmutableList) hisR ?_
  intro p e s m args below meth c s₁ Bd hml0 hP hK
  obtain ⟨rfl, hZ, hh⟩ := hP
  have hx := Bd.exec
  have hby := Bd.bytes
  have hml : c.maxLocals = 1 := hml0
  have hown : s.vm.findClass "java/util/ImmutableCollections$AbstractImmutableList" = some m.cls := findClass_of_methodNamed Bd.named
  have hnm := (name_of_methodNamed Bd.named Bd.method).1
  have X0 : Stand p l e ({ frames := 3, cells := 0, slots := 0, locals := 36 } : Room) s m #[(.ref a1)] below meth c s₁ [] 0 0 := Stand.of_body Bd
  have e0 : s₁.heap = h0 := by rw [← hh, Bd.state]; rfl
  have N0 := Fr.nil n0
  have g0 : Go p e below s₁ (mkF m 0 #[rv a1] []) (s₁.setTop (entryFrame m #[(.ref a1)] 1)) := fun t kont => castTop (ef_ini2 m a1 ) kont
  generalize s₁.setTop (entryFrame m #[(.ref a1)] 1) = A0 at g0 ⊢
  have g101 : Go p e below s₁ (mkF m 1 #[rv a1] [(.ref a1)]) A0 := by
    intro t kont
    refine g0 t ?_
    refine XS.aloadN X0.here hx rfl (hb hby d17_0) rfl rfl ?_
    show Steps p.tables e below (s₁.setTop (mkF m 1 #[rv a1] [(.ref a1)])) _
    exact kont
  obtain ⟨_, _, ⟨T102, L102, k102, n102⟩, -, X102, ⟨Lc102, hQ102, l102, y102, z102⟩, st102⟩ := X0.specialBack hx (y := (⟨"java/util/ImmutableCollections$AbstractImmutableCollection", "<init>", "()V"⟩ : MethodName)) rfl hown (mvT hZ (hw _ (List.mem_of_getElem? (i := 93) rfl))) (mvT hZ (hw _ (List.mem_of_getElem? (i := 94) rfl))) (mvT hZ (hw _ (List.mem_of_getElem? (i := 98) rfl))) (by decide) (backOf (W := 0) (rm_ini1 l Z a0 hw [] a1 h0 n0 O0 ) hZ (hw _ (List.mem_of_getElem? (i := 98) rfl)) (hw _ (List.mem_of_getElem? (i := 97) rfl)) (by decide) (by decide)) (g := (mkF m 1 #[rv a1] [(.ref a1)])) rfl (by rw [hml]; rfl) (Steps.refl _) (a := a1) (argsL := []) (rest := []) (lenOf pd_7 rfl) rfl (by show 2 * 0 + _ ≤ _; exact Nat.le_of_eq rfl) (hb hby d17_1) (fun _ _ => ⟨rfl, e0, (by decide : 0 + 0 ≤ _), (by decide : 0 + 0 ≤ _)⟩)
  dsimp only [Pt.U, Pt.locs, Pt.cells, Pt.slots] at X102 l102 y102 z102 st102 hQ102
  subst l102 y102 z102
  obtain ⟨rfl, M102, e102⟩ := hQ102
  have N102 := Fr.app N0 M102
  have g103 : Go p e below T102 (mkF m 4 #[rv a1] []) A0 := fun t kont => g101 t (st102.trans kont)
  obtain ⟨fs, hr, hrun, hended, hW, hsame⟩ := X102.leave (v := none) (fun _ => rfl)
  refine ⟨_, _, g103 _ (X102.returnOut hx Bd.returns (hb hby d17_4) hr), hrun, hended, _, _, rfl, ?_, ⟨_, rfl⟩, hW, hsame.mono (by decide) (by decide)⟩
  show Q_ini2 Z a1 h0 n0 _ T102.heap _
  rw [e102]
  exact ⟨rfl, N102, rfl⟩
theorem d16_0 : decode jdk_44_method_2_code 0 = .ok (.aload_n 0, 1) := by decide +kernel
theorem d16_1 : decode jdk_44_method_2_code 1 = .ok (.invokespecial 1, 3) := by decide +kernel
theorem d16_4 : decode jdk_44_method_2_code 4 = .ok (.aload_n 0, 1) := by decide +kernel
theorem d16_5 : decode jdk_44_method_2_code 5 = .ok (.aload_n 1, 1) := by decide +kernel
theorem d16_6 : decode jdk_44_method_2_code 6 = .ok (.invokestatic 7, 3) := by decide +kernel
theorem pd_8 : parseMethodDescriptor "(Ljava/lang/Object;)Ljava/lang/Object;" = some ⟨[(.object "java/lang/Object")], some (.object "java/lang/Object")⟩ := by decide +kernel
theorem d16_9 : decode jdk_44_method_2_code 9 = .ok (.putfield 13, 3) := by decide +kernel
theorem d16_12 : decode jdk_44_method_2_code 12 = .ok (.aload_n 0, 1) := by decide +kernel
theorem d16_13 : decode jdk_44_method_2_code 13 = .ok (.aload_n 2, 1) := by decide +kernel
theorem d16_14 : decode jdk_44_method_2_code 14 = .ok (.invokestatic 7, 3) := by decide +kernel
theorem d16_17 : decode jdk_44_method_2_code 17 = .ok (.putfield 24, 3) := by decide +kernel
theorem d16_20 : decode jdk_44_method_2_code 20 = .ok (.return_, 1) := by decide +kernel
theorem pn_java_util_ImmutableCollections_List12 : plainName "java/util/ImmutableCollections$List12" = true := by first | (simp [plainName, overriddenIn]; done) | decide +kernel
theorem ef_l12I (m : MethodId) (x0 : Addr) (x1 : Addr) (x2 : Addr)  : entryFrame m #[(.ref x0), (.ref x1), (.ref x2)] 3 = mkF m 0 #[.val (.ref x0), .val (.ref x1), .val (.ref x2)] [] := by first | (simp [entryFrame, mkF, argsToLocals, Value.category]; done) | rfl
def Q_l12I (Z : State) (a1 : Addr) (b1 : Addr) (b2 : Addr) (h0 : Heap) (n0 : Nat) (v : Option Value) (h : Heap) (L : List Loc) : Prop := v = none ∧ Fr n0 L ∧ Keep h0 h [a1] ∧ (Exa Z h a1 "java/util/ImmutableCollections$List12") ∧ (Fld Z h a1 "java/util/ImmutableCollections$List12" "e0" "Ljava/lang/Object;" (.ref b1)) ∧ (Fld Z h a1 "java/util/ImmutableCollections$List12" "e1" "Ljava/lang/Object;" (.ref b2))
set_option maxRecDepth 65536 in
set_option maxHeartbeats 40000000 in
theorem rm_l12I (l : Launch) (Z : State) (a0 : Array Value) (hw : ∀ d ∈ tables_1, d.before a0 Z = true) (ws : List Jvm.Cond) (a1 : Addr) (b1 : Addr) (b2 : Addr) (h0 : Heap) (n0 : Nat) (O0 : Old Z n0 h0) (F0_ : Fld Z h0 a1 "java/util/ImmutableCollections$List12" "e0" "Ljava/lang/Object;" .null) (F1_ : Fld Z h0 a1 "java/util/ImmutableCollections$List12" "e1" "Ljava/lang/Object;" .null) (E2_ : Exa Z h0 a1 "java/util/ImmutableCollections$List12") (G3_ : n0 ≤ a1) :
    MetFree l (⟨"java/util/ImmutableCollections$List12", "<init>", "(Ljava/lang/Object;Ljava/lang/Object;)V"⟩ : MethodName) (head1 (Jvm.Cond.code (⟨"java/util/ImmutableCollections$List12", "<init>", "(Ljava/lang/Object;Ljava/lang/Object;)V"⟩ : MethodName) jdk_44_method_2_code 3 none :: ws) ({ frames := 4, cells := 0, slots := 0, locals := 48 } : Room)) (fun a U => a = #[(.ref a1), (.ref b1), (.ref b2)] ∧ Z.Warmed39 U.vm ∧ U.heap = h0) (fun _ _ _ _ _ => True) (fun _ U o U' => ∃ v L, o = .returned v ∧ Q_l12I Z a1 b1 b2 h0 n0 v U'.heap L ∧ FrameEnd U o U' L ({ frames := 4, cells := 0, slots := 0, locals := 48 } : Room).cells ({ frames := 4, cells := 0, slots := 0, locals := 48 } : Room).slots) := by
  refine MetFree.of_bodySF (plainFor_of_name pn_java_util_ImmutableCollections_List12) hisR ?_
  intro p e s m args below meth c s₁ Bd hml0 hP hK
  obtain ⟨rfl, hZ, hh⟩ := hP
  have hx := Bd.exec
  have hby := Bd.bytes
  have hml : c.maxLocals = 3 := hml0
  have hown : s.vm.findClass "java/util/ImmutableCollections$List12" = some m.cls := findClass_of_methodNamed Bd.named
  have hnm := (name_of_methodNamed Bd.named Bd.method).1
  have X0 : Stand p l e ({ frames := 4, cells := 0, slots := 0, locals := 48 } : Room) s m #[(.ref a1), (.ref b1), (.ref b2)] below meth c s₁ [] 0 0 := Stand.of_body Bd
  have e0 : s₁.heap = h0 := by rw [← hh, Bd.state]; rfl
  have N0 := Fr.nil n0
  have g0 : Go p e below s₁ (mkF m 0 #[rv a1, rv b1, rv b2] []) (s₁.setTop (entryFrame m #[(.ref a1), (.ref b1), (.ref b2)] 3)) := fun t kont => castTop (ef_l12I m a1 b1 b2 ) kont
  generalize s₁.setTop (entryFrame m #[(.ref a1), (.ref b1), (.ref b2)] 3) = A0 at g0 ⊢
  have g101 : Go p e below s₁ (mkF m 1 #[rv a1, rv b1, rv b2] [(.ref a1)]) A0 := by
    intro t kont
    refine g0 t ?_
    refine XS.aloadN X0.here hx rfl (hb hby d16_0) rfl rfl ?_
    show Steps p.tables e below (s₁.setTop (mkF m 1 #[rv a1, rv b1, rv b2] [(.ref a1)])) _
    exact kont
  obtain ⟨_, _, ⟨T102, L102, k102, n102⟩, -, X102, ⟨Lc102, hQ102, l102, y102, z102⟩, st102⟩ := X0.specialBack hx (y := (⟨"java/util/ImmutableCollections$AbstractImmutableList", "<init>", "()V"⟩ : MethodName)) rfl hown (mvT hZ (hw _ (List.mem_of_getElem? (i := 87) rfl))) (mvT hZ (hw _ (List.mem_of_getElem? (i := 88) rfl))) (mvT hZ (hw _ (List.mem_of_getElem? (i := 92) rfl))) (by decide) (backOf (W := 0) (rm_ini2 l Z a0 hw [] a1 h0 n0 O0 ) hZ (hw _ (List.mem_of_getElem? (i := 92) rfl)) (hw _ (List.mem_of_getElem? (i := 91) rfl)) (by decide) (by decide)) (g := (mkF m 1 #[rv a1, rv b1, rv b2] [(.ref a1)])) rfl (by rw [hml]; rfl) (Steps.refl _) (a := a1) (argsL := []) (rest := []) (lenOf pd_7 rfl) rfl (by show 2 * 0 + _ ≤ _; exact Nat.le_of_eq rfl) (hb hby d16_1) (fun _ _ => ⟨rfl, e0, (by decide : 0 + 0 ≤ _), (by decide : 0 + 0 ≤ _)⟩)
  dsimp only [Pt.U, Pt.locs, Pt.cells, Pt.slots] at X102 l102 y102 z102 st102 hQ102
  subst l102 y102 z102
  obtain ⟨rfl, M102, e102⟩ := hQ102
  have N102 := Fr.app N0 M102
  have g103 : Go p e below T102 (mkF m 4 #[rv a1, rv b1, rv b2] []) A0 := fun t kont => g101 t (st102.trans kont)
  have g104 : Go p e below T102 (mkF m 6 #[rv a1, rv b1, rv b2] [(.ref b1), (.ref a1)]) A0 := by
    intro t kont
    refine g103 t ?_
    refine XS.aloadN X102.here hx rfl (hb hby d16_4) rfl rfl ?_
    show Steps p.tables e below (T102.setTop (mkF m 5 #[rv a1, rv b1, rv b2] [(.ref a1)])) _
    refine XS.aloadN X102.here hx rfl (hb hby d16_5) rfl rfl ?_
    show Steps p.tables e below (T102.setTop (mkF m 6 #[rv a1, rv b1, rv b2] [(.ref b1), (.ref a1)])) _
    exact kont
  obtain ⟨_, _, ⟨T105, L105, k105, n105⟩, -, X105, ⟨Lc105, hQ105, l105, y105, z105⟩, st105⟩ := Jvm.LawKit.callS X102 hx (y := (⟨"java/util/Objects", "requireNonNull", "(Ljava/lang/Object;)Ljava/lang/Object;"⟩ : MethodName)) hown (mvT hZ (hw _ (List.mem_of_getElem? (i := 106) rfl))) (mvT hZ (hw _ (List.mem_of_getElem? (i := 107) rfl))) (mvT hZ (hw _ (List.mem_of_getElem? (i := 108) rfl))) (mvT hZ (hw _ (List.mem_of_getElem? (i := 109) rfl))) (by decide) (backOf (W := 1) (rm_rnn l Z a0 hw [] b1 h0 n0 O0 ) hZ (hw _ (List.mem_of_getElem? (i := 109) rfl)) (hw _ (List.mem_of_getElem? (i := 108) rfl)) (by decide) (by decide)) (g := (mkF m 6 #[rv a1, rv b1, rv b2] [(.ref b1), (.ref a1)])) rfl (by rw [hml]; rfl) (argsL := [(.ref b1)]) (rest := [(.ref a1)]) (lenOf pd_8 rfl) rfl (by show 2 * 0 + _ ≤ _; exact Nat.le_of_eq rfl) (hb hby d16_6) (fun _ _ => ⟨rfl, e102, (by decide : 0 + 0 ≤ _), (by decide : 0 + 0 ≤ _)⟩)
  dsimp only [Pt.U, Pt.locs, Pt.cells, Pt.slots] at X105 l105 y105 z105 st105 hQ105
  subst l105 y105 z105
  obtain ⟨rfl, M105, e105⟩ := hQ105
  have N105 := Fr.app N102 M105
  have g106 : Go p e below T105 (mkF m 9 #[rv a1, rv b1, rv b2] [(.ref b1), (.ref a1)]) A0 := fun t kont => g104 t (st105 t kont)
  obtain ⟨T107, h107, X107, e107, W107, st107⟩ := putF X105 hx hZ hown (host := "") (Or.inl (hw _ (List.mem_of_getElem? (i := 110) rfl))) Via.refl e105 F0_ E2_ (Or.inr ⟨(hw _ (List.mem_of_getElem? (i := 111) rfl)), rfl, hnm⟩) (hw _ (List.mem_of_getElem? (i := 81) rfl)) (ty := (.object "java/lang/Object")) (by decide) rfl rfl (g := (mkF m 9 #[rv a1, rv b1, rv b2] [(.ref b1), (.ref a1)])) rfl rfl (hb hby d16_9)
  have O108 := O0.wr W107 G3_
  have y109 : Fld Z h107 a1 "java/util/ImmutableCollections$List12" "e0" "Ljava/lang/Object;" (.ref b1) := F0_.same W107
  have N107 := Fr.snoc X107 N105 G3_
  have g110 : Go p e below T107 (mkF m 12 #[rv a1, rv b1, rv b2] []) A0 := fun t kont => g106 t (st107 t kont)
  have g111 : Go p e below T107 (mkF m 14 #[rv a1, rv b1, rv b2] [(.ref b2), (.ref a1)]) A0 := by
    intro t kont
    refine g110 t ?_
    refine XS.aloadN X107.here hx rfl (hb hby d16_12) rfl rfl ?_
    show Steps p.tables e below (T107.setTop (mkF m 13 #[rv a1, rv b1, rv b2] [(.ref a1)])) _
    refine XS.aloadN X107.here hx rfl (hb hby d16_13) rfl rfl ?_
    show Steps p.tables e below (T107.setTop (mkF m 14 #[rv a1, rv b1, rv b2] [(.ref b2), (.ref a1)])) _
    exact kont
  obtain ⟨_, _, ⟨T112, L112, k112, n112⟩, -, X112, ⟨Lc112, hQ112, l112, y112, z112⟩, st112⟩ := Jvm.LawKit.callS X107 hx (y := (⟨"java/util/Objects", "requireNonNull", "(Ljava/lang/Object;)Ljava/lang/Object;"⟩ : MethodName)) hown (mvT hZ (hw _ (List.mem_of_getElem? (i := 106) rfl))) (mvT hZ (hw _ (List.mem_of_getElem? (i := 107) rfl))) (mvT hZ (hw _ (List.mem_of_getElem? (i := 108) rfl))) (mvT hZ (hw _ (List.mem_of_getElem? (i := 109) rfl))) (by decide) (backOf (W := 1) (rm_rnn l Z a0 hw [] b2 h107 n0 O108 ) hZ (hw _ (List.mem_of_getElem? (i := 109) rfl)) (hw _ (List.mem_of_getElem? (i := 108) rfl)) (by decide) (by decide)) (g := (mkF m 14 #[rv a1, rv b1, rv b2] [(.ref b2), (.ref a1)])) rfl (by rw [hml]; rfl) (argsL := [(.ref b2)]) (rest := [(.ref a1)]) (lenOf pd_8 rfl) rfl (by show 2 * 0 + _ ≤ _; exact Nat.le_of_eq rfl) (hb hby d16_14) (fun _ _ => ⟨rfl, e107, (by decide : 0 + 0 ≤ _), (by decide : 0 + 0 ≤ _)⟩)
  dsimp only [Pt.U, Pt.locs, Pt.cells, Pt.slots] at X112 l112 y112 z112 st112 hQ112
  subst l112 y112 z112
  obtain ⟨rfl, M112, e112⟩ := hQ112
  have N112 := Fr.app N107 M112
  have g113 : Go p e below T112 (mkF m 17 #[rv a1, rv b1, rv b2] [(.ref b2), (.ref a1)]) A0 := fun t kont => g111 t (st112 t kont)
  have y114 : Exa Z h107 a1 "java/util/ImmutableCollections$List12" := (E2_.wr W107)
  have y115 : Fld Z h107 a1 "java/util/ImmutableCollections$List12" "e1" "Ljava/lang/Object;" .null := (F1_.other W107 (Or.inr (slot_ne (Or.inr (hw _ (List.mem_of_getElem? (i := 113) rfl))) (Or.inr (hw _ (List.mem_of_getElem? (i := 111) rfl))) (by decide) (t := (.object "java/lang/Object")) (t' := (.object "java/lang/Object")) (by decide) (by decide))))
  obtain ⟨T116, h116, X116, e116, W116, st116⟩ := putF X112 hx hZ hown (host := "") (Or.inl (hw _ (List.mem_of_getElem? (i := 112) rfl))) Via.refl e112 y115 y114 (Or.inr ⟨(hw _ (List.mem_of_getElem? (i := 113) rfl)), rfl, hnm⟩) (hw _ (List.mem_of_getElem? (i := 81) rfl)) (ty := (.object "java/lang/Object")) (by decide) rfl rfl (g := (mkF m 17 #[rv a1, rv b1, rv b2] [(.ref b2), (.ref a1)])) rfl rfl (hb hby d16_17)
  have O117 := O108.wr W116 G3_
  have y118 : Fld Z h116 a1 "java/util/ImmutableCollections$List12" "e1" "Ljava/lang/Object;" (.ref b2) := y115.same W116
  have N116 := Fr.snoc X116 N112 G3_
  have g119 : Go p e below T116 (mkF m 20 #[rv a1, rv b1, rv b2] []) A0 := fun t kont => g113 t (st116 t kont)
  have K120 : Keep h0 h116 [a1] := (((Keep.refl h0 [a1]).wr W107 (Or.inl (List.mem_of_getElem? (i := 0) rfl))).wr W116 (Or.inl (List.mem_of_getElem? (i := 0) rfl)))
  have y121 : Exa Z h116 a1 "java/util/ImmutableCollections$List12" := (y114.wr W116)
  have y122 : Fld Z h116 a1 "java/util/ImmutableCollections$List12" "e0" "Ljava/lang/Object;" (.ref b1) := (y109.other W116 (Or.inr (slot_ne (Or.inr (hw _ (List.mem_of_getElem? (i := 111) rfl))) (Or.inr (hw _ (List.mem_of_getElem? (i := 113) rfl))) (by decide) (t := (.object "java/lang/Object")) (t' := (.object "java/lang/Object")) (by decide) (by decide))))
  obtain ⟨fs, hr, hrun, hended, hW, hsame⟩ := X116.leave (v := none) (fun _ => rfl)
  refine ⟨_, _, g119 _ (X116.returnOut hx Bd.returns (hb hby d16_20) hr), hrun, hended, _, _, rfl, ?_, ⟨_, rfl⟩, hW, hsame.mono (by decide) (by decide)⟩
  show Q_l12I Z a1 b1 b2 h0 n0 _ T116.heap _
  rw [e116]
  exact ⟨rfl, N116, K120, y121, y122, y118⟩
theorem d15_0 : decode jdk_40_method_38_code 0 = .ok (.new 96, 3) := by decide +kernel
theorem d15_3 : decode jdk_40_method_38_code 3 = .ok (.dup, 1) := by decide +kernel
theorem d15_4 : decode jdk_40_method_38_code 4 = .ok (.aload_n 0, 1) := by decide +kernel
theorem d15_5 : decode jdk_40_method_38_code 5 = .ok (.aload_n 1, 1) := by decide +kernel
theorem d15_6 : decode jdk_40_method_38_code 6 = .ok (.invokespecial 100, 3) := by decide +kernel
theorem pd_9 : parseMethodDescriptor "(Ljava/lang/Object;Ljava/lang/Object;)V" = some ⟨[(.object "java/lang/Object"), (.object "java/lang/Object")], none⟩ := by decide +kernel
theorem d15_9 : decode jdk_40_method_38_code 9 = .ok (.areturn, 1) := by decide +kernel
theorem pn_java_util_List : plainName "java/util/List" = true := by first | (simp [plainName, overriddenIn]; done) | decide +kernel
theorem ef_lof (m : MethodId) (x0 : Addr) (x1 : Addr)  : entryFrame m #[(.ref x0), (.ref x1)] 2 = mkF m 0 #[.val (.ref x0), .val (.ref x1)] [] := by first | (simp [entryFrame, mkF, argsToLocals, Value.category]; done) | rfl
def Q_lof (Z : State) (b1 : Addr) (b2 : Addr) (h0 : Heap) (n0 : Nat) (v : Option Value) (h : Heap) (L : List Loc) : Prop := ∃ (r : Addr), v = some (.ref r) ∧ Fr n0 L ∧ Keep h0 h [] ∧ h0.size ≤ r ∧ (Exa Z h r "java/util/ImmutableCollections$List12") ∧ (Fld Z h r "java/util/ImmutableCollections$List12" "e0" "Ljava/lang/Object;" (.ref b1)) ∧ (Fld Z h r "java/util/ImmutableCollections$List12" "e1" "Ljava/lang/Object;" (.ref b2))
set_option maxRecDepth 65536 in
set_option maxHeartbeats 40000000 in
theorem rm_lof (l : Launch) (Z : State) (a0 : Array Value) (hw : ∀ d ∈ tables_1, d.before a0 Z = true) (ws : List Jvm.Cond) (b1 : Addr) (b2 : Addr) (h0 : Heap) (n0 : Nat) (O0 : Old Z n0 h0)  :
    MetFree l (⟨"java/util/List", "of", "(Ljava/lang/Object;Ljava/lang/Object;)Ljava/util/List;"⟩ : MethodName) (head1 (Jvm.Cond.code (⟨"java/util/List", "of", "(Ljava/lang/Object;Ljava/lang/Object;)Ljava/util/List;"⟩ : MethodName) jdk_40_method_38_code 2 (some (.object "java/util/List")) :: ws) ({ frames := 5, cells := 1, slots := 2, locals := 63 } : Room)) (fun a U => a = #[(.ref b1), (.ref b2)] ∧ Z.Warmed39 U.vm ∧ U.heap = h0) (fun _ _ _ _ _ => True) (fun _ U o U' => ∃ v L, o = .returned v ∧ Q_lof Z b1 b2 h0 n0 v U'.heap L ∧ FrameEnd U o U' L ({ frames := 5, cells := 1, slots := 2, locals := 63 } : Room).cells ({ frames := 5, cells := 1, slots := 2, locals := 63 } : Room).slots) := by
  refine MetFree.of_bodySF (plainFor_of_name pn_java_util_List) hisR ?_
  intro p e s m args below meth c s₁ Bd hml0 hP hK
  obtain ⟨rfl, hZ, hh⟩ := hP
  have hx := Bd.exec
  have hby := Bd.bytes
  have hml : c.maxLocals = 2 := hml0
  have hown : s.vm.findClass "java/util/List" = some m.cls := findClass_of_methodNamed Bd.named
  have hnm := (name_of_methodNamed Bd.named Bd.method).1
  have X0 : Stand p l e ({ frames := 5, cells := 1, slots := 2, locals := 63 } : Room) s m #[(.ref b1), (.ref b2)] below meth c s₁ [] 0 0 := Stand.of_body Bd
  have e0 : s₁.heap = h0 := by rw [← hh, Bd.state]; rfl
  have N0 := Fr.nil n0
  have g0 : Go p e below s₁ (mkF m 0 #[rv b1, rv b2] []) (s₁.setTop (entryFrame m #[(.ref b1), (.ref b2)] 2)) := fun t kont => castTop (ef_lof m b1 b2 ) kont
  generalize s₁.setTop (entryFrame m #[(.ref b1), (.ref b2)] 2) = A0 at g0 ⊢
  obtain ⟨T101, h101, X101, e101, E101, A101, D101, -, st101⟩ := newO X0 hx hZ hown (hw _ (List.mem_of_getElem? (i := 80) rfl)) (hw _ (List.mem_of_getElem? (i := 81) rfl)) (hw _ (List.mem_of_getElem? (i := 82) rfl)) e0 (g := (mkF m 0 #[rv b1, rv b2] [])) rfl (hb hby d15_0) (by decide) (by decide)
  obtain ⟨b101, gb101⟩ : ∃ z, z = h0.size := ⟨_, rfl⟩
  rw [← gb101] at A101 D101 st101
  have O102 := O0.ext E101
  have y103 : Fld Z h101 b101 "java/util/ImmutableCollections$List12" "e0" "Ljava/lang/Object;" .null := D101 (Or.inr (hw _ (List.mem_of_getElem? (i := 111) rfl))) (ty := (.object "java/lang/Object")) (by decide)
  have y104 : Fld Z h101 b101 "java/util/ImmutableCollections$List12" "e1" "Ljava/lang/Object;" .null := D101 (Or.inr (hw _ (List.mem_of_getElem? (i := 113) rfl))) (ty := (.object "java/lang/Object")) (by decide)
  have g105 : Go p e below T101 (mkF m 3 #[rv b1, rv b2] [(.ref b101)]) A0 := fun t kont => g0 t (st101 t kont)
  have g106 : Go p e below T101 (mkF m 6 #[rv b1, rv b2] [(.ref b2), (.ref b1), (.ref b101), (.ref b101)]) A0 := by
    intro t kont
    refine g105 t ?_
    refine XS.dup X101.here hx rfl (hb hby d15_3) rfl rfl ?_
    show Steps p.tables e below (T101.setTop (mkF m 4 #[rv b1, rv b2] [(.ref b101), (.ref b101)])) _
    refine XS.aloadN X101.here hx rfl (hb hby d15_4) rfl rfl ?_
    show Steps p.tables e below (T101.setTop (mkF m 5 #[rv b1, rv b2] [(.ref b1), (.ref b101), (.ref b101)])) _
    refine XS.aloadN X101.here hx rfl (hb hby d15_5) rfl rfl ?_
    show Steps p.tables e below (T101.setTop (mkF m 6 #[rv b1, rv b2] [(.ref b2), (.ref b1), (.ref b101), (.ref b101)])) _
    exact kont
  have ge108 : n0 ≤ b101 := Nat.le_trans (own_old_le O0) (Nat.le_of_eq gb101.symm)
  obtain ⟨_, _, ⟨T107, L107, k107, n107⟩, -, X107, ⟨Lc107, hQ107, l107, y107, z107⟩, st107⟩ := X101.specialBack hx (y := (⟨"java/util/ImmutableCollections$List12", "<init>", "(Ljava/lang/Object;Ljava/lang/Object;)V"⟩ : MethodName)) rfl hown (mvT hZ (hw _ (List.mem_of_getElem? (i := 83) rfl))) (mvT hZ (hw _ (List.mem_of_getElem? (i := 84) rfl))) (mvT hZ (hw _ (List.mem_of_getElem? (i := 86) rfl))) (by decide) (backOf (W := 1) (rm_l12I l Z a0 hw [] b101 b1 b2 h101 n0 O102 y103 y104 A101 ge108) hZ (hw _ (List.mem_of_getElem? (i := 86) rfl)) (hw _ (List.mem_of_getElem? (i := 82) rfl)) (by decide) (by decide)) (g := (mkF m 6 #[rv b1, rv b2] [(.ref b2), (.ref b1), (.ref b101), (.ref b101)])) rfl (by rw [hml]; rfl) (Steps.refl _) (a := b101) (argsL := [(.ref b1), (.ref b2)]) (rest := [(.ref b101)]) (lenOf pd_9 rfl) rfl (by show 2 * 0 + _ ≤ _; exact Nat.le_of_eq rfl) (hb hby d15_6) (fun _ _ => ⟨rfl, e101, (by decide : 1 + 0 ≤ _), (by decide : 2 + 0 ≤ _)⟩)
  dsimp only [Pt.U, Pt.locs, Pt.cells, Pt.slots] at X107 l107 y107 z107 st107 hQ107
  subst l107 y107 z107
  obtain ⟨rfl, M107, K107, y109, y110, y111⟩ := hQ107
  have N107 := Fr.app N0 M107
  have O112 := O102.keep K107 (allS ge108 all0)
  have g113 : Go p e below T107 (mkF m 9 #[rv b1, rv b2] [(.ref b101)]) A0 := fun t kont => g106 t (st107.trans kont)
  have K114 : Keep h0 T107.heap [] := (((Keep.refl h0 []).ext E101).trans K107 (allS (P := fun x => x ∈ [] ∨ h0.size ≤ x) (Or.inr (Nat.le_of_eq gb101.symm)) all0))
  obtain ⟨fs, hr, hrun, hended, hW, hsame⟩ := X107.leave (v := some (.ref b101)) (fun h => by rw [Bd.returns] at h; cases h)
  refine ⟨_, _, g113 _ (retOut X107 hx Bd.returns rfl (Or.inr (Or.inr (Or.inr (Or.inr ⟨rfl, rfl, rfl⟩)))) (hb hby d15_9) hr), hrun, hended, _, _, rfl, ?_, ⟨_, rfl⟩, hW, hsame.mono (by decide) (by decide)⟩
  show Q_lof Z b1 b2 h0 n0 _ T107.heap _
  exact ⟨b101, rfl, N107, K114, (Nat.le_of_eq gb101.symm), y109, y110, y111⟩
theorem d14_0 : decode prog_14_method_2_code 0 = .ok (.aload_n 0, 1) := by decide +kernel
theorem d14_1 : decode prog_14_method_2_code 1 = .ok (.getfield 7, 3) := by decide +kernel
theorem d14_4 : decode prog_14_method_2_code 4 = .ok (.aload_n 0, 1) := by decide +kernel
theorem d14_5 : decode prog_14_method_2_code 5 = .ok (.getfield 13, 3) := by decide +kernel
theorem d14_8 : decode prog_14_method_2_code 8 = .ok (.invokestatic 16, 3) := by decide +kernel
theorem pd_10 : parseMethodDescriptor "(Ljava/lang/Object;Ljava/lang/Object;)Ljava/util/List;" = some ⟨[(.object "java/lang/Object"), (.object "java/lang/Object")], some (.object "java/util/List")⟩ := by decide +kernel
theorem d14_11 : decode prog_14_method_2_code 11 = .ok (.areturn, 1) := by decide +kernel
theorem ef_inds (m : MethodId) (x0 : Addr)  : entryFrame m #[(.ref x0)] 1 = mkF m 0 #[.val (.ref x0)] [] := by first | (simp [entryFrame, mkF, argsToLocals, Value.category]; done) | rfl
def Q_inds (Z : State) (a1 : Addr) (b1 : Addr) (b2 : Addr) (h0 : Heap) (n0 : Nat) (v : Option Value) (h : Heap) (L : List Loc) : Prop := ∃ (r : Addr), v = some (.ref r) ∧ Fr n0 L ∧ Keep h0 h [] ∧ h0.size ≤ r ∧ (Exa Z h r "java/util/ImmutableCollections$List12") ∧ (Fld Z h r "java/util/ImmutableCollections$List12" "e0" "Ljava/lang/Object;" (.ref b1)) ∧ (Fld Z h r "java/util/ImmutableCollections$List12" "e1" "Ljava/lang/Object;" (.ref b2))
set_option maxRecDepth 65536 in
set_option maxHeartbeats 40000000 in
theorem rm_inds (l : Launch) (Z : State) (a0 : Array Value) (hw : ∀ d ∈ tables_1, d.before a0 Z = true) (ws : List Jvm.Cond) (a1 : Addr) (b1 : Addr) (b2 : Addr) (h0 : Heap) (n0 : Nat) (O0 : Old Z n0 h0) (F0_ : Fld Z h0 a1 "com/example/subsume/subsume/engine/IndividualEquality" "individual" "Lcom/example/subsume/subsume/engine/Individual;" (.ref b1)) (F1_ : Fld Z h0 a1 "com/example/subsume/subsume/engine/IndividualEquality" "other" "Lcom/example/subsume/subsume/engine/Individual;" (.ref b2)) :
    MetFree l (⟨"com/example/subsume/subsume/engine/IndividualEquality", "individuals", "()Ljava/util/List;"⟩ : MethodName) (head1 (Jvm.Cond.code (⟨"com/example/subsume/subsume/engine/IndividualEquality", "individuals", "()Ljava/util/List;"⟩ : MethodName) prog_14_method_2_code 1 (some (.object "java/util/List")) :: ws) ({ frames := 6, cells := 1, slots := 2, locals := 76 } : Room)) (fun a U => a = #[(.ref a1)] ∧ Z.Warmed39 U.vm ∧ U.heap = h0) (fun _ _ _ _ _ => True) (fun _ U o U' => ∃ v L, o = .returned v ∧ Q_inds Z a1 b1 b2 h0 n0 v U'.heap L ∧ FrameEnd U o U' L ({ frames := 6, cells := 1, slots := 2, locals := 76 } : Room).cells ({ frames := 6, cells := 1, slots := 2, locals := 76 } : Room).slots) := by
  refine MetFree.of_bodySF (plainFor_of_name pn_com_example_subsume_subsume_engine_IndividualEquality) hisR ?_
  intro p e s m args below meth c s₁ Bd hml0 hP hK
  obtain ⟨rfl, hZ, hh⟩ := hP
  have hx := Bd.exec
  have hby := Bd.bytes
  have hml : c.maxLocals = 1 := hml0
  have hown : s.vm.findClass "com/example/subsume/subsume/engine/IndividualEquality" = some m.cls := findClass_of_methodNamed Bd.named
  have hnm := (name_of_methodNamed Bd.named Bd.method).1
  have X0 : Stand p l e ({ frames := 6, cells := 1, slots := 2, locals := 76 } : Room) s m #[(.ref a1)] below meth c s₁ [] 0 0 := Stand.of_body Bd
  have e0 : s₁.heap = h0 := by rw [← hh, Bd.state]; rfl
  have N0 := Fr.nil n0
  have g0 : Go p e below s₁ (mkF m 0 #[rv a1] []) (s₁.setTop (entryFrame m #[(.ref a1)] 1)) := fun t kont => castTop (ef_inds m a1 ) kont
  generalize s₁.setTop (entryFrame m #[(.ref a1)] 1) = A0 at g0 ⊢
  have g101 : Go p e below s₁ (mkF m 1 #[rv a1] [(.ref a1)]) A0 := by
    intro t kont
    refine g0 t ?_
    refine XS.aloadN X0.here hx rfl (hb hby d14_0) rfl rfl ?_
    show Steps p.tables e below (s₁.setTop (mkF m 1 #[rv a1] [(.ref a1)])) _
    exact kont
  obtain ⟨T102, X102, e102, st102⟩ := getF X0 hx hZ hown (host := "") (Or.inl (hw _ (List.mem_of_getElem? (i := 67) rfl))) Via.refl e0 F0_ (g := (mkF m 1 #[rv a1] [(.ref a1)])) rfl rfl (hb hby d14_1)
  have g103 : Go p e below T102 (mkF m 4 #[rv a1] [(.ref b1)]) A0 := fun t kont => g101 t (st102 t kont)
  have g104 : Go p e below T102 (mkF m 5 #[rv a1] [(.ref a1), (.ref b1)]) A0 := by
    intro t kont
    refine g103 t ?_
    refine XS.aloadN X102.here hx rfl (hb hby d14_4) rfl rfl ?_
    show Steps p.tables e below (T102.setTop (mkF m 5 #[rv a1] [(.ref a1), (.ref b1)])) _
    exact kont
  obtain ⟨T105, X105, e105, st105⟩ := getF X102 hx hZ hown (host := "") (Or.inl (hw _ (List.mem_of_getElem? (i := 69) rfl))) Via.refl e102 F1_ (g := (mkF m 5 #[rv a1] [(.ref a1), (.ref b1)])) rfl rfl (hb hby d14_5)
  have g106 : Go p e below T105 (mkF m 8 #[rv a1] [(.ref b2), (.ref b1)]) A0 := fun t kont => g104 t (st105 t kont)
  obtain ⟨_, _, ⟨T107, L107, k107, n107⟩, -, X107, ⟨Lc107, hQ107, l107, y107, z107⟩, st107⟩ := Jvm.LawKit.callS X105 hx (y := (⟨"java/util/List", "of", "(Ljava/lang/Object;Ljava/lang/Object;)Ljava/util/List;"⟩ : MethodName)) hown (mvT hZ (hw _ (List.mem_of_getElem? (i := 76) rfl))) (mvT hZ (hw _ (List.mem_of_getElem? (i := 77) rfl))) (mvT hZ (hw _ (List.mem_of_getElem? (i := 78) rfl))) (mvT hZ (hw _ (List.mem_of_getElem? (i := 79) rfl))) (by decide) (backOf (W := 0) (rm_lof l Z a0 hw [] b1 b2 h0 n0 O0 ) hZ (hw _ (List.mem_of_getElem? (i := 79) rfl)) (hw _ (List.mem_of_getElem? (i := 78) rfl)) (by decide) (by decide)) (g := (mkF m 8 #[rv a1] [(.ref b2), (.ref b1)])) rfl (by rw [hml]; rfl) (argsL := [(.ref b1), (.ref b2)]) (rest := []) (lenOf pd_10 rfl) rfl (by show 2 * 0 + _ ≤ _; exact Nat.le_of_eq rfl) (hb hby d14_8) (fun _ _ => ⟨rfl, e105, (by decide : 0 + 1 ≤ _), (by decide : 0 + 2 ≤ _)⟩)
  dsimp only [Pt.U, Pt.locs, Pt.cells, Pt.slots] at X107 l107 y107 z107 st107 hQ107
  subst l107 y107 z107
  obtain ⟨r108, rfl, M107, K107, y109, y110, y111, y112⟩ := hQ107
  have N107 := Fr.app N0 M107
  have O113 := O0.keep K107 all0
  have g114 : Go p e below T107 (mkF m 11 #[rv a1] [(.ref r108)]) A0 := fun t kont => g106 t (st107 t kont)
  have K115 : Keep h0 T107.heap [] := ((Keep.refl h0 []).trans K107 (fun x hx => nomatch hx))
  obtain ⟨fs, hr, hrun, hended, hW, hsame⟩ := X107.leave (v := some (.ref r108)) (fun h => by rw [Bd.returns] at h; cases h)
  refine ⟨_, _, g114 _ (retOut X107 hx Bd.returns rfl (Or.inr (Or.inr (Or.inr (Or.inr ⟨rfl, rfl, rfl⟩)))) (hb hby d14_11) hr), hrun, hended, _, _, rfl, ?_, ⟨_, rfl⟩, hW, hsame.mono (by decide) (by decide)⟩
  show Q_inds Z a1 b1 b2 h0 n0 _ T107.heap _
  exact ⟨r108, rfl, N107, K115, y109, y110, y111, y112⟩
theorem d21_0 : decode jdk_44_method_3_code 0 = .ok (.aload_n 0, 1) := by decide +kernel
theorem d21_1 : decode jdk_44_method_3_code 1 = .ok (.getfield 24, 3) := by decide +kernel
theorem d21_4 : decode jdk_44_method_3_code 4 = .ok (.getstatic 19, 3) := by decide +kernel
theorem d21_7 : decode jdk_44_method_3_code 7 = .ok (.if_acmp .eq 7, 3) := by decide +kernel
theorem d21_10 : decode jdk_44_method_3_code 10 = .ok (.iconst 2, 1) := by decide +kernel
theorem d21_11 : decode jdk_44_method_3_code 11 = .ok (.goto 4, 3) := by decide +kernel
theorem d21_15 : decode jdk_44_method_3_code 15 = .ok (.ireturn, 1) := by decide +kernel
theorem ef_siz (m : MethodId) (x0 : Addr)  : entryFrame m #[(.ref x0)] 1 = mkF m 0 #[.val (.ref x0)] [] := by first | (simp [entryFrame, mkF, argsToLocals, Value.category]; done) | rfl
def Q_siz (Z : State) (a1 : Addr) (b2 : Addr) (w_EMPTY : Addr) (h0 : Heap) (n0 : Nat) (v : Option Value) (h : Heap) (L : List Loc) : Prop := v = some (.int (2 : Int32)) ∧ Fr n0 L ∧ h = h0
set_option maxRecDepth 65536 in
set_option maxHeartbeats 40000000 in
theorem rm_siz (l : Launch) (Z : State) (a0 : Array Value) (hw : ∀ d ∈ tables_1, d.before a0 Z = true) (ws : List Jvm.Cond) (a1 : Addr) (b2 : Addr) (w_EMPTY : Addr) (h0 : Heap) (n0 : Nat) (O0 : Old Z n0 h0) (F0_ : Fld Z h0 a1 "java/util/ImmutableCollections$List12" "e1" "Ljava/lang/Object;" (.ref b2)) (S1_ : Sta Z Z.heap "java/util/ImmutableCollections" "EMPTY" "Ljava/lang/Object;" (.ref w_EMPTY)) (NE2_ : ¬ (b2 = w_EMPTY)) :
    MetFree l (⟨"java/util/ImmutableCollections$List12", "size", "()I"⟩ : MethodName) (head1 (Jvm.Cond.code (⟨"java/util/ImmutableCollections$List12", "size", "()I"⟩ : MethodName) jdk_44_method_3_code 1 (some .int) :: ws) ({ frames := 0, cells := 0, slots := 0, locals := 0 } : Room)) (fun a U => a = #[(.ref a1)] ∧ Z.Warmed39 U.vm ∧ U.heap = h0) (fun _ _ _ _ _ => True) (fun _ U o U' => ∃ v L, o = .returned v ∧ Q_siz Z a1 b2 w_EMPTY h0 n0 v U'.heap L ∧ FrameEnd U o U' L ({ frames := 0, cells := 0, slots := 0, locals := 0 } : Room).cells ({ frames := 0, cells := 0, slots := 0, locals := 0 } : Room).slots) := by
  refine MetFree.of_bodySF (plainFor_of_name pn_java_util_ImmutableCollections_List12) hisR ?_
  intro p e s m args below meth c s₁ Bd hml0 hP hK
  obtain ⟨rfl, hZ, hh⟩ := hP
  have hx := Bd.exec
  have hby := Bd.bytes
  have hml : c.maxLocals = 1 := hml0
  have hown : s.vm.findClass "java/util/ImmutableCollections$List12" = some m.cls := findClass_of_methodNamed Bd.named
  have hnm := (name_of_methodNamed Bd.named Bd.method).1
  have X0 : Stand p l e ({ frames := 0, cells := 0, slots := 0, locals := 0 } : Room) s m #[(.ref a1)] below meth c s₁ [] 0 0 := Stand.of_body Bd
  have e0 : s₁.heap = h0 := by rw [← hh, Bd.state]; rfl
  have N0 := Fr.nil n0
  have g0 : Go p e below s₁ (mkF m 0 #[rv a1] []) (s₁.setTop (entryFrame m #[(.ref a1)] 1)) := fun t kont => castTop (ef_siz m a1 ) kont
  generalize s₁.setTop (entryFrame m #[(.ref a1)] 1) = A0 at g0 ⊢
  have g101 : Go p e below s₁ (mkF m 1 #[rv a1] [(.ref a1)]) A0 := by
    intro t kont
    refine g0 t ?_
    refine XS.aloadN X0.here hx rfl (hb hby d21_0) rfl rfl ?_
    show Steps p.tables e below (s₁.setTop (mkF m 1 #[rv a1] [(.ref a1)])) _
    exact kont
  obtain ⟨T102, X102, e102, st102⟩ := getF X0 hx hZ hown (host := "") (Or.inl (hw _ (List.mem_of_getElem? (i := 112) rfl))) Via.refl e0 F0_ (g := (mkF m 1 #[rv a1] [(.ref a1)])) rfl rfl (hb hby d21_1)
  have g103 : Go p e below T102 (mkF m 4 #[rv a1] [(.ref b2)]) A0 := fun t kont => g101 t (st102 t kont)
  have y104 : Sta Z h0 "java/util/ImmutableCollections" "EMPTY" "Ljava/lang/Object;" (.ref w_EMPTY) := S1_.ext O0.2
  obtain ⟨T105, X105, e105, st105⟩ := getS2 X102 hx hZ hown (Or.inr (hw _ (List.mem_of_getElem? (i := 123) rfl))) Via.refl e102 y104 (g := (mkF m 4 #[rv a1] [(.ref b2)])) rfl (hb hby d21_4)
  have g106 : Go p e below T105 (mkF m 7 #[rv a1] [(.ref w_EMPTY), (.ref b2)]) A0 := fun t kont => g103 t (st105 t kont)
  have g107 : Go p e below T105 (mkF m 15 #[rv a1] [(.int (2 : Int32))]) A0 := by
    intro t kont
    refine g106 t ?_
    refine Jvm.RoadKit.acmp (g := (mkF m 7 #[rv a1] [(.ref w_EMPTY), (.ref b2)])) X105 hx rfl rfl rfl (pc0 := 7) (pc' := 10) (same := false) rfl (hb hby d21_7) rfl (decide_eq_false fun q => NE2_ (Value.ref.inj q)) (by decide) (by decide) ?_
    show Steps p.tables e below (T105.setTop (mkF m 10 #[rv a1] [])) _
    refine XS.iconst X105.here hx rfl (hb hby d21_10) ?_
    show Steps p.tables e below (T105.setTop (mkF m 11 #[rv a1] [(.int (2 : Int32))])) _
    refine XS.goto X105.here hx rfl (pc0 := 11) (pc' := 15) rfl (hb hby d21_11) (by decide) (by decide) ?_
    show Steps p.tables e below (T105.setTop (mkF m 15 #[rv a1] [(.int (2 : Int32))])) _
    exact kont
  obtain ⟨fs, hr, hrun, hended, hW, hsame⟩ := X105.leave (v := some (.int (2 : Int32))) (fun h => by rw [Bd.returns] at h; cases h)
  refine ⟨_, _, g107 _ (retI X105 hx Bd.returns (hb hby d21_15) hr), hrun, hended, _, _, rfl, ?_, ⟨_, rfl⟩, hW, hsame.mono (by decide) (by decide)⟩
  show Q_siz Z a1 b2 w_EMPTY h0 n0 _ T105.heap _
  rw [e105]
  exact ⟨rfl, N0, rfl⟩
theorem d22_0 : decode jdk_44_method_5_code 0 = .ok (.iload_n 1, 1) := by decide +kernel
theorem d22_1 : decode jdk_44_method_5_code 1 = .ok (.ifCond .ne 8, 3) := by decide +kernel
theorem d22_4 : decode jdk_44_method_5_code 4 = .ok (.aload_n 0, 1) := by decide +kernel
theorem d22_5 : decode jdk_44_method_5_code 5 = .ok (.getfield 13, 3) := by decide +kernel
theorem d22_8 : decode jdk_44_method_5_code 8 = .ok (.areturn, 1) := by decide +kernel
theorem ef_get0 (m : MethodId) (x0 : Addr) (x1 : Int32)  : entryFrame m #[(.ref x0), (.int x1)] 2 = mkF m 0 #[.val (.ref x0), .val (.int x1)] [] := by first | (simp [entryFrame, mkF, argsToLocals, Value.category]; done) | rfl
def Q_get0 (Z : State) (a1 : Addr) (b1 : Addr) (h0 : Heap) (n0 : Nat) (v : Option Value) (h : Heap) (L : List Loc) : Prop := v = some (.ref b1) ∧ Fr n0 L ∧ h = h0
set_option maxRecDepth 65536 in
set_option maxHeartbeats 40000000 in
theorem rm_get0 (l : Launch) (Z : State) (a0 : Array Value) (hw : ∀ d ∈ tables_1, d.before a0 Z = true) (ws : List Jvm.Cond) (a1 : Addr) (b1 : Addr) (h0 : Heap) (n0 : Nat) (O0 : Old Z n0 h0) (F0_ : Fld Z h0 a1 "java/util/ImmutableCollections$List12" "e0" "Ljava/lang/Object;" (.ref b1)) :
    MetFree l (⟨"java/util/ImmutableCollections$List12", "get", "(I)Ljava/lang/Object;"⟩ : MethodName) (head1 (Jvm.Cond.code (⟨"java/util/ImmutableCollections$List12", "get", "(I)Ljava/lang/Object;"⟩ : MethodName) jdk_44_method_5_code 2 (some (.object "java/lang/Object")) :: ws) ({ frames := 0, cells := 0, slots := 0, locals := 0 } : Room)) (fun a U => a = #[(.ref a1), (.int (0 : Int32))] ∧ Z.Warmed39 U.vm ∧ U.heap = h0) (fun _ _ _ _ _ => True) (fun _ U o U' => ∃ v L, o = .returned v ∧ Q_get0 Z a1 b1 h0 n0 v U'.heap L ∧ FrameEnd U o U' L ({ frames := 0, cells := 0, slots := 0, locals := 0 } : Room).cells ({ frames := 0, cells := 0, slots := 0, locals := 0 } : Room).slots) := by
  refine MetFree.of_bodySF (plainFor_of_name pn_java_util_ImmutableCollections_List12) hisR ?_
  intro p e s m args below meth c s₁ Bd hml0 hP hK
  obtain ⟨rfl, hZ, hh⟩ := hP
  have hx := Bd.exec
  have hby := Bd.bytes
  have hml : c.maxLocals = 2 := hml0
  have hown : s.vm.findClass "java/util/ImmutableCollections$List12" = some m.cls := findClass_of_methodNamed Bd.named
  have hnm := (name_of_methodNamed Bd.named Bd.method).1
  have X0 : Stand p l e ({ frames := 0, cells := 0, slots := 0, locals := 0 } : Room) s m #[(.ref a1), (.int (0 : Int32))] below meth c s₁ [] 0 0 := Stand.of_body Bd
  have e0 : s₁.heap = h0 := by rw [← hh, Bd.state]; rfl
  have N0 := Fr.nil n0
  have g0 : Go p e below s₁ (mkF m 0 #[rv a1, iv (0 : Int32)] []) (s₁.setTop (entryFrame m #[(.ref a1), (.int (0 : Int32))] 2)) := fun t kont => castTop (ef_get0 m a1 (0 : Int32) ) kont
  generalize s₁.setTop (entryFrame m #[(.ref a1), (.int (0 : Int32))] 2) = A0 at g0 ⊢
  have g101 : Go p e below s₁ (mkF m 5 #[rv a1, iv (0 : Int32)] [(.ref a1)]) A0 := by
    intro t kont
    refine g0 t ?_
    refine XS.iloadN X0.here hx rfl (hb hby d22_0) rfl ?_
    show Steps p.tables e below (s₁.setTop (mkF m 1 #[rv a1, iv (0 : Int32)] [(.int (0 : Int32))])) _
    refine XS.ifNo X0.here hx rfl (hb hby d22_1) rfl ((if0 _ _).trans (teq (by decide : (0 : Int32) = (0 : Int32))).2) ?_
    show Steps p.tables e below (s₁.setTop (mkF m 4 #[rv a1, iv (0 : Int32)] [])) _
    refine XS.aloadN X0.here hx rfl (hb hby d22_4) rfl rfl ?_
    show Steps p.tables e below (s₁.setTop (mkF m 5 #[rv a1, iv (0 : Int32)] [(.ref a1)])) _
    exact kont
  obtain ⟨T102, X102, e102, st102⟩ := getF X0 hx hZ hown (host := "") (Or.inl (hw _ (List.mem_of_getElem? (i := 110) rfl))) Via.refl e0 F0_ (g := (mkF m 5 #[rv a1, iv (0 : Int32)] [(.ref a1)])) rfl rfl (hb hby d22_5)
  have g103 : Go p e below T102 (mkF m 8 #[rv a1, iv (0 : Int32)] [(.ref b1)]) A0 := fun t kont => g101 t (st102 t kont)
  obtain ⟨fs, hr, hrun, hended, hW, hsame⟩ := X102.leave (v := some (.ref b1)) (fun h => by rw [Bd.returns] at h; cases h)
  refine ⟨_, _, g103 _ (retOut X102 hx Bd.returns rfl (Or.inr (Or.inr (Or.inr (Or.inr ⟨rfl, rfl, rfl⟩)))) (hb hby d22_8) hr), hrun, hended, _, _, rfl, ?_, ⟨_, rfl⟩, hW, hsame.mono (by decide) (by decide)⟩
  show Q_get0 Z a1 b1 h0 n0 _ T102.heap _
  rw [e102]
  exact ⟨rfl, N0, rfl⟩
theorem d22_9 : decode jdk_44_method_5_code 9 = .ok (.iload_n 1, 1) := by decide +kernel
theorem d22_10 : decode jdk_44_method_5_code 10 = .ok (.iconst 1, 1) := by decide +kernel
theorem d22_11 : decode jdk_44_method_5_code 11 = .ok (.if_icmp .ne 18, 3) := by decide +kernel
theorem d22_14 : decode jdk_44_method_5_code 14 = .ok (.aload_n 0, 1) := by decide +kernel
theorem d22_15 : decode jdk_44_method_5_code 15 = .ok (.getfield 24, 3) := by decide +kernel
theorem d22_18 : decode jdk_44_method_5_code 18 = .ok (.getstatic 19, 3) := by decide +kernel
theorem d22_21 : decode jdk_44_method_5_code 21 = .ok (.if_acmp .eq 8, 3) := by decide +kernel
theorem d22_24 : decode jdk_44_method_5_code 24 = .ok (.aload_n 0, 1) := by decide +kernel
theorem d22_25 : decode jdk_44_method_5_code 25 = .ok (.getfield 24, 3) := by decide +kernel
theorem d22_28 : decode jdk_44_method_5_code 28 = .ok (.areturn, 1) := by decide +kernel
theorem ef_get1 (m : MethodId) (x0 : Addr) (x1 : Int32)  : entryFrame m #[(.ref x0), (.int x1)] 2 = mkF m 0 #[.val (.ref x0), .val (.int x1)] [] := by first | (simp [entryFrame, mkF, argsToLocals, Value.category]; done) | rfl
def Q_get1 (Z : State) (a1 : Addr) (b2 : Addr) (w_EMPTY : Addr) (h0 : Heap) (n0 : Nat) (v : Option Value) (h : Heap) (L : List Loc) : Prop := v = some (.ref b2) ∧ Fr n0 L ∧ h = h0
set_option maxRecDepth 65536 in
set_option maxHeartbeats 40000000 in
theorem rm_get1 (l : Launch) (Z : State) (a0 : Array Value) (hw : ∀ d ∈ tables_1, d.before a0 Z = true) (ws : List Jvm.Cond) (a1 : Addr) (b2 : Addr) (w_EMPTY : Addr) (h0 : Heap) (n0 : Nat) (O0 : Old Z n0 h0) (F0_ : Fld Z h0 a1 "java/util/ImmutableCollections$List12" "e1" "Ljava/lang/Object;" (.ref b2)) (S1_ : Sta Z Z.heap "java/util/ImmutableCollections" "EMPTY" "Ljava/lang/Object;" (.ref w_EMPTY)) (NE2_ : ¬ (b2 = w_EMPTY)) :
    MetFree l (⟨"java/util/ImmutableCollections$List12", "get", "(I)Ljava/lang/Object;"⟩ : MethodName) (head1 (Jvm.Cond.code (⟨"java/util/ImmutableCollections$List12", "get", "(I)Ljava/lang/Object;"⟩ : MethodName) jdk_44_method_5_code 2 (some (.object "java/lang/Object")) :: ws) ({ frames := 0, cells := 0, slots := 0, locals := 0 } : Room)) (fun a U => a = #[(.ref a1), (.int (1 : Int32))] ∧ Z.Warmed39 U.vm ∧ U.heap = h0) (fun _ _ _ _ _ => True) (fun _ U o U' => ∃ v L, o = .returned v ∧ Q_get1 Z a1 b2 w_EMPTY h0 n0 v U'.heap L ∧ FrameEnd U o U' L ({ frames := 0, cells := 0, slots := 0, locals := 0 } : Room).cells ({ frames := 0, cells := 0, slots := 0, locals := 0 } : Room).slots) := by
  refine MetFree.of_bodySF (plainFor_of_name pn_java_util_ImmutableCollections_List12) hisR ?_
  intro p e s m args below meth c s₁ Bd hml0 hP hK
  obtain ⟨rfl, hZ, hh⟩ := hP
  have hx := Bd.exec
  have hby := Bd.bytes
  have hml : c.maxLocals = 2 := hml0
  have hown : s.vm.findClass "java/util/ImmutableCollections$List12" = some m.cls := findClass_of_methodNamed Bd.named
  have hnm := (name_of_methodNamed Bd.named Bd.method).1
  have X0 : Stand p l e ({ frames := 0, cells := 0, slots := 0, locals := 0 } : Room) s m #[(.ref a1), (.int (1 : Int32))] below meth c s₁ [] 0 0 := Stand.of_body Bd
  have e0 : s₁.heap = h0 := by rw [← hh, Bd.state]; rfl
  have N0 := Fr.nil n0
  have g0 : Go p e below s₁ (mkF m 0 #[rv a1, iv (1 : Int32)] []) (s₁.setTop (entryFrame m #[(.ref a1), (.int (1 : Int32))] 2)) := fun t kont => castTop (ef_get1 m a1 (1 : Int32) ) kont
  generalize s₁.setTop (entryFrame m #[(.ref a1), (.int (1 : Int32))] 2) = A0 at g0 ⊢
  have g101 : Go p e below s₁ (mkF m 15 #[rv a1, iv (1 : Int32)] [(.ref a1)]) A0 := by
    intro t kont
    refine g0 t ?_
    refine XS.iloadN X0.here hx rfl (hb hby d22_0) rfl ?_
    show Steps p.tables e below (s₁.setTop (mkF m 1 #[rv a1, iv (1 : Int32)] [(.int (1 : Int32))])) _
    refine XS.ifYes X0.here hx rfl (pc0 := 1) (pc' := 9) rfl (hb hby d22_1) rfl ((if0 _ _).trans (feq (by decide : ¬ ((1 : Int32) = (0 : Int32)))).2) (by decide) (by decide) ?_
    show Steps p.tables e below (s₁.setTop (mkF m 9 #[rv a1, iv (1 : Int32)] [])) _
    refine XS.iloadN X0.here hx rfl (hb hby d22_9) rfl ?_
    show Steps p.tables e below (s₁.setTop (mkF m 10 #[rv a1, iv (1 : Int32)] [(.int (1 : Int32))])) _
    refine XS.iconst X0.here hx rfl (hb hby d22_10) ?_
    show Steps p.tables e below (s₁.setTop (mkF m 11 #[rv a1, iv (1 : Int32)] [(.int (1 : Int32)), (.int (1 : Int32))])) _
    refine XS.icmpNo X0.here hx rfl (hb hby d22_11) rfl (teq (by decide : (1 : Int32) = (1 : Int32))).2 ?_
    show Steps p.tables e below (s₁.setTop (mkF m 14 #[rv a1, iv (1 : Int32)] [])) _
    refine XS.aloadN X0.here hx rfl (hb hby d22_14) rfl rfl ?_
    show Steps p.tables e below (s₁.setTop (mkF m 15 #[rv a1, iv (1 : Int32)] [(.ref a1)])) _
    exact kont
  obtain ⟨T102, X102, e102, st102⟩ := getF X0 hx hZ hown (host := "") (Or.inl (hw _ (List.mem_of_getElem? (i := 112) rfl))) Via.refl e0 F0_ (g := (mkF m 15 #[rv a1, iv (1 : Int32)] [(.ref a1)])) rfl rfl (hb hby d22_15)
  have g103 : Go p e below T102 (mkF m 18 #[rv a1, iv (1 : Int32)] [(.ref b2)]) A0 := fun t kont => g101 t (st102 t kont)
  have y104 : Sta Z h0 "java/util/ImmutableCollections" "EMPTY" "Ljava/lang/Object;" (.ref w_EMPTY) := S1_.ext O0.2
  obtain ⟨T105, X105, e105, st105⟩ := getS2 X102 hx hZ hown (Or.inr (hw _ (List.mem_of_getElem? (i := 123) rfl))) Via.refl e102 y104 (g := (mkF m 18 #[rv a1, iv (1 : Int32)] [(.ref b2)])) rfl (hb hby d22_18)
  have g106 : Go p e below T105 (mkF m 21 #[rv a1, iv (1 : Int32)] [(.ref w_EMPTY), (.ref b2)]) A0 := fun t kont => g103 t (st105 t kont)
  have g107 : Go p e below T105 (mkF m 25 #[rv a1, iv (1 : Int32)] [(.ref a1)]) A0 := by
    intro t kont
    refine g106 t ?_
    refine Jvm.RoadKit.acmp (g := (mkF m 21 #[rv a1, iv (1 : Int32)] [(.ref w_EMPTY), (.ref b2)])) X105 hx rfl rfl rfl (pc0 := 21) (pc' := 24) (same := false) rfl (hb hby d22_21) rfl (decide_eq_false fun q => NE2_ (Value.ref.inj q)) (by decide) (by decide) ?_
    show Steps p.tables e below (T105.setTop (mkF m 24 #[rv a1, iv (1 : Int32)] [])) _
    refine XS.aloadN X105.here hx rfl (hb hby d22_24) rfl rfl ?_
    show Steps p.tables e below (T105.setTop (mkF m 25 #[rv a1, iv (1 : Int32)] [(.ref a1)])) _
    exact kont
  obtain ⟨T108, X108, e108, st108⟩ := getF X105 hx hZ hown (host := "") (Or.inl (hw _ (List.mem_of_getElem? (i := 112) rfl))) Via.refl e105 F0_ (g := (mkF m 25 #[rv a1, iv (1 : Int32)] [(.ref a1)])) rfl rfl (hb hby d22_25)
  have g109 : Go p e below T108 (mkF m 28 #[rv a1, iv (1 : Int32)] [(.ref b2)]) A0 := fun t kont => g107 t (st108 t kont)
  obtain ⟨fs, hr, hrun, hended, hW, hsame⟩ := X108.leave (v := some (.ref b2)) (fun h => by rw [Bd.returns] at h; cases h)
  refine ⟨_, _, g109 _ (retOut X108 hx Bd.returns rfl (Or.inr (Or.inr (Or.inr (Or.inr ⟨rfl, rfl, rfl⟩)))) (hb hby d22_28) hr), hrun, hended, _, _, rfl, ?_, ⟨_, rfl⟩, hW, hsame.mono (by decide) (by decide)⟩
  show Q_get1 Z a1 b2 w_EMPTY h0 n0 _ T108.heap _
  rw [e108]
  exact ⟨rfl, N0, rfl⟩
theorem pd_11 : parseMethodDescriptor "([C)V" = some ⟨[(.array .char)], none⟩ := by decide +kernel
theorem pd_12 : parseMethodDescriptor "(C)Ljava/lang/String;" = some ⟨[.char], some (.object "java/lang/String")⟩ := by decide +kernel
theorem pd_13 : parseMethodDescriptor "(Ljava/lang/String;I)V" = some ⟨[(.object "java/lang/String"), .int], none⟩ := by decide +kernel
theorem pd_14 : parseMethodDescriptor "(Lcom/example/subsume/subsume/engine/Individual;Lcom/example/subsume/subsume/engine/Individual;)V" = some ⟨[(.object "com/example/subsume/subsume/engine/Individual"), (.object "com/example/subsume/subsume/engine/Individual")], none⟩ := by decide +kernel
theorem pd_15 : parseMethodDescriptor "()Ljava/util/List;" = some ⟨[], some (.object "java/util/List")⟩ := by decide +kernel
theorem pd_16 : parseMethodDescriptor "()I" = some ⟨[], some .int⟩ := by decide +kernel
theorem pd_17 : parseMethodDescriptor "(I)Ljava/lang/Object;" = some ⟨[.int], some (.object "java/lang/Object")⟩ := by decide +kernel
theorem pn_com_example_subsume_subsume_engine_IndividualEqualityIndividualsPinLaw : plainName "com/example/subsume/subsume/engine/IndividualEqualityIndividualsPinLaw" = true := by first | (simp [plainName, overriddenIn]; done) | decide +kernel
theorem ef_law (m : MethodId) (x0 : Int32) (x1 : Int32) (x2 : Int32) (x3 : Int32) (x4 : Int32)  : entryFrame m #[(.int x0), (.int x1), (.int x2), (.int x3), (.int x4)] maxLocals = mkF m 0 #[.val (.int x0), .val (.int x1), .val (.int x2), .val (.int x3), .val (.int x4), .unset, .unset, .unset, .unset, .unset, .unset, .unset] [] := by first | (simp [entryFrame, mkF, argsToLocals, Value.category, maxLocals]; done) | rfl
def Q_law (Z : State) (p0 : Int32) (p1 : Int32) (p2 : Int32) (p3 : Int32) (p4 : Int32) (i_COMPACT_STRINGS : Int32) (w_EMPTY : Addr) (h0 : Heap) (n0 : Nat) (v : Option Value) (h : Heap) (L : List Loc) : Prop := v = some (.int (1 : Int32)) ∧ Fr n0 L
set_option maxRecDepth 65536 in
set_option maxHeartbeats 40000000 in
theorem rm_law (l : Launch) (Z : State) (a0 : Array Value) (hw : ∀ d ∈ tables_1, d.before a0 Z = true) (ws : List Jvm.Cond) (p0 : Int32) (p1 : Int32) (p2 : Int32) (p3 : Int32) (p4 : Int32) (i_COMPACT_STRINGS : Int32) (w_EMPTY : Addr) (h0 : Heap) (n0 : Nat) (O0 : Old Z n0 h0) (S0_ : Sta Z Z.heap "java/lang/String" "COMPACT_STRINGS" "Z" (.int i_COMPACT_STRINGS)) (S1_ : Sta Z Z.heap "java/util/ImmutableCollections" "EMPTY" "Ljava/lang/Object;" (.ref w_EMPTY)) (hcs : ¬ (i_COMPACT_STRINGS = (0 : Int32))) (ZE3_ : Exa Z Z.heap w_EMPTY "java/lang/Object") :
    MetFree l x (head1 (Jvm.Cond.code x code maxLocals ret :: ws) room_1) (fun a U => a = #[(.int p0), (.int p1), (.int p2), (.int p3), (.int p4)] ∧ Z.Warmed39 U.vm ∧ U.heap = h0) (fun _ _ _ _ _ => True) (fun _ U o U' => ∃ v L, o = .returned v ∧ Q_law Z p0 p1 p2 p3 p4 i_COMPACT_STRINGS w_EMPTY h0 n0 v U'.heap L ∧ FrameEnd U o U' L room_1.cells room_1.slots) := by
  refine MetFree.of_bodySF (plainFor_of_name pn_com_example_subsume_subsume_engine_IndividualEqualityIndividualsPinLaw) hisR ?_
  intro p e s m args below meth c s₁ Bd hml0 hP hK
  obtain ⟨rfl, hZ, hh⟩ := hP
  have hx := Bd.exec
  have hby := Bd.bytes
  have hml : c.maxLocals = 12 := hml0
  have hown : s.vm.findClass "com/example/subsume/subsume/engine/IndividualEqualityIndividualsPinLaw" = some m.cls := findClass_of_methodNamed Bd.named
  have hnm := (name_of_methodNamed Bd.named Bd.method).1
  have X0 : Stand p l e room_1 s m #[(.int p0), (.int p1), (.int p2), (.int p3), (.int p4)] below meth c s₁ [] 0 0 := Stand.of_body Bd
  have e0 : s₁.heap = h0 := by rw [← hh, Bd.state]; rfl
  have N0 := Fr.nil n0
  have g0 : Go p e below s₁ (mkF m 0 #[iv p0, iv p1, iv p2, iv p3, iv p4, .unset, .unset, .unset, .unset, .unset, .unset, .unset] []) (s₁.setTop (entryFrame m #[(.int p0), (.int p1), (.int p2), (.int p3), (.int p4)] maxLocals)) := fun t kont => castTop (ef_law m p0 p1 p2 p3 p4 ) kont
  generalize s₁.setTop (entryFrame m #[(.int p0), (.int p1), (.int p2), (.int p3), (.int p4)] maxLocals) = A0 at g0 ⊢
  have g101 : Go p e below s₁ (mkF m 1 #[iv p0, iv p1, iv p2, iv p3, iv p4, .unset, .unset, .unset, .unset, .unset, .unset, .unset] [(.int (2 : Int32))]) A0 := by
    intro t kont
    refine g0 t ?_
    refine XS.iconst X0.here hx rfl (hb hby at_0) ?_
    show Steps p.tables e below (s₁.setTop (mkF m 1 #[iv p0, iv p1, iv p2, iv p3, iv p4, .unset, .unset, .unset, .unset, .unset, .unset, .unset] [(.int (2 : Int32))])) _
    exact kont
  obtain ⟨T102, h102, k102, X102, e102, E102, A102, F102, st102⟩ := newPE X0 hx hZ (hw _ (List.mem_of_getElem? (i := 0) rfl)) e0 (g := (mkF m 1 #[iv p0, iv p1, iv p2, iv p3, iv p4, .unset, .unset, .unset, .unset, .unset, .unset, .unset] [(.int (2 : Int32))])) rfl (hb hby at_1) rfl (by decide) (cap := 2) (by decide) (by decide) (by decide) (by decide) (ad := "[C") (by decide)
  obtain ⟨b102, gb102⟩ : ∃ z, z = h0.size := ⟨_, rfl⟩
  rw [← gb102] at A102 F102 st102
  have O103 := O0.ext E102
  have y104 : Arv Z h102 b102 k102 .char (2 : Int32) [(.int (0 : Int32)), (.int (0 : Int32))] (.int (0 : Int32)) := (Arv.new A102 (by decide)).pad (pad_rep [] (.int (0 : Int32)) 2)
  have g105 : Go p e below T102 (mkF m 3 #[iv p0, iv p1, iv p2, iv p3, iv p4, .unset, .unset, .unset, .unset, .unset, .unset, .unset] [(.ref b102)]) A0 := fun t kont => g101 t (st102 t kont)
  have g106 : Go p e below T102 (mkF m 11 #[iv p0, iv p1, iv p2, iv p3, iv p4, .unset, .unset, .unset, .unset, .unset, .unset, .unset] [(.int ((p0 &&& (255 : Int32)).toUInt32.toUInt16.toUInt32.toInt32)), (.int (0 : Int32)), (.ref b102), (.ref b102)]) A0 := by
    intro t kont
    refine g105 t ?_
    refine XS.dup X102.here hx rfl (hb hby at_3) rfl rfl ?_
    show Steps p.tables e below (T102.setTop (mkF m 4 #[iv p0, iv p1, iv p2, iv p3, iv p4, .unset, .unset, .unset, .unset, .unset, .unset, .unset] [(.ref b102), (.ref b102)])) _
    refine XS.iconst X102.here hx rfl (hb hby at_4) ?_
    show Steps p.tables e below (T102.setTop (mkF m 5 #[iv p0, iv p1, iv p2, iv p3, iv p4, .unset, .unset, .unset, .unset, .unset, .unset, .unset] [(.int (0 : Int32)), (.ref b102), (.ref b102)])) _
    refine XS.iloadN X102.here hx rfl (hb hby at_5) rfl ?_
    show Steps p.tables e below (T102.setTop (mkF m 6 #[iv p0, iv p1, iv p2, iv p3, iv p4, .unset, .unset, .unset, .unset, .unset, .unset, .unset] [(.int p0), (.int (0 : Int32)), (.ref b102), (.ref b102)])) _
    refine XS.sipush X102.here hx rfl (hb hby at_6) ?_
    show Steps p.tables e below (T102.setTop (mkF m 9 #[iv p0, iv p1, iv p2, iv p3, iv p4, .unset, .unset, .unset, .unset, .unset, .unset, .unset] [(.int (255 : Int32)), (.int p0), (.int (0 : Int32)), (.ref b102), (.ref b102)])) _
    refine XS.iand X102.here hx rfl (hb hby at_9) rfl ?_
    show Steps p.tables e below (T102.setTop (mkF m 10 #[iv p0, iv p1, iv p2, iv p3, iv p4, .unset, .unset, .unset, .unset, .unset, .unset, .unset] [(.int (p0 &&& (255 : Int32))), (.int (0 : Int32)), (.ref b102), (.ref b102)])) _
    refine XS.i2c X102.here hx rfl (hb hby at_10) rfl ?_
    show Steps p.tables e below (T102.setTop (mkF m 11 #[iv p0, iv p1, iv p2, iv p3, iv p4, .unset, .unset, .unset, .unset, .unset, .unset, .unset] [(.int ((p0 &&& (255 : Int32)).toUInt32.toUInt16.toUInt32.toInt32)), (.int (0 : Int32)), (.ref b102), (.ref b102)])) _
    exact kont
  have ge108 : n0 ≤ b102 := Nat.le_trans (own_old_le O0) (Nat.le_of_eq gb102.symm)
  have zz107 := y104
  obtain ⟨cl107, Ar107, q107, S107, M107, H107, G107⟩ := zz107
  have in107 : ¬ ((0 : Int32) < 0 ∨ cl107.slots.size ≤ ((0 : Int32)).toNatClampNeg) := inb_of S107 ⟨by decide, by decide⟩
  obtain ⟨T107, h107, X107, e107, W107, st107⟩ := stC X102 hx hZ e102 Ar107 (j := (0 : Int32)) in107 (g := (mkF m 11 #[iv p0, iv p1, iv p2, iv p3, iv p4, .unset, .unset, .unset, .unset, .unset, .unset, .unset] [(.int ((p0 &&& (255 : Int32)).toUInt32.toUInt16.toUInt32.toInt32)), (.int (0 : Int32)), (.ref b102), (.ref b102)])) rfl rfl (hb hby at_11)
  rw [show nar .char ((p0 &&& (255 : Int32)).toUInt32.toUInt16.toUInt32.toInt32) = ((p0 &&& (255 : Int32)).toUInt32.toUInt16.toUInt32.toInt32) from (own_narc _)] at W107
  have O109 := O103.wr W107 ge108
  have y110 : Arv Z h107 b102 k102 .char (2 : Int32) [(.int ((p0 &&& (255 : Int32)).toUInt32.toUInt16.toUInt32.toInt32)), (.int (0 : Int32))] (.int (0 : Int32)) := Arv.set Ar107 q107 S107 M107 H107 G107 (own_ft_char (z := ((p0 &&& (255 : Int32)).toUInt32.toUInt16.toUInt32.toInt32)) (own_narc _)) W107 0 rfl (Nat.le_of_ble_eq_true rfl)
  have N107 := Fr.snoc X107 N0 ge108
  have g111 : Go p e below T107 (mkF m 12 #[iv p0, iv p1, iv p2, iv p3, iv p4, .unset, .unset, .unset, .unset, .unset, .unset, .unset] [(.ref b102)]) A0 := fun t kont => g106 t (st107 t kont)
  have g112 : Go p e below T107 (mkF m 20 #[iv p0, iv p1, iv p2, iv p3, iv p4, .unset, .unset, .unset, .unset, .unset, .unset, .unset] [(.int ((p1 &&& (255 : Int32)).toUInt32.toUInt16.toUInt32.toInt32)), (.int (1 : Int32)), (.ref b102), (.ref b102)]) A0 := by
    intro t kont
    refine g111 t ?_
    refine XS.dup X107.here hx rfl (hb hby at_12) rfl rfl ?_
    show Steps p.tables e below (T107.setTop (mkF m 13 #[iv p0, iv p1, iv p2, iv p3, iv p4, .unset, .unset, .unset, .unset, .unset, .unset, .unset] [(.ref b102), (.ref b102)])) _
    refine XS.iconst X107.here hx rfl (hb hby at_13) ?_
    show Steps p.tables e below (T107.setTop (mkF m 14 #[iv p0, iv p1, iv p2, iv p3, iv p4, .unset, .unset, .unset, .unset, .unset, .unset, .unset] [(.int (1 : Int32)), (.ref b102), (.ref b102)])) _
    refine XS.iloadN X107.here hx rfl (hb hby at_14) rfl ?_
    show Steps p.tables e below (T107.setTop (mkF m 15 #[iv p0, iv p1, iv p2, iv p3, iv p4, .unset, .unset, .unset, .unset, .unset, .unset, .unset] [(.int p1), (.int (1 : Int32)), (.ref b102), (.ref b102)])) _
    refine XS.sipush X107.here hx rfl (hb hby at_15) ?_
    show Steps p.tables e below (T107.setTop (mkF m 18 #[iv p0, iv p1, iv p2, iv p3, iv p4, .unset, .unset, .unset, .unset, .unset, .unset, .unset] [(.int (255 : Int32)), (.int p1), (.int (1 : Int32)), (.ref b102), (.ref b102)])) _
    refine XS.iand X107.here hx rfl (hb hby at_18) rfl ?_
    show Steps p.tables e below (T107.setTop (mkF m 19 #[iv p0, iv p1, iv p2, iv p3, iv p4, .unset, .unset, .unset, .unset, .unset, .unset, .unset] [(.int (p1 &&& (255 : Int32))), (.int (1 : Int32)), (.ref b102), (.ref b102)])) _
    refine XS.i2c X107.here hx rfl (hb hby at_19) rfl ?_
    show Steps p.tables e below (T107.setTop (mkF m 20 #[iv p0, iv p1, iv p2, iv p3, iv p4, .unset, .unset, .unset, .unset, .unset, .unset, .unset] [(.int ((p1 &&& (255 : Int32)).toUInt32.toUInt16.toUInt32.toInt32)), (.int (1 : Int32)), (.ref b102), (.ref b102)])) _
    exact kont
  have zz113 := y110
  obtain ⟨cl113, Ar113, q113, S113, M113, H113, G113⟩ := zz113
  have in113 : ¬ ((1 : Int32) < 0 ∨ cl113.slots.size ≤ ((1 : Int32)).toNatClampNeg) := inb_of S113 ⟨by decide, by decide⟩
  obtain ⟨T113, h113, X113, e113, W113, st113⟩ := stC X107 hx hZ e107 Ar113 (j := (1 : Int32)) in113 (g := (mkF m 20 #[iv p0, iv p1, iv p2, iv p3, iv p4, .unset, .unset, .unset, .unset, .unset, .unset, .unset] [(.int ((p1 &&& (255 : Int32)).toUInt32.toUInt16.toUInt32.toInt32)), (.int (1 : Int32)), (.ref b102), (.ref b102)])) rfl rfl (hb hby at_20)
  rw [show nar .char ((p1 &&& (255 : Int32)).toUInt32.toUInt16.toUInt32.toInt32) = ((p1 &&& (255 : Int32)).toUInt32.toUInt16.toUInt32.toInt32) from (own_narc _)] at W113
  have O114 := O109.wr W113 ge108
  have y115 : Arv Z h113 b102 k102 .char (2 : Int32) [(.int ((p0 &&& (255 : Int32)).toUInt32.toUInt16.toUInt32.toInt32)), (.int ((p1 &&& (255 : Int32)).toUInt32.toUInt16.toUInt32.toInt32))] (.int (0 : Int32)) := Arv.set Ar113 q113 S113 M113 H113 G113 (own_ft_char (z := ((p1 &&& (255 : Int32)).toUInt32.toUInt16.toUInt32.toInt32)) (own_narc _)) W113 1 rfl (Nat.le_of_ble_eq_true rfl)
  have N113 := Fr.snoc X113 N107 ge108
  have g116 : Go p e below T113 (mkF m 21 #[iv p0, iv p1, iv p2, iv p3, iv p4, .unset, .unset, .unset, .unset, .unset, .unset, .unset] [(.ref b102)]) A0 := fun t kont => g112 t (st113 t kont)
  have g118 : Go p e below T113 (mkF m 27 #[iv p0, iv p1, iv p2, iv p3, iv p4, rv b102, .unset, .unset, .unset, .unset, .unset, .unset] [(.int (p4 &&& (1 : Int32)))]) A0 := by
    intro t kont
    refine g116 t ?_
    refine XS.astore X113.here hx rfl (hb hby at_21) rfl rfl (l' := #[iv p0, iv p1, iv p2, iv p3, iv p4, rv b102, .unset, .unset, .unset, .unset, .unset, .unset]) rfl ?_
    show Steps p.tables e below (T113.setTop (mkF m 23 #[iv p0, iv p1, iv p2, iv p3, iv p4, rv b102, .unset, .unset, .unset, .unset, .unset, .unset] [])) _
    refine XS.iload X113.here hx rfl (hb hby at_23) rfl ?_
    show Steps p.tables e below (T113.setTop (mkF m 25 #[iv p0, iv p1, iv p2, iv p3, iv p4, rv b102, .unset, .unset, .unset, .unset, .unset, .unset] [(.int p4)])) _
    refine XS.iconst X113.here hx rfl (hb hby at_25) ?_
    show Steps p.tables e below (T113.setTop (mkF m 26 #[iv p0, iv p1, iv p2, iv p3, iv p4, rv b102, .unset, .unset, .unset, .unset, .unset, .unset] [(.int (1 : Int32)), (.int p4)])) _
    refine XS.iand X113.here hx rfl (hb hby at_26) rfl ?_
    show Steps p.tables e below (T113.setTop (mkF m 27 #[iv p0, iv p1, iv p2, iv p3, iv p4, rv b102, .unset, .unset, .unset, .unset, .unset, .unset] [(.int (p4 &&& (1 : Int32)))])) _
    exact kont
  by_cases c117 : (p4 &&& (1 : Int32)) = (0 : Int32)
  ·
    have g119 : Go p e below T113 (mkF m 34 #[iv p0, iv p1, iv p2, iv p3, iv p4, rv b102, .unset, .unset, .unset, .unset, .unset, .unset] []) A0 := by
      intro t kont
      refine g118 t ?_
      refine XS.ifYes X113.here hx rfl (pc0 := 27) (pc' := 34) rfl (hb hby at_27) rfl ((if0 _ _).trans (teq c117).1) (by decide) (by decide) ?_
      show Steps p.tables e below (T113.setTop (mkF m 34 #[iv p0, iv p1, iv p2, iv p3, iv p4, rv b102, .unset, .unset, .unset, .unset, .unset, .unset] [])) _
      exact kont
    obtain ⟨T120, h120, X120, e120, E120, A120, D120, -, st120⟩ := newO X113 hx hZ hown (hw _ (List.mem_of_getElem? (i := 1) rfl)) (hw _ (List.mem_of_getElem? (i := 2) rfl)) (hw _ (List.mem_of_getElem? (i := 3) rfl)) e113 (g := (mkF m 34 #[iv p0, iv p1, iv p2, iv p3, iv p4, rv b102, .unset, .unset, .unset, .unset, .unset, .unset] [])) rfl (hb hby at_34) (by decide) (by decide)
    obtain ⟨b120, gb120⟩ : ∃ z, z = h113.size := ⟨_, rfl⟩
    rw [← gb120] at A120 D120 st120
    have O121 := O114.ext E120
    have y122 : Fld Z h120 b120 "java/lang/String" "coder" "B" (.int (0 : Int32)) := D120 (Or.inr (hw _ (List.mem_of_getElem? (i := 27) rfl))) (ty := .byte) (by decide)
    have y123 : Fld Z h120 b120 "java/lang/String" "value" "[B" .null := D120 (Or.inr (hw _ (List.mem_of_getElem? (i := 29) rfl))) (ty := (.array .byte)) (by decide)
    have g124 : Go p e below T120 (mkF m 37 #[iv p0, iv p1, iv p2, iv p3, iv p4, rv b102, .unset, .unset, .unset, .unset, .unset, .unset] [(.ref b120)]) A0 := fun t kont => g119 t (st120 t kont)
    have g125 : Go p e below T120 (mkF m 40 #[iv p0, iv p1, iv p2, iv p3, iv p4, rv b102, .unset, .unset, .unset, .unset, .unset, .unset] [(.ref b102), (.ref b120), (.ref b120)]) A0 := by
      intro t kont
      refine g124 t ?_
      refine XS.dup X120.here hx rfl (hb hby at_37) rfl rfl ?_
      show Steps p.tables e below (T120.setTop (mkF m 38 #[iv p0, iv p1, iv p2, iv p3, iv p4, rv b102, .unset, .unset, .unset, .unset, .unset, .unset] [(.ref b120), (.ref b120)])) _
      refine XS.aload X120.here hx rfl (hb hby at_38) rfl rfl ?_
      show Steps p.tables e below (T120.setTop (mkF m 40 #[iv p0, iv p1, iv p2, iv p3, iv p4, rv b102, .unset, .unset, .unset, .unset, .unset, .unset] [(.ref b102), (.ref b120), (.ref b120)])) _
      exact kont
    have y127 : Arv Z h120 b102 k102 .char (2 : Int32) [(.int ((p0 &&& (255 : Int32)).toUInt32.toUInt16.toUInt32.toInt32)), (.int ((p1 &&& (255 : Int32)).toUInt32.toUInt16.toUInt32.toInt32))] (.int (0 : Int32)) := (y115.ext E120)
    have ge128 : n0 ≤ b120 := Nat.le_trans (own_old_le O114) (Nat.le_of_eq gb120.symm)
    obtain ⟨_, _, ⟨T126, L126, k126, n126⟩, -, X126, ⟨Lc126, hQ126, l126, y126, z126⟩, st126⟩ := X120.specialBack hx (y := (⟨"java/lang/String", "<init>", "([C)V"⟩ : MethodName)) rfl hown (mvT hZ (hw _ (List.mem_of_getElem? (i := 4) rfl))) (mvT hZ (hw _ (List.mem_of_getElem? (i := 5) rfl))) (mvT hZ (hw _ (List.mem_of_getElem? (i := 6) rfl))) (by decide) (backOf (W := 1) (rm_sIni2 l Z a0 hw [] b120 b102 k102 ((p0 &&& (255 : Int32)).toUInt32.toUInt16.toUInt32.toInt32) ((p1 &&& (255 : Int32)).toUInt32.toUInt16.toUInt32.toInt32) i_COMPACT_STRINGS h120 n0 O121 y123 y122 A120 ge128 y127 (own_c255 p0) (own_c255 p1) S0_ hcs) hZ (hw _ (List.mem_of_getElem? (i := 6) rfl)) (hw _ (List.mem_of_getElem? (i := 3) rfl)) (by decide) (by decide)) (g := (mkF m 40 #[iv p0, iv p1, iv p2, iv p3, iv p4, rv b102, .unset, .unset, .unset, .unset, .unset, .unset] [(.ref b102), (.ref b120), (.ref b120)])) rfl (by rw [hml]; rfl) (Steps.refl _) (a := b120) (argsL := [(.ref b102)]) (rest := [(.ref b120)]) (lenOf pd_11 rfl) rfl (by show 2 * 0 + _ ≤ _; exact Nat.le_of_eq rfl) (hb hby at_40) (fun _ _ => ⟨rfl, e120, (by decide : 2 + 1 ≤ _), (by decide : 6 + 2 ≤ _)⟩)
    dsimp only [Pt.U, Pt.locs, Pt.cells, Pt.slots] at X126 l126 y126 z126 st126 hQ126
    subst l126 y126 z126
    obtain ⟨r129, r130, rfl, M126, K126, y131, y132, y133, y134, y135⟩ := hQ126
    have N126 := Fr.app N113 M126
    have O136 := O121.keep K126 (allS ge128 all0)
    have g137 : Go p e below T126 (mkF m 43 #[iv p0, iv p1, iv p2, iv p3, iv p4, rv b102, .unset, .unset, .unset, .unset, .unset, .unset] [(.ref b120)]) A0 := fun t kont => g125 t (st126.trans kont)
    have g139 : Go p e below T126 (mkF m 49 #[iv p0, iv p1, iv p2, iv p3, iv p4, rv b102, rv b120, .unset, .unset, .unset, .unset, .unset] [(.int (p4 &&& (2 : Int32)))]) A0 := by
      intro t kont
      refine g137 t ?_
      refine XS.astore X126.here hx rfl (hb hby at_43) rfl rfl (l' := #[iv p0, iv p1, iv p2, iv p3, iv p4, rv b102, rv b120, .unset, .unset, .unset, .unset, .unset]) rfl ?_
      show Steps p.tables e below (T126.setTop (mkF m 45 #[iv p0, iv p1, iv p2, iv p3, iv p4, rv b102, rv b120, .unset, .unset, .unset, .unset, .unset] [])) _
      refine XS.iload X126.here hx rfl (hb hby at_45) rfl ?_
      show Steps p.tables e below (T126.setTop (mkF m 47 #[iv p0, iv p1, iv p2, iv p3, iv p4, rv b102, rv b120, .unset, .unset, .unset, .unset, .unset] [(.int p4)])) _
      refine XS.iconst X126.here hx rfl (hb hby at_47) ?_
      show Steps p.tables e below (T126.setTop (mkF m 48 #[iv p0, iv p1, iv p2, iv p3, iv p4, rv b102, rv b120, .unset, .unset, .unset, .unset, .unset] [(.int (2 : Int32)), (.int p4)])) _
      refine XS.iand X126.here hx rfl (hb hby at_48) rfl ?_
      show Steps p.tables e below (T126.setTop (mkF m 49 #[iv p0, iv p1, iv p2, iv p3, iv p4, rv b102, rv b120, .unset, .unset, .unset, .unset, .unset] [(.int (p4 &&& (2 : Int32)))])) _
      exact kont
    by_cases c138 : (p4 &&& (2 : Int32)) = (0 : Int32)
    ·
      have g140 : Go p e below T126 (mkF m 62 #[iv p0, iv p1, iv p2, iv p3, iv p4, rv b102, rv b120, .unset, .unset, .unset, .unset, .unset] [(.int ((p1 &&& (255 : Int32)).toUInt32.toUInt16.toUInt32.toInt32))]) A0 := by
        intro t kont
        refine g139 t ?_
        refine XS.ifYes X126.here hx rfl (pc0 := 49) (pc' := 56) rfl (hb hby at_49) rfl ((if0 _ _).trans (teq c138).1) (by decide) (by decide) ?_
        show Steps p.tables e below (T126.setTop (mkF m 56 #[iv p0, iv p1, iv p2, iv p3, iv p4, rv b102, rv b120, .unset, .unset, .unset, .unset, .unset] [])) _
        refine XS.iloadN X126.here hx rfl (hb hby at_56) rfl ?_
        show Steps p.tables e below (T126.setTop (mkF m 57 #[iv p0, iv p1, iv p2, iv p3, iv p4, rv b102, rv b120, .unset, .unset, .unset, .unset, .unset] [(.int p1)])) _
        refine XS.sipush X126.here hx rfl (hb hby at_57) ?_
        show Steps p.tables e below (T126.setTop (mkF m 60 #[iv p0, iv p1, iv p2, iv p3, iv p4, rv b102, rv b120, .unset, .unset, .unset, .unset, .unset] [(.int (255 : Int32)), (.int p1)])) _
        refine XS.iand X126.here hx rfl (hb hby at_60) rfl ?_
        show Steps p.tables e below (T126.setTop (mkF m 61 #[iv p0, iv p1, iv p2, iv p3, iv p4, rv b102, rv b120, .unset, .unset, .unset, .unset, .unset] [(.int (p1 &&& (255 : Int32)))])) _
        refine XS.i2c X126.here hx rfl (hb hby at_61) rfl ?_
        show Steps p.tables e below (T126.setTop (mkF m 62 #[iv p0, iv p1, iv p2, iv p3, iv p4, rv b102, rv b120, .unset, .unset, .unset, .unset, .unset] [(.int ((p1 &&& (255 : Int32)).toUInt32.toUInt16.toUInt32.toInt32))])) _
        exact kont
      obtain ⟨_, _, ⟨T141, L141, k141, n141⟩, -, X141, ⟨Lc141, hQ141, l141, y141, z141⟩, st141⟩ := Jvm.LawKit.callS X126 hx (y := (⟨"java/lang/String", "valueOf", "(C)Ljava/lang/String;"⟩ : MethodName)) hown (mvT hZ (hw _ (List.mem_of_getElem? (i := 30) rfl))) (mvT hZ (hw _ (List.mem_of_getElem? (i := 31) rfl))) (mvT hZ (hw _ (List.mem_of_getElem? (i := 3) rfl))) (mvT hZ (hw _ (List.mem_of_getElem? (i := 32) rfl))) (by decide) (backOf (W := 0) (rm_valC l Z a0 hw [] ((p1 &&& (255 : Int32)).toUInt32.toUInt16.toUInt32.toInt32) i_COMPACT_STRINGS T126.heap n0 O136 S0_ hcs (own_c255 p1)) hZ (hw _ (List.mem_of_getElem? (i := 32) rfl)) (hw _ (List.mem_of_getElem? (i := 3) rfl)) (by decide) (by decide)) (g := (mkF m 62 #[iv p0, iv p1, iv p2, iv p3, iv p4, rv b102, rv b120, .unset, .unset, .unset, .unset, .unset] [(.int ((p1 &&& (255 : Int32)).toUInt32.toUInt16.toUInt32.toInt32))])) rfl (by rw [hml]; rfl) (argsL := [(.int ((p1 &&& (255 : Int32)).toUInt32.toUInt16.toUInt32.toInt32))]) (rest := []) (lenOf pd_12 rfl) rfl (by show 2 * 0 + _ ≤ _; exact Nat.le_of_eq rfl) (hb hby at_62) (fun _ _ => ⟨rfl, rfl, (by decide : 3 + 2 ≤ _), (by decide : 8 + 5 ≤ _)⟩)
      dsimp only [Pt.U, Pt.locs, Pt.cells, Pt.slots] at X141 l141 y141 z141 st141 hQ141
      subst l141 y141 z141
      obtain ⟨r142, r143, r144, rfl, M141, K141, y145, y146, y147, y148, y149, y150⟩ := hQ141
      have N141 := Fr.app N126 M141
      have O151 := O136.keep K141 all0
      have g152 : Go p e below T141 (mkF m 65 #[iv p0, iv p1, iv p2, iv p3, iv p4, rv b102, rv b120, .unset, .unset, .unset, .unset, .unset] [(.ref r142)]) A0 := fun t kont => g140 t (st141 t kont)
      have g153 : Go p e below T141 (mkF m 67 #[iv p0, iv p1, iv p2, iv p3, iv p4, rv b102, rv b120, rv r142, .unset, .unset, .unset, .unset] []) A0 := by
        intro t kont
        refine g152 t ?_
        refine XS.astore X141.here hx rfl (hb hby at_65) rfl rfl (l' := #[iv p0, iv p1, iv p2, iv p3, iv p4, rv b102, rv b120, rv r142, .unset, .unset, .unset, .unset]) rfl ?_
        show Steps p.tables e below (T141.setTop (mkF m 67 #[iv p0, iv p1, iv p2, iv p3, iv p4, rv b102, rv b120, rv r142, .unset, .unset, .unset, .unset] [])) _
        exact kont
      obtain ⟨T154, h154, X154, e154, E154, A154, D154, -, st154⟩ := newO X141 hx hZ hown (hw _ (List.mem_of_getElem? (i := 44) rfl)) (hw _ (List.mem_of_getElem? (i := 45) rfl)) (hw _ (List.mem_of_getElem? (i := 46) rfl)) rfl (g := (mkF m 67 #[iv p0, iv p1, iv p2, iv p3, iv p4, rv b102, rv b120, rv r142, .unset, .unset, .unset, .unset] [])) rfl (hb hby at_67) (by decide) (by decide)
      obtain ⟨b154, gb154⟩ : ∃ z, z = T141.heap.size := ⟨_, rfl⟩
      rw [← gb154] at A154 D154 st154
      have O155 := O151.ext E154
      have y156 : Fld Z h154 b154 "com/example/subsume/subsume/engine/Individual" "name" "Ljava/lang/String;" .null := D154 (Or.inr (hw _ (List.mem_of_getElem? (i := 52) rfl))) (ty := (.object "java/lang/String")) (by decide)
      have y157 : Fld Z h154 b154 "com/example/subsume/subsume/engine/Individual" "id" "I" (.int (0 : Int32)) := D154 (Or.inr (hw _ (List.mem_of_getElem? (i := 54) rfl))) (ty := .int) (by decide)
      have g158 : Go p e below T154 (mkF m 70 #[iv p0, iv p1, iv p2, iv p3, iv p4, rv b102, rv b120, rv r142, .unset, .unset, .unset, .unset] [(.ref b154)]) A0 := fun t kont => g153 t (st154 t kont)
      have g159 : Go p e below T154 (mkF m 74 #[iv p0, iv p1, iv p2, iv p3, iv p4, rv b102, rv b120, rv r142, .unset, .unset, .unset, .unset] [(.int p2), (.ref b120), (.ref b154), (.ref b154)]) A0 := by
        intro t kont
        refine g158 t ?_
        refine XS.dup X154.here hx rfl (hb hby at_70) rfl rfl ?_
        show Steps p.tables e below (T154.setTop (mkF m 71 #[iv p0, iv p1, iv p2, iv p3, iv p4, rv b102, rv b120, rv r142, .unset, .unset, .unset, .unset] [(.ref b154), (.ref b154)])) _
        refine XS.aload X154.here hx rfl (hb hby at_71) rfl rfl ?_
        show Steps p.tables e below (T154.setTop (mkF m 73 #[iv p0, iv p1, iv p2, iv p3, iv p4, rv b102, rv b120, rv r142, .unset, .unset, .unset, .unset] [(.ref b120), (.ref b154), (.ref b154)])) _
        refine XS.iloadN X154.here hx rfl (hb hby at_73) rfl ?_
        show Steps p.tables e below (T154.setTop (mkF m 74 #[iv p0, iv p1, iv p2, iv p3, iv p4, rv b102, rv b120, rv r142, .unset, .unset, .unset, .unset] [(.int p2), (.ref b120), (.ref b154), (.ref b154)])) _
        exact kont
      have ge161 : n0 ≤ b154 := Nat.le_trans (own_old_le O151) (Nat.le_of_eq gb154.symm)
      obtain ⟨_, _, ⟨T160, L160, k160, n160⟩, -, X160, ⟨Lc160, hQ160, l160, y160, z160⟩, st160⟩ := X154.specialBack hx (y := (⟨"com/example/subsume/subsume/engine/Individual", "<init>", "(Ljava/lang/String;I)V"⟩ : MethodName)) rfl hown (mvT hZ (hw _ (List.mem_of_getElem? (i := 47) rfl))) (mvT hZ (hw _ (List.mem_of_getElem? (i := 48) rfl))) (mvT hZ (hw _ (List.mem_of_getElem? (i := 49) rfl))) (by decide) (backOf (W := 1) (rm_indI l Z a0 hw [] b154 (.ref b120) p2 h154 n0 O155 (rfl) y156 y157 A154 ge161) hZ (hw _ (List.mem_of_getElem? (i := 49) rfl)) (hw _ (List.mem_of_getElem? (i := 46) rfl)) (by decide) (by decide)) (g := (mkF m 74 #[iv p0, iv p1, iv p2, iv p3, iv p4, rv b102, rv b120, rv r142, .unset, .unset, .unset, .unset] [(.int p2), (.ref b120), (.ref b154), (.ref b154)])) rfl (by rw [hml]; rfl) (Steps.refl _) (a := b154) (argsL := [(.ref b120), (.int p2)]) (rest := [(.ref b154)]) (lenOf pd_13 rfl) rfl (by show 2 * 0 + _ ≤ _; exact Nat.le_of_eq rfl) (hb hby at_74) (fun _ _ => ⟨rfl, e154, (by decide : 6 + 0 ≤ _), (by decide : 15 + 0 ≤ _)⟩)
      dsimp only [Pt.U, Pt.locs, Pt.cells, Pt.slots] at X160 l160 y160 z160 st160 hQ160
      subst l160 y160 z160
      obtain ⟨rfl, M160, K160, y162⟩ := hQ160
      have N160 := Fr.app N141 M160
      have O163 := O155.keep K160 (allS ge161 all0)
      have g164 : Go p e below T160 (mkF m 77 #[iv p0, iv p1, iv p2, iv p3, iv p4, rv b102, rv b120, rv r142, .unset, .unset, .unset, .unset] [(.ref b154)]) A0 := fun t kont => g159 t (st160.trans kont)
      have g166 : Go p e below T160 (mkF m 83 #[iv p0, iv p1, iv p2, iv p3, iv p4, rv b102, rv b120, rv r142, rv b154, .unset, .unset, .unset] [(.int (p4 &&& (4 : Int32)))]) A0 := by
        intro t kont
        refine g164 t ?_
        refine XS.astore X160.here hx rfl (hb hby at_77) rfl rfl (l' := #[iv p0, iv p1, iv p2, iv p3, iv p4, rv b102, rv b120, rv r142, rv b154, .unset, .unset, .unset]) rfl ?_
        show Steps p.tables e below (T160.setTop (mkF m 79 #[iv p0, iv p1, iv p2, iv p3, iv p4, rv b102, rv b120, rv r142, rv b154, .unset, .unset, .unset] [])) _
        refine XS.iload X160.here hx rfl (hb hby at_79) rfl ?_
        show Steps p.tables e below (T160.setTop (mkF m 81 #[iv p0, iv p1, iv p2, iv p3, iv p4, rv b102, rv b120, rv r142, rv b154, .unset, .unset, .unset] [(.int p4)])) _
        refine XS.iconst X160.here hx rfl (hb hby at_81) ?_
        show Steps p.tables e below (T160.setTop (mkF m 82 #[iv p0, iv p1, iv p2, iv p3, iv p4, rv b102, rv b120, rv r142, rv b154, .unset, .unset, .unset] [(.int (4 : Int32)), (.int p4)])) _
        refine XS.iand X160.here hx rfl (hb hby at_82) rfl ?_
        show Steps p.tables e below (T160.setTop (mkF m 83 #[iv p0, iv p1, iv p2, iv p3, iv p4, rv b102, rv b120, rv r142, rv b154, .unset, .unset, .unset] [(.int (p4 &&& (4 : Int32)))])) _
        exact kont
      by_cases c165 : (p4 &&& (4 : Int32)) = (0 : Int32)
      ·
        have g168 : Go p e below T160 (mkF m 98 #[iv p0, iv p1, iv p2, iv p3, iv p4, rv b102, rv b120, rv r142, rv b154, .unset, .unset, .unset] [(.int (p4 &&& (8 : Int32)))]) A0 := by
          intro t kont
          refine g166 t ?_
          refine XS.ifYes X160.here hx rfl (pc0 := 83) (pc' := 93) rfl (hb hby at_83) rfl ((if0 _ _).trans (teq c165).1) (by decide) (by decide) ?_
          show Steps p.tables e below (T160.setTop (mkF m 93 #[iv p0, iv p1, iv p2, iv p3, iv p4, rv b102, rv b120, rv r142, rv b154, .unset, .unset, .unset] [])) _
          refine XS.iload X160.here hx rfl (hb hby at_93) rfl ?_
          show Steps p.tables e below (T160.setTop (mkF m 95 #[iv p0, iv p1, iv p2, iv p3, iv p4, rv b102, rv b120, rv r142, rv b154, .unset, .unset, .unset] [(.int p4)])) _
          refine XS.bipush X160.here hx rfl (hb hby at_95) ?_
          show Steps p.tables e below (T160.setTop (mkF m 97 #[iv p0, iv p1, iv p2, iv p3, iv p4, rv b102, rv b120, rv r142, rv b154, .unset, .unset, .unset] [(.int (8 : Int32)), (.int p4)])) _
          refine XS.iand X160.here hx rfl (hb hby at_97) rfl ?_
          show Steps p.tables e below (T160.setTop (mkF m 98 #[iv p0, iv p1, iv p2, iv p3, iv p4, rv b102, rv b120, rv r142, rv b154, .unset, .unset, .unset] [(.int (p4 &&& (8 : Int32)))])) _
          exact kont
        by_cases c167 : (p4 &&& (8 : Int32)) = (0 : Int32)
        ·
          have g169 : Go p e below T160 (mkF m 116 #[iv p0, iv p1, iv p2, iv p3, iv p4, rv b102, rv b120, rv r142, rv b154, .unset, .unset, .unset] []) A0 := by
            intro t kont
            refine g168 t ?_
            refine XS.ifYes X160.here hx rfl (pc0 := 98) (pc' := 116) rfl (hb hby at_98) rfl ((if0 _ _).trans (teq c167).1) (by decide) (by decide) ?_
            show Steps p.tables e below (T160.setTop (mkF m 116 #[iv p0, iv p1, iv p2, iv p3, iv p4, rv b102, rv b120, rv r142, rv b154, .unset, .unset, .unset] [])) _
            exact kont
          obtain ⟨T170, h170, X170, e170, E170, A170, D170, -, st170⟩ := newO X160 hx hZ hown (hw _ (List.mem_of_getElem? (i := 44) rfl)) (hw _ (List.mem_of_getElem? (i := 45) rfl)) (hw _ (List.mem_of_getElem? (i := 46) rfl)) rfl (g := (mkF m 116 #[iv p0, iv p1, iv p2, iv p3, iv p4, rv b102, rv b120, rv r142, rv b154, .unset, .unset, .unset] [])) rfl (hb hby at_116) (by decide) (by decide)
          obtain ⟨b170, gb170⟩ : ∃ z, z = T160.heap.size := ⟨_, rfl⟩
          rw [← gb170] at A170 D170 st170
          have O171 := O163.ext E170
          have y172 : Fld Z h170 b170 "com/example/subsume/subsume/engine/Individual" "name" "Ljava/lang/String;" .null := D170 (Or.inr (hw _ (List.mem_of_getElem? (i := 52) rfl))) (ty := (.object "java/lang/String")) (by decide)
          have y173 : Fld Z h170 b170 "com/example/subsume/subsume/engine/Individual" "id" "I" (.int (0 : Int32)) := D170 (Or.inr (hw _ (List.mem_of_getElem? (i := 54) rfl))) (ty := .int) (by decide)
          have g174 : Go p e below T170 (mkF m 119 #[iv p0, iv p1, iv p2, iv p3, iv p4, rv b102, rv b120, rv r142, rv b154, .unset, .unset, .unset] [(.ref b170)]) A0 := fun t kont => g169 t (st170 t kont)
          have g175 : Go p e below T170 (mkF m 123 #[iv p0, iv p1, iv p2, iv p3, iv p4, rv b102, rv b120, rv r142, rv b154, .unset, .unset, .unset] [(.int p3), (.ref r142), (.ref b170), (.ref b170)]) A0 := by
            intro t kont
            refine g174 t ?_
            refine XS.dup X170.here hx rfl (hb hby at_119) rfl rfl ?_
            show Steps p.tables e below (T170.setTop (mkF m 120 #[iv p0, iv p1, iv p2, iv p3, iv p4, rv b102, rv b120, rv r142, rv b154, .unset, .unset, .unset] [(.ref b170), (.ref b170)])) _
            refine XS.aload X170.here hx rfl (hb hby at_120) rfl rfl ?_
            show Steps p.tables e below (T170.setTop (mkF m 122 #[iv p0, iv p1, iv p2, iv p3, iv p4, rv b102, rv b120, rv r142, rv b154, .unset, .unset, .unset] [(.ref r142), (.ref b170), (.ref b170)])) _
            refine XS.iloadN X170.here hx rfl (hb hby at_122) rfl ?_
            show Steps p.tables e below (T170.setTop (mkF m 123 #[iv p0, iv p1, iv p2, iv p3, iv p4, rv b102, rv b120, rv r142, rv b154, .unset, .unset, .unset] [(.int p3), (.ref r142), (.ref b170), (.ref b170)])) _
            exact kont
          have ge177 : n0 ≤ b170 := Nat.le_trans (own_old_le O163) (Nat.le_of_eq gb170.symm)
          obtain ⟨_, _, ⟨T176, L176, k176, n176⟩, -, X176, ⟨Lc176, hQ176, l176, y176, z176⟩, st176⟩ := X170.specialBack hx (y := (⟨"com/example/subsume/subsume/engine/Individual", "<init>", "(Ljava/lang/String;I)V"⟩ : MethodName)) rfl hown (mvT hZ (hw _ (List.mem_of_getElem? (i := 47) rfl))) (mvT hZ (hw _ (List.mem_of_getElem? (i := 48) rfl))) (mvT hZ (hw _ (List.mem_of_getElem? (i := 49) rfl))) (by decide) (backOf (W := 1) (rm_indI l Z a0 hw [] b170 (.ref r142) p3 h170 n0 O171 (rfl) y172 y173 A170 ge177) hZ (hw _ (List.mem_of_getElem? (i := 49) rfl)) (hw _ (List.mem_of_getElem? (i := 46) rfl)) (by decide) (by decide)) (g := (mkF m 123 #[iv p0, iv p1, iv p2, iv p3, iv p4, rv b102, rv b120, rv r142, rv b154, .unset, .unset, .unset] [(.int p3), (.ref r142), (.ref b170), (.ref b170)])) rfl (by rw [hml]; rfl) (Steps.refl _) (a := b170) (argsL := [(.ref r142), (.int p3)]) (rest := [(.ref b170)]) (lenOf pd_13 rfl) rfl (by show 2 * 0 + _ ≤ _; exact Nat.le_of_eq rfl) (hb hby at_123) (fun _ _ => ⟨rfl, e170, (by decide : 7 + 0 ≤ _), (by decide : 17 + 0 ≤ _)⟩)
          dsimp only [Pt.U, Pt.locs, Pt.cells, Pt.slots] at X176 l176 y176 z176 st176 hQ176
          subst l176 y176 z176
          obtain ⟨rfl, M176, K176, y178⟩ := hQ176
          have N176 := Fr.app N160 M176
          have O179 := O171.keep K176 (allS ge177 all0)
          have g180 : Go p e below T176 (mkF m 126 #[iv p0, iv p1, iv p2, iv p3, iv p4, rv b102, rv b120, rv r142, rv b154, .unset, .unset, .unset] [(.ref b170)]) A0 := fun t kont => g175 t (st176.trans kont)
          have g181 : Go p e below T176 (mkF m 128 #[iv p0, iv p1, iv p2, iv p3, iv p4, rv b102, rv b120, rv r142, rv b154, rv b170, .unset, .unset] []) A0 := by
            intro t kont
            refine g180 t ?_
            refine XS.astore X176.here hx rfl (hb hby at_126) rfl rfl (l' := #[iv p0, iv p1, iv p2, iv p3, iv p4, rv b102, rv b120, rv r142, rv b154, rv b170, .unset, .unset]) rfl ?_
            show Steps p.tables e below (T176.setTop (mkF m 128 #[iv p0, iv p1, iv p2, iv p3, iv p4, rv b102, rv b120, rv r142, rv b154, rv b170, .unset, .unset] [])) _
            exact kont
          obtain ⟨T182, h182, X182, e182, E182, A182, D182, -, st182⟩ := newO X176 hx hZ hown (hw _ (List.mem_of_getElem? (i := 55) rfl)) (hw _ (List.mem_of_getElem? (i := 56) rfl)) (hw _ (List.mem_of_getElem? (i := 57) rfl)) rfl (g := (mkF m 128 #[iv p0, iv p1, iv p2, iv p3, iv p4, rv b102, rv b120, rv r142, rv b154, rv b170, .unset, .unset] [])) rfl (hb hby at_128) (by decide) (by decide)
          obtain ⟨b182, gb182⟩ : ∃ z, z = T176.heap.size := ⟨_, rfl⟩
          rw [← gb182] at A182 D182 st182
          have O183 := O179.ext E182
          have y184 : Fld Z h182 b182 "com/example/subsume/subsume/engine/IndividualEquality" "individual" "Lcom/example/subsume/subsume/engine/Individual;" .null := D182 (Or.inr (hw _ (List.mem_of_getElem? (i := 68) rfl))) (ty := (.object "com/example/subsume/subsume/engine/Individual")) (by decide)
          have y185 : Fld Z h182 b182 "com/example/subsume/subsume/engine/IndividualEquality" "other" "Lcom/example/subsume/subsume/engine/Individual;" .null := D182 (Or.inr (hw _ (List.mem_of_getElem? (i := 70) rfl))) (ty := (.object "com/example/subsume/subsume/engine/Individual")) (by decide)
          have g186 : Go p e below T182 (mkF m 131 #[iv p0, iv p1, iv p2, iv p3, iv p4, rv b102, rv b120, rv r142, rv b154, rv b170, .unset, .unset] [(.ref b182)]) A0 := fun t kont => g181 t (st182 t kont)
          have g187 : Go p e below T182 (mkF m 136 #[iv p0, iv p1, iv p2, iv p3, iv p4, rv b102, rv b120, rv r142, rv b154, rv b170, .unset, .unset] [(.ref b170), (.ref b154), (.ref b182), (.ref b182)]) A0 := by
            intro t kont
            refine g186 t ?_
            refine XS.dup X182.here hx rfl (hb hby at_131) rfl rfl ?_
            show Steps p.tables e below (T182.setTop (mkF m 132 #[iv p0, iv p1, iv p2, iv p3, iv p4, rv b102, rv b120, rv r142, rv b154, rv b170, .unset, .unset] [(.ref b182), (.ref b182)])) _
            refine XS.aload X182.here hx rfl (hb hby at_132) rfl rfl ?_
            show Steps p.tables e below (T182.setTop (mkF m 134 #[iv p0, iv p1, iv p2, iv p3, iv p4, rv b102, rv b120, rv r142, rv b154, rv b170, .unset, .unset] [(.ref b154), (.ref b182), (.ref b182)])) _
            refine XS.aload X182.here hx rfl (hb hby at_134) rfl rfl ?_
            show Steps p.tables e below (T182.setTop (mkF m 136 #[iv p0, iv p1, iv p2, iv p3, iv p4, rv b102, rv b120, rv r142, rv b154, rv b170, .unset, .unset] [(.ref b170), (.ref b154), (.ref b182), (.ref b182)])) _
            exact kont
          have ge189 : n0 ≤ b182 := Nat.le_trans (own_old_le O179) (Nat.le_of_eq gb182.symm)
          obtain ⟨_, _, ⟨T188, L188, k188, n188⟩, -, X188, ⟨Lc188, hQ188, l188, y188, z188⟩, st188⟩ := X182.specialBack hx (y := (⟨"com/example/subsume/subsume/engine/IndividualEquality", "<init>", "(Lcom/example/subsume/subsume/engine/Individual;Lcom/example/subsume/subsume/engine/Individual;)V"⟩ : MethodName)) rfl hown (mvT hZ (hw _ (List.mem_of_getElem? (i := 58) rfl))) (mvT hZ (hw _ (List.mem_of_getElem? (i := 59) rfl))) (mvT hZ (hw _ (List.mem_of_getElem? (i := 60) rfl))) (by decide) (backOf (W := 1) (rm_relI l Z a0 hw [] b182 b154 b170 h182 n0 O183 y184 y185 A182 ge189) hZ (hw _ (List.mem_of_getElem? (i := 60) rfl)) (hw _ (List.mem_of_getElem? (i := 57) rfl)) (by decide) (by decide)) (g := (mkF m 136 #[iv p0, iv p1, iv p2, iv p3, iv p4, rv b102, rv b120, rv r142, rv b154, rv b170, .unset, .unset] [(.ref b170), (.ref b154), (.ref b182), (.ref b182)])) rfl (by rw [hml]; rfl) (Steps.refl _) (a := b182) (argsL := [(.ref b154), (.ref b170)]) (rest := [(.ref b182)]) (lenOf pd_14 rfl) rfl (by show 2 * 0 + _ ≤ _; exact Nat.le_of_eq rfl) (hb hby at_136) (fun _ _ => ⟨rfl, e182, (by decide : 8 + 0 ≤ _), (by decide : 19 + 0 ≤ _)⟩)
          dsimp only [Pt.U, Pt.locs, Pt.cells, Pt.slots] at X188 l188 y188 z188 st188 hQ188
          subst l188 y188 z188
          obtain ⟨rfl, M188, K188, y190, y191, y192⟩ := hQ188
          have N188 := Fr.app N176 M188
          have O193 := O183.keep K188 (allS ge189 all0)
          have g194 : Go p e below T188 (mkF m 139 #[iv p0, iv p1, iv p2, iv p3, iv p4, rv b102, rv b120, rv r142, rv b154, rv b170, .unset, .unset] [(.ref b182)]) A0 := fun t kont => g187 t (st188.trans kont)
          have g195 : Go p e below T188 (mkF m 143 #[iv p0, iv p1, iv p2, iv p3, iv p4, rv b102, rv b120, rv r142, rv b154, rv b170, rv b182, .unset] [(.ref b182)]) A0 := by
            intro t kont
            refine g194 t ?_
            refine XS.astore X188.here hx rfl (hb hby at_139) rfl rfl (l' := #[iv p0, iv p1, iv p2, iv p3, iv p4, rv b102, rv b120, rv r142, rv b154, rv b170, rv b182, .unset]) rfl ?_
            show Steps p.tables e below (T188.setTop (mkF m 141 #[iv p0, iv p1, iv p2, iv p3, iv p4, rv b102, rv b120, rv r142, rv b154, rv b170, rv b182, .unset] [])) _
            refine XS.aload X188.here hx rfl (hb hby at_141) rfl rfl ?_
            show Steps p.tables e below (T188.setTop (mkF m 143 #[iv p0, iv p1, iv p2, iv p3, iv p4, rv b102, rv b120, rv r142, rv b154, rv b170, rv b182, .unset] [(.ref b182)])) _
            exact kont
          obtain ⟨cq196, kq196, q196a, q196b, q196c⟩ := isOf hZ rfl y190
          obtain ⟨_, _, ⟨T196, L196, k196, n196⟩, -, X196, ⟨Lc196, hQ196, l196, y196, z196⟩, st196⟩ := X188.virtualBack hx (y := (⟨"com/example/subsume/subsume/engine/IndividualEquality", "individuals", "()Ljava/util/List;"⟩ : MethodName)) (z := (⟨"com/example/subsume/subsume/engine/IndividualEquality", "individuals", "()Ljava/util/List;"⟩ : MethodName)) hown (mvT hZ (hw _ (List.mem_of_getElem? (i := 71) rfl))) (mvT hZ (hw _ (List.mem_of_getElem? (i := 72) rfl))) (notFace_of_selects (args := #[]) (mvT hZ (hw _ (List.mem_of_getElem? (i := 74) rfl)))) (mvT hZ (hw _ (List.mem_of_getElem? (i := 74) rfl))) (mvT hZ (hw _ (List.mem_of_getElem? (i := 73) rfl))) (by decide) (backOf (W := 0) (rm_inds l Z a0 hw [] b182 b154 b170 T188.heap n0 O193 y191 y192) hZ (hw _ (List.mem_of_getElem? (i := 75) rfl)) (hw _ (List.mem_of_getElem? (i := 57) rfl)) (by decide) (by decide)) q196a q196c (g := (mkF m 143 #[iv p0, iv p1, iv p2, iv p3, iv p4, rv b102, rv b120, rv r142, rv b154, rv b170, rv b182, .unset] [(.ref b182)])) rfl (by rw [hml]; rfl) (Steps.refl _) (argsL := []) (rest := []) (lenOf pd_15 rfl) rfl (by show 2 * 0 + _ ≤ _; exact Nat.le_of_eq rfl) (hb hby at_143) (fun _ _ => ⟨rfl, rfl, (by decide : 8 + 1 ≤ _), (by decide : 19 + 2 ≤ _)⟩)
          dsimp only [Pt.U, Pt.locs, Pt.cells, Pt.slots] at X196 l196 y196 z196 st196 hQ196
          subst l196 y196 z196
          obtain ⟨r197, rfl, M196, K196, y198, y199, y200, y201⟩ := hQ196
          have N196 := Fr.app N188 M196
          have O202 := O193.keep K196 all0
          have g203 : Go p e below T196 (mkF m 146 #[iv p0, iv p1, iv p2, iv p3, iv p4, rv b102, rv b120, rv r142, rv b154, rv b170, rv b182, .unset] [(.ref r197)]) A0 := fun t kont => g195 t (st196.trans kont)
          have g204 : Go p e below T196 (mkF m 150 #[iv p0, iv p1, iv p2, iv p3, iv p4, rv b102, rv b120, rv r142, rv b154, rv b170, rv b182, rv r197] [(.ref r197)]) A0 := by
            intro t kont
            refine g203 t ?_
            refine XS.astore X196.here hx rfl (hb hby at_146) rfl rfl (l' := #[iv p0, iv p1, iv p2, iv p3, iv p4, rv b102, rv b120, rv r142, rv b154, rv b170, rv b182, rv r197]) rfl ?_
            show Steps p.tables e below (T196.setTop (mkF m 148 #[iv p0, iv p1, iv p2, iv p3, iv p4, rv b102, rv b120, rv r142, rv b154, rv b170, rv b182, rv r197] [])) _
            refine XS.aload X196.here hx rfl (hb hby at_148) rfl rfl ?_
            show Steps p.tables e below (T196.setTop (mkF m 150 #[iv p0, iv p1, iv p2, iv p3, iv p4, rv b102, rv b120, rv r142, rv b154, rv b170, rv b182, rv r197] [(.ref r197)])) _
            exact kont
          obtain ⟨cq205, kq205, q205a, q205b, q205c⟩ := isOf hZ rfl y199
          obtain ⟨_, _, ⟨T205, L205, k205, n205⟩, -, X205, ⟨Lc205, hQ205, l205, y205, z205⟩, st205⟩ := X196.interfaceBack hx (xi := (⟨"java/util/List", "size", "()I"⟩ : MethodName)) (y := (⟨"java/util/ImmutableCollections$List12", "size", "()I"⟩ : MethodName)) hown (mvT hZ (hw _ (List.mem_of_getElem? (i := 114) rfl))) (mvT hZ (hw _ (List.mem_of_getElem? (i := 115) rfl))) (mvT hZ (hw _ (List.mem_of_getElem? (i := 116) rfl))) (mvT hZ (hw _ (List.mem_of_getElem? (i := 117) rfl))) (mvT hZ (hw _ (List.mem_of_getElem? (i := 118) rfl))) (mvT hZ (hw _ (List.mem_of_getElem? (i := 119) rfl))) (mvT hZ (hw _ (List.mem_of_getElem? (i := 120) rfl))) (mvT hZ (hw _ (List.mem_of_getElem? (i := 121) rfl))) (by decide) (backOf (W := 0) (rm_siz l Z a0 hw [] r197 b170 w_EMPTY T196.heap n0 O202 y201 S1_ (Ne.symm (O202.ne ZE3_.lt ge177))) hZ (hw _ (List.mem_of_getElem? (i := 122) rfl)) (hw _ (List.mem_of_getElem? (i := 82) rfl)) (by decide) (by decide)) q205a q205b q205c (g := (mkF m 150 #[iv p0, iv p1, iv p2, iv p3, iv p4, rv b102, rv b120, rv r142, rv b154, rv b170, rv b182, rv r197] [(.ref r197)])) rfl (by rw [hml]; rfl) (Steps.refl _) (argsL := []) (rest := []) (lenOf pd_16 rfl) rfl (by show 2 * 0 + _ ≤ _; exact Nat.le_of_eq rfl) (hb hby at_150) (fun _ _ => ⟨rfl, rfl, (by decide : 9 + 0 ≤ _), (by decide : 21 + 0 ≤ _)⟩)
          dsimp only [Pt.U, Pt.locs, Pt.cells, Pt.slots] at X205 l205 y205 z205 st205 hQ205
          subst l205 y205 z205
          obtain ⟨rfl, M205, e205⟩ := hQ205
          have N205 := Fr.app N196 M205
          have g206 : Go p e below T205 (mkF m 155 #[iv p0, iv p1, iv p2, iv p3, iv p4, rv b102, rv b120, rv r142, rv b154, rv b170, rv b182, rv r197] [(.int (2 : Int32))]) A0 := fun t kont => g204 t (st205.trans kont)
          have g207 : Go p e below T205 (mkF m 164 #[iv p0, iv p1, iv p2, iv p3, iv p4, rv b102, rv b120, rv r142, rv b154, rv b170, rv b182, rv r197] [(.int (0 : Int32)), (.ref r197)]) A0 := by
            intro t kont
            refine g206 t ?_
            refine XS.iconst X205.here hx rfl (hb hby at_155) ?_
            show Steps p.tables e below (T205.setTop (mkF m 156 #[iv p0, iv p1, iv p2, iv p3, iv p4, rv b102, rv b120, rv r142, rv b154, rv b170, rv b182, rv r197] [(.int (2 : Int32)), (.int (2 : Int32))])) _
            refine XS.icmpYes X205.here hx rfl (pc0 := 156) (pc' := 161) rfl (hb hby at_156) rfl (teq (by decide : (2 : Int32) = (2 : Int32))).1 (by decide) (by decide) ?_
            show Steps p.tables e below (T205.setTop (mkF m 161 #[iv p0, iv p1, iv p2, iv p3, iv p4, rv b102, rv b120, rv r142, rv b154, rv b170, rv b182, rv r197] [])) _
            refine XS.aload X205.here hx rfl (hb hby at_161) rfl rfl ?_
            show Steps p.tables e below (T205.setTop (mkF m 163 #[iv p0, iv p1, iv p2, iv p3, iv p4, rv b102, rv b120, rv r142, rv b154, rv b170, rv b182, rv r197] [(.ref r197)])) _
            refine XS.iconst X205.here hx rfl (hb hby at_163) ?_
            show Steps p.tables e below (T205.setTop (mkF m 164 #[iv p0, iv p1, iv p2, iv p3, iv p4, rv b102, rv b120, rv r142, rv b154, rv b170, rv b182, rv r197] [(.int (0 : Int32)), (.ref r197)])) _
            exact kont
          obtain ⟨cq208, kq208, q208a, q208b, q208c⟩ := isOf hZ e205 y199
          obtain ⟨_, _, ⟨T208, L208, k208, n208⟩, -, X208, ⟨Lc208, hQ208, l208, y208, z208⟩, st208⟩ := X205.interfaceBack hx (xi := (⟨"java/util/List", "get", "(I)Ljava/lang/Object;"⟩ : MethodName)) (y := (⟨"java/util/ImmutableCollections$List12", "get", "(I)Ljava/lang/Object;"⟩ : MethodName)) hown (mvT hZ (hw _ (List.mem_of_getElem? (i := 125) rfl))) (mvT hZ (hw _ (List.mem_of_getElem? (i := 126) rfl))) (mvT hZ (hw _ (List.mem_of_getElem? (i := 127) rfl))) (mvT hZ (hw _ (List.mem_of_getElem? (i := 128) rfl))) (mvT hZ (hw _ (List.mem_of_getElem? (i := 129) rfl))) (mvT hZ (hw _ (List.mem_of_getElem? (i := 130) rfl))) (mvT hZ (hw _ (List.mem_of_getElem? (i := 131) rfl))) (mvT hZ (hw _ (List.mem_of_getElem? (i := 121) rfl))) (by decide) (backOf (W := 0) (rm_get0 l Z a0 hw [] r197 b154 T196.heap n0 O202 y200) hZ (hw _ (List.mem_of_getElem? (i := 132) rfl)) (hw _ (List.mem_of_getElem? (i := 82) rfl)) (by decide) (by decide)) q208a q208b q208c (g := (mkF m 164 #[iv p0, iv p1, iv p2, iv p3, iv p4, rv b102, rv b120, rv r142, rv b154, rv b170, rv b182, rv r197] [(.int (0 : Int32)), (.ref r197)])) rfl (by rw [hml]; rfl) (Steps.refl _) (argsL := [(.int (0 : Int32))]) (rest := []) (lenOf pd_17 rfl) rfl (by show 2 * 0 + _ ≤ _; exact Nat.le_of_eq rfl) (hb hby at_164) (fun _ _ => ⟨rfl, e205, (by decide : 9 + 0 ≤ _), (by decide : 21 + 0 ≤ _)⟩)
          dsimp only [Pt.U, Pt.locs, Pt.cells, Pt.slots] at X208 l208 y208 z208 st208 hQ208
          subst l208 y208 z208
          obtain ⟨rfl, M208, e208⟩ := hQ208
          have N208 := Fr.app N205 M208
          have g209 : Go p e below T208 (mkF m 169 #[iv p0, iv p1, iv p2, iv p3, iv p4, rv b102, rv b120, rv r142, rv b154, rv b170, rv b182, rv r197] [(.ref b154)]) A0 := fun t kont => g207 t (st208.trans kont)
          have g210 : Go p e below T208 (mkF m 177 #[iv p0, iv p1, iv p2, iv p3, iv p4, rv b102, rv b120, rv r142, rv b154, rv b170, rv b182, rv r197] [(.int (1 : Int32)), (.ref r197)]) A0 := by
            intro t kont
            refine g209 t ?_
            refine XS.aload X208.here hx rfl (hb hby at_169) rfl rfl ?_
            show Steps p.tables e below (T208.setTop (mkF m 171 #[iv p0, iv p1, iv p2, iv p3, iv p4, rv b102, rv b120, rv r142, rv b154, rv b170, rv b182, rv r197] [(.ref b154), (.ref b154)])) _
            refine Jvm.RoadKit.acmp (g := (mkF m 171 #[iv p0, iv p1, iv p2, iv p3, iv p4, rv b102, rv b120, rv r142, rv b154, rv b170, rv b182, rv r197] [(.ref b154), (.ref b154)])) X208 hx rfl rfl rfl (pc0 := 171) (pc' := 174) (same := true) rfl (hb hby at_171) rfl (decide_eq_true rfl) (by decide) (by decide) ?_
            show Steps p.tables e below (T208.setTop (mkF m 174 #[iv p0, iv p1, iv p2, iv p3, iv p4, rv b102, rv b120, rv r142, rv b154, rv b170, rv b182, rv r197] [])) _
            refine XS.aload X208.here hx rfl (hb hby at_174) rfl rfl ?_
            show Steps p.tables e below (T208.setTop (mkF m 176 #[iv p0, iv p1, iv p2, iv p3, iv p4, rv b102, rv b120, rv r142, rv b154, rv b170, rv b182, rv r197] [(.ref r197)])) _
            refine XS.iconst X208.here hx rfl (hb hby at_176) ?_
            show Steps p.tables e below (T208.setTop (mkF m 177 #[iv p0, iv p1, iv p2, iv p3, iv p4, rv b102, rv b120, rv r142, rv b154, rv b170, rv b182, rv r197] [(.int (1 : Int32)), (.ref r197)])) _
            exact kont
          obtain ⟨cq211, kq211, q211a, q211b, q211c⟩ := isOf hZ e208 y199
          obtain ⟨_, _, ⟨T211, L211, k211, n211⟩, -, X211, ⟨Lc211, hQ211, l211, y211, z211⟩, st211⟩ := X208.interfaceBack hx (xi := (⟨"java/util/List", "get", "(I)Ljava/lang/Object;"⟩ : MethodName)) (y := (⟨"java/util/ImmutableCollections$List12", "get", "(I)Ljava/lang/Object;"⟩ : MethodName)) hown (mvT hZ (hw _ (List.mem_of_getElem? (i := 125) rfl))) (mvT hZ (hw _ (List.mem_of_getElem? (i := 126) rfl))) (mvT hZ (hw _ (List.mem_of_getElem? (i := 127) rfl))) (mvT hZ (hw _ (List.mem_of_getElem? (i := 128) rfl))) (mvT hZ (hw _ (List.mem_of_getElem? (i := 129) rfl))) (mvT hZ (hw _ (List.mem_of_getElem? (i := 130) rfl))) (mvT hZ (hw _ (List.mem_of_getElem? (i := 131) rfl))) (mvT hZ (hw _ (List.mem_of_getElem? (i := 121) rfl))) (by decide) (backOf (W := 0) (rm_get1 l Z a0 hw [] r197 b170 w_EMPTY T196.heap n0 O202 y201 S1_ (Ne.symm (O202.ne ZE3_.lt ge177))) hZ (hw _ (List.mem_of_getElem? (i := 132) rfl)) (hw _ (List.mem_of_getElem? (i := 82) rfl)) (by decide) (by decide)) q211a q211b q211c (g := (mkF m 177 #[iv p0, iv p1, iv p2, iv p3, iv p4, rv b102, rv b120, rv r142, rv b154, rv b170, rv b182, rv r197] [(.int (1 : Int32)), (.ref r197)])) rfl (by rw [hml]; rfl) (Steps.refl _) (argsL := [(.int (1 : Int32))]) (rest := []) (lenOf pd_17 rfl) rfl (by show 2 * 0 + _ ≤ _; exact Nat.le_of_eq rfl) (hb hby at_177) (fun _ _ => ⟨rfl, e208, (by decide : 9 + 0 ≤ _), (by decide : 21 + 0 ≤ _)⟩)
          dsimp only [Pt.U, Pt.locs, Pt.cells, Pt.slots] at X211 l211 y211 z211 st211 hQ211
          subst l211 y211 z211
          obtain ⟨rfl, M211, e211⟩ := hQ211
          have N211 := Fr.app N208 M211
          have g212 : Go p e below T211 (mkF m 182 #[iv p0, iv p1, iv p2, iv p3, iv p4, rv b102, rv b120, rv r142, rv b154, rv b170, rv b182, rv r197] [(.ref b170)]) A0 := fun t kont => g210 t (st211.trans kont)
          have g213 : Go p e below T211 (mkF m 192 #[iv p0, iv p1, iv p2, iv p3, iv p4, rv b102, rv b120, rv r142, rv b154, rv b170, rv b182, rv r197] [(.int (1 : Int32))]) A0 := by
            intro t kont
            refine g212 t ?_
            refine XS.aload X211.here hx rfl (hb hby at_182) rfl rfl ?_
            show Steps p.tables e below (T211.setTop (mkF m 184 #[iv p0, iv p1, iv p2, iv p3, iv p4, rv b102, rv b120, rv r142, rv b154, rv b170, rv b182, rv r197] [(.ref b170), (.ref b170)])) _
            refine Jvm.RoadKit.acmp (g := (mkF m 184 #[iv p0, iv p1, iv p2, iv p3, iv p4, rv b102, rv b120, rv r142, rv b154, rv b170, rv b182, rv r197] [(.ref b170), (.ref b170)])) X211 hx rfl rfl rfl (pc0 := 184) (pc' := 187) (same := true) rfl (hb hby at_184) rfl (decide_eq_true rfl) (by decide) (by decide) ?_
            show Steps p.tables e below (T211.setTop (mkF m 187 #[iv p0, iv p1, iv p2, iv p3, iv p4, rv b102, rv b120, rv r142, rv b154, rv b170, rv b182, rv r197] [])) _
            refine XS.iconst X211.here hx rfl (hb hby at_187) ?_
            show Steps p.tables e below (T211.setTop (mkF m 188 #[iv p0, iv p1, iv p2, iv p3, iv p4, rv b102, rv b120, rv r142, rv b154, rv b170, rv b182, rv r197] [(.int (1 : Int32))])) _
            refine XS.goto X211.here hx rfl (pc0 := 188) (pc' := 192) rfl (hb hby at_188) (by decide) (by decide) ?_
            show Steps p.tables e below (T211.setTop (mkF m 192 #[iv p0, iv p1, iv p2, iv p3, iv p4, rv b102, rv b120, rv r142, rv b154, rv b170, rv b182, rv r197] [(.int (1 : Int32))])) _
            exact kont
          obtain ⟨fs, hr, hrun, hended, hW, hsame⟩ := X211.leave (v := some (.int (1 : Int32))) (fun h => by rw [Bd.returns] at h; cases h)
          refine ⟨_, _, g213 _ (retN X211 hx (t := .boolean) Bd.returns (by simp) (hb hby at_192) hr), hrun, hended, _, _, rfl, ?_, ⟨_, rfl⟩, hW, hsame.mono (by decide) (by decide)⟩
          show Q_law Z p0 p1 p2 p3 p4 i_COMPACT_STRINGS w_EMPTY h0 n0 _ T211.heap _
          rw [e211]
          exact ⟨rfl, N211⟩
        have g214 : Go p e below T160 (mkF m 101 #[iv p0, iv p1, iv p2, iv p3, iv p4, rv b102, rv b120, rv r142, rv b154, .unset, .unset, .unset] []) A0 := by
          intro t kont
          refine g168 t ?_
          refine XS.ifNo X160.here hx rfl (hb hby at_98) rfl ((if0 _ _).trans (feq c167).1) ?_
          show Steps p.tables e below (T160.setTop (mkF m 101 #[iv p0, iv p1, iv p2, iv p3, iv p4, rv b102, rv b120, rv r142, rv b154, .unset, .unset, .unset] [])) _
          exact kont
        obtain ⟨T215, h215, X215, e215, E215, A215, D215, -, st215⟩ := newO X160 hx hZ hown (hw _ (List.mem_of_getElem? (i := 44) rfl)) (hw _ (List.mem_of_getElem? (i := 45) rfl)) (hw _ (List.mem_of_getElem? (i := 46) rfl)) rfl (g := (mkF m 101 #[iv p0, iv p1, iv p2, iv p3, iv p4, rv b102, rv b120, rv r142, rv b154, .unset, .unset, .unset] [])) rfl (hb hby at_101) (by decide) (by decide)
        obtain ⟨b215, gb215⟩ : ∃ z, z = T160.heap.size := ⟨_, rfl⟩
        rw [← gb215] at A215 D215 st215
        have O216 := O163.ext E215
        have y217 : Fld Z h215 b215 "com/example/subsume/subsume/engine/Individual" "name" "Ljava/lang/String;" .null := D215 (Or.inr (hw _ (List.mem_of_getElem? (i := 52) rfl))) (ty := (.object "java/lang/String")) (by decide)
        have y218 : Fld Z h215 b215 "com/example/subsume/subsume/engine/Individual" "id" "I" (.int (0 : Int32)) := D215 (Or.inr (hw _ (List.mem_of_getElem? (i := 54) rfl))) (ty := .int) (by decide)
        have g219 : Go p e below T215 (mkF m 104 #[iv p0, iv p1, iv p2, iv p3, iv p4, rv b102, rv b120, rv r142, rv b154, .unset, .unset, .unset] [(.ref b215)]) A0 := fun t kont => g214 t (st215 t kont)
        have g220 : Go p e below T215 (mkF m 108 #[iv p0, iv p1, iv p2, iv p3, iv p4, rv b102, rv b120, rv r142, rv b154, .unset, .unset, .unset] [(.int p2), (.ref b120), (.ref b215), (.ref b215)]) A0 := by
          intro t kont
          refine g219 t ?_
          refine XS.dup X215.here hx rfl (hb hby at_104) rfl rfl ?_
          show Steps p.tables e below (T215.setTop (mkF m 105 #[iv p0, iv p1, iv p2, iv p3, iv p4, rv b102, rv b120, rv r142, rv b154, .unset, .unset, .unset] [(.ref b215), (.ref b215)])) _
          refine XS.aload X215.here hx rfl (hb hby at_105) rfl rfl ?_
          show Steps p.tables e below (T215.setTop (mkF m 107 #[iv p0, iv p1, iv p2, iv p3, iv p4, rv b102, rv b120, rv r142, rv b154, .unset, .unset, .unset] [(.ref b120), (.ref b215), (.ref b215)])) _
          refine XS.iloadN X215.here hx rfl (hb hby at_107) rfl ?_
          show Steps p.tables e below (T215.setTop (mkF m 108 #[iv p0, iv p1, iv p2, iv p3, iv p4, rv b102, rv b120, rv r142, rv b154, .unset, .unset, .unset] [(.int p2), (.ref b120), (.ref b215), (.ref b215)])) _
          exact kont
        have ge222 : n0 ≤ b215 := Nat.le_trans (own_old_le O163) (Nat.le_of_eq gb215.symm)
        obtain ⟨_, _, ⟨T221, L221, k221, n221⟩, -, X221, ⟨Lc221, hQ221, l221, y221, z221⟩, st221⟩ := X215.specialBack hx (y := (⟨"com/example/subsume/subsume/engine/Individual", "<init>", "(Ljava/lang/String;I)V"⟩ : MethodName)) rfl hown (mvT hZ (hw _ (List.mem_of_getElem? (i := 47) rfl))) (mvT hZ (hw _ (List.mem_of_getElem? (i := 48) rfl))) (mvT hZ (hw _ (List.mem_of_getElem? (i := 49) rfl))) (by decide) (backOf (W := 1) (rm_indI l Z a0 hw [] b215 (.ref b120) p2 h215 n0 O216 (rfl) y217 y218 A215 ge222) hZ (hw _ (List.mem_of_getElem? (i := 49) rfl)) (hw _ (List.mem_of_getElem? (i := 46) rfl)) (by decide) (by decide)) (g := (mkF m 108 #[iv p0, iv p1, iv p2, iv p3, iv p4, rv b102, rv b120, rv r142, rv b154, .unset, .unset, .unset] [(.int p2), (.ref b120), (.ref b215), (.ref b215)])) rfl (by rw [hml]; rfl) (Steps.refl _) (a := b215) (argsL := [(.ref b120), (.int p2)]) (rest := [(.ref b215)]) (lenOf pd_13 rfl) rfl (by show 2 * 0 + _ ≤ _; exact Nat.le_of_eq rfl) (hb hby at_108) (fun _ _ => ⟨rfl, e215, (by decide : 7 + 0 ≤ _), (by decide : 17 + 0 ≤ _)⟩)
        dsimp only [Pt.U, Pt.locs, Pt.cells, Pt.slots] at X221 l221 y221 z221 st221 hQ221
        subst l221 y221 z221
        obtain ⟨rfl, M221, K221, y223⟩ := hQ221
        have N221 := Fr.app N160 M221
        have O224 := O216.keep K221 (allS ge222 all0)
        have g225 : Go p e below T221 (mkF m 111 #[iv p0, iv p1, iv p2, iv p3, iv p4, rv b102, rv b120, rv r142, rv b154, .unset, .unset, .unset] [(.ref b215)]) A0 := fun t kont => g220 t (st221.trans kont)
        have g226 : Go p e below T221 (mkF m 128 #[iv p0, iv p1, iv p2, iv p3, iv p4, rv b102, rv b120, rv r142, rv b154, rv b215, .unset, .unset] []) A0 := by
          intro t kont
          refine g225 t ?_
          refine XS.astore X221.here hx rfl (hb hby at_111) rfl rfl (l' := #[iv p0, iv p1, iv p2, iv p3, iv p4, rv b102, rv b120, rv r142, rv b154, rv b215, .unset, .unset]) rfl ?_
          show Steps p.tables e below (T221.setTop (mkF m 113 #[iv p0, iv p1, iv p2, iv p3, iv p4, rv b102, rv b120, rv r142, rv b154, rv b215, .unset, .unset] [])) _
          refine XS.goto X221.here hx rfl (pc0 := 113) (pc' := 128) rfl (hb hby at_113) (by decide) (by decide) ?_
          show Steps p.tables e below (T221.setTop (mkF m 128 #[iv p0, iv p1, iv p2, iv p3, iv p4, rv b102, rv b120, rv r142, rv b154, rv b215, .unset, .unset] [])) _
          exact kont
        obtain ⟨T227, h227, X227, e227, E227, A227, D227, -, st227⟩ := newO X221 hx hZ hown (hw _ (List.mem_of_getElem? (i := 55) rfl)) (hw _ (List.mem_of_getElem? (i := 56) rfl)) (hw _ (List.mem_of_getElem? (i := 57) rfl)) rfl (g := (mkF m 128 #[iv p0, iv p1, iv p2, iv p3, iv p4, rv b102, rv b120, rv r142, rv b154, rv b215, .unset, .unset] [])) rfl (hb hby at_128) (by decide) (by decide)
        obtain ⟨b227, gb227⟩ : ∃ z, z = T221.heap.size := ⟨_, rfl⟩
        rw [← gb227] at A227 D227 st227
        have O228 := O224.ext E227
        have y229 : Fld Z h227 b227 "com/example/subsume/subsume/engine/IndividualEquality" "individual" "Lcom/example/subsume/subsume/engine/Individual;" .null := D227 (Or.inr (hw _ (List.mem_of_getElem? (i := 68) rfl))) (ty := (.object "com/example/subsume/subsume/engine/Individual")) (by decide)
        have y230 : Fld Z h227 b227 "com/example/subsume/subsume/engine/IndividualEquality" "other" "Lcom/example/subsume/subsume/engine/Individual;" .null := D227 (Or.inr (hw _ (List.mem_of_getElem? (i := 70) rfl))) (ty := (.object "com/example/subsume/subsume/engine/Individual")) (by decide)
        have g231 : Go p e below T227 (mkF m 131 #[iv p0, iv p1, iv p2, iv p3, iv p4, rv b102, rv b120, rv r142, rv b154, rv b215, .unset, .unset] [(.ref b227)]) A0 := fun t kont => g226 t (st227 t kont)
        have g232 : Go p e below T227 (mkF m 136 #[iv p0, iv p1, iv p2, iv p3, iv p4, rv b102, rv b120, rv r142, rv b154, rv b215, .unset, .unset] [(.ref b215), (.ref b154), (.ref b227), (.ref b227)]) A0 := by
          intro t kont
          refine g231 t ?_
          refine XS.dup X227.here hx rfl (hb hby at_131) rfl rfl ?_
          show Steps p.tables e below (T227.setTop (mkF m 132 #[iv p0, iv p1, iv p2, iv p3, iv p4, rv b102, rv b120, rv r142, rv b154, rv b215, .unset, .unset] [(.ref b227), (.ref b227)])) _
          refine XS.aload X227.here hx rfl (hb hby at_132) rfl rfl ?_
          show Steps p.tables e below (T227.setTop (mkF m 134 #[iv p0, iv p1, iv p2, iv p3, iv p4, rv b102, rv b120, rv r142, rv b154, rv b215, .unset, .unset] [(.ref b154), (.ref b227), (.ref b227)])) _
          refine XS.aload X227.here hx rfl (hb hby at_134) rfl rfl ?_
          show Steps p.tables e below (T227.setTop (mkF m 136 #[iv p0, iv p1, iv p2, iv p3, iv p4, rv b102, rv b120, rv r142, rv b154, rv b215, .unset, .unset] [(.ref b215), (.ref b154), (.ref b227), (.ref b227)])) _
          exact kont
        have ge234 : n0 ≤ b227 := Nat.le_trans (own_old_le O224) (Nat.le_of_eq gb227.symm)
        obtain ⟨_, _, ⟨T233, L233, k233, n233⟩, -, X233, ⟨Lc233, hQ233, l233, y233, z233⟩, st233⟩ := X227.specialBack hx (y := (⟨"com/example/subsume/subsume/engine/IndividualEquality", "<init>", "(Lcom/example/subsume/subsume/engine/Individual;Lcom/example/subsume/subsume/engine/Individual;)V"⟩ : MethodName)) rfl hown (mvT hZ (hw _ (List.mem_of_getElem? (i := 58) rfl))) (mvT hZ (hw _ (List.mem_of_getElem? (i := 59) rfl))) (mvT hZ (hw _ (List.mem_of_getElem? (i := 60) rfl))) (by decide) (backOf (W := 1) (rm_relI l Z a0 hw [] b227 b154 b215 h227 n0 O228 y229 y230 A227 ge234) hZ (hw _ (List.mem_of_getElem? (i := 60) rfl)) (hw _ (List.mem_of_getElem? (i := 57) rfl)) (by decide) (by decide)) (g := (mkF m 136 #[iv p0, iv p1, iv p2, iv p3, iv p4, rv b102, rv b120, rv r142, rv b154, rv b215, .unset, .unset] [(.ref b215), (.ref b154), (.ref b227), (.ref b227)])) rfl (by rw [hml]; rfl) (Steps.refl _) (a := b227) (argsL := [(.ref b154), (.ref b215)]) (rest := [(.ref b227)]) (lenOf pd_14 rfl) rfl (by show 2 * 0 + _ ≤ _; exact Nat.le_of_eq rfl) (hb hby at_136) (fun _ _ => ⟨rfl, e227, (by decide : 8 + 0 ≤ _), (by decide : 19 + 0 ≤ _)⟩)
        dsimp only [Pt.U, Pt.locs, Pt.cells, Pt.slots] at X233 l233 y233 z233 st233 hQ233
        subst l233 y233 z233
        obtain ⟨rfl, M233, K233, y235, y236, y237⟩ := hQ233
        have N233 := Fr.app N221 M233
        have O238 := O228.keep K233 (allS ge234 all0)
        have g239 : Go p e below T233 (mkF m 139 #[iv p0, iv p1, iv p2, iv p3, iv p4, rv b102, rv b120, rv r142, rv b154, rv b215, .unset, .unset] [(.ref b227)]) A0 := fun t kont => g232 t (st233.trans kont)
        have g240 : Go p e below T233 (mkF m 143 #[iv p0, iv p1, iv p2, iv p3, iv p4, rv b102, rv b120, rv r142, rv b154, rv b215, rv b227, .unset] [(.ref b227)]) A0 := by
          intro t kont
          refine g239 t ?_
          refine XS.astore X233.here hx rfl (hb hby at_139) rfl rfl (l' := #[iv p0, iv p1, iv p2, iv p3, iv p4, rv b102, rv b120, rv r142, rv b154, rv b215, rv b227, .unset]) rfl ?_
          show Steps p.tables e below (T233.setTop (mkF m 141 #[iv p0, iv p1, iv p2, iv p3, iv p4, rv b102, rv b120, rv r142, rv b154, rv b215, rv b227, .unset] [])) _
          refine XS.aload X233.here hx rfl (hb hby at_141) rfl rfl ?_
          show Steps p.tables e below (T233.setTop (mkF m 143 #[iv p0, iv p1, iv p2, iv p3, iv p4, rv b102, rv b120, rv r142, rv b154, rv b215, rv b227, .unset] [(.ref b227)])) _
          exact kont
        obtain ⟨cq241, kq241, q241a, q241b, q241c⟩ := isOf hZ rfl y235
        obtain ⟨_, _, ⟨T241, L241, k241, n241⟩, -, X241, ⟨Lc241, hQ241, l241, y241, z241⟩, st241⟩ := X233.virtualBack hx (y := (⟨"com/example/subsume/subsume/engine/IndividualEquality", "individuals", "()Ljava/util/List;"⟩ : MethodName)) (z := (⟨"com/example/subsume/subsume/engine/IndividualEquality", "individuals", "()Ljava/util/List;"⟩ : MethodName)) hown (mvT hZ (hw _ (List.mem_of_getElem? (i := 71) rfl))) (mvT hZ (hw _ (List.mem_of_getElem? (i := 72) rfl))) (notFace_of_selects (args := #[]) (mvT hZ (hw _ (List.mem_of_getElem? (i := 74) rfl)))) (mvT hZ (hw _ (List.mem_of_getElem? (i := 74) rfl))) (mvT hZ (hw _ (List.mem_of_getElem? (i := 73) rfl))) (by decide) (backOf (W := 0) (rm_inds l Z a0 hw [] b227 b154 b215 T233.heap n0 O238 y236 y237) hZ (hw _ (List.mem_of_getElem? (i := 75) rfl)) (hw _ (List.mem_of_getElem? (i := 57) rfl)) (by decide) (by decide)) q241a q241c (g := (mkF m 143 #[iv p0, iv p1, iv p2, iv p3, iv p4, rv b102, rv b120, rv r142, rv b154, rv b215, rv b227, .unset] [(.ref b227)])) rfl (by rw [hml]; rfl) (Steps.refl _) (argsL := []) (rest := []) (lenOf pd_15 rfl) rfl (by show 2 * 0 + _ ≤ _; exact Nat.le_of_eq rfl) (hb hby at_143) (fun _ _ => ⟨rfl, rfl, (by decide : 8 + 1 ≤ _), (by decide : 19 + 2 ≤ _)⟩)
        dsimp only [Pt.U, Pt.locs, Pt.cells, Pt.slots] at X241 l241 y241 z241 st241 hQ241
        subst l241 y241 z241
        obtain ⟨r242, rfl, M241, K241, y243, y244, y245, y246⟩ := hQ241
        have N241 := Fr.app N233 M241
        have O247 := O238.keep K241 all0
        have g248 : Go p e below T241 (mkF m 146 #[iv p0, iv p1, iv p2, iv p3, iv p4, rv b102, rv b120, rv r142, rv b154, rv b215, rv b227, .unset] [(.ref r242)]) A0 := fun t kont => g240 t (st241.trans kont)
        have g249 : Go p e below T241 (mkF m 150 #[iv p0, iv p1, iv p2, iv p3, iv p4, rv b102, rv b120, rv r142, rv b154, rv b215, rv b227, rv r242] [(.ref r242)]) A0 := by
          intro t kont
          refine g248 t ?_
          refine XS.astore X241.here hx rfl (hb hby at_146) rfl rfl (l' := #[iv p0, iv p1, iv p2, iv p3, iv p4, rv b102, rv b120, rv r142, rv b154, rv b215, rv b227, rv r242]) rfl ?_
          show Steps p.tables e below (T241.setTop (mkF m 148 #[iv p0, iv p1, iv p2, iv p3, iv p4, rv b102, rv b120, rv r142, rv b154, rv b215, rv b227, rv r242] [])) _
          refine XS.aload X241.here hx rfl (hb hby at_148) rfl rfl ?_
          show Steps p.tables e below (T241.setTop (mkF m 150 #[iv p0, iv p1, iv p2, iv p3, iv p4, rv b102, rv b120, rv r142, rv b154, rv b215, rv b227, rv r242] [(.ref r242)])) _
          exact kont
        obtain ⟨cq250, kq250, q250a, q250b, q250c⟩ := isOf hZ rfl y244
        obtain ⟨_, _, ⟨T250, L250, k250, n250⟩, -, X250, ⟨Lc250, hQ250, l250, y250, z250⟩, st250⟩ := X241.interfaceBack hx (xi := (⟨"java/util/List", "size", "()I"⟩ : MethodName)) (y := (⟨"java/util/ImmutableCollections$List12", "size", "()I"⟩ : MethodName)) hown (mvT hZ (hw _ (List.mem_of_getElem? (i := 114) rfl))) (mvT hZ (hw _ (List.mem_of_getElem? (i := 115) rfl))) (mvT hZ (hw _ (List.mem_of_getElem? (i := 116) rfl))) (mvT hZ (hw _ (List.mem_of_getElem? (i := 117) rfl))) (mvT hZ (hw _ (List.mem_of_getElem? (i := 118) rfl))) (mvT hZ (hw _ (List.mem_of_getElem? (i := 119) rfl))) (mvT hZ (hw _ (List.mem_of_getElem? (i := 120) rfl))) (mvT hZ (hw _ (List.mem_of_getElem? (i := 121) rfl))) (by decide) (backOf (W := 0) (rm_siz l Z a0 hw [] r242 b215 w_EMPTY T241.heap n0 O247 y246 S1_ (Ne.symm (O247.ne ZE3_.lt ge222))) hZ (hw _ (List.mem_of_getElem? (i := 122) rfl)) (hw _ (List.mem_of_getElem? (i := 82) rfl)) (by decide) (by decide)) q250a q250b q250c (g := (mkF m 150 #[iv p0, iv p1, iv p2, iv p3, iv p4, rv b102, rv b120, rv r142, rv b154, rv b215, rv b227, rv r242] [(.ref r242)])) rfl (by rw [hml]; rfl) (Steps.refl _) (argsL := []) (rest := []) (lenOf pd_16 rfl) rfl (by show 2 * 0 + _ ≤ _; exact Nat.le_of_eq rfl) (hb hby at_150) (fun _ _ => ⟨rfl, rfl, (by decide : 9 + 0 ≤ _), (by decide : 21 + 0 ≤ _)⟩)
        dsimp only [Pt.U, Pt.locs, Pt.cells, Pt.slots] at X250 l250 y250 z250 st250 hQ250
        subst l250 y250 z250
        obtain ⟨rfl, M250, e250⟩ := hQ250
        have N250 := Fr.app N241 M250
        have g251 : Go p e below T250 (mkF m 155 #[iv p0, iv p1, iv p2, iv p3, iv p4, rv b102, rv b120, rv r142, rv b154, rv b215, rv b227, rv r242] [(.int (2 : Int32))]) A0 := fun t kont => g249 t (st250.trans kont)
        have g252 : Go p e below T250 (mkF m 164 #[iv p0, iv p1, iv p2, iv p3, iv p4, rv b102, rv b120, rv r142, rv b154, rv b215, rv b227, rv r242] [(.int (0 : Int32)), (.ref r242)]) A0 := by
          intro t kont
          refine g251 t ?_
          refine XS.iconst X250.here hx rfl (hb hby at_155) ?_
          show Steps p.tables e below (T250.setTop (mkF m 156 #[iv p0, iv p1, iv p2, iv p3, iv p4, rv b102, rv b120, rv r142, rv b154, rv b215, rv b227, rv r242] [(.int (2 : Int32)), (.int (2 : Int32))])) _
          refine XS.icmpYes X250.here hx rfl (pc0 := 156) (pc' := 161) rfl (hb hby at_156) rfl (teq (by decide : (2 : Int32) = (2 : Int32))).1 (by decide) (by decide) ?_
          show Steps p.tables e below (T250.setTop (mkF m 161 #[iv p0, iv p1, iv p2, iv p3, iv p4, rv b102, rv b120, rv r142, rv b154, rv b215, rv b227, rv r242] [])) _
          refine XS.aload X250.here hx rfl (hb hby at_161) rfl rfl ?_
          show Steps p.tables e below (T250.setTop (mkF m 163 #[iv p0, iv p1, iv p2, iv p3, iv p4, rv b102, rv b120, rv r142, rv b154, rv b215, rv b227, rv r242] [(.ref r242)])) _
          refine XS.iconst X250.here hx rfl (hb hby at_163) ?_
          show Steps p.tables e below (T250.setTop (mkF m 164 #[iv p0, iv p1, iv p2, iv p3, iv p4, rv b102, rv b120, rv r142, rv b154, rv b215, rv b227, rv r242] [(.int (0 : Int32)), (.ref r242)])) _
          exact kont
        obtain ⟨cq253, kq253, q253a, q253b, q253c⟩ := isOf hZ e250 y244
        obtain ⟨_, _, ⟨T253, L253, k253, n253⟩, -, X253, ⟨Lc253, hQ253, l253, y253, z253⟩, st253⟩ := X250.interfaceBack hx (xi := (⟨"java/util/List", "get", "(I)Ljava/lang/Object;"⟩ : MethodName)) (y := (⟨"java/util/ImmutableCollections$List12", "get", "(I)Ljava/lang/Object;"⟩ : MethodName)) hown (mvT hZ (hw _ (List.mem_of_getElem? (i := 125) rfl))) (mvT hZ (hw _ (List.mem_of_getElem? (i := 126) rfl))) (mvT hZ (hw _ (List.mem_of_getElem? (i := 127) rfl))) (mvT hZ (hw _ (List.mem_of_getElem? (i := 128) rfl))) (mvT hZ (hw _ (List.mem_of_getElem? (i := 129) rfl))) (mvT hZ (hw _ (List.mem_of_getElem? (i := 130) rfl))) (mvT hZ (hw _ (List.mem_of_getElem? (i := 131) rfl))) (mvT hZ (hw _ (List.mem_of_getElem? (i := 121) rfl))) (by decide) (backOf (W := 0) (rm_get0 l Z a0 hw [] r242 b154 T241.heap n0 O247 y245) hZ (hw _ (List.mem_of_getElem? (i := 132) rfl)) (hw _ (List.mem_of_getElem? (i := 82) rfl)) (by decide) (by decide)) q253a q253b q253c (g := (mkF m 164 #[iv p0, iv p1, iv p2, iv p3, iv p4, rv b102, rv b120, rv r142, rv b154, rv b215, rv b227, rv r242] [(.int (0 : Int32)), (.ref r242)])) rfl (by rw [hml]; rfl) (Steps.refl _) (argsL := [(.int (0 : Int32))]) (rest := []) (lenOf pd_17 rfl) rfl (by show 2 * 0 + _ ≤ _; exact Nat.le_of_eq rfl) (hb hby at_164) (fun _ _ => ⟨rfl, e250, (by decide : 9 + 0 ≤ _), (by decide : 21 + 0 ≤ _)⟩)
        dsimp only [Pt.U, Pt.locs, Pt.cells, Pt.slots] at X253 l253 y253 z253 st253 hQ253
        subst l253 y253 z253
        obtain ⟨rfl, M253, e253⟩ := hQ253
        have N253 := Fr.app N250 M253
        have g254 : Go p e below T253 (mkF m 169 #[iv p0, iv p1, iv p2, iv p3, iv p4, rv b102, rv b120, rv r142, rv b154, rv b215, rv b227, rv r242] [(.ref b154)]) A0 := fun t kont => g252 t (st253.trans kont)
        have g255 : Go p e below T253 (mkF m 177 #[iv p0, iv p1, iv p2, iv p3, iv p4, rv b102, rv b120, rv r142, rv b154, rv b215, rv b227, rv r242] [(.int (1 : Int32)), (.ref r242)]) A0 := by
          intro t kont
          refine g254 t ?_
          refine XS.aload X253.here hx rfl (hb hby at_169) rfl rfl ?_
          show Steps p.tables e below (T253.setTop (mkF m 171 #[iv p0, iv p1, iv p2, iv p3, iv p4, rv b102, rv b120, rv r142, rv b154, rv b215, rv b227, rv r242] [(.ref b154), (.ref b154)])) _
          refine Jvm.RoadKit.acmp (g := (mkF m 171 #[iv p0, iv p1, iv p2, iv p3, iv p4, rv b102, rv b120, rv r142, rv b154, rv b215, rv b227, rv r242] [(.ref b154), (.ref b154)])) X253 hx rfl rfl rfl (pc0 := 171) (pc' := 174) (same := true) rfl (hb hby at_171) rfl (decide_eq_true rfl) (by decide) (by decide) ?_
          show Steps p.tables e below (T253.setTop (mkF m 174 #[iv p0, iv p1, iv p2, iv p3, iv p4, rv b102, rv b120, rv r142, rv b154, rv b215, rv b227, rv r242] [])) _
          refine XS.aload X253.here hx rfl (hb hby at_174) rfl rfl ?_
          show Steps p.tables e below (T253.setTop (mkF m 176 #[iv p0, iv p1, iv p2, iv p3, iv p4, rv b102, rv b120, rv r142, rv b154, rv b215, rv b227, rv r242] [(.ref r242)])) _
          refine XS.iconst X253.here hx rfl (hb hby at_176) ?_
          show Steps p.tables e below (T253.setTop (mkF m 177 #[iv p0, iv p1, iv p2, iv p3, iv p4, rv b102, rv b120, rv r142, rv b154, rv b215, rv b227, rv r242] [(.int (1 : Int32)), (.ref r242)])) _
          exact kont
        obtain ⟨cq256, kq256, q256a, q256b, q256c⟩ := isOf hZ e253 y244
        obtain ⟨_, _, ⟨T256, L256, k256, n256⟩, -, X256, ⟨Lc256, hQ256, l256, y256, z256⟩, st256⟩ := X253.interfaceBack hx (xi := (⟨"java/util/List", "get", "(I)Ljava/lang/Object;"⟩ : MethodName)) (y := (⟨"java/util/ImmutableCollections$List12", "get", "(I)Ljava/lang/Object;"⟩ : MethodName)) hown (mvT hZ (hw _ (List.mem_of_getElem? (i := 125) rfl))) (mvT hZ (hw _ (List.mem_of_getElem? (i := 126) rfl))) (mvT hZ (hw _ (List.mem_of_getElem? (i := 127) rfl))) (mvT hZ (hw _ (List.mem_of_getElem? (i := 128) rfl))) (mvT hZ (hw _ (List.mem_of_getElem? (i := 129) rfl))) (mvT hZ (hw _ (List.mem_of_getElem? (i := 130) rfl))) (mvT hZ (hw _ (List.mem_of_getElem? (i := 131) rfl))) (mvT hZ (hw _ (List.mem_of_getElem? (i := 121) rfl))) (by decide) (backOf (W := 0) (rm_get1 l Z a0 hw [] r242 b215 w_EMPTY T241.heap n0 O247 y246 S1_ (Ne.symm (O247.ne ZE3_.lt ge222))) hZ (hw _ (List.mem_of_getElem? (i := 132) rfl)) (hw _ (List.mem_of_getElem? (i := 82) rfl)) (by decide) (by decide)) q256a q256b q256c (g := (mkF m 177 #[iv p0, iv p1, iv p2, iv p3, iv p4, rv b102, rv b120, rv r142, rv b154, rv b215, rv b227, rv r242] [(.int (1 : Int32)), (.ref r242)])) rfl (by rw [hml]; rfl) (Steps.refl _) (argsL := [(.int (1 : Int32))]) (rest := []) (lenOf pd_17 rfl) rfl (by show 2 * 0 + _ ≤ _; exact Nat.le_of_eq rfl) (hb hby at_177) (fun _ _ => ⟨rfl, e253, (by decide : 9 + 0 ≤ _), (by decide : 21 + 0 ≤ _)⟩)
        dsimp only [Pt.U, Pt.locs, Pt.cells, Pt.slots] at X256 l256 y256 z256 st256 hQ256
        subst l256 y256 z256
        obtain ⟨rfl, M256, e256⟩ := hQ256
        have N256 := Fr.app N253 M256
        have g257 : Go p e below T256 (mkF m 182 #[iv p0, iv p1, iv p2, iv p3, iv p4, rv b102, rv b120, rv r142, rv b154, rv b215, rv b227, rv r242] [(.ref b215)]) A0 := fun t kont => g255 t (st256.trans kont)
        have g258 : Go p e below T256 (mkF m 192 #[iv p0, iv p1, iv p2, iv p3, iv p4, rv b102, rv b120, rv r142, rv b154, rv b215, rv b227, rv r242] [(.int (1 : Int32))]) A0 := by
          intro t kont
          refine g257 t ?_
          refine XS.aload X256.here hx rfl (hb hby at_182) rfl rfl ?_
          show Steps p.tables e below (T256.setTop (mkF m 184 #[iv p0, iv p1, iv p2, iv p3, iv p4, rv b102, rv b120, rv r142, rv b154, rv b215, rv b227, rv r242] [(.ref b215), (.ref b215)])) _
          refine Jvm.RoadKit.acmp (g := (mkF m 184 #[iv p0, iv p1, iv p2, iv p3, iv p4, rv b102, rv b120, rv r142, rv b154, rv b215, rv b227, rv r242] [(.ref b215), (.ref b215)])) X256 hx rfl rfl rfl (pc0 := 184) (pc' := 187) (same := true) rfl (hb hby at_184) rfl (decide_eq_true rfl) (by decide) (by decide) ?_
          show Steps p.tables e below (T256.setTop (mkF m 187 #[iv p0, iv p1, iv p2, iv p3, iv p4, rv b102, rv b120, rv r142, rv b154, rv b215, rv b227, rv r242] [])) _
          refine XS.iconst X256.here hx rfl (hb hby at_187) ?_
          show Steps p.tables e below (T256.setTop (mkF m 188 #[iv p0, iv p1, iv p2, iv p3, iv p4, rv b102, rv b120, rv r142, rv b154, rv b215, rv b227, rv r242] [(.int (1 : Int32))])) _
          refine XS.goto X256.here hx rfl (pc0 := 188) (pc' := 192) rfl (hb hby at_188) (by decide) (by decide) ?_
          show Steps p.tables e below (T256.setTop (mkF m 192 #[iv p0, iv p1, iv p2, iv p3, iv p4, rv b102, rv b120, rv r142, rv b154, rv b215, rv b227, rv r242] [(.int (1 : Int32))])) _
          exact kont
        obtain ⟨fs, hr, hrun, hended, hW, hsame⟩ := X256.leave (v := some (.int (1 : Int32))) (fun h => by rw [Bd.returns] at h; cases h)
        refine ⟨_, _, g258 _ (retN X256 hx (t := .boolean) Bd.returns (by simp) (hb hby at_192) hr), hrun, hended, _, _, rfl, ?_, ⟨_, rfl⟩, hW, hsame.mono (by decide) (by decide)⟩
        show Q_law Z p0 p1 p2 p3 p4 i_COMPACT_STRINGS w_EMPTY h0 n0 _ T256.heap _
        rw [e256]
        exact ⟨rfl, N256⟩
      have g259 : Go p e below T160 (mkF m 128 #[iv p0, iv p1, iv p2, iv p3, iv p4, rv b102, rv b120, rv r142, rv b154, rv b154, .unset, .unset] []) A0 := by
        intro t kont
        refine g166 t ?_
        refine XS.ifNo X160.here hx rfl (hb hby at_83) rfl ((if0 _ _).trans (feq c165).1) ?_
        show Steps p.tables e below (T160.setTop (mkF m 86 #[iv p0, iv p1, iv p2, iv p3, iv p4, rv b102, rv b120, rv r142, rv b154, .unset, .unset, .unset] [])) _
        refine XS.aload X160.here hx rfl (hb hby at_86) rfl rfl ?_
        show Steps p.tables e below (T160.setTop (mkF m 88 #[iv p0, iv p1, iv p2, iv p3, iv p4, rv b102, rv b120, rv r142, rv b154, .unset, .unset, .unset] [(.ref b154)])) _
        refine XS.astore X160.here hx rfl (hb hby at_88) rfl rfl (l' := #[iv p0, iv p1, iv p2, iv p3, iv p4, rv b102, rv b120, rv r142, rv b154, rv b154, .unset, .unset]) rfl ?_
        show Steps p.tables e below (T160.setTop (mkF m 90 #[iv p0, iv p1, iv p2, iv p3, iv p4, rv b102, rv b120, rv r142, rv b154, rv b154, .unset, .unset] [])) _
        refine XS.goto X160.here hx rfl (pc0 := 90) (pc' := 128) rfl (hb hby at_90) (by decide) (by decide) ?_
        show Steps p.tables e below (T160.setTop (mkF m 128 #[iv p0, iv p1, iv p2, iv p3, iv p4, rv b102, rv b120, rv r142, rv b154, rv b154, .unset, .unset] [])) _
        exact kont
      obtain ⟨T260, h260, X260, e260, E260, A260, D260, -, st260⟩ := newO X160 hx hZ hown (hw _ (List.mem_of_getElem? (i := 55) rfl)) (hw _ (List.mem_of_getElem? (i := 56) rfl)) (hw _ (List.mem_of_getElem? (i := 57) rfl)) rfl (g := (mkF m 128 #[iv p0, iv p1, iv p2, iv p3, iv p4, rv b102, rv b120, rv r142, rv b154, rv b154, .unset, .unset] [])) rfl (hb hby at_128) (by decide) (by decide)
      obtain ⟨b260, gb260⟩ : ∃ z, z = T160.heap.size := ⟨_, rfl⟩
      rw [← gb260] at A260 D260 st260
      have O261 := O163.ext E260
      have y262 : Fld Z h260 b260 "com/example/subsume/subsume/engine/IndividualEquality" "individual" "Lcom/example/subsume/subsume/engine/Individual;" .null := D260 (Or.inr (hw _ (List.mem_of_getElem? (i := 68) rfl))) (ty := (.object "com/example/subsume/subsume/engine/Individual")) (by decide)
      have y263 : Fld Z h260 b260 "com/example/subsume/subsume/engine/IndividualEquality" "other" "Lcom/example/subsume/subsume/engine/Individual;" .null := D260 (Or.inr (hw _ (List.mem_of_getElem? (i := 70) rfl))) (ty := (.object "com/example/subsume/subsume/engine/Individual")) (by decide)
      have g264 : Go p e below T260 (mkF m 131 #[iv p0, iv p1, iv p2, iv p3, iv p4, rv b102, rv b120, rv r142, rv b154, rv b154, .unset, .unset] [(.ref b260)]) A0 := fun t kont => g259 t (st260 t kont)
      have g265 : Go p e below T260 (mkF m 136 #[iv p0, iv p1, iv p2, iv p3, iv p4, rv b102, rv b120, rv r142, rv b154, rv b154, .unset, .unset] [(.ref b154), (.ref b154), (.ref b260), (.ref b260)]) A0 := by
        intro t kont
        refine g264 t ?_
        refine XS.dup X260.here hx rfl (hb hby at_131) rfl rfl ?_
        show Steps p.tables e below (T260.setTop (mkF m 132 #[iv p0, iv p1, iv p2, iv p3, iv p4, rv b102, rv b120, rv r142, rv b154, rv b154, .unset, .unset] [(.ref b260), (.ref b260)])) _
        refine XS.aload X260.here hx rfl (hb hby at_132) rfl rfl ?_
        show Steps p.tables e below (T260.setTop (mkF m 134 #[iv p0, iv p1, iv p2, iv p3, iv p4, rv b102, rv b120, rv r142, rv b154, rv b154, .unset, .unset] [(.ref b154), (.ref b260), (.ref b260)])) _
        refine XS.aload X260.here hx rfl (hb hby at_134) rfl rfl ?_
        show Steps p.tables e below (T260.setTop (mkF m 136 #[iv p0, iv p1, iv p2, iv p3, iv p4, rv b102, rv b120, rv r142, rv b154, rv b154, .unset, .unset] [(.ref b154), (.ref b154), (.ref b260), (.ref b260)])) _
        exact kont
      have ge267 : n0 ≤ b260 := Nat.le_trans (own_old_le O163) (Nat.le_of_eq gb260.symm)
      obtain ⟨_, _, ⟨T266, L266, k266, n266⟩, -, X266, ⟨Lc266, hQ266, l266, y266, z266⟩, st266⟩ := X260.specialBack hx (y := (⟨"com/example/subsume/subsume/engine/IndividualEquality", "<init>", "(Lcom/example/subsume/subsume/engine/Individual;Lcom/example/subsume/subsume/engine/Individual;)V"⟩ : MethodName)) rfl hown (mvT hZ (hw _ (List.mem_of_getElem? (i := 58) rfl))) (mvT hZ (hw _ (List.mem_of_getElem? (i := 59) rfl))) (mvT hZ (hw _ (List.mem_of_getElem? (i := 60) rfl))) (by decide) (backOf (W := 1) (rm_relI l Z a0 hw [] b260 b154 b154 h260 n0 O261 y262 y263 A260 ge267) hZ (hw _ (List.mem_of_getElem? (i := 60) rfl)) (hw _ (List.mem_of_getElem? (i := 57) rfl)) (by decide) (by decide)) (g := (mkF m 136 #[iv p0, iv p1, iv p2, iv p3, iv p4, rv b102, rv b120, rv r142, rv b154, rv b154, .unset, .unset] [(.ref b154), (.ref b154), (.ref b260), (.ref b260)])) rfl (by rw [hml]; rfl) (Steps.refl _) (a := b260) (argsL := [(.ref b154), (.ref b154)]) (rest := [(.ref b260)]) (lenOf pd_14 rfl) rfl (by show 2 * 0 + _ ≤ _; exact Nat.le_of_eq rfl) (hb hby at_136) (fun _ _ => ⟨rfl, e260, (by decide : 7 + 0 ≤ _), (by decide : 17 + 0 ≤ _)⟩)
      dsimp only [Pt.U, Pt.locs, Pt.cells, Pt.slots] at X266 l266 y266 z266 st266 hQ266
      subst l266 y266 z266
      obtain ⟨rfl, M266, K266, y268, y269, y270⟩ := hQ266
      have N266 := Fr.app N160 M266
      have O271 := O261.keep K266 (allS ge267 all0)
      have g272 : Go p e below T266 (mkF m 139 #[iv p0, iv p1, iv p2, iv p3, iv p4, rv b102, rv b120, rv r142, rv b154, rv b154, .unset, .unset] [(.ref b260)]) A0 := fun t kont => g265 t (st266.trans kont)
      have g273 : Go p e below T266 (mkF m 143 #[iv p0, iv p1, iv p2, iv p3, iv p4, rv b102, rv b120, rv r142, rv b154, rv b154, rv b260, .unset] [(.ref b260)]) A0 := by
        intro t kont
        refine g272 t ?_
        refine XS.astore X266.here hx rfl (hb hby at_139) rfl rfl (l' := #[iv p0, iv p1, iv p2, iv p3, iv p4, rv b102, rv b120, rv r142, rv b154, rv b154, rv b260, .unset]) rfl ?_
        show Steps p.tables e below (T266.setTop (mkF m 141 #[iv p0, iv p1, iv p2, iv p3, iv p4, rv b102, rv b120, rv r142, rv b154, rv b154, rv b260, .unset] [])) _
        refine XS.aload X266.here hx rfl (hb hby at_141) rfl rfl ?_
        show Steps p.tables e below (T266.setTop (mkF m 143 #[iv p0, iv p1, iv p2, iv p3, iv p4, rv b102, rv b120, rv r142, rv b154, rv b154, rv b260, .unset] [(.ref b260)])) _
        exact kont
      obtain ⟨cq274, kq274, q274a, q274b, q274c⟩ := isOf hZ rfl y268
      obtain ⟨_, _, ⟨T274, L274, k274, n274⟩, -, X274, ⟨Lc274, hQ274, l274, y274, z274⟩, st274⟩ := X266.virtualBack hx (y := (⟨"com/example/subsume/subsume/engine/IndividualEquality", "individuals", "()Ljava/util/List;"⟩ : MethodName)) (z := (⟨"com/example/subsume/subsume/engine/IndividualEquality", "individuals", "()Ljava/util/List;"⟩ : MethodName)) hown (mvT hZ (hw _ (List.mem_of_getElem? (i := 71) rfl))) (mvT hZ (hw _ (List.mem_of_getElem? (i := 72) rfl))) (notFace_of_selects (args := #[]) (mvT hZ (hw _ (List.mem_of_getElem? (i := 74) rfl)))) (mvT hZ (hw _ (List.mem_of_getElem? (i := 74) rfl))) (mvT hZ (hw _ (List.mem_of_getElem? (i := 73) rfl))) (by decide) (backOf (W := 0) (rm_inds l Z a0 hw [] b260 b154 b154 T266.heap n0 O271 y269 y270) hZ (hw _ (List.mem_of_getElem? (i := 75) rfl)) (hw _ (List.mem_of_getElem? (i := 57) rfl)) (by decide) (by decide)) q274a q274c (g := (mkF m 143 #[iv p0, iv p1, iv p2, iv p3, iv p4, rv b102, rv b120, rv r142, rv b154, rv b154, rv b260, .unset] [(.ref b260)])) rfl (by rw [hml]; rfl) (Steps.refl _) (argsL := []) (rest := []) (lenOf pd_15 rfl) rfl (by show 2 * 0 + _ ≤ _; exact Nat.le_of_eq rfl) (hb hby at_143) (fun _ _ => ⟨rfl, rfl, (by decide : 7 + 1 ≤ _), (by decide : 17 + 2 ≤ _)⟩)
      dsimp only [Pt.U, Pt.locs, Pt.cells, Pt.slots] at X274 l274 y274 z274 st274 hQ274
      subst l274 y274 z274
      obtain ⟨r275, rfl, M274, K274, y276, y277, y278, y279⟩ := hQ274
      have N274 := Fr.app N266 M274
      have O280 := O271.keep K274 all0
      have g281 : Go p e below T274 (mkF m 146 #[iv p0, iv p1, iv p2, iv p3, iv p4, rv b102, rv b120, rv r142, rv b154, rv b154, rv b260, .unset] [(.ref r275)]) A0 := fun t kont => g273 t (st274.trans kont)
      have g282 : Go p e below T274 (mkF m 150 #[iv p0, iv p1, iv p2, iv p3, iv p4, rv b102, rv b120, rv r142, rv b154, rv b154, rv b260, rv r275] [(.ref r275)]) A0 := by
        intro t kont
        refine g281 t ?_
        refine XS.astore X274.here hx rfl (hb hby at_146) rfl rfl (l' := #[iv p0, iv p1, iv p2, iv p3, iv p4, rv b102, rv b120, rv r142, rv b154, rv b154, rv b260, rv r275]) rfl ?_
        show Steps p.tables e below (T274.setTop (mkF m 148 #[iv p0, iv p1, iv p2, iv p3, iv p4, rv b102, rv b120, rv r142, rv b154, rv b154, rv b260, rv r275] [])) _
        refine XS.aload X274.here hx rfl (hb hby at_148) rfl rfl ?_
        show Steps p.tables e below (T274.setTop (mkF m 150 #[iv p0, iv p1, iv p2, iv p3, iv p4, rv b102, rv b120, rv r142, rv b154, rv b154, rv b260, rv r275] [(.ref r275)])) _
        exact kont
      obtain ⟨cq283, kq283, q283a, q283b, q283c⟩ := isOf hZ rfl y277
      obtain ⟨_, _, ⟨T283, L283, k283, n283⟩, -, X283, ⟨Lc283, hQ283, l283, y283, z283⟩, st283⟩ := X274.interfaceBack hx (xi := (⟨"java/util/List", "size", "()I"⟩ : MethodName)) (y := (⟨"java/util/ImmutableCollections$List12", "size", "()I"⟩ : MethodName)) hown (mvT hZ (hw _ (List.mem_of_getElem? (i := 114) rfl))) (mvT hZ (hw _ (List.mem_of_getElem? (i := 115) rfl))) (mvT hZ (hw _ (List.mem_of_getElem? (i := 116) rfl))) (mvT hZ (hw _ (List.mem_of_getElem? (i := 117) rfl))) (mvT hZ (hw _ (List.mem_of_getElem? (i := 118) rfl))) (mvT hZ (hw _ (List.mem_of_getElem? (i := 119) rfl))) (mvT hZ (hw _ (List.mem_of_getElem? (i := 120) rfl))) (mvT hZ (hw _ (List.mem_of_getElem? (i := 121) rfl))) (by decide) (backOf (W := 0) (rm_siz l Z a0 hw [] r275 b154 w_EMPTY T274.heap n0 O280 y279 S1_ (Ne.symm (O280.ne ZE3_.lt ge161))) hZ (hw _ (List.mem_of_getElem? (i := 122) rfl)) (hw _ (List.mem_of_getElem? (i := 82) rfl)) (by decide) (by decide)) q283a q283b q283c (g := (mkF m 150 #[iv p0, iv p1, iv p2, iv p3, iv p4, rv b102, rv b120, rv r142, rv b154, rv b154, rv b260, rv r275] [(.ref r275)])) rfl (by rw [hml]; rfl) (Steps.refl _) (argsL := []) (rest := []) (lenOf pd_16 rfl) rfl (by show 2 * 0 + _ ≤ _; exact Nat.le_of_eq rfl) (hb hby at_150) (fun _ _ => ⟨rfl, rfl, (by decide : 8 + 0 ≤ _), (by decide : 19 + 0 ≤ _)⟩)
      dsimp only [Pt.U, Pt.locs, Pt.cells, Pt.slots] at X283 l283 y283 z283 st283 hQ283
      subst l283 y283 z283
      obtain ⟨rfl, M283, e283⟩ := hQ283
      have N283 := Fr.app N274 M283
      have g284 : Go p e below T283 (mkF m 155 #[iv p0, iv p1, iv p2, iv p3, iv p4, rv b102, rv b120, rv r142, rv b154, rv b154, rv b260, rv r275] [(.int (2 : Int32))]) A0 := fun t kont => g282 t (st283.trans kont)
      have g285 : Go p e below T283 (mkF m 164 #[iv p0, iv p1, iv p2, iv p3, iv p4, rv b102, rv b120, rv r142, rv b154, rv b154, rv b260, rv r275] [(.int (0 : Int32)), (.ref r275)]) A0 := by
        intro t kont
        refine g284 t ?_
        refine XS.iconst X283.here hx rfl (hb hby at_155) ?_
        show Steps p.tables e below (T283.setTop (mkF m 156 #[iv p0, iv p1, iv p2, iv p3, iv p4, rv b102, rv b120, rv r142, rv b154, rv b154, rv b260, rv r275] [(.int (2 : Int32)), (.int (2 : Int32))])) _
        refine XS.icmpYes X283.here hx rfl (pc0 := 156) (pc' := 161) rfl (hb hby at_156) rfl (teq (by decide : (2 : Int32) = (2 : Int32))).1 (by decide) (by decide) ?_
        show Steps p.tables e below (T283.setTop (mkF m 161 #[iv p0, iv p1, iv p2, iv p3, iv p4, rv b102, rv b120, rv r142, rv b154, rv b154, rv b260, rv r275] [])) _
        refine XS.aload X283.here hx rfl (hb hby at_161) rfl rfl ?_
        show Steps p.tables e below (T283.setTop (mkF m 163 #[iv p0, iv p1, iv p2, iv p3, iv p4, rv b102, rv b120, rv r142, rv b154, rv b154, rv b260, rv r275] [(.ref r275)])) _
        refine XS.iconst X283.here hx rfl (hb hby at_163) ?_
        show Steps p.tables e below (T283.setTop (mkF m 164 #[iv p0, iv p1, iv p2, iv p3, iv p4, rv b102, rv b120, rv r142, rv b154, rv b154, rv b260, rv r275] [(.int (0 : Int32)), (.ref r275)])) _
        exact kont
      obtain ⟨cq286, kq286, q286a, q286b, q286c⟩ := isOf hZ e283 y277
      obtain ⟨_, _, ⟨T286, L286, k286, n286⟩, -, X286, ⟨Lc286, hQ286, l286, y286, z286⟩, st286⟩ := X283.interfaceBack hx (xi := (⟨"java/util/List", "get", "(I)Ljava/lang/Object;"⟩ : MethodName)) (y := (⟨"java/util/ImmutableCollections$List12", "get", "(I)Ljava/lang/Object;"⟩ : MethodName)) hown (mvT hZ (hw _ (List.mem_of_getElem? (i := 125) rfl))) (mvT hZ (hw _ (List.mem_of_getElem? (i := 126) rfl))) (mvT hZ (hw _ (List.mem_of_getElem? (i := 127) rfl))) (mvT hZ (hw _ (List.mem_of_getElem? (i := 128) rfl))) (mvT hZ (hw _ (List.mem_of_getElem? (i := 129) rfl))) (mvT hZ (hw _ (List.mem_of_getElem? (i := 130) rfl))) (mvT hZ (hw _ (List.mem_of_getElem? (i := 131) rfl))) (mvT hZ (hw _ (List.mem_of_getElem? (i := 121) rfl))) (by decide) (backOf (W := 0) (rm_get0 l Z a0 hw [] r275 b154 T274.heap n0 O280 y278) hZ (hw _ (List.mem_of_getElem? (i := 132) rfl)) (hw _ (List.mem_of_getElem? (i := 82) rfl)) (by decide) (by decide)) q286a q286b q286c (g := (mkF m 164 #[iv p0, iv p1, iv p2, iv p3, iv p4, rv b102, rv b120, rv r142, rv b154, rv b154, rv b260, rv r275] [(.int (0 : Int32)), (.ref r275)])) rfl (by rw [hml]; rfl) (Steps.refl _) (argsL := [(.int (0 : Int32))]) (rest := []) (lenOf pd_17 rfl) rfl (by show 2 * 0 + _ ≤ _; exact Nat.le_of_eq rfl) (hb hby at_164) (fun _ _ => ⟨rfl, e283, (by decide : 8 + 0 ≤ _), (by decide : 19 + 0 ≤ _)⟩)
      dsimp only [Pt.U, Pt.locs, Pt.cells, Pt.slots] at X286 l286 y286 z286 st286 hQ286
      subst l286 y286 z286
      obtain ⟨rfl, M286, e286⟩ := hQ286
      have N286 := Fr.app N283 M286
      have g287 : Go p e below T286 (mkF m 169 #[iv p0, iv p1, iv p2, iv p3, iv p4, rv b102, rv b120, rv r142, rv b154, rv b154, rv b260, rv r275] [(.ref b154)]) A0 := fun t kont => g285 t (st286.trans kont)
      have g288 : Go p e below T286 (mkF m 177 #[iv p0, iv p1, iv p2, iv p3, iv p4, rv b102, rv b120, rv r142, rv b154, rv b154, rv b260, rv r275] [(.int (1 : Int32)), (.ref r275)]) A0 := by
        intro t kont
        refine g287 t ?_
        refine XS.aload X286.here hx rfl (hb hby at_169) rfl rfl ?_
        show Steps p.tables e below (T286.setTop (mkF m 171 #[iv p0, iv p1, iv p2, iv p3, iv p4, rv b102, rv b120, rv r142, rv b154, rv b154, rv b260, rv r275] [(.ref b154), (.ref b154)])) _
        refine Jvm.RoadKit.acmp (g := (mkF m 171 #[iv p0, iv p1, iv p2, iv p3, iv p4, rv b102, rv b120, rv r142, rv b154, rv b154, rv b260, rv r275] [(.ref b154), (.ref b154)])) X286 hx rfl rfl rfl (pc0 := 171) (pc' := 174) (same := true) rfl (hb hby at_171) rfl (decide_eq_true rfl) (by decide) (by decide) ?_
        show Steps p.tables e below (T286.setTop (mkF m 174 #[iv p0, iv p1, iv p2, iv p3, iv p4, rv b102, rv b120, rv r142, rv b154, rv b154, rv b260, rv r275] [])) _
        refine XS.aload X286.here hx rfl (hb hby at_174) rfl rfl ?_
        show Steps p.tables e below (T286.setTop (mkF m 176 #[iv p0, iv p1, iv p2, iv p3, iv p4, rv b102, rv b120, rv r142, rv b154, rv b154, rv b260, rv r275] [(.ref r275)])) _
        refine XS.iconst X286.here hx rfl (hb hby at_176) ?_
        show Steps p.tables e below (T286.setTop (mkF m 177 #[iv p0, iv p1, iv p2, iv p3, iv p4, rv b102, rv b120, rv r142, rv b154, rv b154, rv b260, rv r275] [(.int (1 : Int32)), (.ref r275)])) _
        exact kont
      obtain ⟨cq289, kq289, q289a, q289b, q289c⟩ := isOf hZ e286 y277
      obtain ⟨_, _, ⟨T289, L289, k289, n289⟩, -, X289, ⟨Lc289, hQ289, l289, y289, z289⟩, st289⟩ := X286.interfaceBack hx (xi := (⟨"java/util/List", "get", "(I)Ljava/lang/Object;"⟩ : MethodName)) (y := (⟨"java/util/ImmutableCollections$List12", "get", "(I)Ljava/lang/Object;"⟩ : MethodName)) hown (mvT hZ (hw _ (List.mem_of_getElem? (i := 125) rfl))) (mvT hZ (hw _ (List.mem_of_getElem? (i := 126) rfl))) (mvT hZ (hw _ (List.mem_of_getElem? (i := 127) rfl))) (mvT hZ (hw _ (List.mem_of_getElem? (i := 128) rfl))) (mvT hZ (hw _ (List.mem_of_getElem? (i := 129) rfl))) (mvT hZ (hw _ (List.mem_of_getElem? (i := 130) rfl))) (mvT hZ (hw _ (List.mem_of_getElem? (i := 131) rfl))) (mvT hZ (hw _ (List.mem_of_getElem? (i := 121) rfl))) (by decide) (backOf (W := 0) (rm_get1 l Z a0 hw [] r275 b154 w_EMPTY T274.heap n0 O280 y279 S1_ (Ne.symm (O280.ne ZE3_.lt ge161))) hZ (hw _ (List.mem_of_getElem? (i := 132) rfl)) (hw _ (List.mem_of_getElem? (i := 82) rfl)) (by decide) (by decide)) q289a q289b q289c (g := (mkF m 177 #[iv p0, iv p1, iv p2, iv p3, iv p4, rv b102, rv b120, rv r142, rv b154, rv b154, rv b260, rv r275] [(.int (1 : Int32)), (.ref r275)])) rfl (by rw [hml]; rfl) (Steps.refl _) (argsL := [(.int (1 : Int32))]) (rest := []) (lenOf pd_17 rfl) rfl (by show 2 * 0 + _ ≤ _; exact Nat.le_of_eq rfl) (hb hby at_177) (fun _ _ => ⟨rfl, e286, (by decide : 8 + 0 ≤ _), (by decide : 19 + 0 ≤ _)⟩)
      dsimp only [Pt.U, Pt.locs, Pt.cells, Pt.slots] at X289 l289 y289 z289 st289 hQ289
      subst l289 y289 z289
      obtain ⟨rfl, M289, e289⟩ := hQ289
      have N289 := Fr.app N286 M289
      have g290 : Go p e below T289 (mkF m 182 #[iv p0, iv p1, iv p2, iv p3, iv p4, rv b102, rv b120, rv r142, rv b154, rv b154, rv b260, rv r275] [(.ref b154)]) A0 := fun t kont => g288 t (st289.trans kont)
      have g291 : Go p e below T289 (mkF m 192 #[iv p0, iv p1, iv p2, iv p3, iv p4, rv b102, rv b120, rv r142, rv b154, rv b154, rv b260, rv r275] [(.int (1 : Int32))]) A0 := by
        intro t kont
        refine g290 t ?_
        refine XS.aload X289.here hx rfl (hb hby at_182) rfl rfl ?_
        show Steps p.tables e below (T289.setTop (mkF m 184 #[iv p0, iv p1, iv p2, iv p3, iv p4, rv b102, rv b120, rv r142, rv b154, rv b154, rv b260, rv r275] [(.ref b154), (.ref b154)])) _
        refine Jvm.RoadKit.acmp (g := (mkF m 184 #[iv p0, iv p1, iv p2, iv p3, iv p4, rv b102, rv b120, rv r142, rv b154, rv b154, rv b260, rv r275] [(.ref b154), (.ref b154)])) X289 hx rfl rfl rfl (pc0 := 184) (pc' := 187) (same := true) rfl (hb hby at_184) rfl (decide_eq_true rfl) (by decide) (by decide) ?_
        show Steps p.tables e below (T289.setTop (mkF m 187 #[iv p0, iv p1, iv p2, iv p3, iv p4, rv b102, rv b120, rv r142, rv b154, rv b154, rv b260, rv r275] [])) _
        refine XS.iconst X289.here hx rfl (hb hby at_187) ?_
        show Steps p.tables e below (T289.setTop (mkF m 188 #[iv p0, iv p1, iv p2, iv p3, iv p4, rv b102, rv b120, rv r142, rv b154, rv b154, rv b260, rv r275] [(.int (1 : Int32))])) _
        refine XS.goto X289.here hx rfl (pc0 := 188) (pc' := 192) rfl (hb hby at_188) (by decide) (by decide) ?_
        show Steps p.tables e below (T289.setTop (mkF m 192 #[iv p0, iv p1, iv p2, iv p3, iv p4, rv b102, rv b120, rv r142, rv b154, rv b154, rv b260, rv r275] [(.int (1 : Int32))])) _
        exact kont
      obtain ⟨fs, hr, hrun, hended, hW, hsame⟩ := X289.leave (v := some (.int (1 : Int32))) (fun h => by rw [Bd.returns] at h; cases h)
      refine ⟨_, _, g291 _ (retN X289 hx (t := .boolean) Bd.returns (by simp) (hb hby at_192) hr), hrun, hended, _, _, rfl, ?_, ⟨_, rfl⟩, hW, hsame.mono (by decide) (by decide)⟩
      show Q_law Z p0 p1 p2 p3 p4 i_COMPACT_STRINGS w_EMPTY h0 n0 _ T289.heap _
      rw [e289]
      exact ⟨rfl, N289⟩
    have g292 : Go p e below T126 (mkF m 67 #[iv p0, iv p1, iv p2, iv p3, iv p4, rv b102, rv b120, .val .null, .unset, .unset, .unset, .unset] []) A0 := by
      intro t kont
      refine g139 t ?_
      refine XS.ifNo X126.here hx rfl (hb hby at_49) rfl ((if0 _ _).trans (feq c138).1) ?_
      show Steps p.tables e below (T126.setTop (mkF m 52 #[iv p0, iv p1, iv p2, iv p3, iv p4, rv b102, rv b120, .unset, .unset, .unset, .unset, .unset] [])) _
      refine XS.aconstNull X126.here hx rfl (hb hby at_52) ?_
      show Steps p.tables e below (T126.setTop (mkF m 53 #[iv p0, iv p1, iv p2, iv p3, iv p4, rv b102, rv b120, .unset, .unset, .unset, .unset, .unset] [.null])) _
      refine XS.goto X126.here hx rfl (pc0 := 53) (pc' := 65) rfl (hb hby at_53) (by decide) (by decide) ?_
      show Steps p.tables e below (T126.setTop (mkF m 65 #[iv p0, iv p1, iv p2, iv p3, iv p4, rv b102, rv b120, .unset, .unset, .unset, .unset, .unset] [.null])) _
      refine XS.astore X126.here hx rfl (hb hby at_65) rfl rfl (l' := #[iv p0, iv p1, iv p2, iv p3, iv p4, rv b102, rv b120, .val .null, .unset, .unset, .unset, .unset]) rfl ?_
      show Steps p.tables e below (T126.setTop (mkF m 67 #[iv p0, iv p1, iv p2, iv p3, iv p4, rv b102, rv b120, .val .null, .unset, .unset, .unset, .unset] [])) _
      exact kont
    obtain ⟨T293, h293, X293, e293, E293, A293, D293, -, st293⟩ := newO X126 hx hZ hown (hw _ (List.mem_of_getElem? (i := 44) rfl)) (hw _ (List.mem_of_getElem? (i := 45) rfl)) (hw _ (List.mem_of_getElem? (i := 46) rfl)) rfl (g := (mkF m 67 #[iv p0, iv p1, iv p2, iv p3, iv p4, rv b102, rv b120, .val .null, .unset, .unset, .unset, .unset] [])) rfl (hb hby at_67) (by decide) (by decide)
    obtain ⟨b293, gb293⟩ : ∃ z, z = T126.heap.size := ⟨_, rfl⟩
    rw [← gb293] at A293 D293 st293
    have O294 := O136.ext E293
    have y295 : Fld Z h293 b293 "com/example/subsume/subsume/engine/Individual" "name" "Ljava/lang/String;" .null := D293 (Or.inr (hw _ (List.mem_of_getElem? (i := 52) rfl))) (ty := (.object "java/lang/String")) (by decide)
    have y296 : Fld Z h293 b293 "com/example/subsume/subsume/engine/Individual" "id" "I" (.int (0 : Int32)) := D293 (Or.inr (hw _ (List.mem_of_getElem? (i := 54) rfl))) (ty := .int) (by decide)
    have g297 : Go p e below T293 (mkF m 70 #[iv p0, iv p1, iv p2, iv p3, iv p4, rv b102, rv b120, .val .null, .unset, .unset, .unset, .unset] [(.ref b293)]) A0 := fun t kont => g292 t (st293 t kont)
    have g298 : Go p e below T293 (mkF m 74 #[iv p0, iv p1, iv p2, iv p3, iv p4, rv b102, rv b120, .val .null, .unset, .unset, .unset, .unset] [(.int p2), (.ref b120), (.ref b293), (.ref b293)]) A0 := by
      intro t kont
      refine g297 t ?_
      refine XS.dup X293.here hx rfl (hb hby at_70) rfl rfl ?_
      show Steps p.tables e below (T293.setTop (mkF m 71 #[iv p0, iv p1, iv p2, iv p3, iv p4, rv b102, rv b120, .val .null, .unset, .unset, .unset, .unset] [(.ref b293), (.ref b293)])) _
      refine XS.aload X293.here hx rfl (hb hby at_71) rfl rfl ?_
      show Steps p.tables e below (T293.setTop (mkF m 73 #[iv p0, iv p1, iv p2, iv p3, iv p4, rv b102, rv b120, .val .null, .unset, .unset, .unset, .unset] [(.ref b120), (.ref b293), (.ref b293)])) _
      refine XS.iloadN X293.here hx rfl (hb hby at_73) rfl ?_
      show Steps p.tables e below (T293.setTop (mkF m 74 #[iv p0, iv p1, iv p2, iv p3, iv p4, rv b102, rv b120, .val .null, .unset, .unset, .unset, .unset] [(.int p2), (.ref b120), (.ref b293), (.ref b293)])) _
      exact kont
    have ge300 : n0 ≤ b293 := Nat.le_trans (own_old_le O136) (Nat.le_of_eq gb293.symm)
    obtain ⟨_, _, ⟨T299, L299, k299, n299⟩, -, X299, ⟨Lc299, hQ299, l299, y299, z299⟩, st299⟩ := X293.specialBack hx (y := (⟨"com/example/subsume/subsume/engine/Individual", "<init>", "(Ljava/lang/String;I)V"⟩ : MethodName)) rfl hown (mvT hZ (hw _ (List.mem_of_getElem? (i := 47) rfl))) (mvT hZ (hw _ (List.mem_of_getElem? (i := 48) rfl))) (mvT hZ (hw _ (List.mem_of_getElem? (i := 49) rfl))) (by decide) (backOf (W := 1) (rm_indI l Z a0 hw [] b293 (.ref b120) p2 h293 n0 O294 (rfl) y295 y296 A293 ge300) hZ (hw _ (List.mem_of_getElem? (i := 49) rfl)) (hw _ (List.mem_of_getElem? (i := 46) rfl)) (by decide) (by decide)) (g := (mkF m 74 #[iv p0, iv p1, iv p2, iv p3, iv p4, rv b102, rv b120, .val .null, .unset, .unset, .unset, .unset] [(.int p2), (.ref b120), (.ref b293), (.ref b293)])) rfl (by rw [hml]; rfl) (Steps.refl _) (a := b293) (argsL := [(.ref b120), (.int p2)]) (rest := [(.ref b293)]) (lenOf pd_13 rfl) rfl (by show 2 * 0 + _ ≤ _; exact Nat.le_of_eq rfl) (hb hby at_74) (fun _ _ => ⟨rfl, e293, (by decide : 4 + 0 ≤ _), (by decide : 10 + 0 ≤ _)⟩)
    dsimp only [Pt.U, Pt.locs, Pt.cells, Pt.slots] at X299 l299 y299 z299 st299 hQ299
    subst l299 y299 z299
    obtain ⟨rfl, M299, K299, y301⟩ := hQ299
    have N299 := Fr.app N126 M299
    have O302 := O294.keep K299 (allS ge300 all0)
    have g303 : Go p e below T299 (mkF m 77 #[iv p0, iv p1, iv p2, iv p3, iv p4, rv b102, rv b120, .val .null, .unset, .unset, .unset, .unset] [(.ref b293)]) A0 := fun t kont => g298 t (st299.trans kont)
    have g305 : Go p e below T299 (mkF m 83 #[iv p0, iv p1, iv p2, iv p3, iv p4, rv b102, rv b120, .val .null, rv b293, .unset, .unset, .unset] [(.int (p4 &&& (4 : Int32)))]) A0 := by
      intro t kont
      refine g303 t ?_
      refine XS.astore X299.here hx rfl (hb hby at_77) rfl rfl (l' := #[iv p0, iv p1, iv p2, iv p3, iv p4, rv b102, rv b120, .val .null, rv b293, .unset, .unset, .unset]) rfl ?_
      show Steps p.tables e below (T299.setTop (mkF m 79 #[iv p0, iv p1, iv p2, iv p3, iv p4, rv b102, rv b120, .val .null, rv b293, .unset, .unset, .unset] [])) _
      refine XS.iload X299.here hx rfl (hb hby at_79) rfl ?_
      show Steps p.tables e below (T299.setTop (mkF m 81 #[iv p0, iv p1, iv p2, iv p3, iv p4, rv b102, rv b120, .val .null, rv b293, .unset, .unset, .unset] [(.int p4)])) _
      refine XS.iconst X299.here hx rfl (hb hby at_81) ?_
      show Steps p.tables e below (T299.setTop (mkF m 82 #[iv p0, iv p1, iv p2, iv p3, iv p4, rv b102, rv b120, .val .null, rv b293, .unset, .unset, .unset] [(.int (4 : Int32)), (.int p4)])) _
      refine XS.iand X299.here hx rfl (hb hby at_82) rfl ?_
      show Steps p.tables e below (T299.setTop (mkF m 83 #[iv p0, iv p1, iv p2, iv p3, iv p4, rv b102, rv b120, .val .null, rv b293, .unset, .unset, .unset] [(.int (p4 &&& (4 : Int32)))])) _
      exact kont
    by_cases c304 : (p4 &&& (4 : Int32)) = (0 : Int32)
    ·
      have g307 : Go p e below T299 (mkF m 98 #[iv p0, iv p1, iv p2, iv p3, iv p4, rv b102, rv b120, .val .null, rv b293, .unset, .unset, .unset] [(.int (p4 &&& (8 : Int32)))]) A0 := by
        intro t kont
        refine g305 t ?_
        refine XS.ifYes X299.here hx rfl (pc0 := 83) (pc' := 93) rfl (hb hby at_83) rfl ((if0 _ _).trans (teq c304).1) (by decide) (by decide) ?_
        show Steps p.tables e below (T299.setTop (mkF m 93 #[iv p0, iv p1, iv p2, iv p3, iv p4, rv b102, rv b120, .val .null, rv b293, .unset, .unset, .unset] [])) _
        refine XS.iload X299.here hx rfl (hb hby at_93) rfl ?_
        show Steps p.tables e below (T299.setTop (mkF m 95 #[iv p0, iv p1, iv p2, iv p3, iv p4, rv b102, rv b120, .val .null, rv b293, .unset, .unset, .unset] [(.int p4)])) _
        refine XS.bipush X299.here hx rfl (hb hby at_95) ?_
        show Steps p.tables e below (T299.setTop (mkF m 97 #[iv p0, iv p1, iv p2, iv p3, iv p4, rv b102, rv b120, .val .null, rv b293, .unset, .unset, .unset] [(.int (8 : Int32)), (.int p4)])) _
        refine XS.iand X299.here hx rfl (hb hby at_97) rfl ?_
        show Steps p.tables e below (T299.setTop (mkF m 98 #[iv p0, iv p1, iv p2, iv p3, iv p4, rv b102, rv b120, .val .null, rv b293, .unset, .unset, .unset] [(.int (p4 &&& (8 : Int32)))])) _
        exact kont
      by_cases c306 : (p4 &&& (8 : Int32)) = (0 : Int32)
      ·
        have g308 : Go p e below T299 (mkF m 116 #[iv p0, iv p1, iv p2, iv p3, iv p4, rv b102, rv b120, .val .null, rv b293, .unset, .unset, .unset] []) A0 := by
          intro t kont
          refine g307 t ?_
          refine XS.ifYes X299.here hx rfl (pc0 := 98) (pc' := 116) rfl (hb hby at_98) rfl ((if0 _ _).trans (teq c306).1) (by decide) (by decide) ?_
          show Steps p.tables e below (T299.setTop (mkF m 116 #[iv p0, iv p1, iv p2, iv p3, iv p4, rv b102, rv b120, .val .null, rv b293, .unset, .unset, .unset] [])) _
          exact kont
        obtain ⟨T309, h309, X309, e309, E309, A309, D309, -, st309⟩ := newO X299 hx hZ hown (hw _ (List.mem_of_getElem? (i := 44) rfl)) (hw _ (List.mem_of_getElem? (i := 45) rfl)) (hw _ (List.mem_of_getElem? (i := 46) rfl)) rfl (g := (mkF m 116 #[iv p0, iv p1, iv p2, iv p3, iv p4, rv b102, rv b120, .val .null, rv b293, .unset, .unset, .unset] [])) rfl (hb hby at_116) (by decide) (by decide)
        obtain ⟨b309, gb309⟩ : ∃ z, z = T299.heap.size := ⟨_, rfl⟩
        rw [← gb309] at A309 D309 st309
        have O310 := O302.ext E309
        have y311 : Fld Z h309 b309 "com/example/subsume/subsume/engine/Individual" "name" "Ljava/lang/String;" .null := D309 (Or.inr (hw _ (List.mem_of_getElem? (i := 52) rfl))) (ty := (.object "java/lang/String")) (by decide)
        have y312 : Fld Z h309 b309 "com/example/subsume/subsume/engine/Individual" "id" "I" (.int (0 : Int32)) := D309 (Or.inr (hw _ (List.mem_of_getElem? (i := 54) rfl))) (ty := .int) (by decide)
        have g313 : Go p e below T309 (mkF m 119 #[iv p0, iv p1, iv p2, iv p3, iv p4, rv b102, rv b120, .val .null, rv b293, .unset, .unset, .unset] [(.ref b309)]) A0 := fun t kont => g308 t (st309 t kont)
        have g314 : Go p e below T309 (mkF m 123 #[iv p0, iv p1, iv p2, iv p3, iv p4, rv b102, rv b120, .val .null, rv b293, .unset, .unset, .unset] [(.int p3), .null, (.ref b309), (.ref b309)]) A0 := by
          intro t kont
          refine g313 t ?_
          refine XS.dup X309.here hx rfl (hb hby at_119) rfl rfl ?_
          show Steps p.tables e below (T309.setTop (mkF m 120 #[iv p0, iv p1, iv p2, iv p3, iv p4, rv b102, rv b120, .val .null, rv b293, .unset, .unset, .unset] [(.ref b309), (.ref b309)])) _
          refine XS.aload X309.here hx rfl (hb hby at_120) rfl rfl ?_
          show Steps p.tables e below (T309.setTop (mkF m 122 #[iv p0, iv p1, iv p2, iv p3, iv p4, rv b102, rv b120, .val .null, rv b293, .unset, .unset, .unset] [.null, (.ref b309), (.ref b309)])) _
          refine XS.iloadN X309.here hx rfl (hb hby at_122) rfl ?_
          show Steps p.tables e below (T309.setTop (mkF m 123 #[iv p0, iv p1, iv p2, iv p3, iv p4, rv b102, rv b120, .val .null, rv b293, .unset, .unset, .unset] [(.int p3), .null, (.ref b309), (.ref b309)])) _
          exact kont
        have ge316 : n0 ≤ b309 := Nat.le_trans (own_old_le O302) (Nat.le_of_eq gb309.symm)
        obtain ⟨_, _, ⟨T315, L315, k315, n315⟩, -, X315, ⟨Lc315, hQ315, l315, y315, z315⟩, st315⟩ := X309.specialBack hx (y := (⟨"com/example/subsume/subsume/engine/Individual", "<init>", "(Ljava/lang/String;I)V"⟩ : MethodName)) rfl hown (mvT hZ (hw _ (List.mem_of_getElem? (i := 47) rfl))) (mvT hZ (hw _ (List.mem_of_getElem? (i := 48) rfl))) (mvT hZ (hw _ (List.mem_of_getElem? (i := 49) rfl))) (by decide) (backOf (W := 1) (rm_indI l Z a0 hw [] b309 .null p3 h309 n0 O310 (rfl) y311 y312 A309 ge316) hZ (hw _ (List.mem_of_getElem? (i := 49) rfl)) (hw _ (List.mem_of_getElem? (i := 46) rfl)) (by decide) (by decide)) (g := (mkF m 123 #[iv p0, iv p1, iv p2, iv p3, iv p4, rv b102, rv b120, .val .null, rv b293, .unset, .unset, .unset] [(.int p3), .null, (.ref b309), (.ref b309)])) rfl (by rw [hml]; rfl) (Steps.refl _) (a := b309) (argsL := [.null, (.int p3)]) (rest := [(.ref b309)]) (lenOf pd_13 rfl) rfl (by show 2 * 0 + _ ≤ _; exact Nat.le_of_eq rfl) (hb hby at_123) (fun _ _ => ⟨rfl, e309, (by decide : 5 + 0 ≤ _), (by decide : 12 + 0 ≤ _)⟩)
        dsimp only [Pt.U, Pt.locs, Pt.cells, Pt.slots] at X315 l315 y315 z315 st315 hQ315
        subst l315 y315 z315
        obtain ⟨rfl, M315, K315, y317⟩ := hQ315
        have N315 := Fr.app N299 M315
        have O318 := O310.keep K315 (allS ge316 all0)
        have g319 : Go p e below T315 (mkF m 126 #[iv p0, iv p1, iv p2, iv p3, iv p4, rv b102, rv b120, .val .null, rv b293, .unset, .unset, .unset] [(.ref b309)]) A0 := fun t kont => g314 t (st315.trans kont)
        have g320 : Go p e below T315 (mkF m 128 #[iv p0, iv p1, iv p2, iv p3, iv p4, rv b102, rv b120, .val .null, rv b293, rv b309, .unset, .unset] []) A0 := by
          intro t kont
          refine g319 t ?_
          refine XS.astore X315.here hx rfl (hb hby at_126) rfl rfl (l' := #[iv p0, iv p1, iv p2, iv p3, iv p4, rv b102, rv b120, .val .null, rv b293, rv b309, .unset, .unset]) rfl ?_
          show Steps p.tables e below (T315.setTop (mkF m 128 #[iv p0, iv p1, iv p2, iv p3, iv p4, rv b102, rv b120, .val .null, rv b293, rv b309, .unset, .unset] [])) _
          exact kont
        obtain ⟨T321, h321, X321, e321, E321, A321, D321, -, st321⟩ := newO X315 hx hZ hown (hw _ (List.mem_of_getElem? (i := 55) rfl)) (hw _ (List.mem_of_getElem? (i := 56) rfl)) (hw _ (List.mem_of_getElem? (i := 57) rfl)) rfl (g := (mkF m 128 #[iv p0, iv p1, iv p2, iv p3, iv p4, rv b102, rv b120, .val .null, rv b293, rv b309, .unset, .unset] [])) rfl (hb hby at_128) (by decide) (by decide)
        obtain ⟨b321, gb321⟩ : ∃ z, z = T315.heap.size := ⟨_, rfl⟩
        rw [← gb321] at A321 D321 st321
        have O322 := O318.ext E321
        have y323 : Fld Z h321 b321 "com/example/subsume/subsume/engine/IndividualEquality" "individual" "Lcom/example/subsume/subsume/engine/Individual;" .null := D321 (Or.inr (hw _ (List.mem_of_getElem? (i := 68) rfl))) (ty := (.object "com/example/subsume/subsume/engine/Individual")) (by decide)
        have y324 : Fld Z h321 b321 "com/example/subsume/subsume/engine/IndividualEquality" "other" "Lcom/example/subsume/subsume/engine/Individual;" .null := D321 (Or.inr (hw _ (List.mem_of_getElem? (i := 70) rfl))) (ty := (.object "com/example/subsume/subsume/engine/Individual")) (by decide)
        have g325 : Go p e below T321 (mkF m 131 #[iv p0, iv p1, iv p2, iv p3, iv p4, rv b102, rv b120, .val .null, rv b293, rv b309, .unset, .unset] [(.ref b321)]) A0 := fun t kont => g320 t (st321 t kont)
        have g326 : Go p e below T321 (mkF m 136 #[iv p0, iv p1, iv p2, iv p3, iv p4, rv b102, rv b120, .val .null, rv b293, rv b309, .unset, .unset] [(.ref b309), (.ref b293), (.ref b321), (.ref b321)]) A0 := by
          intro t kont
          refine g325 t ?_
          refine XS.dup X321.here hx rfl (hb hby at_131) rfl rfl ?_
          show Steps p.tables e below (T321.setTop (mkF m 132 #[iv p0, iv p1, iv p2, iv p3, iv p4, rv b102, rv b120, .val .null, rv b293, rv b309, .unset, .unset] [(.ref b321), (.ref b321)])) _
          refine XS.aload X321.here hx rfl (hb hby at_132) rfl rfl ?_
          show Steps p.tables e below (T321.setTop (mkF m 134 #[iv p0, iv p1, iv p2, iv p3, iv p4, rv b102, rv b120, .val .null, rv b293, rv b309, .unset, .unset] [(.ref b293), (.ref b321), (.ref b321)])) _
          refine XS.aload X321.here hx rfl (hb hby at_134) rfl rfl ?_
          show Steps p.tables e below (T321.setTop (mkF m 136 #[iv p0, iv p1, iv p2, iv p3, iv p4, rv b102, rv b120, .val .null, rv b293, rv b309, .unset, .unset] [(.ref b309), (.ref b293), (.ref b321), (.ref b321)])) _
          exact kont
        have ge328 : n0 ≤ b321 := Nat.le_trans (own_old_le O318) (Nat.le_of_eq gb321.symm)
        obtain ⟨_, _, ⟨T327, L327, k327, n327⟩, -, X327, ⟨Lc327, hQ327, l327, y327, z327⟩, st327⟩ := X321.specialBack hx (y := (⟨"com/example/subsume/subsume/engine/IndividualEquality", "<init>", "(Lcom/example/subsume/subsume/engine/Individual;Lcom/example/subsume/subsume/engine/Individual;)V"⟩ : MethodName)) rfl hown (mvT hZ (hw _ (List.mem_of_getElem? (i := 58) rfl))) (mvT hZ (hw _ (List.mem_of_getElem? (i := 59) rfl))) (mvT hZ (hw _ (List.mem_of_getElem? (i := 60) rfl))) (by decide) (backOf (W := 1) (rm_relI l Z a0 hw [] b321 b293 b309 h321 n0 O322 y323 y324 A321 ge328) hZ (hw _ (List.mem_of_getElem? (i := 60) rfl)) (hw _ (List.mem_of_getElem? (i := 57) rfl)) (by decide) (by decide)) (g := (mkF m 136 #[iv p0, iv p1, iv p2, iv p3, iv p4, rv b102, rv b120, .val .null, rv b293, rv b309, .unset, .unset] [(.ref b309), (.ref b293), (.ref b321), (.ref b321)])) rfl (by rw [hml]; rfl) (Steps.refl _) (a := b321) (argsL := [(.ref b293), (.ref b309)]) (rest := [(.ref b321)]) (lenOf pd_14 rfl) rfl (by show 2 * 0 + _ ≤ _; exact Nat.le_of_eq rfl) (hb hby at_136) (fun _ _ => ⟨rfl, e321, (by decide : 6 + 0 ≤ _), (by decide : 14 + 0 ≤ _)⟩)
        dsimp only [Pt.U, Pt.locs, Pt.cells, Pt.slots] at X327 l327 y327 z327 st327 hQ327
        subst l327 y327 z327
        obtain ⟨rfl, M327, K327, y329, y330, y331⟩ := hQ327
        have N327 := Fr.app N315 M327
        have O332 := O322.keep K327 (allS ge328 all0)
        have g333 : Go p e below T327 (mkF m 139 #[iv p0, iv p1, iv p2, iv p3, iv p4, rv b102, rv b120, .val .null, rv b293, rv b309, .unset, .unset] [(.ref b321)]) A0 := fun t kont => g326 t (st327.trans kont)
        have g334 : Go p e below T327 (mkF m 143 #[iv p0, iv p1, iv p2, iv p3, iv p4, rv b102, rv b120, .val .null, rv b293, rv b309, rv b321, .unset] [(.ref b321)]) A0 := by
          intro t kont
          refine g333 t ?_
          refine XS.astore X327.here hx rfl (hb hby at_139) rfl rfl (l' := #[iv p0, iv p1, iv p2, iv p3, iv p4, rv b102, rv b120, .val .null, rv b293, rv b309, rv b321, .unset]) rfl ?_
          show Steps p.tables e below (T327.setTop (mkF m 141 #[iv p0, iv p1, iv p2, iv p3, iv p4, rv b102, rv b120, .val .null, rv b293, rv b309, rv b321, .unset] [])) _
          refine XS.aload X327.here hx rfl (hb hby at_141) rfl rfl ?_
          show Steps p.tables e below (T327.setTop (mkF m 143 #[iv p0, iv p1, iv p2, iv p3, iv p4, rv b102, rv b120, .val .null, rv b293, rv b309, rv b321, .unset] [(.ref b321)])) _
          exact kont
        obtain ⟨cq335, kq335, q335a, q335b, q335c⟩ := isOf hZ rfl y329
        obtain ⟨_, _, ⟨T335, L335, k335, n335⟩, -, X335, ⟨Lc335, hQ335, l335, y335, z335⟩, st335⟩ := X327.virtualBack hx (y := (⟨"com/example/subsume/subsume/engine/IndividualEquality", "individuals", "()Ljava/util/List;"⟩ : MethodName)) (z := (⟨"com/example/subsume/subsume/engine/IndividualEquality", "individuals", "()Ljava/util/List;"⟩ : MethodName)) hown (mvT hZ (hw _ (List.mem_of_getElem? (i := 71) rfl))) (mvT hZ (hw _ (List.mem_of_getElem? (i := 72) rfl))) (notFace_of_selects (args := #[]) (mvT hZ (hw _ (List.mem_of_getElem? (i := 74) rfl)))) (mvT hZ (hw _ (List.mem_of_getElem? (i := 74) rfl))) (mvT hZ (hw _ (List.mem_of_getElem? (i := 73) rfl))) (by decide) (backOf (W := 0) (rm_inds l Z a0 hw [] b321 b293 b309 T327.heap n0 O332 y330 y331) hZ (hw _ (List.mem_of_getElem? (i := 75) rfl)) (hw _ (List.mem_of_getElem? (i := 57) rfl)) (by decide) (by decide)) q335a q335c (g := (mkF m 143 #[iv p0, iv p1, iv p2, iv p3, iv p4, rv b102, rv b120, .val .null, rv b293, rv b309, rv b321, .unset] [(.ref b321)])) rfl (by rw [hml]; rfl) (Steps.refl _) (argsL := []) (rest := []) (lenOf pd_15 rfl) rfl (by show 2 * 0 + _ ≤ _; exact Nat.le_of_eq rfl) (hb hby at_143) (fun _ _ => ⟨rfl, rfl, (by decide : 6 + 1 ≤ _), (by decide : 14 + 2 ≤ _)⟩)
        dsimp only [Pt.U, Pt.locs, Pt.cells, Pt.slots] at X335 l335 y335 z335 st335 hQ335
        subst l335 y335 z335
        obtain ⟨r336, rfl, M335, K335, y337, y338, y339, y340⟩ := hQ335
        have N335 := Fr.app N327 M335
        have O341 := O332.keep K335 all0
        have g342 : Go p e below T335 (mkF m 146 #[iv p0, iv p1, iv p2, iv p3, iv p4, rv b102, rv b120, .val .null, rv b293, rv b309, rv b321, .unset] [(.ref r336)]) A0 := fun t kont => g334 t (st335.trans kont)
        have g343 : Go p e below T335 (mkF m 150 #[iv p0, iv p1, iv p2, iv p3, iv p4, rv b102, rv b120, .val .null, rv b293, rv b309, rv b321, rv r336] [(.ref r336)]) A0 := by
          intro t kont
          refine g342 t ?_
          refine XS.astore X335.here hx rfl (hb hby at_146) rfl rfl (l' := #[iv p0, iv p1, iv p2, iv p3, iv p4, rv b102, rv b120, .val .null, rv b293, rv b309, rv b321, rv r336]) rfl ?_
          show Steps p.tables e below (T335.setTop (mkF m 148 #[iv p0, iv p1, iv p2, iv p3, iv p4, rv b102, rv b120, .val .null, rv b293, rv b309, rv b321, rv r336] [])) _
          refine XS.aload X335.here hx rfl (hb hby at_148) rfl rfl ?_
          show Steps p.tables e below (T335.setTop (mkF m 150 #[iv p0, iv p1, iv p2, iv p3, iv p4, rv b102, rv b120, .val .null, rv b293, rv b309, rv b321, rv r336] [(.ref r336)])) _
          exact kont
        obtain ⟨cq344, kq344, q344a, q344b, q344c⟩ := isOf hZ rfl y338
        obtain ⟨_, _, ⟨T344, L344, k344, n344⟩, -, X344, ⟨Lc344, hQ344, l344, y344, z344⟩, st344⟩ := X335.interfaceBack hx (xi := (⟨"java/util/List", "size", "()I"⟩ : MethodName)) (y := (⟨"java/util/ImmutableCollections$List12", "size", "()I"⟩ : MethodName)) hown (mvT hZ (hw _ (List.mem_of_getElem? (i := 114) rfl))) (mvT hZ (hw _ (List.mem_of_getElem? (i := 115) rfl))) (mvT hZ (hw _ (List.mem_of_getElem? (i := 116) rfl))) (mvT hZ (hw _ (List.mem_of_getElem? (i := 117) rfl))) (mvT hZ (hw _ (List.mem_of_getElem? (i := 118) rfl))) (mvT hZ (hw _ (List.mem_of_getElem? (i := 119) rfl))) (mvT hZ (hw _ (List.mem_of_getElem? (i := 120) rfl))) (mvT hZ (hw _ (List.mem_of_getElem? (i := 121) rfl))) (by decide) (backOf (W := 0) (rm_siz l Z a0 hw [] r336 b309 w_EMPTY T335.heap n0 O341 y340 S1_ (Ne.symm (O341.ne ZE3_.lt ge316))) hZ (hw _ (List.mem_of_getElem? (i := 122) rfl)) (hw _ (List.mem_of_getElem? (i := 82) rfl)) (by decide) (by decide)) q344a q344b q344c (g := (mkF m 150 #[iv p0, iv p1, iv p2, iv p3, iv p4, rv b102, rv b120, .val .null, rv b293, rv b309, rv b321, rv r336] [(.ref r336)])) rfl (by rw [hml]; rfl) (Steps.refl _) (argsL := []) (rest := []) (lenOf pd_16 rfl) rfl (by show 2 * 0 + _ ≤ _; exact Nat.le_of_eq rfl) (hb hby at_150) (fun _ _ => ⟨rfl, rfl, (by decide : 7 + 0 ≤ _), (by decide : 16 + 0 ≤ _)⟩)
        dsimp only [Pt.U, Pt.locs, Pt.cells, Pt.slots] at X344 l344 y344 z344 st344 hQ344
        subst l344 y344 z344
        obtain ⟨rfl, M344, e344⟩ := hQ344
        have N344 := Fr.app N335 M344
        have g345 : Go p e below T344 (mkF m 155 #[iv p0, iv p1, iv p2, iv p3, iv p4, rv b102, rv b120, .val .null, rv b293, rv b309, rv b321, rv r336] [(.int (2 : Int32))]) A0 := fun t kont => g343 t (st344.trans kont)
        have g346 : Go p e below T344 (mkF m 164 #[iv p0, iv p1, iv p2, iv p3, iv p4, rv b102, rv b120, .val .null, rv b293, rv b309, rv b321, rv r336] [(.int (0 : Int32)), (.ref r336)]) A0 := by
          intro t kont
          refine g345 t ?_
          refine XS.iconst X344.here hx rfl (hb hby at_155) ?_
          show Steps p.tables e below (T344.setTop (mkF m 156 #[iv p0, iv p1, iv p2, iv p3, iv p4, rv b102, rv b120, .val .null, rv b293, rv b309, rv b321, rv r336] [(.int (2 : Int32)), (.int (2 : Int32))])) _
          refine XS.icmpYes X344.here hx rfl (pc0 := 156) (pc' := 161) rfl (hb hby at_156) rfl (teq (by decide : (2 : Int32) = (2 : Int32))).1 (by decide) (by decide) ?_
          show Steps p.tables e below (T344.setTop (mkF m 161 #[iv p0, iv p1, iv p2, iv p3, iv p4, rv b102, rv b120, .val .null, rv b293, rv b309, rv b321, rv r336] [])) _
          refine XS.aload X344.here hx rfl (hb hby at_161) rfl rfl ?_
          show Steps p.tables e below (T344.setTop (mkF m 163 #[iv p0, iv p1, iv p2, iv p3, iv p4, rv b102, rv b120, .val .null, rv b293, rv b309, rv b321, rv r336] [(.ref r336)])) _
          refine XS.iconst X344.here hx rfl (hb hby at_163) ?_
          show Steps p.tables e below (T344.setTop (mkF m 164 #[iv p0, iv p1, iv p2, iv p3, iv p4, rv b102, rv b120, .val .null, rv b293, rv b309, rv b321, rv r336] [(.int (0 : Int32)), (.ref r336)])) _
          exact kont
        obtain ⟨cq347, kq347, q347a, q347b, q347c⟩ := isOf hZ e344 y338
        obtain ⟨_, _, ⟨T347, L347, k347, n347⟩, -, X347, ⟨Lc347, hQ347, l347, y347, z347⟩, st347⟩ := X344.interfaceBack hx (xi := (⟨"java/util/List", "get", "(I)Ljava/lang/Object;"⟩ : MethodName)) (y := (⟨"java/util/ImmutableCollections$List12", "get", "(I)Ljava/lang/Object;"⟩ : MethodName)) hown (mvT hZ (hw _ (List.mem_of_getElem? (i := 125) rfl))) (mvT hZ (hw _ (List.mem_of_getElem? (i := 126) rfl))) (mvT hZ (hw _ (List.mem_of_getElem? (i := 127) rfl))) (mvT hZ (hw _ (List.mem_of_getElem? (i := 128) rfl))) (mvT hZ (hw _ (List.mem_of_getElem? (i := 129) rfl))) (mvT hZ (hw _ (List.mem_of_getElem? (i := 130) rfl))) (mvT hZ (hw _ (List.mem_of_getElem? (i := 131) rfl))) (mvT hZ (hw _ (List.mem_of_getElem? (i := 121) rfl))) (by decide) (backOf (W := 0) (rm_get0 l Z a0 hw [] r336 b293 T335.heap n0 O341 y339) hZ (hw _ (List.mem_of_getElem? (i := 132) rfl)) (hw _ (List.mem_of_getElem? (i := 82) rfl)) (by decide) (by decide)) q347a q347b q347c (g := (mkF m 164 #[iv p0, iv p1, iv p2, iv p3, iv p4, rv b102, rv b120, .val .null, rv b293, rv b309, rv b321, rv r336] [(.int (0 : Int32)), (.ref r336)])) rfl (by rw [hml]; rfl) (Steps.refl _) (argsL := [(.int (0 : Int32))]) (rest := []) (lenOf pd_17 rfl) rfl (by show 2 * 0 + _ ≤ _; exact Nat.le_of_eq rfl) (hb hby at_164) (fun _ _ => ⟨rfl, e344, (by decide : 7 + 0 ≤ _), (by decide : 16 + 0 ≤ _)⟩)
        dsimp only [Pt.U, Pt.locs, Pt.cells, Pt.slots] at X347 l347 y347 z347 st347 hQ347
        subst l347 y347 z347
        obtain ⟨rfl, M347, e347⟩ := hQ347
        have N347 := Fr.app N344 M347
        have g348 : Go p e below T347 (mkF m 169 #[iv p0, iv p1, iv p2, iv p3, iv p4, rv b102, rv b120, .val .null, rv b293, rv b309, rv b321, rv r336] [(.ref b293)]) A0 := fun t kont => g346 t (st347.trans kont)
        have g349 : Go p e below T347 (mkF m 177 #[iv p0, iv p1, iv p2, iv p3, iv p4, rv b102, rv b120, .val .null, rv b293, rv b309, rv b321, rv r336] [(.int (1 : Int32)), (.ref r336)]) A0 := by
          intro t kont
          refine g348 t ?_
          refine XS.aload X347.here hx rfl (hb hby at_169) rfl rfl ?_
          show Steps p.tables e below (T347.setTop (mkF m 171 #[iv p0, iv p1, iv p2, iv p3, iv p4, rv b102, rv b120, .val .null, rv b293, rv b309, rv b321, rv r336] [(.ref b293), (.ref b293)])) _
          refine Jvm.RoadKit.acmp (g := (mkF m 171 #[iv p0, iv p1, iv p2, iv p3, iv p4, rv b102, rv b120, .val .null, rv b293, rv b309, rv b321, rv r336] [(.ref b293), (.ref b293)])) X347 hx rfl rfl rfl (pc0 := 171) (pc' := 174) (same := true) rfl (hb hby at_171) rfl (decide_eq_true rfl) (by decide) (by decide) ?_
          show Steps p.tables e below (T347.setTop (mkF m 174 #[iv p0, iv p1, iv p2, iv p3, iv p4, rv b102, rv b120, .val .null, rv b293, rv b309, rv b321, rv r336] [])) _
          refine XS.aload X347.here hx rfl (hb hby at_174) rfl rfl ?_
          show Steps p.tables e below (T347.setTop (mkF m 176 #[iv p0, iv p1, iv p2, iv p3, iv p4, rv b102, rv b120, .val .null, rv b293, rv b309, rv b321, rv r336] [(.ref r336)])) _
          refine XS.iconst X347.here hx rfl (hb hby at_176) ?_
          show Steps p.tables e below (T347.setTop (mkF m 177 #[iv p0, iv p1, iv p2, iv p3, iv p4, rv b102, rv b120, .val .null, rv b293, rv b309, rv b321, rv r336] [(.int (1 : Int32)), (.ref r336)])) _
          exact kont
        obtain ⟨cq350, kq350, q350a, q350b, q350c⟩ := isOf hZ e347 y338
        obtain ⟨_, _, ⟨T350, L350, k350, n350⟩, -, X350, ⟨Lc350, hQ350, l350, y350, z350⟩, st350⟩ := X347.interfaceBack hx (xi := (⟨"java/util/List", "get", "(I)Ljava/lang/Object;"⟩ : MethodName)) (y := (⟨"java/util/ImmutableCollections$List12", "get", "(I)Ljava/lang/Object;"⟩ : MethodName)) hown (mvT hZ (hw _ (List.mem_of_getElem? (i := 125) rfl))) (mvT hZ (hw _ (List.mem_of_getElem? (i := 126) rfl))) (mvT hZ (hw _ (List.mem_of_getElem? (i := 127) rfl))) (mvT hZ (hw _ (List.mem_of_getElem? (i := 128) rfl))) (mvT hZ (hw _ (List.mem_of_getElem? (i := 129) rfl))) (mvT hZ (hw _ (List.mem_of_getElem? (i := 130) rfl))) (mvT hZ (hw _ (List.mem_of_getElem? (i := 131) rfl))) (mvT hZ (hw _ (List.mem_of_getElem? (i := 121) rfl))) (by decide) (backOf (W := 0) (rm_get1 l Z a0 hw [] r336 b309 w_EMPTY T335.heap n0 O341 y340 S1_ (Ne.symm (O341.ne ZE3_.lt ge316))) hZ (hw _ (List.mem_of_getElem? (i := 132) rfl)) (hw _ (List.mem_of_getElem? (i := 82) rfl)) (by decide) (by decide)) q350a q350b q350c (g := (mkF m 177 #[iv p0, iv p1, iv p2, iv p3, iv p4, rv b102, rv b120, .val .null, rv b293, rv b309, rv b321, rv r336] [(.int (1 : Int32)), (.ref r336)])) rfl (by rw [hml]; rfl) (Steps.refl _) (argsL := [(.int (1 : Int32))]) (rest := []) (lenOf pd_17 rfl) rfl (by show 2 * 0 + _ ≤ _; exact Nat.le_of_eq rfl) (hb hby at_177) (fun _ _ => ⟨rfl, e347, (by decide : 7 + 0 ≤ _), (by decide : 16 + 0 ≤ _)⟩)
        dsimp only [Pt.U, Pt.locs, Pt.cells, Pt.slots] at X350 l350 y350 z350 st350 hQ350
        subst l350 y350 z350
        obtain ⟨rfl, M350, e350⟩ := hQ350
        have N350 := Fr.app N347 M350
        have g351 : Go p e below T350 (mkF m 182 #[iv p0, iv p1, iv p2, iv p3, iv p4, rv b102, rv b120, .val .null, rv b293, rv b309, rv b321, rv r336] [(.ref b309)]) A0 := fun t kont => g349 t (st350.trans kont)
        have g352 : Go p e below T350 (mkF m 192 #[iv p0, iv p1, iv p2, iv p3, iv p4, rv b102, rv b120, .val .null, rv b293, rv b309, rv b321, rv r336] [(.int (1 : Int32))]) A0 := by
          intro t kont
          refine g351 t ?_
          refine XS.aload X350.here hx rfl (hb hby at_182) rfl rfl ?_
          show Steps p.tables e below (T350.setTop (mkF m 184 #[iv p0, iv p1, iv p2, iv p3, iv p4, rv b102, rv b120, .val .null, rv b293, rv b309, rv b321, rv r336] [(.ref b309), (.ref b309)])) _
          refine Jvm.RoadKit.acmp (g := (mkF m 184 #[iv p0, iv p1, iv p2, iv p3, iv p4, rv b102, rv b120, .val .null, rv b293, rv b309, rv b321, rv r336] [(.ref b309), (.ref b309)])) X350 hx rfl rfl rfl (pc0 := 184) (pc' := 187) (same := true) rfl (hb hby at_184) rfl (decide_eq_true rfl) (by decide) (by decide) ?_
          show Steps p.tables e below (T350.setTop (mkF m 187 #[iv p0, iv p1, iv p2, iv p3, iv p4, rv b102, rv b120, .val .null, rv b293, rv b309, rv b321, rv r336] [])) _
          refine XS.iconst X350.here hx rfl (hb hby at_187) ?_
          show Steps p.tables e below (T350.setTop (mkF m 188 #[iv p0, iv p1, iv p2, iv p3, iv p4, rv b102, rv b120, .val .null, rv b293, rv b309, rv b321, rv r336] [(.int (1 : Int32))])) _
          refine XS.goto X350.here hx rfl (pc0 := 188) (pc' := 192) rfl (hb hby at_188) (by decide) (by decide) ?_
          show Steps p.tables e below (T350.setTop (mkF m 192 #[iv p0, iv p1, iv p2, iv p3, iv p4, rv b102, rv b120, .val .null, rv b293, rv b309, rv b321, rv r336] [(.int (1 : Int32))])) _
          exact kont
        obtain ⟨fs, hr, hrun, hended, hW, hsame⟩ := X350.leave (v := some (.int (1 : Int32))) (fun h => by rw [Bd.returns] at h; cases h)
        refine ⟨_, _, g352 _ (retN X350 hx (t := .boolean) Bd.returns (by simp) (hb hby at_192) hr), hrun, hended, _, _, rfl, ?_, ⟨_, rfl⟩, hW, hsame.mono (by decide) (by decide)⟩
        show Q_law Z p0 p1 p2 p3 p4 i_COMPACT_STRINGS w_EMPTY h0 n0 _ T350.heap _
        rw [e350]
        exact ⟨rfl, N350⟩
      have g353 : Go p e below T299 (mkF m 101 #[iv p0, iv p1, iv p2, iv p3, iv p4, rv b102, rv b120, .val .null, rv b293, .unset, .unset, .unset] []) A0 := by
        intro t kont
        refine g307 t ?_
        refine XS.ifNo X299.here hx rfl (hb hby at_98) rfl ((if0 _ _).trans (feq c306).1) ?_
        show Steps p.tables e below (T299.setTop (mkF m 101 #[iv p0, iv p1, iv p2, iv p3, iv p4, rv b102, rv b120, .val .null, rv b293, .unset, .unset, .unset] [])) _
        exact kont
      obtain ⟨T354, h354, X354, e354, E354, A354, D354, -, st354⟩ := newO X299 hx hZ hown (hw _ (List.mem_of_getElem? (i := 44) rfl)) (hw _ (List.mem_of_getElem? (i := 45) rfl)) (hw _ (List.mem_of_getElem? (i := 46) rfl)) rfl (g := (mkF m 101 #[iv p0, iv p1, iv p2, iv p3, iv p4, rv b102, rv b120, .val .null, rv b293, .unset, .unset, .unset] [])) rfl (hb hby at_101) (by decide) (by decide)
      obtain ⟨b354, gb354⟩ : ∃ z, z = T299.heap.size := ⟨_, rfl⟩
      rw [← gb354] at A354 D354 st354
      have O355 := O302.ext E354
      have y356 : Fld Z h354 b354 "com/example/subsume/subsume/engine/Individual" "name" "Ljava/lang/String;" .null := D354 (Or.inr (hw _ (List.mem_of_getElem? (i := 52) rfl))) (ty := (.object "java/lang/String")) (by decide)
      have y357 : Fld Z h354 b354 "com/example/subsume/subsume/engine/Individual" "id" "I" (.int (0 : Int32)) := D354 (Or.inr (hw _ (List.mem_of_getElem? (i := 54) rfl))) (ty := .int) (by decide)
      have g358 : Go p e below T354 (mkF m 104 #[iv p0, iv p1, iv p2, iv p3, iv p4, rv b102, rv b120, .val .null, rv b293, .unset, .unset, .unset] [(.ref b354)]) A0 := fun t kont => g353 t (st354 t kont)
      have g359 : Go p e below T354 (mkF m 108 #[iv p0, iv p1, iv p2, iv p3, iv p4, rv b102, rv b120, .val .null, rv b293, .unset, .unset, .unset] [(.int p2), (.ref b120), (.ref b354), (.ref b354)]) A0 := by
        intro t kont
        refine g358 t ?_
        refine XS.dup X354.here hx rfl (hb hby at_104) rfl rfl ?_
        show Steps p.tables e below (T354.setTop (mkF m 105 #[iv p0, iv p1, iv p2, iv p3, iv p4, rv b102, rv b120, .val .null, rv b293, .unset, .unset, .unset] [(.ref b354), (.ref b354)])) _
        refine XS.aload X354.here hx rfl (hb hby at_105) rfl rfl ?_
        show Steps p.tables e below (T354.setTop (mkF m 107 #[iv p0, iv p1, iv p2, iv p3, iv p4, rv b102, rv b120, .val .null, rv b293, .unset, .unset, .unset] [(.ref b120), (.ref b354), (.ref b354)])) _
        refine XS.iloadN X354.here hx rfl (hb hby at_107) rfl ?_
        show Steps p.tables e below (T354.setTop (mkF m 108 #[iv p0, iv p1, iv p2, iv p3, iv p4, rv b102, rv b120, .val .null, rv b293, .unset, .unset, .unset] [(.int p2), (.ref b120), (.ref b354), (.ref b354)])) _
        exact kont
      have ge361 : n0 ≤ b354 := Nat.le_trans (own_old_le O302) (Nat.le_of_eq gb354.symm)
      obtain ⟨_, _, ⟨T360, L360, k360, n360⟩, -, X360, ⟨Lc360, hQ360, l360, y360, z360⟩, st360⟩ := X354.specialBack hx (y := (⟨"com/example/subsume/subsume/engine/Individual", "<init>", "(Ljava/lang/String;I)V"⟩ : MethodName)) rfl hown (mvT hZ (hw _ (List.mem_of_getElem? (i := 47) rfl))) (mvT hZ (hw _ (List.mem_of_getElem? (i := 48) rfl))) (mvT hZ (hw _ (List.mem_of_getElem? (i := 49) rfl))) (by decide) (backOf (W := 1) (rm_indI l Z a0 hw [] b354 (.ref b120) p2 h354 n0 O355 (rfl) y356 y357 A354 ge361) hZ (hw _ (List.mem_of_getElem? (i := 49) rfl)) (hw _ (List.mem_of_getElem? (i := 46) rfl)) (by decide) (by decide)) (g := (mkF m 108 #[iv p0, iv p1, iv p2, iv p3, iv p4, rv b102, rv b120, .val .null, rv b293, .unset, .unset, .unset] [(.int p2), (.ref b120), (.ref b354), (.ref b354)])) rfl (by rw [hml]; rfl) (Steps.refl _) (a := b354) (argsL := [(.ref b120), (.int p2)]) (rest := [(.ref b354)]) (lenOf pd_13 rfl) rfl (by show 2 * 0 + _ ≤ _; exact Nat.le_of_eq rfl) (hb hby at_108) (fun _ _ => ⟨rfl, e354, (by decide : 5 + 0 ≤ _), (by decide : 12 + 0 ≤ _)⟩)
      dsimp only [Pt.U, Pt.locs, Pt.cells, Pt.slots] at X360 l360 y360 z360 st360 hQ360
      subst l360 y360 z360
      obtain ⟨rfl, M360, K360, y362⟩ := hQ360
      have N360 := Fr.app N299 M360
      have O363 := O355.keep K360 (allS ge361 all0)
      have g364 : Go p e below T360 (mkF m 111 #[iv p0, iv p1, iv p2, iv p3, iv p4, rv b102, rv b120, .val .null, rv b293, .unset, .unset, .unset] [(.ref b354)]) A0 := fun t kont => g359 t (st360.trans kont)
      have g365 : Go p e below T360 (mkF m 128 #[iv p0, iv p1, iv p2, iv p3, iv p4, rv b102, rv b120, .val .null, rv b293, rv b354, .unset, .unset] []) A0 := by
        intro t kont
        refine g364 t ?_
        refine XS.astore X360.here hx rfl (hb hby at_111) rfl rfl (l' := #[iv p0, iv p1, iv p2, iv p3, iv p4, rv b102, rv b120, .val .null, rv b293, rv b354, .unset, .unset]) rfl ?_
        show Steps p.tables e below (T360.setTop (mkF m 113 #[iv p0, iv p1, iv p2, iv p3, iv p4, rv b102, rv b120, .val .null, rv b293, rv b354, .unset, .unset] [])) _
        refine XS.goto X360.here hx rfl (pc0 := 113) (pc' := 128) rfl (hb hby at_113) (by decide) (by decide) ?_
        show Steps p.tables e below (T360.setTop (mkF m 128 #[iv p0, iv p1, iv p2, iv p3, iv p4, rv b102, rv b120, .val .null, rv b293, rv b354, .unset, .unset] [])) _
        exact kont
      obtain ⟨T366, h366, X366, e366, E366, A366, D366, -, st366⟩ := newO X360 hx hZ hown (hw _ (List.mem_of_getElem? (i := 55) rfl)) (hw _ (List.mem_of_getElem? (i := 56) rfl)) (hw _ (List.mem_of_getElem? (i := 57) rfl)) rfl (g := (mkF m 128 #[iv p0, iv p1, iv p2, iv p3, iv p4, rv b102, rv b120, .val .null, rv b293, rv b354, .unset, .unset] [])) rfl (hb hby at_128) (by decide) (by decide)
      obtain ⟨b366, gb366⟩ : ∃ z, z = T360.heap.size := ⟨_, rfl⟩
      rw [← gb366] at A366 D366 st366
      have O367 := O363.ext E366
      have y368 : Fld Z h366 b366 "com/example/subsume/subsume/engine/IndividualEquality" "individual" "Lcom/example/subsume/subsume/engine/Individual;" .null := D366 (Or.inr (hw _ (List.mem_of_getElem? (i := 68) rfl))) (ty := (.object "com/example/subsume/subsume/engine/Individual")) (by decide)
      have y369 : Fld Z h366 b366 "com/example/subsume/subsume/engine/IndividualEquality" "other" "Lcom/example/subsume/subsume/engine/Individual;" .null := D366 (Or.inr (hw _ (List.mem_of_getElem? (i := 70) rfl))) (ty := (.object "com/example/subsume/subsume/engine/Individual")) (by decide)
      have g370 : Go p e below T366 (mkF m 131 #[iv p0, iv p1, iv p2, iv p3, iv p4, rv b102, rv b120, .val .null, rv b293, rv b354, .unset, .unset] [(.ref b366)]) A0 := fun t kont => g365 t (st366 t kont)
      have g371 : Go p e below T366 (mkF m 136 #[iv p0, iv p1, iv p2, iv p3, iv p4, rv b102, rv b120, .val .null, rv b293, rv b354, .unset, .unset] [(.ref b354), (.ref b293), (.ref b366), (.ref b366)]) A0 := by
        intro t kont
        refine g370 t ?_
        refine XS.dup X366.here hx rfl (hb hby at_131) rfl rfl ?_
        show Steps p.tables e below (T366.setTop (mkF m 132 #[iv p0, iv p1, iv p2, iv p3, iv p4, rv b102, rv b120, .val .null, rv b293, rv b354, .unset, .unset] [(.ref b366), (.ref b366)])) _
        refine XS.aload X366.here hx rfl (hb hby at_132) rfl rfl ?_
        show Steps p.tables e below (T366.setTop (mkF m 134 #[iv p0, iv p1, iv p2, iv p3, iv p4, rv b102, rv b120, .val .null, rv b293, rv b354, .unset, .unset] [(.ref b293), (.ref b366), (.ref b366)])) _
        refine XS.aload X366.here hx rfl (hb hby at_134) rfl rfl ?_
        show Steps p.tables e below (T366.setTop (mkF m 136 #[iv p0, iv p1, iv p2, iv p3, iv p4, rv b102, rv b120, .val .null, rv b293, rv b354, .unset, .unset] [(.ref b354), (.ref b293), (.ref b366), (.ref b366)])) _
        exact kont
      have ge373 : n0 ≤ b366 := Nat.le_trans (own_old_le O363) (Nat.le_of_eq gb366.symm)
      obtain ⟨_, _, ⟨T372, L372, k372, n372⟩, -, X372, ⟨Lc372, hQ372, l372, y372, z372⟩, st372⟩ := X366.specialBack hx (y := (⟨"com/example/subsume/subsume/engine/IndividualEquality", "<init>", "(Lcom/example/subsume/subsume/engine/Individual;Lcom/example/subsume/subsume/engine/Individual;)V"⟩ : MethodName)) rfl hown (mvT hZ (hw _ (List.mem_of_getElem? (i := 58) rfl))) (mvT hZ (hw _ (List.mem_of_getElem? (i := 59) rfl))) (mvT hZ (hw _ (List.mem_of_getElem? (i := 60) rfl))) (by decide) (backOf (W := 1) (rm_relI l Z a0 hw [] b366 b293 b354 h366 n0 O367 y368 y369 A366 ge373) hZ (hw _ (List.mem_of_getElem? (i := 60) rfl)) (hw _ (List.mem_of_getElem? (i := 57) rfl)) (by decide) (by decide)) (g := (mkF m 136 #[iv p0, iv p1, iv p2, iv p3, iv p4, rv b102, rv b120, .val .null, rv b293, rv b354, .unset, .unset] [(.ref b354), (.ref b293), (.ref b366), (.ref b366)])) rfl (by rw [hml]; rfl) (Steps.refl _) (a := b366) (argsL := [(.ref b293), (.ref b354)]) (rest := [(.ref b366)]) (lenOf pd_14 rfl) rfl (by show 2 * 0 + _ ≤ _; exact Nat.le_of_eq rfl) (hb hby at_136) (fun _ _ => ⟨rfl, e366, (by decide : 6 + 0 ≤ _), (by decide : 14 + 0 ≤ _)⟩)
      dsimp only [Pt.U, Pt.locs, Pt.cells, Pt.slots] at X372 l372 y372 z372 st372 hQ372
      subst l372 y372 z372
      obtain ⟨rfl, M372, K372, y374, y375, y376⟩ := hQ372
      have N372 := Fr.app N360 M372
      have O377 := O367.keep K372 (allS ge373 all0)
      have g378 : Go p e below T372 (mkF m 139 #[iv p0, iv p1, iv p2, iv p3, iv p4, rv b102, rv b120, .val .null, rv b293, rv b354, .unset, .unset] [(.ref b366)]) A0 := fun t kont => g371 t (st372.trans kont)
      have g379 : Go p e below T372 (mkF m 143 #[iv p0, iv p1, iv p2, iv p3, iv p4, rv b102, rv b120, .val .null, rv b293, rv b354, rv b366, .unset] [(.ref b366)]) A0 := by
        intro t kont
        refine g378 t ?_
        refine XS.astore X372.here hx rfl (hb hby at_139) rfl rfl (l' := #[iv p0, iv p1, iv p2, iv p3, iv p4, rv b102, rv b120, .val .null, rv b293, rv b354, rv b366, .unset]) rfl ?_
        show Steps p.tables e below (T372.setTop (mkF m 141 #[iv p0, iv p1, iv p2, iv p3, iv p4, rv b102, rv b120, .val .null, rv b293, rv b354, rv b366, .unset] [])) _
        refine XS.aload X372.here hx rfl (hb hby at_141) rfl rfl ?_
        show Steps p.tables e below (T372.setTop (mkF m 143 #[iv p0, iv p1, iv p2, iv p3, iv p4, rv b102, rv b120, .val .null, rv b293, rv b354, rv b366, .unset] [(.ref b366)])) _
        exact kont
      obtain ⟨cq380, kq380, q380a, q380b, q380c⟩ := isOf hZ rfl y374
      obtain ⟨_, _, ⟨T380, L380, k380, n380⟩, -, X380, ⟨Lc380, hQ380, l380, y380, z380⟩, st380⟩ := X372.virtualBack hx (y := (⟨"com/example/subsume/subsume/engine/IndividualEquality", "individuals", "()Ljava/util/List;"⟩ : MethodName)) (z := (⟨"com/example/subsume/subsume/engine/IndividualEquality", "individuals", "()Ljava/util/List;"⟩ : MethodName)) hown (mvT hZ (hw _ (List.mem_of_getElem? (i := 71) rfl))) (mvT hZ (hw _ (List.mem_of_getElem? (i := 72) rfl))) (notFace_of_selects (args := #[]) (mvT hZ (hw _ (List.mem_of_getElem? (i := 74) rfl)))) (mvT hZ (hw _ (List.mem_of_getElem? (i := 74) rfl))) (mvT hZ (hw _ (List.mem_of_getElem? (i := 73) rfl))) (by decide) (backOf (W := 0) (rm_inds l Z a0 hw [] b366 b293 b354 T372.heap n0 O377 y375 y376) hZ (hw _ (List.mem_of_getElem? (i := 75) rfl)) (hw _ (List.mem_of_getElem? (i := 57) rfl)) (by decide) (by decide)) q380a q380c (g := (mkF m 143 #[iv p0, iv p1, iv p2, iv p3, iv p4, rv b102, rv b120, .val .null, rv b293, rv b354, rv b366, .unset] [(.ref b366)])) rfl (by rw [hml]; rfl) (Steps.refl _) (argsL := []) (rest := []) (lenOf pd_15 rfl) rfl (by show 2 * 0 + _ ≤ _; exact Nat.le_of_eq rfl) (hb hby at_143) (fun _ _ => ⟨rfl, rfl, (by decide : 6 + 1 ≤ _), (by decide : 14 + 2 ≤ _)⟩)
      dsimp only [Pt.U, Pt.locs, Pt.cells, Pt.slots] at X380 l380 y380 z380 st380 hQ380
      subst l380 y380 z380
      obtain ⟨r381, rfl, M380, K380, y382, y383, y384, y385⟩ := hQ380
      have N380 := Fr.app N372 M380
      have O386 := O377.keep K380 all0
      have g387 : Go p e below T380 (mkF m 146 #[iv p0, iv p1, iv p2, iv p3, iv p4, rv b102, rv b120, .val .null, rv b293, rv b354, rv b366, .unset] [(.ref r381)]) A0 := fun t kont => g379 t (st380.trans kont)
      have g388 : Go p e below T380 (mkF m 150 #[iv p0, iv p1, iv p2, iv p3, iv p4, rv b102, rv b120, .val .null, rv b293, rv b354, rv b366, rv r381] [(.ref r381)]) A0 := by
        intro t kont
        refine g387 t ?_
        refine XS.astore X380.here hx rfl (hb hby at_146) rfl rfl (l' := #[iv p0, iv p1, iv p2, iv p3, iv p4, rv b102, rv b120, .val .null, rv b293, rv b354, rv b366, rv r381]) rfl ?_
        show Steps p.tables e below (T380.setTop (mkF m 148 #[iv p0, iv p1, iv p2, iv p3, iv p4, rv b102, rv b120, .val .null, rv b293, rv b354, rv b366, rv r381] [])) _
        refine XS.aload X380.here hx rfl (hb hby at_148) rfl rfl ?_
        show Steps p.tables e below (T380.setTop (mkF m 150 #[iv p0, iv p1, iv p2, iv p3, iv p4, rv b102, rv b120, .val .null, rv b293, rv b354, rv b366, rv r381] [(.ref r381)])) _
        exact kont
      obtain ⟨cq389, kq389, q389a, q389b, q389c⟩ := isOf hZ rfl y383
      obtain ⟨_, _, ⟨T389, L389, k389, n389⟩, -, X389, ⟨Lc389, hQ389, l389, y389, z389⟩, st389⟩ := X380.interfaceBack hx (xi := (⟨"java/util/List", "size", "()I"⟩ : MethodName)) (y := (⟨"java/util/ImmutableCollections$List12", "size", "()I"⟩ : MethodName)) hown (mvT hZ (hw _ (List.mem_of_getElem? (i := 114) rfl))) (mvT hZ (hw _ (List.mem_of_getElem? (i := 115) rfl))) (mvT hZ (hw _ (List.mem_of_getElem? (i := 116) rfl))) (mvT hZ (hw _ (List.mem_of_getElem? (i := 117) rfl))) (mvT hZ (hw _ (List.mem_of_getElem? (i := 118) rfl))) (mvT hZ (hw _ (List.mem_of_getElem? (i := 119) rfl))) (mvT hZ (hw _ (List.mem_of_getElem? (i := 120) rfl))) (mvT hZ (hw _ (List.mem_of_getElem? (i := 121) rfl))) (by decide) (backOf (W := 0) (rm_siz l Z a0 hw [] r381 b354 w_EMPTY T380.heap n0 O386 y385 S1_ (Ne.symm (O386.ne ZE3_.lt ge361))) hZ (hw _ (List.mem_of_getElem? (i := 122) rfl)) (hw _ (List.mem_of_getElem? (i := 82) rfl)) (by decide) (by decide)) q389a q389b q389c (g := (mkF m 150 #[iv p0, iv p1, iv p2, iv p3, iv p4, rv b102, rv b120, .val .null, rv b293, rv b354, rv b366, rv r381] [(.ref r381)])) rfl (by rw [hml]; rfl) (Steps.refl _) (argsL := []) (rest := []) (lenOf pd_16 rfl) rfl (by show 2 * 0 + _ ≤ _; exact Nat.le_of_eq rfl) (hb hby at_150) (fun _ _ => ⟨rfl, rfl, (by decide : 7 + 0 ≤ _), (by decide : 16 + 0 ≤ _)⟩)
      dsimp only [Pt.U, Pt.locs, Pt.cells, Pt.slots] at X389 l389 y389 z389 st389 hQ389
      subst l389 y389 z389
      obtain ⟨rfl, M389, e389⟩ := hQ389
      have N389 := Fr.app N380 M389
      have g390 : Go p e below T389 (mkF m 155 #[iv p0, iv p1, iv p2, iv p3, iv p4, rv b102, rv b120, .val .null, rv b293, rv b354, rv b366, rv r381] [(.int (2 : Int32))]) A0 := fun t kont => g388 t (st389.trans kont)
      have g391 : Go p e below T389 (mkF m 164 #[iv p0, iv p1, iv p2, iv p3, iv p4, rv b102, rv b120, .val .null, rv b293, rv b354, rv b366, rv r381] [(.int (0 : Int32)), (.ref r381)]) A0 := by
        intro t kont
        refine g390 t ?_
        refine XS.iconst X389.here hx rfl (hb hby at_155) ?_
        show Steps p.tables e below (T389.setTop (mkF m 156 #[iv p0, iv p1, iv p2, iv p3, iv p4, rv b102, rv b120, .val .null, rv b293, rv b354, rv b366, rv r381] [(.int (2 : Int32)), (.int (2 : Int32))])) _
        refine XS.icmpYes X389.here hx rfl (pc0 := 156) (pc' := 161) rfl (hb hby at_156) rfl (teq (by decide : (2 : Int32) = (2 : Int32))).1 (by decide) (by decide) ?_
        show Steps p.tables e below (T389.setTop (mkF m 161 #[iv p0, iv p1, iv p2, iv p3, iv p4, rv b102, rv b120, .val .null, rv b293, rv b354, rv b366, rv r381] [])) _
        refine XS.aload X389.here hx rfl (hb hby at_161) rfl rfl ?_
        show Steps p.tables e below (T389.setTop (mkF m 163 #[iv p0, iv p1, iv p2, iv p3, iv p4, rv b102, rv b120, .val .null, rv b293, rv b354, rv b366, rv r381] [(.ref r381)])) _
        refine XS.iconst X389.here hx rfl (hb hby at_163) ?_
        show Steps p.tables e below (T389.setTop (mkF m 164 #[iv p0, iv p1, iv p2, iv p3, iv p4, rv b102, rv b120, .val .null, rv b293, rv b354, rv b366, rv r381] [(.int (0 : Int32)), (.ref r381)])) _
        exact kont
      obtain ⟨cq392, kq392, q392a, q392b, q392c⟩ := isOf hZ e389 y383
      obtain ⟨_, _, ⟨T392, L392, k392, n392⟩, -, X392, ⟨Lc392, hQ392, l392, y392, z392⟩, st392⟩ := X389.interfaceBack hx (xi := (⟨"java/util/List", "get", "(I)Ljava/lang/Object;"⟩ : MethodName)) (y := (⟨"java/util/ImmutableCollections$List12", "get", "(I)Ljava/lang/Object;"⟩ : MethodName)) hown (mvT hZ (hw _ (List.mem_of_getElem? (i := 125) rfl))) (mvT hZ (hw _ (List.mem_of_getElem? (i := 126) rfl))) (mvT hZ (hw _ (List.mem_of_getElem? (i := 127) rfl))) (mvT hZ (hw _ (List.mem_of_getElem? (i := 128) rfl))) (mvT hZ (hw _ (List.mem_of_getElem? (i := 129) rfl))) (mvT hZ (hw _ (List.mem_of_getElem? (i := 130) rfl))) (mvT hZ (hw _ (List.mem_of_getElem? (i := 131) rfl))) (mvT hZ (hw _ (List.mem_of_getElem? (i := 121) rfl))) (by decide) (backOf (W := 0) (rm_get0 l Z a0 hw [] r381 b293 T380.heap n0 O386 y384) hZ (hw _ (List.mem_of_getElem? (i := 132) rfl)) (hw _ (List.mem_of_getElem? (i := 82) rfl)) (by decide) (by decide)) q392a q392b q392c (g := (mkF m 164 #[iv p0, iv p1, iv p2, iv p3, iv p4, rv b102, rv b120, .val .null, rv b293, rv b354, rv b366, rv r381] [(.int (0 : Int32)), (.ref r381)])) rfl (by rw [hml]; rfl) (Steps.refl _) (argsL := [(.int (0 : Int32))]) (rest := []) (lenOf pd_17 rfl) rfl (by show 2 * 0 + _ ≤ _; exact Nat.le_of_eq rfl) (hb hby at_164) (fun _ _ => ⟨rfl, e389, (by decide : 7 + 0 ≤ _), (by decide : 16 + 0 ≤ _)⟩)
      dsimp only [Pt.U, Pt.locs, Pt.cells, Pt.slots] at X392 l392 y392 z392 st392 hQ392
      subst l392 y392 z392
      obtain ⟨rfl, M392, e392⟩ := hQ392
      have N392 := Fr.app N389 M392
      have g393 : Go p e below T392 (mkF m 169 #[iv p0, iv p1, iv p2, iv p3, iv p4, rv b102, rv b120, .val .null, rv b293, rv b354, rv b366, rv r381] [(.ref b293)]) A0 := fun t kont => g391 t (st392.trans kont)
      have g394 : Go p e below T392 (mkF m 177 #[iv p0, iv p1, iv p2, iv p3, iv p4, rv b102, rv b120, .val .null, rv b293, rv b354, rv b366, rv r381] [(.int (1 : Int32)), (.ref r381)]) A0 := by
        intro t kont
        refine g393 t ?_
        refine XS.aload X392.here hx rfl (hb hby at_169) rfl rfl ?_
        show Steps p.tables e below (T392.setTop (mkF m 171 #[iv p0, iv p1, iv p2, iv p3, iv p4, rv b102, rv b120, .val .null, rv b293, rv b354, rv b366, rv r381] [(.ref b293), (.ref b293)])) _
        refine Jvm.RoadKit.acmp (g := (mkF m 171 #[iv p0, iv p1, iv p2, iv p3, iv p4, rv b102, rv b120, .val .null, rv b293, rv b354, rv b366, rv r381] [(.ref b293), (.ref b293)])) X392 hx rfl rfl rfl (pc0 := 171) (pc' := 174) (same := true) rfl (hb hby at_171) rfl (decide_eq_true rfl) (by decide) (by decide) ?_
        show Steps p.tables e below (T392.setTop (mkF m 174 #[iv p0, iv p1, iv p2, iv p3, iv p4, rv b102, rv b120, .val .null, rv b293, rv b354, rv b366, rv r381] [])) _
        refine XS.aload X392.here hx rfl (hb hby at_174) rfl rfl ?_
        show Steps p.tables e below (T392.setTop (mkF m 176 #[iv p0, iv p1, iv p2, iv p3, iv p4, rv b102, rv b120, .val .null, rv b293, rv b354, rv b366, rv r381] [(.ref r381)])) _
        refine XS.iconst X392.here hx rfl (hb hby at_176) ?_
        show Steps p.tables e below (T392.setTop (mkF m 177 #[iv p0, iv p1, iv p2, iv p3, iv p4, rv b102, rv b120, .val .null, rv b293, rv b354, rv b366, rv r381] [(.int (1 : Int32)), (.ref r381)])) _
        exact kont
      obtain ⟨cq395, kq395, q395a, q395b, q395c⟩ := isOf hZ e392 y383
      obtain ⟨_, _, ⟨T395, L395, k395, n395⟩, -, X395, ⟨Lc395, hQ395, l395, y395, z395⟩, st395⟩ := X392.interfaceBack hx (xi := (⟨"java/util/List", "get", "(I)Ljava/lang/Object;"⟩ : MethodName)) (y := (⟨"java/util/ImmutableCollections$List12", "get", "(I)Ljava/lang/Object;"⟩ : MethodName)) hown (mvT hZ (hw _ (List.mem_of_getElem? (i := 125) rfl))) (mvT hZ (hw _ (List.mem_of_getElem? (i := 126) rfl))) (mvT hZ (hw _ (List.mem_of_getElem? (i := 127) rfl))) (mvT hZ (hw _ (List.mem_of_getElem? (i := 128) rfl))) (mvT hZ (hw _ (List.mem_of_getElem? (i := 129) rfl))) (mvT hZ (hw _ (List.mem_of_getElem? (i := 130) rfl))) (mvT hZ (hw _ (List.mem_of_getElem? (i := 131) rfl))) (mvT hZ (hw _ (List.mem_of_getElem? (i := 121) rfl))) (by decide) (backOf (W := 0) (rm_get1 l Z a0 hw [] r381 b354 w_EMPTY T380.heap n0 O386 y385 S1_ (Ne.symm (O386.ne ZE3_.lt ge361))) hZ (hw _ (List.mem_of_getElem? (i := 132) rfl)) (hw _ (List.mem_of_getElem? (i := 82) rfl)) (by decide) (by decide)) q395a q395b q395c (g := (mkF m 177 #[iv p0, iv p1, iv p2, iv p3, iv p4, rv b102, rv b120, .val .null, rv b293, rv b354, rv b366, rv r381] [(.int (1 : Int32)), (.ref r381)])) rfl (by rw [hml]; rfl) (Steps.refl _) (argsL := [(.int (1 : Int32))]) (rest := []) (lenOf pd_17 rfl) rfl (by show 2 * 0 + _ ≤ _; exact Nat.le_of_eq rfl) (hb hby at_177) (fun _ _ => ⟨rfl, e392, (by decide : 7 + 0 ≤ _), (by decide : 16 + 0 ≤ _)⟩)
      dsimp only [Pt.U, Pt.locs, Pt.cells, Pt.slots] at X395 l395 y395 z395 st395 hQ395
      subst l395 y395 z395
      obtain ⟨rfl, M395, e395⟩ := hQ395
      have N395 := Fr.app N392 M395
      have g396 : Go p e below T395 (mkF m 182 #[iv p0, iv p1, iv p2, iv p3, iv p4, rv b102, rv b120, .val .null, rv b293, rv b354, rv b366, rv r381] [(.ref b354)]) A0 := fun t kont => g394 t (st395.trans kont)
      have g397 : Go p e below T395 (mkF m 192 #[iv p0, iv p1, iv p2, iv p3, iv p4, rv b102, rv b120, .val .null, rv b293, rv b354, rv b366, rv r381] [(.int (1 : Int32))]) A0 := by
        intro t kont
        refine g396 t ?_
        refine XS.aload X395.here hx rfl (hb hby at_182) rfl rfl ?_
        show Steps p.tables e below (T395.setTop (mkF m 184 #[iv p0, iv p1, iv p2, iv p3, iv p4, rv b102, rv b120, .val .null, rv b293, rv b354, rv b366, rv r381] [(.ref b354), (.ref b354)])) _
        refine Jvm.RoadKit.acmp (g := (mkF m 184 #[iv p0, iv p1, iv p2, iv p3, iv p4, rv b102, rv b120, .val .null, rv b293, rv b354, rv b366, rv r381] [(.ref b354), (.ref b354)])) X395 hx rfl rfl rfl (pc0 := 184) (pc' := 187) (same := true) rfl (hb hby at_184) rfl (decide_eq_true rfl) (by decide) (by decide) ?_
        show Steps p.tables e below (T395.setTop (mkF m 187 #[iv p0, iv p1, iv p2, iv p3, iv p4, rv b102, rv b120, .val .null, rv b293, rv b354, rv b366, rv r381] [])) _
        refine XS.iconst X395.here hx rfl (hb hby at_187) ?_
        show Steps p.tables e below (T395.setTop (mkF m 188 #[iv p0, iv p1, iv p2, iv p3, iv p4, rv b102, rv b120, .val .null, rv b293, rv b354, rv b366, rv r381] [(.int (1 : Int32))])) _
        refine XS.goto X395.here hx rfl (pc0 := 188) (pc' := 192) rfl (hb hby at_188) (by decide) (by decide) ?_
        show Steps p.tables e below (T395.setTop (mkF m 192 #[iv p0, iv p1, iv p2, iv p3, iv p4, rv b102, rv b120, .val .null, rv b293, rv b354, rv b366, rv r381] [(.int (1 : Int32))])) _
        exact kont
      obtain ⟨fs, hr, hrun, hended, hW, hsame⟩ := X395.leave (v := some (.int (1 : Int32))) (fun h => by rw [Bd.returns] at h; cases h)
      refine ⟨_, _, g397 _ (retN X395 hx (t := .boolean) Bd.returns (by simp) (hb hby at_192) hr), hrun, hended, _, _, rfl, ?_, ⟨_, rfl⟩, hW, hsame.mono (by decide) (by decide)⟩
      show Q_law Z p0 p1 p2 p3 p4 i_COMPACT_STRINGS w_EMPTY h0 n0 _ T395.heap _
      rw [e395]
      exact ⟨rfl, N395⟩
    have g398 : Go p e below T299 (mkF m 128 #[iv p0, iv p1, iv p2, iv p3, iv p4, rv b102, rv b120, .val .null, rv b293, rv b293, .unset, .unset] []) A0 := by
      intro t kont
      refine g305 t ?_
      refine XS.ifNo X299.here hx rfl (hb hby at_83) rfl ((if0 _ _).trans (feq c304).1) ?_
      show Steps p.tables e below (T299.setTop (mkF m 86 #[iv p0, iv p1, iv p2, iv p3, iv p4, rv b102, rv b120, .val .null, rv b293, .unset, .unset, .unset] [])) _
      refine XS.aload X299.here hx rfl (hb hby at_86) rfl rfl ?_
      show Steps p.tables e below (T299.setTop (mkF m 88 #[iv p0, iv p1, iv p2, iv p3, iv p4, rv b102, rv b120, .val .null, rv b293, .unset, .unset, .unset] [(.ref b293)])) _
      refine XS.astore X299.here hx rfl (hb hby at_88) rfl rfl (l' := #[iv p0, iv p1, iv p2, iv p3, iv p4, rv b102, rv b120, .val .null, rv b293, rv b293, .unset, .unset]) rfl ?_
      show Steps p.tables e below (T299.setTop (mkF m 90 #[iv p0, iv p1, iv p2, iv p3, iv p4, rv b102, rv b120, .val .null, rv b293, rv b293, .unset, .unset] [])) _
      refine XS.goto X299.here hx rfl (pc0 := 90) (pc' := 128) rfl (hb hby at_90) (by decide) (by decide) ?_
      show Steps p.tables e below (T299.setTop (mkF m 128 #[iv p0, iv p1, iv p2, iv p3, iv p4, rv b102, rv b120, .val .null, rv b293, rv b293, .unset, .unset] [])) _
      exact kont
    obtain ⟨T399, h399, X399, e399, E399, A399, D399, -, st399⟩ := newO X299 hx hZ hown (hw _ (List.mem_of_getElem? (i := 55) rfl)) (hw _ (List.mem_of_getElem? (i := 56) rfl)) (hw _ (List.mem_of_getElem? (i := 57) rfl)) rfl (g := (mkF m 128 #[iv p0, iv p1, iv p2, iv p3, iv p4, rv b102, rv b120, .val .null, rv b293, rv b293, .unset, .unset] [])) rfl (hb hby at_128) (by decide) (by decide)
    obtain ⟨b399, gb399⟩ : ∃ z, z = T299.heap.size := ⟨_, rfl⟩
    rw [← gb399] at A399 D399 st399
    have O400 := O302.ext E399
    have y401 : Fld Z h399 b399 "com/example/subsume/subsume/engine/IndividualEquality" "individual" "Lcom/example/subsume/subsume/engine/Individual;" .null := D399 (Or.inr (hw _ (List.mem_of_getElem? (i := 68) rfl))) (ty := (.object "com/example/subsume/subsume/engine/Individual")) (by decide)
    have y402 : Fld Z h399 b399 "com/example/subsume/subsume/engine/IndividualEquality" "other" "Lcom/example/subsume/subsume/engine/Individual;" .null := D399 (Or.inr (hw _ (List.mem_of_getElem? (i := 70) rfl))) (ty := (.object "com/example/subsume/subsume/engine/Individual")) (by decide)
    have g403 : Go p e below T399 (mkF m 131 #[iv p0, iv p1, iv p2, iv p3, iv p4, rv b102, rv b120, .val .null, rv b293, rv b293, .unset, .unset] [(.ref b399)]) A0 := fun t kont => g398 t (st399 t kont)
    have g404 : Go p e below T399 (mkF m 136 #[iv p0, iv p1, iv p2, iv p3, iv p4, rv b102, rv b120, .val .null, rv b293, rv b293, .unset, .unset] [(.ref b293), (.ref b293), (.ref b399), (.ref b399)]) A0 := by
      intro t kont
      refine g403 t ?_
      refine XS.dup X399.here hx rfl (hb hby at_131) rfl rfl ?_
      show Steps p.tables e below (T399.setTop (mkF m 132 #[iv p0, iv p1, iv p2, iv p3, iv p4, rv b102, rv b120, .val .null, rv b293, rv b293, .unset, .unset] [(.ref b399), (.ref b399)])) _
      refine XS.aload X399.here hx rfl (hb hby at_132) rfl rfl ?_
      show Steps p.tables e below (T399.setTop (mkF m 134 #[iv p0, iv p1, iv p2, iv p3, iv p4, rv b102, rv b120, .val .null, rv b293, rv b293, .unset, .unset] [(.ref b293), (.ref b399), (.ref b399)])) _
      refine XS.aload X399.here hx rfl (hb hby at_134) rfl rfl ?_
      show Steps p.tables e below (T399.setTop (mkF m 136 #[iv p0, iv p1, iv p2, iv p3, iv p4, rv b102, rv b120, .val .null, rv b293, rv b293, .unset, .unset] [(.ref b293), (.ref b293), (.ref b399), (.ref b399)])) _
      exact kont
    have ge406 : n0 ≤ b399 := Nat.le_trans (own_old_le O302) (Nat.le_of_eq gb399.symm)
    obtain ⟨_, _, ⟨T405, L405, k405, n405⟩, -, X405, ⟨Lc405, hQ405, l405, y405, z405⟩, st405⟩ := X399.specialBack hx (y := (⟨"com/example/subsume/subsume/engine/IndividualEquality", "<init>", "(Lcom/example/subsume/subsume/engine/Individual;Lcom/example/subsume/subsume/engine/Individual;)V"⟩ : MethodName)) rfl hown (mvT hZ (hw _ (List.mem_of_getElem? (i := 58) rfl))) (mvT hZ (hw _ (List.mem_of_getElem? (i := 59) rfl))) (mvT hZ (hw _ (List.mem_of_getElem? (i := 60) rfl))) (by decide) (backOf (W := 1) (rm_relI l Z a0 hw [] b399 b293 b293 h399 n0 O400 y401 y402 A399 ge406) hZ (hw _ (List.mem_of_getElem? (i := 60) rfl)) (hw _ (List.mem_of_getElem? (i := 57) rfl)) (by decide) (by decide)) (g := (mkF m 136 #[iv p0, iv p1, iv p2, iv p3, iv p4, rv b102, rv b120, .val .null, rv b293, rv b293, .unset, .unset] [(.ref b293), (.ref b293), (.ref b399), (.ref b399)])) rfl (by rw [hml]; rfl) (Steps.refl _) (a := b399) (argsL := [(.ref b293), (.ref b293)]) (rest := [(.ref b399)]) (lenOf pd_14 rfl) rfl (by show 2 * 0 + _ ≤ _; exact Nat.le_of_eq rfl) (hb hby at_136) (fun _ _ => ⟨rfl, e399, (by decide : 5 + 0 ≤ _), (by decide : 12 + 0 ≤ _)⟩)
    dsimp only [Pt.U, Pt.locs, Pt.cells, Pt.slots] at X405 l405 y405 z405 st405 hQ405
    subst l405 y405 z405
    obtain ⟨rfl, M405, K405, y407, y408, y409⟩ := hQ405
    have N405 := Fr.app N299 M405
    have O410 := O400.keep K405 (allS ge406 all0)
    have g411 : Go p e below T405 (mkF m 139 #[iv p0, iv p1, iv p2, iv p3, iv p4, rv b102, rv b120, .val .null, rv b293, rv b293, .unset, .unset] [(.ref b399)]) A0 := fun t kont => g404 t (st405.trans kont)
    have g412 : Go p e below T405 (mkF m 143 #[iv p0, iv p1, iv p2, iv p3, iv p4, rv b102, rv b120, .val .null, rv b293, rv b293, rv b399, .unset] [(.ref b399)]) A0 := by
      intro t kont
      refine g411 t ?_
      refine XS.astore X405.here hx rfl (hb hby at_139) rfl rfl (l' := #[iv p0, iv p1, iv p2, iv p3, iv p4, rv b102, rv b120, .val .null, rv b293, rv b293, rv b399, .unset]) rfl ?_
      show Steps p.tables e below (T405.setTop (mkF m 141 #[iv p0, iv p1, iv p2, iv p3, iv p4, rv b102, rv b120, .val .null, rv b293, rv b293, rv b399, .unset] [])) _
      refine XS.aload X405.here hx rfl (hb hby at_141) rfl rfl ?_
      show Steps p.tables e below (T405.setTop (mkF m 143 #[iv p0, iv p1, iv p2, iv p3, iv p4, rv b102, rv b120, .val .null, rv b293, rv b293, rv b399, .unset] [(.ref b399)])) _
      exact kont
    obtain ⟨cq413, kq413, q413a, q413b, q413c⟩ := isOf hZ rfl y407
    obtain ⟨_, _, ⟨T413, L413, k413, n413⟩, -, X413, ⟨Lc413, hQ413, l413, y413, z413⟩, st413⟩ := X405.virtualBack hx (y := (⟨"com/example/subsume/subsume/engine/IndividualEquality", "individuals", "()Ljava/util/List;"⟩ : MethodName)) (z := (⟨"com/example/subsume/subsume/engine/IndividualEquality", "individuals", "()Ljava/util/List;"⟩ : MethodName)) hown (mvT hZ (hw _ (List.mem_of_getElem? (i := 71) rfl))) (mvT hZ (hw _ (List.mem_of_getElem? (i := 72) rfl))) (notFace_of_selects (args := #[]) (mvT hZ (hw _ (List.mem_of_getElem? (i := 74) rfl)))) (mvT hZ (hw _ (List.mem_of_getElem? (i := 74) rfl))) (mvT hZ (hw _ (List.mem_of_getElem? (i := 73) rfl))) (by decide) (backOf (W := 0) (rm_inds l Z a0 hw [] b399 b293 b293 T405.heap n0 O410 y408 y409) hZ (hw _ (List.mem_of_getElem? (i := 75) rfl)) (hw _ (List.mem_of_getElem? (i := 57) rfl)) (by decide) (by decide)) q413a q413c (g := (mkF m 143 #[iv p0, iv p1, iv p2, iv p3, iv p4, rv b102, rv b120, .val .null, rv b293, rv b293, rv b399, .unset] [(.ref b399)])) rfl (by rw [hml]; rfl) (Steps.refl _) (argsL := []) (rest := []) (lenOf pd_15 rfl) rfl (by show 2 * 0 + _ ≤ _; exact Nat.le_of_eq rfl) (hb hby at_143) (fun _ _ => ⟨rfl, rfl, (by decide : 5 + 1 ≤ _), (by decide : 12 + 2 ≤ _)⟩)
    dsimp only [Pt.U, Pt.locs, Pt.cells, Pt.slots] at X413 l413 y413 z413 st413 hQ413
    subst l413 y413 z413
    obtain ⟨r414, rfl, M413, K413, y415, y416, y417, y418⟩ := hQ413
    have N413 := Fr.app N405 M413
    have O419 := O410.keep K413 all0
    have g420 : Go p e below T413 (mkF m 146 #[iv p0, iv p1, iv p2, iv p3, iv p4, rv b102, rv b120, .val .null, rv b293, rv b293, rv b399, .unset] [(.ref r414)]) A0 := fun t kont => g412 t (st413.trans kont)
    have g421 : Go p e below T413 (mkF m 150 #[iv p0, iv p1, iv p2, iv p3, iv p4, rv b102, rv b120, .val .null, rv b293, rv b293, rv b399, rv r414] [(.ref r414)]) A0 := by
      intro t kont
      refine g420 t ?_
      refine XS.astore X413.here hx rfl (hb hby at_146) rfl rfl (l' := #[iv p0, iv p1, iv p2, iv p3, iv p4, rv b102, rv b120, .val .null, rv b293, rv b293, rv b399, rv r414]) rfl ?_
      show Steps p.tables e below (T413.setTop (mkF m 148 #[iv p0, iv p1, iv p2, iv p3, iv p4, rv b102, rv b120, .val .null, rv b293, rv b293, rv b399, rv r414] [])) _
      refine XS.aload X413.here hx rfl (hb hby at_148) rfl rfl ?_
      show Steps p.tables e below (T413.setTop (mkF m 150 #[iv p0, iv p1, iv p2, iv p3, iv p4, rv b102, rv b120, .val .null, rv b293, rv b293, rv b399, rv r414] [(.ref r414)])) _
      exact kont
    obtain ⟨cq422, kq422, q422a, q422b, q422c⟩ := isOf hZ rfl y416
    obtain ⟨_, _, ⟨T422, L422, k422, n422⟩, -, X422, ⟨Lc422, hQ422, l422, y422, z422⟩, st422⟩ := X413.interfaceBack hx (xi := (⟨"java/util/List", "size", "()I"⟩ : MethodName)) (y := (⟨"java/util/ImmutableCollections$List12", "size", "()I"⟩ : MethodName)) hown (mvT hZ (hw _ (List.mem_of_getElem? (i := 114) rfl))) (mvT hZ (hw _ (List.mem_of_getElem? (i := 115) rfl))) (mvT hZ (hw _ (List.mem_of_getElem? (i := 116) rfl))) (mvT hZ (hw _ (List.mem_of_getElem? (i := 117) rfl))) (mvT hZ (hw _ (List.mem_of_getElem? (i := 118) rfl))) (mvT hZ (hw _ (List.mem_of_getElem? (i := 119) rfl))) (mvT hZ (hw _ (List.mem_of_getElem? (i := 120) rfl))) (mvT hZ (hw _ (List.mem_of_getElem? (i := 121) rfl))) (by decide) (backOf (W := 0) (rm_siz l Z a0 hw [] r414 b293 w_EMPTY T413.heap n0 O419 y418 S1_ (Ne.symm (O419.ne ZE3_.lt ge300))) hZ (hw _ (List.mem_of_getElem? (i := 122) rfl)) (hw _ (List.mem_of_getElem? (i := 82) rfl)) (by decide) (by decide)) q422a q422b q422c (g := (mkF m 150 #[iv p0, iv p1, iv p2, iv p3, iv p4, rv b102, rv b120, .val .null, rv b293, rv b293, rv b399, rv r414] [(.ref r414)])) rfl (by rw [hml]; rfl) (Steps.refl _) (argsL := []) (rest := []) (lenOf pd_16 rfl) rfl (by show 2 * 0 + _ ≤ _; exact Nat.le_of_eq rfl) (hb hby at_150) (fun _ _ => ⟨rfl, rfl, (by decide : 6 + 0 ≤ _), (by decide : 14 + 0 ≤ _)⟩)
    dsimp only [Pt.U, Pt.locs, Pt.cells, Pt.slots] at X422 l422 y422 z422 st422 hQ422
    subst l422 y422 z422
    obtain ⟨rfl, M422, e422⟩ := hQ422
    have N422 := Fr.app N413 M422
    have g423 : Go p e below T422 (mkF m 155 #[iv p0, iv p1, iv p2, iv p3, iv p4, rv b102, rv b120, .val .null, rv b293, rv b293, rv b399, rv r414] [(.int (2 : Int32))]) A0 := fun t kont => g421 t (st422.trans kont)
    have g424 : Go p e below T422 (mkF m 164 #[iv p0, iv p1, iv p2, iv p3, iv p4, rv b102, rv b120, .val .null, rv b293, rv b293, rv b399, rv r414] [(.int (0 : Int32)), (.ref r414)]) A0 := by
      intro t kont
      refine g423 t ?_
      refine XS.iconst X422.here hx rfl (hb hby at_155) ?_
      show Steps p.tables e below (T422.setTop (mkF m 156 #[iv p0, iv p1, iv p2, iv p3, iv p4, rv b102, rv b120, .val .null, rv b293, rv b293, rv b399, rv r414] [(.int (2 : Int32)), (.int (2 : Int32))])) _
      refine XS.icmpYes X422.here hx rfl (pc0 := 156) (pc' := 161) rfl (hb hby at_156) rfl (teq (by decide : (2 : Int32) = (2 : Int32))).1 (by decide) (by decide) ?_
      show Steps p.tables e below (T422.setTop (mkF m 161 #[iv p0, iv p1, iv p2, iv p3, iv p4, rv b102, rv b120, .val .null, rv b293, rv b293, rv b399, rv r414] [])) _
      refine XS.aload X422.here hx rfl (hb hby at_161) rfl rfl ?_
      show Steps p.tables e below (T422.setTop (mkF m 163 #[iv p0, iv p1, iv p2, iv p3, iv p4, rv b102, rv b120, .val .null, rv b293, rv b293, rv b399, rv r414] [(.ref r414)])) _
      refine XS.iconst X422.here hx rfl (hb hby at_163) ?_
      show Steps p.tables e below (T422.setTop (mkF m 164 #[iv p0, iv p1, iv p2, iv p3, iv p4, rv b102, rv b120, .val .null, rv b293, rv b293, rv b399, rv r414] [(.int (0 : Int32)), (.ref r414)])) _
      exact kont
    obtain ⟨cq425, kq425, q425a, q425b, q425c⟩ := isOf hZ e422 y416
    obtain ⟨_, _, ⟨T425, L425, k425, n425⟩, -, X425, ⟨Lc425, hQ425, l425, y425, z425⟩, st425⟩ := X422.interfaceBack hx (xi := (⟨"java/util/List", "get", "(I)Ljava/lang/Object;"⟩ : MethodName)) (y := (⟨"java/util/ImmutableCollections$List12", "get", "(I)Ljava/lang/Object;"⟩ : MethodName)) hown (mvT hZ (hw _ (List.mem_of_getElem? (i := 125) rfl))) (mvT hZ (hw _ (List.mem_of_getElem? (i := 126) rfl))) (mvT hZ (hw _ (List.mem_of_getElem? (i := 127) rfl))) (mvT hZ (hw _ (List.mem_of_getElem? (i := 128) rfl))) (mvT hZ (hw _ (List.mem_of_getElem? (i := 129) rfl))) (mvT hZ (hw _ (List.mem_of_getElem? (i := 130) rfl))) (mvT hZ (hw _ (List.mem_of_getElem? (i := 131) rfl))) (mvT hZ (hw _ (List.mem_of_getElem? (i := 121) rfl))) (by decide) (backOf (W := 0) (rm_get0 l Z a0 hw [] r414 b293 T413.heap n0 O419 y417) hZ (hw _ (List.mem_of_getElem? (i := 132) rfl)) (hw _ (List.mem_of_getElem? (i := 82) rfl)) (by decide) (by decide)) q425a q425b q425c (g := (mkF m 164 #[iv p0, iv p1, iv p2, iv p3, iv p4, rv b102, rv b120, .val .null, rv b293, rv b293, rv b399, rv r414] [(.int (0 : Int32)), (.ref r414)])) rfl (by rw [hml]; rfl) (Steps.refl _) (argsL := [(.int (0 : Int32))]) (rest := []) (lenOf pd_17 rfl) rfl (by show 2 * 0 + _ ≤ _; exact Nat.le_of_eq rfl) (hb hby at_164) (fun _ _ => ⟨rfl, e422, (by decide : 6 + 0 ≤ _), (by decide : 14 + 0 ≤ _)⟩)
    dsimp only [Pt.U, Pt.locs, Pt.cells, Pt.slots] at X425 l425 y425 z425 st425 hQ425
    subst l425 y425 z425
    obtain ⟨rfl, M425, e425⟩ := hQ425
    have N425 := Fr.app N422 M425
    have g426 : Go p e below T425 (mkF m 169 #[iv p0, iv p1, iv p2, iv p3, iv p4, rv b102, rv b120, .val .null, rv b293, rv b293, rv b399, rv r414] [(.ref b293)]) A0 := fun t kont => g424 t (st425.trans kont)
    have g427 : Go p e below T425 (mkF m 177 #[iv p0, iv p1, iv p2, iv p3, iv p4, rv b102, rv b120, .val .null, rv b293, rv b293, rv b399, rv r414] [(.int (1 : Int32)), (.ref r414)]) A0 := by
      intro t kont
      refine g426 t ?_
      refine XS.aload X425.here hx rfl (hb hby at_169) rfl rfl ?_
      show Steps p.tables e below (T425.setTop (mkF m 171 #[iv p0, iv p1, iv p2, iv p3, iv p4, rv b102, rv b120, .val .null, rv b293, rv b293, rv b399, rv r414] [(.ref b293), (.ref b293)])) _
      refine Jvm.RoadKit.acmp (g := (mkF m 171 #[iv p0, iv p1, iv p2, iv p3, iv p4, rv b102, rv b120, .val .null, rv b293, rv b293, rv b399, rv r414] [(.ref b293), (.ref b293)])) X425 hx rfl rfl rfl (pc0 := 171) (pc' := 174) (same := true) rfl (hb hby at_171) rfl (decide_eq_true rfl) (by decide) (by decide) ?_
      show Steps p.tables e below (T425.setTop (mkF m 174 #[iv p0, iv p1, iv p2, iv p3, iv p4, rv b102, rv b120, .val .null, rv b293, rv b293, rv b399, rv r414] [])) _
      refine XS.aload X425.here hx rfl (hb hby at_174) rfl rfl ?_
      show Steps p.tables e below (T425.setTop (mkF m 176 #[iv p0, iv p1, iv p2, iv p3, iv p4, rv b102, rv b120, .val .null, rv b293, rv b293, rv b399, rv r414] [(.ref r414)])) _
      refine XS.iconst X425.here hx rfl (hb hby at_176) ?_
      show Steps p.tables e below (T425.setTop (mkF m 177 #[iv p0, iv p1, iv p2, iv p3, iv p4, rv b102, rv b120, .val .null, rv b293, rv b293, rv b399, rv r414] [(.int (1 : Int32)), (.ref r414)])) _
      exact kont
    obtain ⟨cq428, kq428, q428a, q428b, q428c⟩ := isOf hZ e425 y416
    obtain ⟨_, _, ⟨T428, L428, k428, n428⟩, -, X428, ⟨Lc428, hQ428, l428, y428, z428⟩, st428⟩ := X425.interfaceBack hx (xi := (⟨"java/util/List", "get", "(I)Ljava/lang/Object;"⟩ : MethodName)) (y := (⟨"java/util/ImmutableCollections$List12", "get", "(I)Ljava/lang/Object;"⟩ : MethodName)) hown (mvT hZ (hw _ (List.mem_of_getElem? (i := 125) rfl))) (mvT hZ (hw _ (List.mem_of_getElem? (i := 126) rfl))) (mvT hZ (hw _ (List.mem_of_getElem? (i := 127) rfl))) (mvT hZ (hw _ (List.mem_of_getElem? (i := 128) rfl))) (mvT hZ (hw _ (List.mem_of_getElem? (i := 129) rfl))) (mvT hZ (hw _ (List.mem_of_getElem? (i := 130) rfl))) (mvT hZ (hw _ (List.mem_of_getElem? (i := 131) rfl))) (mvT hZ (hw _ (List.mem_of_getElem? (i := 121) rfl))) (by decide) (backOf (W := 0) (rm_get1 l Z a0 hw [] r414 b293 w_EMPTY T413.heap n0 O419 y418 S1_ (Ne.symm (O419.ne ZE3_.lt ge300))) hZ (hw _ (List.mem_of_getElem? (i := 132) rfl)) (hw _ (List.mem_of_getElem? (i := 82) rfl)) (by decide) (by decide)) q428a q428b q428c (g := (mkF m 177 #[iv p0, iv p1, iv p2, iv p3, iv p4, rv b102, rv b120, .val .null, rv b293, rv b293, rv b399, rv r414] [(.int (1 : Int32)), (.ref r414)])) rfl (by rw [hml]; rfl) (Steps.refl _) (argsL := [(.int (1 : Int32))]) (rest := []) (lenOf pd_17 rfl) rfl (by show 2 * 0 + _ ≤ _; exact Nat.le_of_eq rfl) (hb hby at_177) (fun _ _ => ⟨rfl, e425, (by decide : 6 + 0 ≤ _), (by decide : 14 + 0 ≤ _)⟩)
    dsimp only [Pt.U, Pt.locs, Pt.cells, Pt.slots] at X428 l428 y428 z428 st428 hQ428
    subst l428 y428 z428
    obtain ⟨rfl, M428, e428⟩ := hQ428
    have N428 := Fr.app N425 M428
    have g429 : Go p e below T428 (mkF m 182 #[iv p0, iv p1, iv p2, iv p3, iv p4, rv b102, rv b120, .val .null, rv b293, rv b293, rv b399, rv r414] [(.ref b293)]) A0 := fun t kont => g427 t (st428.trans kont)
    have g430 : Go p e below T428 (mkF m 192 #[iv p0, iv p1, iv p2, iv p3, iv p4, rv b102, rv b120, .val .null, rv b293, rv b293, rv b399, rv r414] [(.int (1 : Int32))]) A0 := by
      intro t kont
      refine g429 t ?_
      refine XS.aload X428.here hx rfl (hb hby at_182) rfl rfl ?_
      show Steps p.tables e below (T428.setTop (mkF m 184 #[iv p0, iv p1, iv p2, iv p3, iv p4, rv b102, rv b120, .val .null, rv b293, rv b293, rv b399, rv r414] [(.ref b293), (.ref b293)])) _
      refine Jvm.RoadKit.acmp (g := (mkF m 184 #[iv p0, iv p1, iv p2, iv p3, iv p4, rv b102, rv b120, .val .null, rv b293, rv b293, rv b399, rv r414] [(.ref b293), (.ref b293)])) X428 hx rfl rfl rfl (pc0 := 184) (pc' := 187) (same := true) rfl (hb hby at_184) rfl (decide_eq_true rfl) (by decide) (by decide) ?_
      show Steps p.tables e below (T428.setTop (mkF m 187 #[iv p0, iv p1, iv p2, iv p3, iv p4, rv b102, rv b120, .val .null, rv b293, rv b293, rv b399, rv r414] [])) _
      refine XS.iconst X428.here hx rfl (hb hby at_187) ?_
      show Steps p.tables e below (T428.setTop (mkF m 188 #[iv p0, iv p1, iv p2, iv p3, iv p4, rv b102, rv b120, .val .null, rv b293, rv b293, rv b399, rv r414] [(.int (1 : Int32))])) _
      refine XS.goto X428.here hx rfl (pc0 := 188) (pc' := 192) rfl (hb hby at_188) (by decide) (by decide) ?_
      show Steps p.tables e below (T428.setTop (mkF m 192 #[iv p0, iv p1, iv p2, iv p3, iv p4, rv b102, rv b120, .val .null, rv b293, rv b293, rv b399, rv r414] [(.int (1 : Int32))])) _
      exact kont
    obtain ⟨fs, hr, hrun, hended, hW, hsame⟩ := X428.leave (v := some (.int (1 : Int32))) (fun h => by rw [Bd.returns] at h; cases h)
    refine ⟨_, _, g430 _ (retN X428 hx (t := .boolean) Bd.returns (by simp) (hb hby at_192) hr), hrun, hended, _, _, rfl, ?_, ⟨_, rfl⟩, hW, hsame.mono (by decide) (by decide)⟩
    show Q_law Z p0 p1 p2 p3 p4 i_COMPACT_STRINGS w_EMPTY h0 n0 _ T428.heap _
    rw [e428]
    exact ⟨rfl, N428⟩
  have g432 : Go p e below T113 (mkF m 49 #[iv p0, iv p1, iv p2, iv p3, iv p4, rv b102, .val .null, .unset, .unset, .unset, .unset, .unset] [(.int (p4 &&& (2 : Int32)))]) A0 := by
    intro t kont
    refine g118 t ?_
    refine XS.ifNo X113.here hx rfl (hb hby at_27) rfl ((if0 _ _).trans (feq c117).1) ?_
    show Steps p.tables e below (T113.setTop (mkF m 30 #[iv p0, iv p1, iv p2, iv p3, iv p4, rv b102, .unset, .unset, .unset, .unset, .unset, .unset] [])) _
    refine XS.aconstNull X113.here hx rfl (hb hby at_30) ?_
    show Steps p.tables e below (T113.setTop (mkF m 31 #[iv p0, iv p1, iv p2, iv p3, iv p4, rv b102, .unset, .unset, .unset, .unset, .unset, .unset] [.null])) _
    refine XS.goto X113.here hx rfl (pc0 := 31) (pc' := 43) rfl (hb hby at_31) (by decide) (by decide) ?_
    show Steps p.tables e below (T113.setTop (mkF m 43 #[iv p0, iv p1, iv p2, iv p3, iv p4, rv b102, .unset, .unset, .unset, .unset, .unset, .unset] [.null])) _
    refine XS.astore X113.here hx rfl (hb hby at_43) rfl rfl (l' := #[iv p0, iv p1, iv p2, iv p3, iv p4, rv b102, .val .null, .unset, .unset, .unset, .unset, .unset]) rfl ?_
    show Steps p.tables e below (T113.setTop (mkF m 45 #[iv p0, iv p1, iv p2, iv p3, iv p4, rv b102, .val .null, .unset, .unset, .unset, .unset, .unset] [])) _
    refine XS.iload X113.here hx rfl (hb hby at_45) rfl ?_
    show Steps p.tables e below (T113.setTop (mkF m 47 #[iv p0, iv p1, iv p2, iv p3, iv p4, rv b102, .val .null, .unset, .unset, .unset, .unset, .unset] [(.int p4)])) _
    refine XS.iconst X113.here hx rfl (hb hby at_47) ?_
    show Steps p.tables e below (T113.setTop (mkF m 48 #[iv p0, iv p1, iv p2, iv p3, iv p4, rv b102, .val .null, .unset, .unset, .unset, .unset, .unset] [(.int (2 : Int32)), (.int p4)])) _
    refine XS.iand X113.here hx rfl (hb hby at_48) rfl ?_
    show Steps p.tables e below (T113.setTop (mkF m 49 #[iv p0, iv p1, iv p2, iv p3, iv p4, rv b102, .val .null, .unset, .unset, .unset, .unset, .unset] [(.int (p4 &&& (2 : Int32)))])) _
    exact kont
  by_cases c431 : (p4 &&& (2 : Int32)) = (0 : Int32)
  ·
    have g433 : Go p e below T113 (mkF m 62 #[iv p0, iv p1, iv p2, iv p3, iv p4, rv b102, .val .null, .unset, .unset, .unset, .unset, .unset] [(.int ((p1 &&& (255 : Int32)).toUInt32.toUInt16.toUInt32.toInt32))]) A0 := by
      intro t kont
      refine g432 t ?_
      refine XS.ifYes X113.here hx rfl (pc0 := 49) (pc' := 56) rfl (hb hby at_49) rfl ((if0 _ _).trans (teq c431).1) (by decide) (by decide) ?_
      show Steps p.tables e below (T113.setTop (mkF m 56 #[iv p0, iv p1, iv p2, iv p3, iv p4, rv b102, .val .null, .unset, .unset, .unset, .unset, .unset] [])) _
      refine XS.iloadN X113.here hx rfl (hb hby at_56) rfl ?_
      show Steps p.tables e below (T113.setTop (mkF m 57 #[iv p0, iv p1, iv p2, iv p3, iv p4, rv b102, .val .null, .unset, .unset, .unset, .unset, .unset] [(.int p1)])) _
      refine XS.sipush X113.here hx rfl (hb hby at_57) ?_
      show Steps p.tables e below (T113.setTop (mkF m 60 #[iv p0, iv p1, iv p2, iv p3, iv p4, rv b102, .val .null, .unset, .unset, .unset, .unset, .unset] [(.int (255 : Int32)), (.int p1)])) _
      refine XS.iand X113.here hx rfl (hb hby at_60) rfl ?_
      show Steps p.tables e below (T113.setTop (mkF m 61 #[iv p0, iv p1, iv p2, iv p3, iv p4, rv b102, .val .null, .unset, .unset, .unset, .unset, .unset] [(.int (p1 &&& (255 : Int32)))])) _
      refine XS.i2c X113.here hx rfl (hb hby at_61) rfl ?_
      show Steps p.tables e below (T113.setTop (mkF m 62 #[iv p0, iv p1, iv p2, iv p3, iv p4, rv b102, .val .null, .unset, .unset, .unset, .unset, .unset] [(.int ((p1 &&& (255 : Int32)).toUInt32.toUInt16.toUInt32.toInt32))])) _
      exact kont
    obtain ⟨_, _, ⟨T434, L434, k434, n434⟩, -, X434, ⟨Lc434, hQ434, l434, y434, z434⟩, st434⟩ := Jvm.LawKit.callS X113 hx (y := (⟨"java/lang/String", "valueOf", "(C)Ljava/lang/String;"⟩ : MethodName)) hown (mvT hZ (hw _ (List.mem_of_getElem? (i := 30) rfl))) (mvT hZ (hw _ (List.mem_of_getElem? (i := 31) rfl))) (mvT hZ (hw _ (List.mem_of_getElem? (i := 3) rfl))) (mvT hZ (hw _ (List.mem_of_getElem? (i := 32) rfl))) (by decide) (backOf (W := 0) (rm_valC l Z a0 hw [] ((p1 &&& (255 : Int32)).toUInt32.toUInt16.toUInt32.toInt32) i_COMPACT_STRINGS h113 n0 O114 S0_ hcs (own_c255 p1)) hZ (hw _ (List.mem_of_getElem? (i := 32) rfl)) (hw _ (List.mem_of_getElem? (i := 3) rfl)) (by decide) (by decide)) (g := (mkF m 62 #[iv p0, iv p1, iv p2, iv p3, iv p4, rv b102, .val .null, .unset, .unset, .unset, .unset, .unset] [(.int ((p1 &&& (255 : Int32)).toUInt32.toUInt16.toUInt32.toInt32))])) rfl (by rw [hml]; rfl) (argsL := [(.int ((p1 &&& (255 : Int32)).toUInt32.toUInt16.toUInt32.toInt32))]) (rest := []) (lenOf pd_12 rfl) rfl (by show 2 * 0 + _ ≤ _; exact Nat.le_of_eq rfl) (hb hby at_62) (fun _ _ => ⟨rfl, e113, (by decide : 1 + 2 ≤ _), (by decide : 2 + 5 ≤ _)⟩)
    dsimp only [Pt.U, Pt.locs, Pt.cells, Pt.slots] at X434 l434 y434 z434 st434 hQ434
    subst l434 y434 z434
    obtain ⟨r435, r436, r437, rfl, M434, K434, y438, y439, y440, y441, y442, y443⟩ := hQ434
    have N434 := Fr.app N113 M434
    have O444 := O114.keep K434 all0
    have g445 : Go p e below T434 (mkF m 65 #[iv p0, iv p1, iv p2, iv p3, iv p4, rv b102, .val .null, .unset, .unset, .unset, .unset, .unset] [(.ref r435)]) A0 := fun t kont => g433 t (st434 t kont)
    have g446 : Go p e below T434 (mkF m 67 #[iv p0, iv p1, iv p2, iv p3, iv p4, rv b102, .val .null, rv r435, .unset, .unset, .unset, .unset] []) A0 := by
      intro t kont
      refine g445 t ?_
      refine XS.astore X434.here hx rfl (hb hby at_65) rfl rfl (l' := #[iv p0, iv p1, iv p2, iv p3, iv p4, rv b102, .val .null, rv r435, .unset, .unset, .unset, .unset]) rfl ?_
      show Steps p.tables e below (T434.setTop (mkF m 67 #[iv p0, iv p1, iv p2, iv p3, iv p4, rv b102, .val .null, rv r435, .unset, .unset, .unset, .unset] [])) _
      exact kont
    obtain ⟨T447, h447, X447, e447, E447, A447, D447, -, st447⟩ := newO X434 hx hZ hown (hw _ (List.mem_of_getElem? (i := 44) rfl)) (hw _ (List.mem_of_getElem? (i := 45) rfl)) (hw _ (List.mem_of_getElem? (i := 46) rfl)) rfl (g := (mkF m 67 #[iv p0, iv p1, iv p2, iv p3, iv p4, rv b102, .val .null, rv r435, .unset, .unset, .unset, .unset] [])) rfl (hb hby at_67) (by decide) (by decide)
    obtain ⟨b447, gb447⟩ : ∃ z, z = T434.heap.size := ⟨_, rfl⟩
    rw [← gb447] at A447 D447 st447
    have O448 := O444.ext E447
    have y449 : Fld Z h447 b447 "com/example/subsume/subsume/engine/Individual" "name" "Ljava/lang/String;" .null := D447 (Or.inr (hw _ (List.mem_of_getElem? (i := 52) rfl))) (ty := (.object "java/lang/String")) (by decide)
    have y450 : Fld Z h447 b447 "com/example/subsume/subsume/engine/Individual" "id" "I" (.int (0 : Int32)) := D447 (Or.inr (hw _ (List.mem_of_getElem? (i := 54) rfl))) (ty := .int) (by decide)
    have g451 : Go p e below T447 (mkF m 70 #[iv p0, iv p1, iv p2, iv p3, iv p4, rv b102, .val .null, rv r435, .unset, .unset, .unset, .unset] [(.ref b447)]) A0 := fun t kont => g446 t (st447 t kont)
    have g452 : Go p e below T447 (mkF m 74 #[iv p0, iv p1, iv p2, iv p3, iv p4, rv b102, .val .null, rv r435, .unset, .unset, .unset, .unset] [(.int p2), .null, (.ref b447), (.ref b447)]) A0 := by
      intro t kont
      refine g451 t ?_
      refine XS.dup X447.here hx rfl (hb hby at_70) rfl rfl ?_
      show Steps p.tables e below (T447.setTop (mkF m 71 #[iv p0, iv p1, iv p2, iv p3, iv p4, rv b102, .val .null, rv r435, .unset, .unset, .unset, .unset] [(.ref b447), (.ref b447)])) _
      refine XS.aload X447.here hx rfl (hb hby at_71) rfl rfl ?_
      show Steps p.tables e below (T447.setTop (mkF m 73 #[iv p0, iv p1, iv p2, iv p3, iv p4, rv b102, .val .null, rv r435, .unset, .unset, .unset, .unset] [.null, (.ref b447), (.ref b447)])) _
      refine XS.iloadN X447.here hx rfl (hb hby at_73) rfl ?_
      show Steps p.tables e below (T447.setTop (mkF m 74 #[iv p0, iv p1, iv p2, iv p3, iv p4, rv b102, .val .null, rv r435, .unset, .unset, .unset, .unset] [(.int p2), .null, (.ref b447), (.ref b447)])) _
      exact kont
    have ge454 : n0 ≤ b447 := Nat.le_trans (own_old_le O444) (Nat.le_of_eq gb447.symm)
    obtain ⟨_, _, ⟨T453, L453, k453, n453⟩, -, X453, ⟨Lc453, hQ453, l453, y453, z453⟩, st453⟩ := X447.specialBack hx (y := (⟨"com/example/subsume/subsume/engine/Individual", "<init>", "(Ljava/lang/String;I)V"⟩ : MethodName)) rfl hown (mvT hZ (hw _ (List.mem_of_getElem? (i := 47) rfl))) (mvT hZ (hw _ (List.mem_of_getElem? (i := 48) rfl))) (mvT hZ (hw _ (List.mem_of_getElem? (i := 49) rfl))) (by decide) (backOf (W := 1) (rm_indI l Z a0 hw [] b447 .null p2 h447 n0 O448 (rfl) y449 y450 A447 ge454) hZ (hw _ (List.mem_of_getElem? (i := 49) rfl)) (hw _ (List.mem_of_getElem? (i := 46) rfl)) (by decide) (by decide)) (g := (mkF m 74 #[iv p0, iv p1, iv p2, iv p3, iv p4, rv b102, .val .null, rv r435, .unset, .unset, .unset, .unset] [(.int p2), .null, (.ref b447), (.ref b447)])) rfl (by rw [hml]; rfl) (Steps.refl _) (a := b447) (argsL := [.null, (.int p2)]) (rest := [(.ref b447)]) (lenOf pd_13 rfl) rfl (by show 2 * 0 + _ ≤ _; exact Nat.le_of_eq rfl) (hb hby at_74) (fun _ _ => ⟨rfl, e447, (by decide : 4 + 0 ≤ _), (by decide : 9 + 0 ≤ _)⟩)
    dsimp only [Pt.U, Pt.locs, Pt.cells, Pt.slots] at X453 l453 y453 z453 st453 hQ453
    subst l453 y453 z453
    obtain ⟨rfl, M453, K453, y455⟩ := hQ453
    have N453 := Fr.app N434 M453
    have O456 := O448.keep K453 (allS ge454 all0)
    have g457 : Go p e below T453 (mkF m 77 #[iv p0, iv p1, iv p2, iv p3, iv p4, rv b102, .val .null, rv r435, .unset, .unset, .unset, .unset] [(.ref b447)]) A0 := fun t kont => g452 t (st453.trans kont)
    have g459 : Go p e below T453 (mkF m 83 #[iv p0, iv p1, iv p2, iv p3, iv p4, rv b102, .val .null, rv r435, rv b447, .unset, .unset, .unset] [(.int (p4 &&& (4 : Int32)))]) A0 := by
      intro t kont
      refine g457 t ?_
      refine XS.astore X453.here hx rfl (hb hby at_77) rfl rfl (l' := #[iv p0, iv p1, iv p2, iv p3, iv p4, rv b102, .val .null, rv r435, rv b447, .unset, .unset, .unset]) rfl ?_
      show Steps p.tables e below (T453.setTop (mkF m 79 #[iv p0, iv p1, iv p2, iv p3, iv p4, rv b102, .val .null, rv r435, rv b447, .unset, .unset, .unset] [])) _
      refine XS.iload X453.here hx rfl (hb hby at_79) rfl ?_
      show Steps p.tables e below (T453.setTop (mkF m 81 #[iv p0, iv p1, iv p2, iv p3, iv p4, rv b102, .val .null, rv r435, rv b447, .unset, .unset, .unset] [(.int p4)])) _
      refine XS.iconst X453.here hx rfl (hb hby at_81) ?_
      show Steps p.tables e below (T453.setTop (mkF m 82 #[iv p0, iv p1, iv p2, iv p3, iv p4, rv b102, .val .null, rv r435, rv b447, .unset, .unset, .unset] [(.int (4 : Int32)), (.int p4)])) _
      refine XS.iand X453.here hx rfl (hb hby at_82) rfl ?_
      show Steps p.tables e below (T453.setTop (mkF m 83 #[iv p0, iv p1, iv p2, iv p3, iv p4, rv b102, .val .null, rv r435, rv b447, .unset, .unset, .unset] [(.int (p4 &&& (4 : Int32)))])) _
      exact kont
    by_cases c458 : (p4 &&& (4 : Int32)) = (0 : Int32)
    ·
      have g461 : Go p e below T453 (mkF m 98 #[iv p0, iv p1, iv p2, iv p3, iv p4, rv b102, .val .null, rv r435, rv b447, .unset, .unset, .unset] [(.int (p4 &&& (8 : Int32)))]) A0 := by
        intro t kont
        refine g459 t ?_
        refine XS.ifYes X453.here hx rfl (pc0 := 83) (pc' := 93) rfl (hb hby at_83) rfl ((if0 _ _).trans (teq c458).1) (by decide) (by decide) ?_
        show Steps p.tables e below (T453.setTop (mkF m 93 #[iv p0, iv p1, iv p2, iv p3, iv p4, rv b102, .val .null, rv r435, rv b447, .unset, .unset, .unset] [])) _
        refine XS.iload X453.here hx rfl (hb hby at_93) rfl ?_
        show Steps p.tables e below (T453.setTop (mkF m 95 #[iv p0, iv p1, iv p2, iv p3, iv p4, rv b102, .val .null, rv r435, rv b447, .unset, .unset, .unset] [(.int p4)])) _
        refine XS.bipush X453.here hx rfl (hb hby at_95) ?_
        show Steps p.tables e below (T453.setTop (mkF m 97 #[iv p0, iv p1, iv p2, iv p3, iv p4, rv b102, .val .null, rv r435, rv b447, .unset, .unset, .unset] [(.int (8 : Int32)), (.int p4)])) _
        refine XS.iand X453.here hx rfl (hb hby at_97) rfl ?_
        show Steps p.tables e below (T453.setTop (mkF m 98 #[iv p0, iv p1, iv p2, iv p3, iv p4, rv b102, .val .null, rv r435, rv b447, .unset, .unset, .unset] [(.int (p4 &&& (8 : Int32)))])) _
        exact kont
      by_cases c460 : (p4 &&& (8 : Int32)) = (0 : Int32)
      ·
        have g462 : Go p e below T453 (mkF m 116 #[iv p0, iv p1, iv p2, iv p3, iv p4, rv b102, .val .null, rv r435, rv b447, .unset, .unset, .unset] []) A0 := by
          intro t kont
          refine g461 t ?_
          refine XS.ifYes X453.here hx rfl (pc0 := 98) (pc' := 116) rfl (hb hby at_98) rfl ((if0 _ _).trans (teq c460).1) (by decide) (by decide) ?_
          show Steps p.tables e below (T453.setTop (mkF m 116 #[iv p0, iv p1, iv p2, iv p3, iv p4, rv b102, .val .null, rv r435, rv b447, .unset, .unset, .unset] [])) _
          exact kont
        obtain ⟨T463, h463, X463, e463, E463, A463, D463, -, st463⟩ := newO X453 hx hZ hown (hw _ (List.mem_of_getElem? (i := 44) rfl)) (hw _ (List.mem_of_getElem? (i := 45) rfl)) (hw _ (List.mem_of_getElem? (i := 46) rfl)) rfl (g := (mkF m 116 #[iv p0, iv p1, iv p2, iv p3, iv p4, rv b102, .val .null, rv r435, rv b447, .unset, .unset, .unset] [])) rfl (hb hby at_116) (by decide) (by decide)
        obtain ⟨b463, gb463⟩ : ∃ z, z = T453.heap.size := ⟨_, rfl⟩
        rw [← gb463] at A463 D463 st463
        have O464 := O456.ext E463
        have y465 : Fld Z h463 b463 "com/example/subsume/subsume/engine/Individual" "name" "Ljava/lang/String;" .null := D463 (Or.inr (hw _ (List.mem_of_getElem? (i := 52) rfl))) (ty := (.object "java/lang/String")) (by decide)
        have y466 : Fld Z h463 b463 "com/example/subsume/subsume/engine/Individual" "id" "I" (.int (0 : Int32)) := D463 (Or.inr (hw _ (List.mem_of_getElem? (i := 54) rfl))) (ty := .int) (by decide)
        have g467 : Go p e below T463 (mkF m 119 #[iv p0, iv p1, iv p2, iv p3, iv p4, rv b102, .val .null, rv r435, rv b447, .unset, .unset, .unset] [(.ref b463)]) A0 := fun t kont => g462 t (st463 t kont)
        have g468 : Go p e below T463 (mkF m 123 #[iv p0, iv p1, iv p2, iv p3, iv p4, rv b102, .val .null, rv r435, rv b447, .unset, .unset, .unset] [(.int p3), (.ref r435), (.ref b463), (.ref b463)]) A0 := by
          intro t kont
          refine g467 t ?_
          refine XS.dup X463.here hx rfl (hb hby at_119) rfl rfl ?_
          show Steps p.tables e below (T463.setTop (mkF m 120 #[iv p0, iv p1, iv p2, iv p3, iv p4, rv b102, .val .null, rv r435, rv b447, .unset, .unset, .unset] [(.ref b463), (.ref b463)])) _
          refine XS.aload X463.here hx rfl (hb hby at_120) rfl rfl ?_
          show Steps p.tables e below (T463.setTop (mkF m 122 #[iv p0, iv p1, iv p2, iv p3, iv p4, rv b102, .val .null, rv r435, rv b447, .unset, .unset, .unset] [(.ref r435), (.ref b463), (.ref b463)])) _
          refine XS.iloadN X463.here hx rfl (hb hby at_122) rfl ?_
          show Steps p.tables e below (T463.setTop (mkF m 123 #[iv p0, iv p1, iv p2, iv p3, iv p4, rv b102, .val .null, rv r435, rv b447, .unset, .unset, .unset] [(.int p3), (.ref r435), (.ref b463), (.ref b463)])) _
          exact kont
        have ge470 : n0 ≤ b463 := Nat.le_trans (own_old_le O456) (Nat.le_of_eq gb463.symm)
        obtain ⟨_, _, ⟨T469, L469, k469, n469⟩, -, X469, ⟨Lc469, hQ469, l469, y469, z469⟩, st469⟩ := X463.specialBack hx (y := (⟨"com/example/subsume/subsume/engine/Individual", "<init>", "(Ljava/lang/String;I)V"⟩ : MethodName)) rfl hown (mvT hZ (hw _ (List.mem_of_getElem? (i := 47) rfl))) (mvT hZ (hw _ (List.mem_of_getElem? (i := 48) rfl))) (mvT hZ (hw _ (List.mem_of_getElem? (i := 49) rfl))) (by decide) (backOf (W := 1) (rm_indI l Z a0 hw [] b463 (.ref r435) p3 h463 n0 O464 (rfl) y465 y466 A463 ge470) hZ (hw _ (List.mem_of_getElem? (i := 49) rfl)) (hw _ (List.mem_of_getElem? (i := 46) rfl)) (by decide) (by decide)) (g := (mkF m 123 #[iv p0, iv p1, iv p2, iv p3, iv p4, rv b102, .val .null, rv r435, rv b447, .unset, .unset, .unset] [(.int p3), (.ref r435), (.ref b463), (.ref b463)])) rfl (by rw [hml]; rfl) (Steps.refl _) (a := b463) (argsL := [(.ref r435), (.int p3)]) (rest := [(.ref b463)]) (lenOf pd_13 rfl) rfl (by show 2 * 0 + _ ≤ _; exact Nat.le_of_eq rfl) (hb hby at_123) (fun _ _ => ⟨rfl, e463, (by decide : 5 + 0 ≤ _), (by decide : 11 + 0 ≤ _)⟩)
        dsimp only [Pt.U, Pt.locs, Pt.cells, Pt.slots] at X469 l469 y469 z469 st469 hQ469
        subst l469 y469 z469
        obtain ⟨rfl, M469, K469, y471⟩ := hQ469
        have N469 := Fr.app N453 M469
        have O472 := O464.keep K469 (allS ge470 all0)
        have g473 : Go p e below T469 (mkF m 126 #[iv p0, iv p1, iv p2, iv p3, iv p4, rv b102, .val .null, rv r435, rv b447, .unset, .unset, .unset] [(.ref b463)]) A0 := fun t kont => g468 t (st469.trans kont)
        have g474 : Go p e below T469 (mkF m 128 #[iv p0, iv p1, iv p2, iv p3, iv p4, rv b102, .val .null, rv r435, rv b447, rv b463, .unset, .unset] []) A0 := by
          intro t kont
          refine g473 t ?_
          refine XS.astore X469.here hx rfl (hb hby at_126) rfl rfl (l' := #[iv p0, iv p1, iv p2, iv p3, iv p4, rv b102, .val .null, rv r435, rv b447, rv b463, .unset, .unset]) rfl ?_
          show Steps p.tables e below (T469.setTop (mkF m 128 #[iv p0, iv p1, iv p2, iv p3, iv p4, rv b102, .val .null, rv r435, rv b447, rv b463, .unset, .unset] [])) _
          exact kont
        obtain ⟨T475, h475, X475, e475, E475, A475, D475, -, st475⟩ := newO X469 hx hZ hown (hw _ (List.mem_of_getElem? (i := 55) rfl)) (hw _ (List.mem_of_getElem? (i := 56) rfl)) (hw _ (List.mem_of_getElem? (i := 57) rfl)) rfl (g := (mkF m 128 #[iv p0, iv p1, iv p2, iv p3, iv p4, rv b102, .val .null, rv r435, rv b447, rv b463, .unset, .unset] [])) rfl (hb hby at_128) (by decide) (by decide)
        obtain ⟨b475, gb475⟩ : ∃ z, z = T469.heap.size := ⟨_, rfl⟩
        rw [← gb475] at A475 D475 st475
        have O476 := O472.ext E475
        have y477 : Fld Z h475 b475 "com/example/subsume/subsume/engine/IndividualEquality" "individual" "Lcom/example/subsume/subsume/engine/Individual;" .null := D475 (Or.inr (hw _ (List.mem_of_getElem? (i := 68) rfl))) (ty := (.object "com/example/subsume/subsume/engine/Individual")) (by decide)
        have y478 : Fld Z h475 b475 "com/example/subsume/subsume/engine/IndividualEquality" "other" "Lcom/example/subsume/subsume/engine/Individual;" .null := D475 (Or.inr (hw _ (List.mem_of_getElem? (i := 70) rfl))) (ty := (.object "com/example/subsume/subsume/engine/Individual")) (by decide)
        have g479 : Go p e below T475 (mkF m 131 #[iv p0, iv p1, iv p2, iv p3, iv p4, rv b102, .val .null, rv r435, rv b447, rv b463, .unset, .unset] [(.ref b475)]) A0 := fun t kont => g474 t (st475 t kont)
        have g480 : Go p e below T475 (mkF m 136 #[iv p0, iv p1, iv p2, iv p3, iv p4, rv b102, .val .null, rv r435, rv b447, rv b463, .unset, .unset] [(.ref b463), (.ref b447), (.ref b475), (.ref b475)]) A0 := by
          intro t kont
          refine g479 t ?_
          refine XS.dup X475.here hx rfl (hb hby at_131) rfl rfl ?_
          show Steps p.tables e below (T475.setTop (mkF m 132 #[iv p0, iv p1, iv p2, iv p3, iv p4, rv b102, .val .null, rv r435, rv b447, rv b463, .unset, .unset] [(.ref b475), (.ref b475)])) _
          refine XS.aload X475.here hx rfl (hb hby at_132) rfl rfl ?_
          show Steps p.tables e below (T475.setTop (mkF m 134 #[iv p0, iv p1, iv p2, iv p3, iv p4, rv b102, .val .null, rv r435, rv b447, rv b463, .unset, .unset] [(.ref b447), (.ref b475), (.ref b475)])) _
          refine XS.aload X475.here hx rfl (hb hby at_134) rfl rfl ?_
          show Steps p.tables e below (T475.setTop (mkF m 136 #[iv p0, iv p1, iv p2, iv p3, iv p4, rv b102, .val .null, rv r435, rv b447, rv b463, .unset, .unset] [(.ref b463), (.ref b447), (.ref b475), (.ref b475)])) _
          exact kont
        have ge482 : n0 ≤ b475 := Nat.le_trans (own_old_le O472) (Nat.le_of_eq gb475.symm)
        obtain ⟨_, _, ⟨T481, L481, k481, n481⟩, -, X481, ⟨Lc481, hQ481, l481, y481, z481⟩, st481⟩ := X475.specialBack hx (y := (⟨"com/example/subsume/subsume/engine/IndividualEquality", "<init>", "(Lcom/example/subsume/subsume/engine/Individual;Lcom/example/subsume/subsume/engine/Individual;)V"⟩ : MethodName)) rfl hown (mvT hZ (hw _ (List.mem_of_getElem? (i := 58) rfl))) (mvT hZ (hw _ (List.mem_of_getElem? (i := 59) rfl))) (mvT hZ (hw _ (List.mem_of_getElem? (i := 60) rfl))) (by decide) (backOf (W := 1) (rm_relI l Z a0 hw [] b475 b447 b463 h475 n0 O476 y477 y478 A475 ge482) hZ (hw _ (List.mem_of_getElem? (i := 60) rfl)) (hw _ (List.mem_of_getElem? (i := 57) rfl)) (by decide) (by decide)) (g := (mkF m 136 #[iv p0, iv p1, iv p2, iv p3, iv p4, rv b102, .val .null, rv r435, rv b447, rv b463, .unset, .unset] [(.ref b463), (.ref b447), (.ref b475), (.ref b475)])) rfl (by rw [hml]; rfl) (Steps.refl _) (a := b475) (argsL := [(.ref b447), (.ref b463)]) (rest := [(.ref b475)]) (lenOf pd_14 rfl) rfl (by show 2 * 0 + _ ≤ _; exact Nat.le_of_eq rfl) (hb hby at_136) (fun _ _ => ⟨rfl, e475, (by decide : 6 + 0 ≤ _), (by decide : 13 + 0 ≤ _)⟩)
        dsimp only [Pt.U, Pt.locs, Pt.cells, Pt.slots] at X481 l481 y481 z481 st481 hQ481
        subst l481 y481 z481
        obtain ⟨rfl, M481, K481, y483, y484, y485⟩ := hQ481
        have N481 := Fr.app N469 M481
        have O486 := O476.keep K481 (allS ge482 all0)
        have g487 : Go p e below T481 (mkF m 139 #[iv p0, iv p1, iv p2, iv p3, iv p4, rv b102, .val .null, rv r435, rv b447, rv b463, .unset, .unset] [(.ref b475)]) A0 := fun t kont => g480 t (st481.trans kont)
        have g488 : Go p e below T481 (mkF m 143 #[iv p0, iv p1, iv p2, iv p3, iv p4, rv b102, .val .null, rv r435, rv b447, rv b463, rv b475, .unset] [(.ref b475)]) A0 := by
          intro t kont
          refine g487 t ?_
          refine XS.astore X481.here hx rfl (hb hby at_139) rfl rfl (l' := #[iv p0, iv p1, iv p2, iv p3, iv p4, rv b102, .val .null, rv r435, rv b447, rv b463, rv b475, .unset]) rfl ?_
          show Steps p.tables e below (T481.setTop (mkF m 141 #[iv p0, iv p1, iv p2, iv p3, iv p4, rv b102, .val .null, rv r435, rv b447, rv b463, rv b475, .unset] [])) _
          refine XS.aload X481.here hx rfl (hb hby at_141) rfl rfl ?_
          show Steps p.tables e below (T481.setTop (mkF m 143 #[iv p0, iv p1, iv p2, iv p3, iv p4, rv b102, .val .null, rv r435, rv b447, rv b463, rv b475, .unset] [(.ref b475)])) _
          exact kont
        obtain ⟨cq489, kq489, q489a, q489b, q489c⟩ := isOf hZ rfl y483
        obtain ⟨_, _, ⟨T489, L489, k489, n489⟩, -, X489, ⟨Lc489, hQ489, l489, y489, z489⟩, st489⟩ := X481.virtualBack hx (y := (⟨"com/example/subsume/subsume/engine/IndividualEquality", "individuals", "()Ljava/util/List;"⟩ : MethodName)) (z := (⟨"com/example/subsume/subsume/engine/IndividualEquality", "individuals", "()Ljava/util/List;"⟩ : MethodName)) hown (mvT hZ (hw _ (List.mem_of_getElem? (i := 71) rfl))) (mvT hZ (hw _ (List.mem_of_getElem? (i := 72) rfl))) (notFace_of_selects (args := #[]) (mvT hZ (hw _ (List.mem_of_getElem? (i := 74) rfl)))) (mvT hZ (hw _ (List.mem_of_getElem? (i := 74) rfl))) (mvT hZ (hw _ (List.mem_of_getElem? (i := 73) rfl))) (by decide) (backOf (W := 0) (rm_inds l Z a0 hw [] b475 b447 b463 T481.heap n0 O486 y484 y485) hZ (hw _ (List.mem_of_getElem? (i := 75) rfl)) (hw _ (List.mem_of_getElem? (i := 57) rfl)) (by decide) (by decide)) q489a q489c (g := (mkF m 143 #[iv p0, iv p1, iv p2, iv p3, iv p4, rv b102, .val .null, rv r435, rv b447, rv b463, rv b475, .unset] [(.ref b475)])) rfl (by rw [hml]; rfl) (Steps.refl _) (argsL := []) (rest := []) (lenOf pd_15 rfl) rfl (by show 2 * 0 + _ ≤ _; exact Nat.le_of_eq rfl) (hb hby at_143) (fun _ _ => ⟨rfl, rfl, (by decide : 6 + 1 ≤ _), (by decide : 13 + 2 ≤ _)⟩)
        dsimp only [Pt.U, Pt.locs, Pt.cells, Pt.slots] at X489 l489 y489 z489 st489 hQ489
        subst l489 y489 z489
        obtain ⟨r490, rfl, M489, K489, y491, y492, y493, y494⟩ := hQ489
        have N489 := Fr.app N481 M489
        have O495 := O486.keep K489 all0
        have g496 : Go p e below T489 (mkF m 146 #[iv p0, iv p1, iv p2, iv p3, iv p4, rv b102, .val .null, rv r435, rv b447, rv b463, rv b475, .unset] [(.ref r490)]) A0 := fun t kont => g488 t (st489.trans kont)
        have g497 : Go p e below T489 (mkF m 150 #[iv p0, iv p1, iv p2, iv p3, iv p4, rv b102, .val .null, rv r435, rv b447, rv b463, rv b475, rv r490] [(.ref r490)]) A0 := by
          intro t kont
          refine g496 t ?_
          refine XS.astore X489.here hx rfl (hb hby at_146) rfl rfl (l' := #[iv p0, iv p1, iv p2, iv p3, iv p4, rv b102, .val .null, rv r435, rv b447, rv b463, rv b475, rv r490]) rfl ?_
          show Steps p.tables e below (T489.setTop (mkF m 148 #[iv p0, iv p1, iv p2, iv p3, iv p4, rv b102, .val .null, rv r435, rv b447, rv b463, rv b475, rv r490] [])) _
          refine XS.aload X489.here hx rfl (hb hby at_148) rfl rfl ?_
          show Steps p.tables e below (T489.setTop (mkF m 150 #[iv p0, iv p1, iv p2, iv p3, iv p4, rv b102, .val .null, rv r435, rv b447, rv b463, rv b475, rv r490] [(.ref r490)])) _
          exact kont
        obtain ⟨cq498, kq498, q498a, q498b, q498c⟩ := isOf hZ rfl y492
        obtain ⟨_, _, ⟨T498, L498, k498, n498⟩, -, X498, ⟨Lc498, hQ498, l498, y498, z498⟩, st498⟩ := X489.interfaceBack hx (xi := (⟨"java/util/List", "size", "()I"⟩ : MethodName)) (y := (⟨"java/util/ImmutableCollections$List12", "size", "()I"⟩ : MethodName)) hown (mvT hZ (hw _ (List.mem_of_getElem? (i := 114) rfl))) (mvT hZ (hw _ (List.mem_of_getElem? (i := 115) rfl))) (mvT hZ (hw _ (List.mem_of_getElem? (i := 116) rfl))) (mvT hZ (hw _ (List.mem_of_getElem? (i := 117) rfl))) (mvT hZ (hw _ (List.mem_of_getElem? (i := 118) rfl))) (mvT hZ (hw _ (List.mem_of_getElem? (i := 119) rfl))) (mvT hZ (hw _ (List.mem_of_getElem? (i := 120) rfl))) (mvT hZ (hw _ (List.mem_of_getElem? (i := 121) rfl))) (by decide) (backOf (W := 0) (rm_siz l Z a0 hw [] r490 b463 w_EMPTY T489.heap n0 O495 y494 S1_ (Ne.symm (O495.ne ZE3_.lt ge470))) hZ (hw _ (List.mem_of_getElem? (i := 122) rfl)) (hw _ (List.mem_of_getElem? (i := 82) rfl)) (by decide) (by decide)) q498a q498b q498c (g := (mkF m 150 #[iv p0, iv p1, iv p2, iv p3, iv p4, rv b102, .val .null, rv r435, rv b447, rv b463, rv b475, rv r490] [(.ref r490)])) rfl (by rw [hml]; rfl) (Steps.refl _) (argsL := []) (rest := []) (lenOf pd_16 rfl) rfl (by show 2 * 0 + _ ≤ _; exact Nat.le_of_eq rfl) (hb hby at_150) (fun _ _ => ⟨rfl, rfl, (by decide : 7 + 0 ≤ _), (by decide : 15 + 0 ≤ _)⟩)
        dsimp only [Pt.U, Pt.locs, Pt.cells, Pt.slots] at X498 l498 y498 z498 st498 hQ498
        subst l498 y498 z498
        obtain ⟨rfl, M498, e498⟩ := hQ498
        have N498 := Fr.app N489 M498
        have g499 : Go p e below T498 (mkF m 155 #[iv p0, iv p1, iv p2, iv p3, iv p4, rv b102, .val .null, rv r435, rv b447, rv b463, rv b475, rv r490] [(.int (2 : Int32))]) A0 := fun t kont => g497 t (st498.trans kont)
        have g500 : Go p e below T498 (mkF m 164 #[iv p0, iv p1, iv p2, iv p3, iv p4, rv b102, .val .null, rv r435, rv b447, rv b463, rv b475, rv r490] [(.int (0 : Int32)), (.ref r490)]) A0 := by
          intro t kont
          refine g499 t ?_
          refine XS.iconst X498.here hx rfl (hb hby at_155) ?_
          show Steps p.tables e below (T498.setTop (mkF m 156 #[iv p0, iv p1, iv p2, iv p3, iv p4, rv b102, .val .null, rv r435, rv b447, rv b463, rv b475, rv r490] [(.int (2 : Int32)), (.int (2 : Int32))])) _
          refine XS.icmpYes X498.here hx rfl (pc0 := 156) (pc' := 161) rfl (hb hby at_156) rfl (teq (by decide : (2 : Int32) = (2 : Int32))).1 (by decide) (by decide) ?_
          show Steps p.tables e below (T498.setTop (mkF m 161 #[iv p0, iv p1, iv p2, iv p3, iv p4, rv b102, .val .null, rv r435, rv b447, rv b463, rv b475, rv r490] [])) _
          refine XS.aload X498.here hx rfl (hb hby at_161) rfl rfl ?_
          show Steps p.tables e below (T498.setTop (mkF m 163 #[iv p0, iv p1, iv p2, iv p3, iv p4, rv b102, .val .null, rv r435, rv b447, rv b463, rv b475, rv r490] [(.ref r490)])) _
          refine XS.iconst X498.here hx rfl (hb hby at_163) ?_
          show Steps p.tables e below (T498.setTop (mkF m 164 #[iv p0, iv p1, iv p2, iv p3, iv p4, rv b102, .val .null, rv r435, rv b447, rv b463, rv b475, rv r490] [(.int (0 : Int32)), (.ref r490)])) _
          exact kont
        obtain ⟨cq501, kq501, q501a, q501b, q501c⟩ := isOf hZ e498 y492
        obtain ⟨_, _, ⟨T501, L501, k501, n501⟩, -, X501, ⟨Lc501, hQ501, l501, y501, z501⟩, st501⟩ := X498.interfaceBack hx (xi := (⟨"java/util/List", "get", "(I)Ljava/lang/Object;"⟩ : MethodName)) (y := (⟨"java/util/ImmutableCollections$List12", "get", "(I)Ljava/lang/Object;"⟩ : MethodName)) hown (mvT hZ (hw _ (List.mem_of_getElem? (i := 125) rfl))) (mvT hZ (hw _ (List.mem_of_getElem? (i := 126) rfl))) (mvT hZ (hw _ (List.mem_of_getElem? (i := 127) rfl))) (mvT hZ (hw _ (List.mem_of_getElem? (i := 128) rfl))) (mvT hZ (hw _ (List.mem_of_getElem? (i := 129) rfl))) (mvT hZ (hw _ (List.mem_of_getElem? (i := 130) rfl))) (mvT hZ (hw _ (List.mem_of_getElem? (i := 131) rfl))) (mvT hZ (hw _ (List.mem_of_getElem? (i := 121) rfl))) (by decide) (backOf (W := 0) (rm_get0 l Z a0 hw [] r490 b447 T489.heap n0 O495 y493) hZ (hw _ (List.mem_of_getElem? (i := 132) rfl)) (hw _ (List.mem_of_getElem? (i := 82) rfl)) (by decide) (by decide)) q501a q501b q501c (g := (mkF m 164 #[iv p0, iv p1, iv p2, iv p3, iv p4, rv b102, .val .null, rv r435, rv b447, rv b463, rv b475, rv r490] [(.int (0 : Int32)), (.ref r490)])) rfl (by rw [hml]; rfl) (Steps.refl _) (argsL := [(.int (0 : Int32))]) (rest := []) (lenOf pd_17 rfl) rfl (by show 2 * 0 + _ ≤ _; exact Nat.le_of_eq rfl) (hb hby at_164) (fun _ _ => ⟨rfl, e498, (by decide : 7 + 0 ≤ _), (by decide : 15 + 0 ≤ _)⟩)
        dsimp only [Pt.U, Pt.locs, Pt.cells, Pt.slots] at X501 l501 y501 z501 st501 hQ501
        subst l501 y501 z501
        obtain ⟨rfl, M501, e501⟩ := hQ501
        have N501 := Fr.app N498 M501
        have g502 : Go p e below T501 (mkF m 169 #[iv p0, iv p1, iv p2, iv p3, iv p4, rv b102, .val .null, rv r435, rv b447, rv b463, rv b475, rv r490] [(.ref b447)]) A0 := fun t kont => g500 t (st501.trans kont)
        have g503 : Go p e below T501 (mkF m 177 #[iv p0, iv p1, iv p2, iv p3, iv p4, rv b102, .val .null, rv r435, rv b447, rv b463, rv b475, rv r490] [(.int (1 : Int32)), (.ref r490)]) A0 := by
          intro t kont
          refine g502 t ?_
          refine XS.aload X501.here hx rfl (hb hby at_169) rfl rfl ?_
          show Steps p.tables e below (T501.setTop (mkF m 171 #[iv p0, iv p1, iv p2, iv p3, iv p4, rv b102, .val .null, rv r435, rv b447, rv b463, rv b475, rv r490] [(.ref b447), (.ref b447)])) _
          refine Jvm.RoadKit.acmp (g := (mkF m 171 #[iv p0, iv p1, iv p2, iv p3, iv p4, rv b102, .val .null, rv r435, rv b447, rv b463, rv b475, rv r490] [(.ref b447), (.ref b447)])) X501 hx rfl rfl rfl (pc0 := 171) (pc' := 174) (same := true) rfl (hb hby at_171) rfl (decide_eq_true rfl) (by decide) (by decide) ?_
          show Steps p.tables e below (T501.setTop (mkF m 174 #[iv p0, iv p1, iv p2, iv p3, iv p4, rv b102, .val .null, rv r435, rv b447, rv b463, rv b475, rv r490] [])) _
          refine XS.aload X501.here hx rfl (hb hby at_174) rfl rfl ?_
          show Steps p.tables e below (T501.setTop (mkF m 176 #[iv p0, iv p1, iv p2, iv p3, iv p4, rv b102, .val .null, rv r435, rv b447, rv b463, rv b475, rv r490] [(.ref r490)])) _
          refine XS.iconst X501.here hx rfl (hb hby at_176) ?_
          show Steps p.tables e below (T501.setTop (mkF m 177 #[iv p0, iv p1, iv p2, iv p3, iv p4, rv b102, .val .null, rv r435, rv b447, rv b463, rv b475, rv r490] [(.int (1 : Int32)), (.ref r490)])) _
          exact kont
        obtain ⟨cq504, kq504, q504a, q504b, q504c⟩ := isOf hZ e501 y492
        obtain ⟨_, _, ⟨T504, L504, k504, n504⟩, -, X504, ⟨Lc504, hQ504, l504, y504, z504⟩, st504⟩ := X501.interfaceBack hx (xi := (⟨"java/util/List", "get", "(I)Ljava/lang/Object;"⟩ : MethodName)) (y := (⟨"java/util/ImmutableCollections$List12", "get", "(I)Ljava/lang/Object;"⟩ : MethodName)) hown (mvT hZ (hw _ (List.mem_of_getElem? (i := 125) rfl))) (mvT hZ (hw _ (List.mem_of_getElem? (i := 126) rfl))) (mvT hZ (hw _ (List.mem_of_getElem? (i := 127) rfl))) (mvT hZ (hw _ (List.mem_of_getElem? (i := 128) rfl))) (mvT hZ (hw _ (List.mem_of_getElem? (i := 129) rfl))) (mvT hZ (hw _ (List.mem_of_getElem? (i := 130) rfl))) (mvT hZ (hw _ (List.mem_of_getElem? (i := 131) rfl))) (mvT hZ (hw _ (List.mem_of_getElem? (i := 121) rfl))) (by decide) (backOf (W := 0) (rm_get1 l Z a0 hw [] r490 b463 w_EMPTY T489.heap n0 O495 y494 S1_ (Ne.symm (O495.ne ZE3_.lt ge470))) hZ (hw _ (List.mem_of_getElem? (i := 132) rfl)) (hw _ (List.mem_of_getElem? (i := 82) rfl)) (by decide) (by decide)) q504a q504b q504c (g := (mkF m 177 #[iv p0, iv p1, iv p2, iv p3, iv p4, rv b102, .val .null, rv r435, rv b447, rv b463, rv b475, rv r490] [(.int (1 : Int32)), (.ref r490)])) rfl (by rw [hml]; rfl) (Steps.refl _) (argsL := [(.int (1 : Int32))]) (rest := []) (lenOf pd_17 rfl) rfl (by show 2 * 0 + _ ≤ _; exact Nat.le_of_eq rfl) (hb hby at_177) (fun _ _ => ⟨rfl, e501, (by decide : 7 + 0 ≤ _), (by decide : 15 + 0 ≤ _)⟩)
        dsimp only [Pt.U, Pt.locs, Pt.cells, Pt.slots] at X504 l504 y504 z504 st504 hQ504
        subst l504 y504 z504
        obtain ⟨rfl, M504, e504⟩ := hQ504
        have N504 := Fr.app N501 M504
        have g505 : Go p e below T504 (mkF m 182 #[iv p0, iv p1, iv p2, iv p3, iv p4, rv b102, .val .null, rv r435, rv b447, rv b463, rv b475, rv r490] [(.ref b463)]) A0 := fun t kont => g503 t (st504.trans kont)
        have g506 : Go p e below T504 (mkF m 192 #[iv p0, iv p1, iv p2, iv p3, iv p4, rv b102, .val .null, rv r435, rv b447, rv b463, rv b475, rv r490] [(.int (1 : Int32))]) A0 := by
          intro t kont
          refine g505 t ?_
          refine XS.aload X504.here hx rfl (hb hby at_182) rfl rfl ?_
          show Steps p.tables e below (T504.setTop (mkF m 184 #[iv p0, iv p1, iv p2, iv p3, iv p4, rv b102, .val .null, rv r435, rv b447, rv b463, rv b475, rv r490] [(.ref b463), (.ref b463)])) _
          refine Jvm.RoadKit.acmp (g := (mkF m 184 #[iv p0, iv p1, iv p2, iv p3, iv p4, rv b102, .val .null, rv r435, rv b447, rv b463, rv b475, rv r490] [(.ref b463), (.ref b463)])) X504 hx rfl rfl rfl (pc0 := 184) (pc' := 187) (same := true) rfl (hb hby at_184) rfl (decide_eq_true rfl) (by decide) (by decide) ?_
          show Steps p.tables e below (T504.setTop (mkF m 187 #[iv p0, iv p1, iv p2, iv p3, iv p4, rv b102, .val .null, rv r435, rv b447, rv b463, rv b475, rv r490] [])) _
          refine XS.iconst X504.here hx rfl (hb hby at_187) ?_
          show Steps p.tables e below (T504.setTop (mkF m 188 #[iv p0, iv p1, iv p2, iv p3, iv p4, rv b102, .val .null, rv r435, rv b447, rv b463, rv b475, rv r490] [(.int (1 : Int32))])) _
          refine XS.goto X504.here hx rfl (pc0 := 188) (pc' := 192) rfl (hb hby at_188) (by decide) (by decide) ?_
          show Steps p.tables e below (T504.setTop (mkF m 192 #[iv p0, iv p1, iv p2, iv p3, iv p4, rv b102, .val .null, rv r435, rv b447, rv b463, rv b475, rv r490] [(.int (1 : Int32))])) _
          exact kont
        obtain ⟨fs, hr, hrun, hended, hW, hsame⟩ := X504.leave (v := some (.int (1 : Int32))) (fun h => by rw [Bd.returns] at h; cases h)
        refine ⟨_, _, g506 _ (retN X504 hx (t := .boolean) Bd.returns (by simp) (hb hby at_192) hr), hrun, hended, _, _, rfl, ?_, ⟨_, rfl⟩, hW, hsame.mono (by decide) (by decide)⟩
        show Q_law Z p0 p1 p2 p3 p4 i_COMPACT_STRINGS w_EMPTY h0 n0 _ T504.heap _
        rw [e504]
        exact ⟨rfl, N504⟩
      have g507 : Go p e below T453 (mkF m 101 #[iv p0, iv p1, iv p2, iv p3, iv p4, rv b102, .val .null, rv r435, rv b447, .unset, .unset, .unset] []) A0 := by
        intro t kont
        refine g461 t ?_
        refine XS.ifNo X453.here hx rfl (hb hby at_98) rfl ((if0 _ _).trans (feq c460).1) ?_
        show Steps p.tables e below (T453.setTop (mkF m 101 #[iv p0, iv p1, iv p2, iv p3, iv p4, rv b102, .val .null, rv r435, rv b447, .unset, .unset, .unset] [])) _
        exact kont
      obtain ⟨T508, h508, X508, e508, E508, A508, D508, -, st508⟩ := newO X453 hx hZ hown (hw _ (List.mem_of_getElem? (i := 44) rfl)) (hw _ (List.mem_of_getElem? (i := 45) rfl)) (hw _ (List.mem_of_getElem? (i := 46) rfl)) rfl (g := (mkF m 101 #[iv p0, iv p1, iv p2, iv p3, iv p4, rv b102, .val .null, rv r435, rv b447, .unset, .unset, .unset] [])) rfl (hb hby at_101) (by decide) (by decide)
      obtain ⟨b508, gb508⟩ : ∃ z, z = T453.heap.size := ⟨_, rfl⟩
      rw [← gb508] at A508 D508 st508
      have O509 := O456.ext E508
      have y510 : Fld Z h508 b508 "com/example/subsume/subsume/engine/Individual" "name" "Ljava/lang/String;" .null := D508 (Or.inr (hw _ (List.mem_of_getElem? (i := 52) rfl))) (ty := (.object "java/lang/String")) (by decide)
      have y511 : Fld Z h508 b508 "com/example/subsume/subsume/engine/Individual" "id" "I" (.int (0 : Int32)) := D508 (Or.inr (hw _ (List.mem_of_getElem? (i := 54) rfl))) (ty := .int) (by decide)
      have g512 : Go p e below T508 (mkF m 104 #[iv p0, iv p1, iv p2, iv p3, iv p4, rv b102, .val .null, rv r435, rv b447, .unset, .unset, .unset] [(.ref b508)]) A0 := fun t kont => g507 t (st508 t kont)
      have g513 : Go p e below T508 (mkF m 108 #[iv p0, iv p1, iv p2, iv p3, iv p4, rv b102, .val .null, rv r435, rv b447, .unset, .unset, .unset] [(.int p2), .null, (.ref b508), (.ref b508)]) A0 := by
        intro t kont
        refine g512 t ?_
        refine XS.dup X508.here hx rfl (hb hby at_104) rfl rfl ?_
        show Steps p.tables e below (T508.setTop (mkF m 105 #[iv p0, iv p1, iv p2, iv p3, iv p4, rv b102, .val .null, rv r435, rv b447, .unset, .unset, .unset] [(.ref b508), (.ref b508)])) _
        refine XS.aload X508.here hx rfl (hb hby at_105) rfl rfl ?_
        show Steps p.tables e below (T508.setTop (mkF m 107 #[iv p0, iv p1, iv p2, iv p3, iv p4, rv b102, .val .null, rv r435, rv b447, .unset, .unset, .unset] [.null, (.ref b508), (.ref b508)])) _
        refine XS.iloadN X508.here hx rfl (hb hby at_107) rfl ?_
        show Steps p.tables e below (T508.setTop (mkF m 108 #[iv p0, iv p1, iv p2, iv p3, iv p4, rv b102, .val .null, rv r435, rv b447, .unset, .unset, .unset] [(.int p2), .null, (.ref b508), (.ref b508)])) _
        exact kont
      have ge515 : n0 ≤ b508 := Nat.le_trans (own_old_le O456) (Nat.le_of_eq gb508.symm)
      obtain ⟨_, _, ⟨T514, L514, k514, n514⟩, -, X514, ⟨Lc514, hQ514, l514, y514, z514⟩, st514⟩ := X508.specialBack hx (y := (⟨"com/example/subsume/subsume/engine/Individual", "<init>", "(Ljava/lang/String;I)V"⟩ : MethodName)) rfl hown (mvT hZ (hw _ (List.mem_of_getElem? (i := 47) rfl))) (mvT hZ (hw _ (List.mem_of_getElem? (i := 48) rfl))) (mvT hZ (hw _ (List.mem_of_getElem? (i := 49) rfl))) (by decide) (backOf (W := 1) (rm_indI l Z a0 hw [] b508 .null p2 h508 n0 O509 (rfl) y510 y511 A508 ge515) hZ (hw _ (List.mem_of_getElem? (i := 49) rfl)) (hw _ (List.mem_of_getElem? (i := 46) rfl)) (by decide) (by decide)) (g := (mkF m 108 #[iv p0, iv p1, iv p2, iv p3, iv p4, rv b102, .val .null, rv r435, rv b447, .unset, .unset, .unset] [(.int p2), .null, (.ref b508), (.ref b508)])) rfl (by rw [hml]; rfl) (Steps.refl _) (a := b508) (argsL := [.null, (.int p2)]) (rest := [(.ref b508)]) (lenOf pd_13 rfl) rfl (by show 2 * 0 + _ ≤ _; exact Nat.le_of_eq rfl) (hb hby at_108) (fun _ _ => ⟨rfl, e508, (by decide : 5 + 0 ≤ _), (by decide : 11 + 0 ≤ _)⟩)
      dsimp only [Pt.U, Pt.locs, Pt.cells, Pt.slots] at X514 l514 y514 z514 st514 hQ514
      subst l514 y514 z514
      obtain ⟨rfl, M514, K514, y516⟩ := hQ514
      have N514 := Fr.app N453 M514
      have O517 := O509.keep K514 (allS ge515 all0)
      have g518 : Go p e below T514 (mkF m 111 #[iv p0, iv p1, iv p2, iv p3, iv p4, rv b102, .val .null, rv r435, rv b447, .unset, .unset, .unset] [(.ref b508)]) A0 := fun t kont => g513 t (st514.trans kont)
      have g519 : Go p e below T514 (mkF m 128 #[iv p0, iv p1, iv p2, iv p3, iv p4, rv b102, .val .null, rv r435, rv b447, rv b508, .unset, .unset] []) A0 := by
        intro t kont
        refine g518 t ?_
        refine XS.astore X514.here hx rfl (hb hby at_111) rfl rfl (l' := #[iv p0, iv p1, iv p2, iv p3, iv p4, rv b102, .val .null, rv r435, rv b447, rv b508, .unset, .unset]) rfl ?_
        show Steps p.tables e below (T514.setTop (mkF m 113 #[iv p0, iv p1, iv p2, iv p3, iv p4, rv b102, .val .null, rv r435, rv b447, rv b508, .unset, .unset] [])) _
        refine XS.goto X514.here hx rfl (pc0 := 113) (pc' := 128) rfl (hb hby at_113) (by decide) (by decide) ?_
        show Steps p.tables e below (T514.setTop (mkF m 128 #[iv p0, iv p1, iv p2, iv p3, iv p4, rv b102, .val .null, rv r435, rv b447, rv b508, .unset, .unset] [])) _
        exact kont
      obtain ⟨T520, h520, X520, e520, E520, A520, D520, -, st520⟩ := newO X514 hx hZ hown (hw _ (List.mem_of_getElem? (i := 55) rfl)) (hw _ (List.mem_of_getElem? (i := 56) rfl)) (hw _ (List.mem_of_getElem? (i := 57) rfl)) rfl (g := (mkF m 128 #[iv p0, iv p1, iv p2, iv p3, iv p4, rv b102, .val .null, rv r435, rv b447, rv b508, .unset, .unset] [])) rfl (hb hby at_128) (by decide) (by decide)
      obtain ⟨b520, gb520⟩ : ∃ z, z = T514.heap.size := ⟨_, rfl⟩
      rw [← gb520] at A520 D520 st520
      have O521 := O517.ext E520
      have y522 : Fld Z h520 b520 "com/example/subsume/subsume/engine/IndividualEquality" "individual" "Lcom/example/subsume/subsume/engine/Individual;" .null := D520 (Or.inr (hw _ (List.mem_of_getElem? (i := 68) rfl))) (ty := (.object "com/example/subsume/subsume/engine/Individual")) (by decide)
      have y523 : Fld Z h520 b520 "com/example/subsume/subsume/engine/IndividualEquality" "other" "Lcom/example/subsume/subsume/engine/Individual;" .null := D520 (Or.inr (hw _ (List.mem_of_getElem? (i := 70) rfl))) (ty := (.object "com/example/subsume/subsume/engine/Individual")) (by decide)
      have g524 : Go p e below T520 (mkF m 131 #[iv p0, iv p1, iv p2, iv p3, iv p4, rv b102, .val .null, rv r435, rv b447, rv b508, .unset, .unset] [(.ref b520)]) A0 := fun t kont => g519 t (st520 t kont)
      have g525 : Go p e below T520 (mkF m 136 #[iv p0, iv p1, iv p2, iv p3, iv p4, rv b102, .val .null, rv r435, rv b447, rv b508, .unset, .unset] [(.ref b508), (.ref b447), (.ref b520), (.ref b520)]) A0 := by
        intro t kont
        refine g524 t ?_
        refine XS.dup X520.here hx rfl (hb hby at_131) rfl rfl ?_
        show Steps p.tables e below (T520.setTop (mkF m 132 #[iv p0, iv p1, iv p2, iv p3, iv p4, rv b102, .val .null, rv r435, rv b447, rv b508, .unset, .unset] [(.ref b520), (.ref b520)])) _
        refine XS.aload X520.here hx rfl (hb hby at_132) rfl rfl ?_
        show Steps p.tables e below (T520.setTop (mkF m 134 #[iv p0, iv p1, iv p2, iv p3, iv p4, rv b102, .val .null, rv r435, rv b447, rv b508, .unset, .unset] [(.ref b447), (.ref b520), (.ref b520)])) _
        refine XS.aload X520.here hx rfl (hb hby at_134) rfl rfl ?_
        show Steps p.tables e below (T520.setTop (mkF m 136 #[iv p0, iv p1, iv p2, iv p3, iv p4, rv b102, .val .null, rv r435, rv b447, rv b508, .unset, .unset] [(.ref b508), (.ref b447), (.ref b520), (.ref b520)])) _
        exact kont
      have ge527 : n0 ≤ b520 := Nat.le_trans (own_old_le O517) (Nat.le_of_eq gb520.symm)
      obtain ⟨_, _, ⟨T526, L526, k526, n526⟩, -, X526, ⟨Lc526, hQ526, l526, y526, z526⟩, st526⟩ := X520.specialBack hx (y := (⟨"com/example/subsume/subsume/engine/IndividualEquality", "<init>", "(Lcom/example/subsume/subsume/engine/Individual;Lcom/example/subsume/subsume/engine/Individual;)V"⟩ : MethodName)) rfl hown (mvT hZ (hw _ (List.mem_of_getElem? (i := 58) rfl))) (mvT hZ (hw _ (List.mem_of_getElem? (i := 59) rfl))) (mvT hZ (hw _ (List.mem_of_getElem? (i := 60) rfl))) (by decide) (backOf (W := 1) (rm_relI l Z a0 hw [] b520 b447 b508 h520 n0 O521 y522 y523 A520 ge527) hZ (hw _ (List.mem_of_getElem? (i := 60) rfl)) (hw _ (List.mem_of_getElem? (i := 57) rfl)) (by decide) (by decide)) (g := (mkF m 136 #[iv p0, iv p1, iv p2, iv p3, iv p4, rv b102, .val .null, rv r435, rv b447, rv b508, .unset, .unset] [(.ref b508), (.ref b447), (.ref b520), (.ref b520)])) rfl (by rw [hml]; rfl) (Steps.refl _) (a := b520) (argsL := [(.ref b447), (.ref b508)]) (rest := [(.ref b520)]) (lenOf pd_14 rfl) rfl (by show 2 * 0 + _ ≤ _; exact Nat.le_of_eq rfl) (hb hby at_136) (fun _ _ => ⟨rfl, e520, (by decide : 6 + 0 ≤ _), (by decide : 13 + 0 ≤ _)⟩)
      dsimp only [Pt.U, Pt.locs, Pt.cells, Pt.slots] at X526 l526 y526 z526 st526 hQ526
      subst l526 y526 z526
      obtain ⟨rfl, M526, K526, y528, y529, y530⟩ := hQ526
      have N526 := Fr.app N514 M526
      have O531 := O521.keep K526 (allS ge527 all0)
      have g532 : Go p e below T526 (mkF m 139 #[iv p0, iv p1, iv p2, iv p3, iv p4, rv b102, .val .null, rv r435, rv b447, rv b508, .unset, .unset] [(.ref b520)]) A0 := fun t kont => g525 t (st526.trans kont)
      have g533 : Go p e below T526 (mkF m 143 #[iv p0, iv p1, iv p2, iv p3, iv p4, rv b102, .val .null, rv r435, rv b447, rv b508, rv b520, .unset] [(.ref b520)]) A0 := by
        intro t kont
        refine g532 t ?_
        refine XS.astore X526.here hx rfl (hb hby at_139) rfl rfl (l' := #[iv p0, iv p1, iv p2, iv p3, iv p4, rv b102, .val .null, rv r435, rv b447, rv b508, rv b520, .unset]) rfl ?_
        show Steps p.tables e below (T526.setTop (mkF m 141 #[iv p0, iv p1, iv p2, iv p3, iv p4, rv b102, .val .null, rv r435, rv b447, rv b508, rv b520, .unset] [])) _
        refine XS.aload X526.here hx rfl (hb hby at_141) rfl rfl ?_
        show Steps p.tables e below (T526.setTop (mkF m 143 #[iv p0, iv p1, iv p2, iv p3, iv p4, rv b102, .val .null, rv r435, rv b447, rv b508, rv b520, .unset] [(.ref b520)])) _
        exact kont
      obtain ⟨cq534, kq534, q534a, q534b, q534c⟩ := isOf hZ rfl y528
      obtain ⟨_, _, ⟨T534, L534, k534, n534⟩, -, X534, ⟨Lc534, hQ534, l534, y534, z534⟩, st534⟩ := X526.virtualBack hx (y := (⟨"com/example/subsume/subsume/engine/IndividualEquality", "individuals", "()Ljava/util/List;"⟩ : MethodName)) (z := (⟨"com/example/subsume/subsume/engine/IndividualEquality", "individuals", "()Ljava/util/List;"⟩ : MethodName)) hown (mvT hZ (hw _ (List.mem_of_getElem? (i := 71) rfl))) (mvT hZ (hw _ (List.mem_of_getElem? (i := 72) rfl))) (notFace_of_selects (args := #[]) (mvT hZ (hw _ (List.mem_of_getElem? (i := 74) rfl)))) (mvT hZ (hw _ (List.mem_of_getElem? (i := 74) rfl))) (mvT hZ (hw _ (List.mem_of_getElem? (i := 73) rfl))) (by decide) (backOf (W := 0) (rm_inds l Z a0 hw [] b520 b447 b508 T526.heap n0 O531 y529 y530) hZ (hw _ (List.mem_of_getElem? (i := 75) rfl)) (hw _ (List.mem_of_getElem? (i := 57) rfl)) (by decide) (by decide)) q534a q534c (g := (mkF m 143 #[iv p0, iv p1, iv p2, iv p3, iv p4, rv b102, .val .null, rv r435, rv b447, rv b508, rv b520, .unset] [(.ref b520)])) rfl (by rw [hml]; rfl) (Steps.refl _) (argsL := []) (rest := []) (lenOf pd_15 rfl) rfl (by show 2 * 0 + _ ≤ _; exact Nat.le_of_eq rfl) (hb hby at_143) (fun _ _ => ⟨rfl, rfl, (by decide : 6 + 1 ≤ _), (by decide : 13 + 2 ≤ _)⟩)
      dsimp only [Pt.U, Pt.locs, Pt.cells, Pt.slots] at X534 l534 y534 z534 st534 hQ534
      subst l534 y534 z534
      obtain ⟨r535, rfl, M534, K534, y536, y537, y538, y539⟩ := hQ534
      have N534 := Fr.app N526 M534
      have O540 := O531.keep K534 all0
      have g541 : Go p e below T534 (mkF m 146 #[iv p0, iv p1, iv p2, iv p3, iv p4, rv b102, .val .null, rv r435, rv b447, rv b508, rv b520, .unset] [(.ref r535)]) A0 := fun t kont => g533 t (st534.trans kont)
      have g542 : Go p e below T534 (mkF m 150 #[iv p0, iv p1, iv p2, iv p3, iv p4, rv b102, .val .null, rv r435, rv b447, rv b508, rv b520, rv r535] [(.ref r535)]) A0 := by
        intro t kont
        refine g541 t ?_
        refine XS.astore X534.here hx rfl (hb hby at_146) rfl rfl (l' := #[iv p0, iv p1, iv p2, iv p3, iv p4, rv b102, .val .null, rv r435, rv b447, rv b508, rv b520, rv r535]) rfl ?_
        show Steps p.tables e below (T534.setTop (mkF m 148 #[iv p0, iv p1, iv p2, iv p3, iv p4, rv b102, .val .null, rv r435, rv b447, rv b508, rv b520, rv r535] [])) _
        refine XS.aload X534.here hx rfl (hb hby at_148) rfl rfl ?_
        show Steps p.tables e below (T534.setTop (mkF m 150 #[iv p0, iv p1, iv p2, iv p3, iv p4, rv b102, .val .null, rv r435, rv b447, rv b508, rv b520, rv r535] [(.ref r535)])) _
        exact kont
      obtain ⟨cq543, kq543, q543a, q543b, q543c⟩ := isOf hZ rfl y537
      obtain ⟨_, _, ⟨T543, L543, k543, n543⟩, -, X543, ⟨Lc543, hQ543, l543, y543, z543⟩, st543⟩ := X534.interfaceBack hx (xi := (⟨"java/util/List", "size", "()I"⟩ : MethodName)) (y := (⟨"java/util/ImmutableCollections$List12", "size", "()I"⟩ : MethodName)) hown (mvT hZ (hw _ (List.mem_of_getElem? (i := 114) rfl))) (mvT hZ (hw _ (List.mem_of_getElem? (i := 115) rfl))) (mvT hZ (hw _ (List.mem_of_getElem? (i := 116) rfl))) (mvT hZ (hw _ (List.mem_of_getElem? (i := 117) rfl))) (mvT hZ (hw _ (List.mem_of_getElem? (i := 118) rfl))) (mvT hZ (hw _ (List.mem_of_getElem? (i := 119) rfl))) (mvT hZ (hw _ (List.mem_of_getElem? (i := 120) rfl))) (mvT hZ (hw _ (List.mem_of_getElem? (i := 121) rfl))) (by decide) (backOf (W := 0) (rm_siz l Z a0 hw [] r535 b508 w_EMPTY T534.heap n0 O540 y539 S1_ (Ne.symm (O540.ne ZE3_.lt ge515))) hZ (hw _ (List.mem_of_getElem? (i := 122) rfl)) (hw _ (List.mem_of_getElem? (i := 82) rfl)) (by decide) (by decide)) q543a q543b q543c (g := (mkF m 150 #[iv p0, iv p1, iv p2, iv p3, iv p4, rv b102, .val .null, rv r435, rv b447, rv b508, rv b520, rv r535] [(.ref r535)])) rfl (by rw [hml]; rfl) (Steps.refl _) (argsL := []) (rest := []) (lenOf pd_16 rfl) rfl (by show 2 * 0 + _ ≤ _; exact Nat.le_of_eq rfl) (hb hby at_150) (fun _ _ => ⟨rfl, rfl, (by decide : 7 + 0 ≤ _), (by decide : 15 + 0 ≤ _)⟩)
      dsimp only [Pt.U, Pt.locs, Pt.cells, Pt.slots] at X543 l543 y543 z543 st543 hQ543
      subst l543 y543 z543
      obtain ⟨rfl, M543, e543⟩ := hQ543
      have N543 := Fr.app N534 M543
      have g544 : Go p e below T543 (mkF m 155 #[iv p0, iv p1, iv p2, iv p3, iv p4, rv b102, .val .null, rv r435, rv b447, rv b508, rv b520, rv r535] [(.int (2 : Int32))]) A0 := fun t kont => g542 t (st543.trans kont)
      have g545 : Go p e below T543 (mkF m 164 #[iv p0, iv p1, iv p2, iv p3, iv p4, rv b102, .val .null, rv r435, rv b447, rv b508, rv b520, rv r535] [(.int (0 : Int32)), (.ref r535)]) A0 := by
        intro t kont
        refine g544 t ?_
        refine XS.iconst X543.here hx rfl (hb hby at_155) ?_
        show Steps p.tables e below (T543.setTop (mkF m 156 #[iv p0, iv p1, iv p2, iv p3, iv p4, rv b102, .val .null, rv r435, rv b447, rv b508, rv b520, rv r535] [(.int (2 : Int32)), (.int (2 : Int32))])) _
        refine XS.icmpYes X543.here hx rfl (pc0 := 156) (pc' := 161) rfl (hb hby at_156) rfl (teq (by decide : (2 : Int32) = (2 : Int32))).1 (by decide) (by decide) ?_
        show Steps p.tables e below (T543.setTop (mkF m 161 #[iv p0, iv p1, iv p2, iv p3, iv p4, rv b102, .val .null, rv r435, rv b447, rv b508, rv b520, rv r535] [])) _
        refine XS.aload X543.here hx rfl (hb hby at_161) rfl rfl ?_
        show Steps p.tables e below (T543.setTop (mkF m 163 #[iv p0, iv p1, iv p2, iv p3, iv p4, rv b102, .val .null, rv r435, rv b447, rv b508, rv b520, rv r535] [(.ref r535)])) _
        refine XS.iconst X543.here hx rfl (hb hby at_163) ?_
        show Steps p.tables e below (T543.setTop (mkF m 164 #[iv p0, iv p1, iv p2, iv p3, iv p4, rv b102, .val .null, rv r435, rv b447, rv b508, rv b520, rv r535] [(.int (0 : Int32)), (.ref r535)])) _
        exact kont
      obtain ⟨cq546, kq546, q546a, q546b, q546c⟩ := isOf hZ e543 y537
      obtain ⟨_, _, ⟨T546, L546, k546, n546⟩, -, X546, ⟨Lc546, hQ546, l546, y546, z546⟩, st546⟩ := X543.interfaceBack hx (xi := (⟨"java/util/List", "get", "(I)Ljava/lang/Object;"⟩ : MethodName)) (y := (⟨"java/util/ImmutableCollections$List12", "get", "(I)Ljava/lang/Object;"⟩ : MethodName)) hown (mvT hZ (hw _ (List.mem_of_getElem? (i := 125) rfl))) (mvT hZ (hw _ (List.mem_of_getElem? (i := 126) rfl))) (mvT hZ (hw _ (List.mem_of_getElem? (i := 127) rfl))) (mvT hZ (hw _ (List.mem_of_getElem? (i := 128) rfl))) (mvT hZ (hw _ (List.mem_of_getElem? (i := 129) rfl))) (mvT hZ (hw _ (List.mem_of_getElem? (i := 130) rfl))) (mvT hZ (hw _ (List.mem_of_getElem? (i := 131) rfl))) (mvT hZ (hw _ (List.mem_of_getElem? (i := 121) rfl))) (by decide) (backOf (W := 0) (rm_get0 l Z a0 hw [] r535 b447 T534.heap n0 O540 y538) hZ (hw _ (List.mem_of_getElem? (i := 132) rfl)) (hw _ (List.mem_of_getElem? (i := 82) rfl)) (by decide) (by decide)) q546a q546b q546c (g := (mkF m 164 #[iv p0, iv p1, iv p2, iv p3, iv p4, rv b102, .val .null, rv r435, rv b447, rv b508, rv b520, rv r535] [(.int (0 : Int32)), (.ref r535)])) rfl (by rw [hml]; rfl) (Steps.refl _) (argsL := [(.int (0 : Int32))]) (rest := []) (lenOf pd_17 rfl) rfl (by show 2 * 0 + _ ≤ _; exact Nat.le_of_eq rfl) (hb hby at_164) (fun _ _ => ⟨rfl, e543, (by decide : 7 + 0 ≤ _), (by decide : 15 + 0 ≤ _)⟩)
      dsimp only [Pt.U, Pt.locs, Pt.cells, Pt.slots] at X546 l546 y546 z546 st546 hQ546
      subst l546 y546 z546
      obtain ⟨rfl, M546, e546⟩ := hQ546
      have N546 := Fr.app N543 M546
      have g547 : Go p e below T546 (mkF m 169 #[iv p0, iv p1, iv p2, iv p3, iv p4, rv b102, .val .null, rv r435, rv b447, rv b508, rv b520, rv r535] [(.ref b447)]) A0 := fun t kont => g545 t (st546.trans kont)
      have g548 : Go p e below T546 (mkF m 177 #[iv p0, iv p1, iv p2, iv p3, iv p4, rv b102, .val .null, rv r435, rv b447, rv b508, rv b520, rv r535] [(.int (1 : Int32)), (.ref r535)]) A0 := by
        intro t kont
        refine g547 t ?_
        refine XS.aload X546.here hx rfl (hb hby at_169) rfl rfl ?_
        show Steps p.tables e below (T546.setTop (mkF m 171 #[iv p0, iv p1, iv p2, iv p3, iv p4, rv b102, .val .null, rv r435, rv b447, rv b508, rv b520, rv r535] [(.ref b447), (.ref b447)])) _
        refine Jvm.RoadKit.acmp (g := (mkF m 171 #[iv p0, iv p1, iv p2, iv p3, iv p4, rv b102, .val .null, rv r435, rv b447, rv b508, rv b520, rv r535] [(.ref b447), (.ref b447)])) X546 hx rfl rfl rfl (pc0 := 171) (pc' := 174) (same := true) rfl (hb hby at_171) rfl (decide_eq_true rfl) (by decide) (by decide) ?_
        show Steps p.tables e below (T546.setTop (mkF m 174 #[iv p0, iv p1, iv p2, iv p3, iv p4, rv b102, .val .null, rv r435, rv b447, rv b508, rv b520, rv r535] [])) _
        refine XS.aload X546.here hx rfl (hb hby at_174) rfl rfl ?_
        show Steps p.tables e below (T546.setTop (mkF m 176 #[iv p0, iv p1, iv p2, iv p3, iv p4, rv b102, .val .null, rv r435, rv b447, rv b508, rv b520, rv r535] [(.ref r535)])) _
        refine XS.iconst X546.here hx rfl (hb hby at_176) ?_
        show Steps p.tables e below (T546.setTop (mkF m 177 #[iv p0, iv p1, iv p2, iv p3, iv p4, rv b102, .val .null, rv r435, rv b447, rv b508, rv b520, rv r535] [(.int (1 : Int32)), (.ref r535)])) _
        exact kont
      obtain ⟨cq549, kq549, q549a, q549b, q549c⟩ := isOf hZ e546 y537
      obtain ⟨_, _, ⟨T549, L549, k549, n549⟩, -, X549, ⟨Lc549, hQ549, l549, y549, z549⟩, st549⟩ := X546.interfaceBack hx (xi := (⟨"java/util/List", "get", "(I)Ljava/lang/Object;"⟩ : MethodName)) (y := (⟨"java/util/ImmutableCollections$List12", "get", "(I)Ljava/lang/Object;"⟩ : MethodName)) hown (mvT hZ (hw _ (List.mem_of_getElem? (i := 125) rfl))) (mvT hZ (hw _ (List.mem_of_getElem? (i := 126) rfl))) (mvT hZ (hw _ (List.mem_of_getElem? (i := 127) rfl))) (mvT hZ (hw _ (List.mem_of_getElem? (i := 128) rfl))) (mvT hZ (hw _ (List.mem_of_getElem? (i := 129) rfl))) (mvT hZ (hw _ (List.mem_of_getElem? (i := 130) rfl))) (mvT hZ (hw _ (List.mem_of_getElem? (i := 131) rfl))) (mvT hZ (hw _ (List.mem_of_getElem? (i := 121) rfl))) (by decide) (backOf (W := 0) (rm_get1 l Z a0 hw [] r535 b508 w_EMPTY T534.heap n0 O540 y539 S1_ (Ne.symm (O540.ne ZE3_.lt ge515))) hZ (hw _ (List.mem_of_getElem? (i := 132) rfl)) (hw _ (List.mem_of_getElem? (i := 82) rfl)) (by decide) (by decide)) q549a q549b q549c (g := (mkF m 177 #[iv p0, iv p1, iv p2, iv p3, iv p4, rv b102, .val .null, rv r435, rv b447, rv b508, rv b520, rv r535] [(.int (1 : Int32)), (.ref r535)])) rfl (by rw [hml]; rfl) (Steps.refl _) (argsL := [(.int (1 : Int32))]) (rest := []) (lenOf pd_17 rfl) rfl (by show 2 * 0 + _ ≤ _; exact Nat.le_of_eq rfl) (hb hby at_177) (fun _ _ => ⟨rfl, e546, (by decide : 7 + 0 ≤ _), (by decide : 15 + 0 ≤ _)⟩)
      dsimp only [Pt.U, Pt.locs, Pt.cells, Pt.slots] at X549 l549 y549 z549 st549 hQ549
      subst l549 y549 z549
      obtain ⟨rfl, M549, e549⟩ := hQ549
      have N549 := Fr.app N546 M549
      have g550 : Go p e below T549 (mkF m 182 #[iv p0, iv p1, iv p2, iv p3, iv p4, rv b102, .val .null, rv r435, rv b447, rv b508, rv b520, rv r535] [(.ref b508)]) A0 := fun t kont => g548 t (st549.trans kont)
      have g551 : Go p e below T549 (mkF m 192 #[iv p0, iv p1, iv p2, iv p3, iv p4, rv b102, .val .null, rv r435, rv b447, rv b508, rv b520, rv r535] [(.int (1 : Int32))]) A0 := by
        intro t kont
        refine g550 t ?_
        refine XS.aload X549.here hx rfl (hb hby at_182) rfl rfl ?_
        show Steps p.tables e below (T549.setTop (mkF m 184 #[iv p0, iv p1, iv p2, iv p3, iv p4, rv b102, .val .null, rv r435, rv b447, rv b508, rv b520, rv r535] [(.ref b508), (.ref b508)])) _
        refine Jvm.RoadKit.acmp (g := (mkF m 184 #[iv p0, iv p1, iv p2, iv p3, iv p4, rv b102, .val .null, rv r435, rv b447, rv b508, rv b520, rv r535] [(.ref b508), (.ref b508)])) X549 hx rfl rfl rfl (pc0 := 184) (pc' := 187) (same := true) rfl (hb hby at_184) rfl (decide_eq_true rfl) (by decide) (by decide) ?_
        show Steps p.tables e below (T549.setTop (mkF m 187 #[iv p0, iv p1, iv p2, iv p3, iv p4, rv b102, .val .null, rv r435, rv b447, rv b508, rv b520, rv r535] [])) _
        refine XS.iconst X549.here hx rfl (hb hby at_187) ?_
        show Steps p.tables e below (T549.setTop (mkF m 188 #[iv p0, iv p1, iv p2, iv p3, iv p4, rv b102, .val .null, rv r435, rv b447, rv b508, rv b520, rv r535] [(.int (1 : Int32))])) _
        refine XS.goto X549.here hx rfl (pc0 := 188) (pc' := 192) rfl (hb hby at_188) (by decide) (by decide) ?_
        show Steps p.tables e below (T549.setTop (mkF m 192 #[iv p0, iv p1, iv p2, iv p3, iv p4, rv b102, .val .null, rv r435, rv b447, rv b508, rv b520, rv r535] [(.int (1 : Int32))])) _
        exact kont
      obtain ⟨fs, hr, hrun, hended, hW, hsame⟩ := X549.leave (v := some (.int (1 : Int32))) (fun h => by rw [Bd.returns] at h; cases h)
      refine ⟨_, _, g551 _ (retN X549 hx (t := .boolean) Bd.returns (by simp) (hb hby at_192) hr), hrun, hended, _, _, rfl, ?_, ⟨_, rfl⟩, hW, hsame.mono (by decide) (by decide)⟩
      show Q_law Z p0 p1 p2 p3 p4 i_COMPACT_STRINGS w_EMPTY h0 n0 _ T549.heap _
      rw [e549]
      exact ⟨rfl, N549⟩
    have g552 : Go p e below T453 (mkF m 128 #[iv p0, iv p1, iv p2, iv p3, iv p4, rv b102, .val .null, rv r435, rv b447, rv b447, .unset, .unset] []) A0 := by
      intro t kont
      refine g459 t ?_
      refine XS.ifNo X453.here hx rfl (hb hby at_83) rfl ((if0 _ _).trans (feq c458).1) ?_
      show Steps p.tables e below (T453.setTop (mkF m 86 #[iv p0, iv p1, iv p2, iv p3, iv p4, rv b102, .val .null, rv r435, rv b447, .unset, .unset, .unset] [])) _
      refine XS.aload X453.here hx rfl (hb hby at_86) rfl rfl ?_
      show Steps p.tables e below (T453.setTop (mkF m 88 #[iv p0, iv p1, iv p2, iv p3, iv p4, rv b102, .val .null, rv r435, rv b447, .unset, .unset, .unset] [(.ref b447)])) _
      refine XS.astore X453.here hx rfl (hb hby at_88) rfl rfl (l' := #[iv p0, iv p1, iv p2, iv p3, iv p4, rv b102, .val .null, rv r435, rv b447, rv b447, .unset, .unset]) rfl ?_
      show Steps p.tables e below (T453.setTop (mkF m 90 #[iv p0, iv p1, iv p2, iv p3, iv p4, rv b102, .val .null, rv r435, rv b447, rv b447, .unset, .unset] [])) _
      refine XS.goto X453.here hx rfl (pc0 := 90) (pc' := 128) rfl (hb hby at_90) (by decide) (by decide) ?_
      show Steps p.tables e below (T453.setTop (mkF m 128 #[iv p0, iv p1, iv p2, iv p3, iv p4, rv b102, .val .null, rv r435, rv b447, rv b447, .unset, .unset] [])) _
      exact kont
    obtain ⟨T553, h553, X553, e553, E553, A553, D553, -, st553⟩ := newO X453 hx hZ hown (hw _ (List.mem_of_getElem? (i := 55) rfl)) (hw _ (List.mem_of_getElem? (i := 56) rfl)) (hw _ (List.mem_of_getElem? (i := 57) rfl)) rfl (g := (mkF m 128 #[iv p0, iv p1, iv p2, iv p3, iv p4, rv b102, .val .null, rv r435, rv b447, rv b447, .unset, .unset] [])) rfl (hb hby at_128) (by decide) (by decide)
    obtain ⟨b553, gb553⟩ : ∃ z, z = T453.heap.size := ⟨_, rfl⟩
    rw [← gb553] at A553 D553 st553
    have O554 := O456.ext E553
    have y555 : Fld Z h553 b553 "com/example/subsume/subsume/engine/IndividualEquality" "individual" "Lcom/example/subsume/subsume/engine/Individual;" .null := D553 (Or.inr (hw _ (List.mem_of_getElem? (i := 68) rfl))) (ty := (.object "com/example/subsume/subsume/engine/Individual")) (by decide)
    have y556 : Fld Z h553 b553 "com/example/subsume/subsume/engine/IndividualEquality" "other" "Lcom/example/subsume/subsume/engine/Individual;" .null := D553 (Or.inr (hw _ (List.mem_of_getElem? (i := 70) rfl))) (ty := (.object "com/example/subsume/subsume/engine/Individual")) (by decide)
    have g557 : Go p e below T553 (mkF m 131 #[iv p0, iv p1, iv p2, iv p3, iv p4, rv b102, .val .null, rv r435, rv b447, rv b447, .unset, .unset] [(.ref b553)]) A0 := fun t kont => g552 t (st553 t kont)
    have g558 : Go p e below T553 (mkF m 136 #[iv p0, iv p1, iv p2, iv p3, iv p4, rv b102, .val .null, rv r435, rv b447, rv b447, .unset, .unset] [(.ref b447), (.ref b447), (.ref b553), (.ref b553)]) A0 := by
      intro t kont
      refine g557 t ?_
      refine XS.dup X553.here hx rfl (hb hby at_131) rfl rfl ?_
      show Steps p.tables e below (T553.setTop (mkF m 132 #[iv p0, iv p1, iv p2, iv p3, iv p4, rv b102, .val .null, rv r435, rv b447, rv b447, .unset, .unset] [(.ref b553), (.ref b553)])) _
      refine XS.aload X553.here hx rfl (hb hby at_132) rfl rfl ?_
      show Steps p.tables e below (T553.setTop (mkF m 134 #[iv p0, iv p1, iv p2, iv p3, iv p4, rv b102, .val .null, rv r435, rv b447, rv b447, .unset, .unset] [(.ref b447), (.ref b553), (.ref b553)])) _
      refine XS.aload X553.here hx rfl (hb hby at_134) rfl rfl ?_
      show Steps p.tables e below (T553.setTop (mkF m 136 #[iv p0, iv p1, iv p2, iv p3, iv p4, rv b102, .val .null, rv r435, rv b447, rv b447, .unset, .unset] [(.ref b447), (.ref b447), (.ref b553), (.ref b553)])) _
      exact kont
    have ge560 : n0 ≤ b553 := Nat.le_trans (own_old_le O456) (Nat.le_of_eq gb553.symm)
    obtain ⟨_, _, ⟨T559, L559, k559, n559⟩, -, X559, ⟨Lc559, hQ559, l559, y559, z559⟩, st559⟩ := X553.specialBack hx (y := (⟨"com/example/subsume/subsume/engine/IndividualEquality", "<init>", "(Lcom/example/subsume/subsume/engine/Individual;Lcom/example/subsume/subsume/engine/Individual;)V"⟩ : MethodName)) rfl hown (mvT hZ (hw _ (List.mem_of_getElem? (i := 58) rfl))) (mvT hZ (hw _ (List.mem_of_getElem? (i := 59) rfl))) (mvT hZ (hw _ (List.mem_of_getElem? (i := 60) rfl))) (by decide) (backOf (W := 1) (rm_relI l Z a0 hw [] b553 b447 b447 h553 n0 O554 y555 y556 A553 ge560) hZ (hw _ (List.mem_of_getElem? (i := 60) rfl)) (hw _ (List.mem_of_getElem? (i := 57) rfl)) (by decide) (by decide)) (g := (mkF m 136 #[iv p0, iv p1, iv p2, iv p3, iv p4, rv b102, .val .null, rv r435, rv b447, rv b447, .unset, .unset] [(.ref b447), (.ref b447), (.ref b553), (.ref b553)])) rfl (by rw [hml]; rfl) (Steps.refl _) (a := b553) (argsL := [(.ref b447), (.ref b447)]) (rest := [(.ref b553)]) (lenOf pd_14 rfl) rfl (by show 2 * 0 + _ ≤ _; exact Nat.le_of_eq rfl) (hb hby at_136) (fun _ _ => ⟨rfl, e553, (by decide : 5 + 0 ≤ _), (by decide : 11 + 0 ≤ _)⟩)
    dsimp only [Pt.U, Pt.locs, Pt.cells, Pt.slots] at X559 l559 y559 z559 st559 hQ559
    subst l559 y559 z559
    obtain ⟨rfl, M559, K559, y561, y562, y563⟩ := hQ559
    have N559 := Fr.app N453 M559
    have O564 := O554.keep K559 (allS ge560 all0)
    have g565 : Go p e below T559 (mkF m 139 #[iv p0, iv p1, iv p2, iv p3, iv p4, rv b102, .val .null, rv r435, rv b447, rv b447, .unset, .unset] [(.ref b553)]) A0 := fun t kont => g558 t (st559.trans kont)
    have g566 : Go p e below T559 (mkF m 143 #[iv p0, iv p1, iv p2, iv p3, iv p4, rv b102, .val .null, rv r435, rv b447, rv b447, rv b553, .unset] [(.ref b553)]) A0 := by
      intro t kont
      refine g565 t ?_
      refine XS.astore X559.here hx rfl (hb hby at_139) rfl rfl (l' := #[iv p0, iv p1, iv p2, iv p3, iv p4, rv b102, .val .null, rv r435, rv b447, rv b447, rv b553, .unset]) rfl ?_
      show Steps p.tables e below (T559.setTop (mkF m 141 #[iv p0, iv p1, iv p2, iv p3, iv p4, rv b102, .val .null, rv r435, rv b447, rv b447, rv b553, .unset] [])) _
      refine XS.aload X559.here hx rfl (hb hby at_141) rfl rfl ?_
      show Steps p.tables e below (T559.setTop (mkF m 143 #[iv p0, iv p1, iv p2, iv p3, iv p4, rv b102, .val .null, rv r435, rv b447, rv b447, rv b553, .unset] [(.ref b553)])) _
      exact kont
    obtain ⟨cq567, kq567, q567a, q567b, q567c⟩ := isOf hZ rfl y561
    obtain ⟨_, _, ⟨T567, L567, k567, n567⟩, -, X567, ⟨Lc567, hQ567, l567, y567, z567⟩, st567⟩ := X559.virtualBack hx (y := (⟨"com/example/subsume/subsume/engine/IndividualEquality", "individuals", "()Ljava/util/List;"⟩ : MethodName)) (z := (⟨"com/example/subsume/subsume/engine/IndividualEquality", "individuals", "()Ljava/util/List;"⟩ : MethodName)) hown (mvT hZ (hw _ (List.mem_of_getElem? (i := 71) rfl))) (mvT hZ (hw _ (List.mem_of_getElem? (i := 72) rfl))) (notFace_of_selects (args := #[]) (mvT hZ (hw _ (List.mem_of_getElem? (i := 74) rfl)))) (mvT hZ (hw _ (List.mem_of_getElem? (i := 74) rfl))) (mvT hZ (hw _ (List.mem_of_getElem? (i := 73) rfl))) (by decide) (backOf (W := 0) (rm_inds l Z a0 hw [] b553 b447 b447 T559.heap n0 O564 y562 y563) hZ (hw _ (List.mem_of_getElem? (i := 75) rfl)) (hw _ (List.mem_of_getElem? (i := 57) rfl)) (by decide) (by decide)) q567a q567c (g := (mkF m 143 #[iv p0, iv p1, iv p2, iv p3, iv p4, rv b102, .val .null, rv r435, rv b447, rv b447, rv b553, .unset] [(.ref b553)])) rfl (by rw [hml]; rfl) (Steps.refl _) (argsL := []) (rest := []) (lenOf pd_15 rfl) rfl (by show 2 * 0 + _ ≤ _; exact Nat.le_of_eq rfl) (hb hby at_143) (fun _ _ => ⟨rfl, rfl, (by decide : 5 + 1 ≤ _), (by decide : 11 + 2 ≤ _)⟩)
    dsimp only [Pt.U, Pt.locs, Pt.cells, Pt.slots] at X567 l567 y567 z567 st567 hQ567
    subst l567 y567 z567
    obtain ⟨r568, rfl, M567, K567, y569, y570, y571, y572⟩ := hQ567
    have N567 := Fr.app N559 M567
    have O573 := O564.keep K567 all0
    have g574 : Go p e below T567 (mkF m 146 #[iv p0, iv p1, iv p2, iv p3, iv p4, rv b102, .val .null, rv r435, rv b447, rv b447, rv b553, .unset] [(.ref r568)]) A0 := fun t kont => g566 t (st567.trans kont)
    have g575 : Go p e below T567 (mkF m 150 #[iv p0, iv p1, iv p2, iv p3, iv p4, rv b102, .val .null, rv r435, rv b447, rv b447, rv b553, rv r568] [(.ref r568)]) A0 := by
      intro t kont
      refine g574 t ?_
      refine XS.astore X567.here hx rfl (hb hby at_146) rfl rfl (l' := #[iv p0, iv p1, iv p2, iv p3, iv p4, rv b102, .val .null, rv r435, rv b447, rv b447, rv b553, rv r568]) rfl ?_
      show Steps p.tables e below (T567.setTop (mkF m 148 #[iv p0, iv p1, iv p2, iv p3, iv p4, rv b102, .val .null, rv r435, rv b447, rv b447, rv b553, rv r568] [])) _
      refine XS.aload X567.here hx rfl (hb hby at_148) rfl rfl ?_
      show Steps p.tables e below (T567.setTop (mkF m 150 #[iv p0, iv p1, iv p2, iv p3, iv p4, rv b102, .val .null, rv r435, rv b447, rv b447, rv b553, rv r568] [(.ref r568)])) _
      exact kont
    obtain ⟨cq576, kq576, q576a, q576b, q576c⟩ := isOf hZ rfl y570
    obtain ⟨_, _, ⟨T576, L576, k576, n576⟩, -, X576, ⟨Lc576, hQ576, l576, y576, z576⟩, st576⟩ := X567.interfaceBack hx (xi := (⟨"java/util/List", "size", "()I"⟩ : MethodName)) (y := (⟨"java/util/ImmutableCollections$List12", "size", "()I"⟩ : MethodName)) hown (mvT hZ (hw _ (List.mem_of_getElem? (i := 114) rfl))) (mvT hZ (hw _ (List.mem_of_getElem? (i := 115) rfl))) (mvT hZ (hw _ (List.mem_of_getElem? (i := 116) rfl))) (mvT hZ (hw _ (List.mem_of_getElem? (i := 117) rfl))) (mvT hZ (hw _ (List.mem_of_getElem? (i := 118) rfl))) (mvT hZ (hw _ (List.mem_of_getElem? (i := 119) rfl))) (mvT hZ (hw _ (List.mem_of_getElem? (i := 120) rfl))) (mvT hZ (hw _ (List.mem_of_getElem? (i := 121) rfl))) (by decide) (backOf (W := 0) (rm_siz l Z a0 hw [] r568 b447 w_EMPTY T567.heap n0 O573 y572 S1_ (Ne.symm (O573.ne ZE3_.lt ge454))) hZ (hw _ (List.mem_of_getElem? (i := 122) rfl)) (hw _ (List.mem_of_getElem? (i := 82) rfl)) (by decide) (by decide)) q576a q576b q576c (g := (mkF m 150 #[iv p0, iv p1, iv p2, iv p3, iv p4, rv b102, .val .null, rv r435, rv b447, rv b447, rv b553, rv r568] [(.ref r568)])) rfl (by rw [hml]; rfl) (Steps.refl _) (argsL := []) (rest := []) (lenOf pd_16 rfl) rfl (by show 2 * 0 + _ ≤ _; exact Nat.le_of_eq rfl) (hb hby at_150) (fun _ _ => ⟨rfl, rfl, (by decide : 6 + 0 ≤ _), (by decide : 13 + 0 ≤ _)⟩)
    dsimp only [Pt.U, Pt.locs, Pt.cells, Pt.slots] at X576 l576 y576 z576 st576 hQ576
    subst l576 y576 z576
    obtain ⟨rfl, M576, e576⟩ := hQ576
    have N576 := Fr.app N567 M576
    have g577 : Go p e below T576 (mkF m 155 #[iv p0, iv p1, iv p2, iv p3, iv p4, rv b102, .val .null, rv r435, rv b447, rv b447, rv b553, rv r568] [(.int (2 : Int32))]) A0 := fun t kont => g575 t (st576.trans kont)
    have g578 : Go p e below T576 (mkF m 164 #[iv p0, iv p1, iv p2, iv p3, iv p4, rv b102, .val .null, rv r435, rv b447, rv b447, rv b553, rv r568] [(.int (0 : Int32)), (.ref r568)]) A0 := by
      intro t kont
      refine g577 t ?_
      refine XS.iconst X576.here hx rfl (hb hby at_155) ?_
      show Steps p.tables e below (T576.setTop (mkF m 156 #[iv p0, iv p1, iv p2, iv p3, iv p4, rv b102, .val .null, rv r435, rv b447, rv b447, rv b553, rv r568] [(.int (2 : Int32)), (.int (2 : Int32))])) _
      refine XS.icmpYes X576.here hx rfl (pc0 := 156) (pc' := 161) rfl (hb hby at_156) rfl (teq (by decide : (2 : Int32) = (2 : Int32))).1 (by decide) (by decide) ?_
      show Steps p.tables e below (T576.setTop (mkF m 161 #[iv p0, iv p1, iv p2, iv p3, iv p4, rv b102, .val .null, rv r435, rv b447, rv b447, rv b553, rv r568] [])) _
      refine XS.aload X576.here hx rfl (hb hby at_161) rfl rfl ?_
      show Steps p.tables e below (T576.setTop (mkF m 163 #[iv p0, iv p1, iv p2, iv p3, iv p4, rv b102, .val .null, rv r435, rv b447, rv b447, rv b553, rv r568] [(.ref r568)])) _
      refine XS.iconst X576.here hx rfl (hb hby at_163) ?_
      show Steps p.tables e below (T576.setTop (mkF m 164 #[iv p0, iv p1, iv p2, iv p3, iv p4, rv b102, .val .null, rv r435, rv b447, rv b447, rv b553, rv r568] [(.int (0 : Int32)), (.ref r568)])) _
      exact kont
    obtain ⟨cq579, kq579, q579a, q579b, q579c⟩ := isOf hZ e576 y570
    obtain ⟨_, _, ⟨T579, L579, k579, n579⟩, -, X579, ⟨Lc579, hQ579, l579, y579, z579⟩, st579⟩ := X576.interfaceBack hx (xi := (⟨"java/util/List", "get", "(I)Ljava/lang/Object;"⟩ : MethodName)) (y := (⟨"java/util/ImmutableCollections$List12", "get", "(I)Ljava/lang/Object;"⟩ : MethodName)) hown (mvT hZ (hw _ (List.mem_of_getElem? (i := 125) rfl))) (mvT hZ (hw _ (List.mem_of_getElem? (i := 126) rfl))) (mvT hZ (hw _ (List.mem_of_getElem? (i := 127) rfl))) (mvT hZ (hw _ (List.mem_of_getElem? (i := 128) rfl))) (mvT hZ (hw _ (List.mem_of_getElem? (i := 129) rfl))) (mvT hZ (hw _ (List.mem_of_getElem? (i := 130) rfl))) (mvT hZ (hw _ (List.mem_of_getElem? (i := 131) rfl))) (mvT hZ (hw _ (List.mem_of_getElem? (i := 121) rfl))) (by decide) (backOf (W := 0) (rm_get0 l Z a0 hw [] r568 b447 T567.heap n0 O573 y571) hZ (hw _ (List.mem_of_getElem? (i := 132) rfl)) (hw _ (List.mem_of_getElem? (i := 82) rfl)) (by decide) (by decide)) q579a q579b q579c (g := (mkF m 164 #[iv p0, iv p1, iv p2, iv p3, iv p4, rv b102, .val .null, rv r435, rv b447, rv b447, rv b553, rv r568] [(.int (0 : Int32)), (.ref r568)])) rfl (by rw [hml]; rfl) (Steps.refl _) (argsL := [(.int (0 : Int32))]) (rest := []) (lenOf pd_17 rfl) rfl (by show 2 * 0 + _ ≤ _; exact Nat.le_of_eq rfl) (hb hby at_164) (fun _ _ => ⟨rfl, e576, (by decide : 6 + 0 ≤ _), (by decide : 13 + 0 ≤ _)⟩)
    dsimp only [Pt.U, Pt.locs, Pt.cells, Pt.slots] at X579 l579 y579 z579 st579 hQ579
    subst l579 y579 z579
    obtain ⟨rfl, M579, e579⟩ := hQ579
    have N579 := Fr.app N576 M579
    have g580 : Go p e below T579 (mkF m 169 #[iv p0, iv p1, iv p2, iv p3, iv p4, rv b102, .val .null, rv r435, rv b447, rv b447, rv b553, rv r568] [(.ref b447)]) A0 := fun t kont => g578 t (st579.trans kont)
    have g581 : Go p e below T579 (mkF m 177 #[iv p0, iv p1, iv p2, iv p3, iv p4, rv b102, .val .null, rv r435, rv b447, rv b447, rv b553, rv r568] [(.int (1 : Int32)), (.ref r568)]) A0 := by
      intro t kont
      refine g580 t ?_
      refine XS.aload X579.here hx rfl (hb hby at_169) rfl rfl ?_
      show Steps p.tables e below (T579.setTop (mkF m 171 #[iv p0, iv p1, iv p2, iv p3, iv p4, rv b102, .val .null, rv r435, rv b447, rv b447, rv b553, rv r568] [(.ref b447), (.ref b447)])) _
      refine Jvm.RoadKit.acmp (g := (mkF m 171 #[iv p0, iv p1, iv p2, iv p3, iv p4, rv b102, .val .null, rv r435, rv b447, rv b447, rv b553, rv r568] [(.ref b447), (.ref b447)])) X579 hx rfl rfl rfl (pc0 := 171) (pc' := 174) (same := true) rfl (hb hby at_171) rfl (decide_eq_true rfl) (by decide) (by decide) ?_
      show Steps p.tables e below (T579.setTop (mkF m 174 #[iv p0, iv p1, iv p2, iv p3, iv p4, rv b102, .val .null, rv r435, rv b447, rv b447, rv b553, rv r568] [])) _
      refine XS.aload X579.here hx rfl (hb hby at_174) rfl rfl ?_
      show Steps p.tables e below (T579.setTop (mkF m 176 #[iv p0, iv p1, iv p2, iv p3, iv p4, rv b102, .val .null, rv r435, rv b447, rv b447, rv b553, rv r568] [(.ref r568)])) _
      refine XS.iconst X579.here hx rfl (hb hby at_176) ?_
      show Steps p.tables e below (T579.setTop (mkF m 177 #[iv p0, iv p1, iv p2, iv p3, iv p4, rv b102, .val .null, rv r435, rv b447, rv b447, rv b553, rv r568] [(.int (1 : Int32)), (.ref r568)])) _
      exact kont
    obtain ⟨cq582, kq582, q582a, q582b, q582c⟩ := isOf hZ e579 y570
    obtain ⟨_, _, ⟨T582, L582, k582, n582⟩, -, X582, ⟨Lc582, hQ582, l582, y582, z582⟩, st582⟩ := X579.interfaceBack hx (xi := (⟨"java/util/List", "get", "(I)Ljava/lang/Object;"⟩ : MethodName)) (y := (⟨"java/util/ImmutableCollections$List12", "get", "(I)Ljava/lang/Object;"⟩ : MethodName)) hown (mvT hZ (hw _ (List.mem_of_getElem? (i := 125) rfl))) (mvT hZ (hw _ (List.mem_of_getElem? (i := 126) rfl))) (mvT hZ (hw _ (List.mem_of_getElem? (i := 127) rfl))) (mvT hZ (hw _ (List.mem_of_getElem? (i := 128) rfl))) (mvT hZ (hw _ (List.mem_of_getElem? (i := 129) rfl))) (mvT hZ (hw _ (List.mem_of_getElem? (i := 130) rfl))) (mvT hZ (hw _ (List.mem_of_getElem? (i := 131) rfl))) (mvT hZ (hw _ (List.mem_of_getElem? (i := 121) rfl))) (by decide) (backOf (W := 0) (rm_get1 l Z a0 hw [] r568 b447 w_EMPTY T567.heap n0 O573 y572 S1_ (Ne.symm (O573.ne ZE3_.lt ge454))) hZ (hw _ (List.mem_of_getElem? (i := 132) rfl)) (hw _ (List.mem_of_getElem? (i := 82) rfl)) (by decide) (by decide)) q582a q582b q582c (g := (mkF m 177 #[iv p0, iv p1, iv p2, iv p3, iv p4, rv b102, .val .null, rv r435, rv b447, rv b447, rv b553, rv r568] [(.int (1 : Int32)), (.ref r568)])) rfl (by rw [hml]; rfl) (Steps.refl _) (argsL := [(.int (1 : Int32))]) (rest := []) (lenOf pd_17 rfl) rfl (by show 2 * 0 + _ ≤ _; exact Nat.le_of_eq rfl) (hb hby at_177) (fun _ _ => ⟨rfl, e579, (by decide : 6 + 0 ≤ _), (by decide : 13 + 0 ≤ _)⟩)
    dsimp only [Pt.U, Pt.locs, Pt.cells, Pt.slots] at X582 l582 y582 z582 st582 hQ582
    subst l582 y582 z582
    obtain ⟨rfl, M582, e582⟩ := hQ582
    have N582 := Fr.app N579 M582
    have g583 : Go p e below T582 (mkF m 182 #[iv p0, iv p1, iv p2, iv p3, iv p4, rv b102, .val .null, rv r435, rv b447, rv b447, rv b553, rv r568] [(.ref b447)]) A0 := fun t kont => g581 t (st582.trans kont)
    have g584 : Go p e below T582 (mkF m 192 #[iv p0, iv p1, iv p2, iv p3, iv p4, rv b102, .val .null, rv r435, rv b447, rv b447, rv b553, rv r568] [(.int (1 : Int32))]) A0 := by
      intro t kont
      refine g583 t ?_
      refine XS.aload X582.here hx rfl (hb hby at_182) rfl rfl ?_
      show Steps p.tables e below (T582.setTop (mkF m 184 #[iv p0, iv p1, iv p2, iv p3, iv p4, rv b102, .val .null, rv r435, rv b447, rv b447, rv b553, rv r568] [(.ref b447), (.ref b447)])) _
      refine Jvm.RoadKit.acmp (g := (mkF m 184 #[iv p0, iv p1, iv p2, iv p3, iv p4, rv b102, .val .null, rv r435, rv b447, rv b447, rv b553, rv r568] [(.ref b447), (.ref b447)])) X582 hx rfl rfl rfl (pc0 := 184) (pc' := 187) (same := true) rfl (hb hby at_184) rfl (decide_eq_true rfl) (by decide) (by decide) ?_
      show Steps p.tables e below (T582.setTop (mkF m 187 #[iv p0, iv p1, iv p2, iv p3, iv p4, rv b102, .val .null, rv r435, rv b447, rv b447, rv b553, rv r568] [])) _
      refine XS.iconst X582.here hx rfl (hb hby at_187) ?_
      show Steps p.tables e below (T582.setTop (mkF m 188 #[iv p0, iv p1, iv p2, iv p3, iv p4, rv b102, .val .null, rv r435, rv b447, rv b447, rv b553, rv r568] [(.int (1 : Int32))])) _
      refine XS.goto X582.here hx rfl (pc0 := 188) (pc' := 192) rfl (hb hby at_188) (by decide) (by decide) ?_
      show Steps p.tables e below (T582.setTop (mkF m 192 #[iv p0, iv p1, iv p2, iv p3, iv p4, rv b102, .val .null, rv r435, rv b447, rv b447, rv b553, rv r568] [(.int (1 : Int32))])) _
      exact kont
    obtain ⟨fs, hr, hrun, hended, hW, hsame⟩ := X582.leave (v := some (.int (1 : Int32))) (fun h => by rw [Bd.returns] at h; cases h)
    refine ⟨_, _, g584 _ (retN X582 hx (t := .boolean) Bd.returns (by simp) (hb hby at_192) hr), hrun, hended, _, _, rfl, ?_, ⟨_, rfl⟩, hW, hsame.mono (by decide) (by decide)⟩
    show Q_law Z p0 p1 p2 p3 p4 i_COMPACT_STRINGS w_EMPTY h0 n0 _ T582.heap _
    rw [e582]
    exact ⟨rfl, N582⟩
  have g585 : Go p e below T113 (mkF m 67 #[iv p0, iv p1, iv p2, iv p3, iv p4, rv b102, .val .null, .val .null, .unset, .unset, .unset, .unset] []) A0 := by
    intro t kont
    refine g432 t ?_
    refine XS.ifNo X113.here hx rfl (hb hby at_49) rfl ((if0 _ _).trans (feq c431).1) ?_
    show Steps p.tables e below (T113.setTop (mkF m 52 #[iv p0, iv p1, iv p2, iv p3, iv p4, rv b102, .val .null, .unset, .unset, .unset, .unset, .unset] [])) _
    refine XS.aconstNull X113.here hx rfl (hb hby at_52) ?_
    show Steps p.tables e below (T113.setTop (mkF m 53 #[iv p0, iv p1, iv p2, iv p3, iv p4, rv b102, .val .null, .unset, .unset, .unset, .unset, .unset] [.null])) _
    refine XS.goto X113.here hx rfl (pc0 := 53) (pc' := 65) rfl (hb hby at_53) (by decide) (by decide) ?_
    show Steps p.tables e below (T113.setTop (mkF m 65 #[iv p0, iv p1, iv p2, iv p3, iv p4, rv b102, .val .null, .unset, .unset, .unset, .unset, .unset] [.null])) _
    refine XS.astore X113.here hx rfl (hb hby at_65) rfl rfl (l' := #[iv p0, iv p1, iv p2, iv p3, iv p4, rv b102, .val .null, .val .null, .unset, .unset, .unset, .unset]) rfl ?_
    show Steps p.tables e below (T113.setTop (mkF m 67 #[iv p0, iv p1, iv p2, iv p3, iv p4, rv b102, .val .null, .val .null, .unset, .unset, .unset, .unset] [])) _
    exact kont
  obtain ⟨T586, h586, X586, e586, E586, A586, D586, -, st586⟩ := newO X113 hx hZ hown (hw _ (List.mem_of_getElem? (i := 44) rfl)) (hw _ (List.mem_of_getElem? (i := 45) rfl)) (hw _ (List.mem_of_getElem? (i := 46) rfl)) e113 (g := (mkF m 67 #[iv p0, iv p1, iv p2, iv p3, iv p4, rv b102, .val .null, .val .null, .unset, .unset, .unset, .unset] [])) rfl (hb hby at_67) (by decide) (by decide)
  obtain ⟨b586, gb586⟩ : ∃ z, z = h113.size := ⟨_, rfl⟩
  rw [← gb586] at A586 D586 st586
  have O587 := O114.ext E586
  have y588 : Fld Z h586 b586 "com/example/subsume/subsume/engine/Individual" "name" "Ljava/lang/String;" .null := D586 (Or.inr (hw _ (List.mem_of_getElem? (i := 52) rfl))) (ty := (.object "java/lang/String")) (by decide)
  have y589 : Fld Z h586 b586 "com/example/subsume/subsume/engine/Individual" "id" "I" (.int (0 : Int32)) := D586 (Or.inr (hw _ (List.mem_of_getElem? (i := 54) rfl))) (ty := .int) (by decide)
  have g590 : Go p e below T586 (mkF m 70 #[iv p0, iv p1, iv p2, iv p3, iv p4, rv b102, .val .null, .val .null, .unset, .unset, .unset, .unset] [(.ref b586)]) A0 := fun t kont => g585 t (st586 t kont)
  have g591 : Go p e below T586 (mkF m 74 #[iv p0, iv p1, iv p2, iv p3, iv p4, rv b102, .val .null, .val .null, .unset, .unset, .unset, .unset] [(.int p2), .null, (.ref b586), (.ref b586)]) A0 := by
    intro t kont
    refine g590 t ?_
    refine XS.dup X586.here hx rfl (hb hby at_70) rfl rfl ?_
    show Steps p.tables e below (T586.setTop (mkF m 71 #[iv p0, iv p1, iv p2, iv p3, iv p4, rv b102, .val .null, .val .null, .unset, .unset, .unset, .unset] [(.ref b586), (.ref b586)])) _
    refine XS.aload X586.here hx rfl (hb hby at_71) rfl rfl ?_
    show Steps p.tables e below (T586.setTop (mkF m 73 #[iv p0, iv p1, iv p2, iv p3, iv p4, rv b102, .val .null, .val .null, .unset, .unset, .unset, .unset] [.null, (.ref b586), (.ref b586)])) _
    refine XS.iloadN X586.here hx rfl (hb hby at_73) rfl ?_
    show Steps p.tables e below (T586.setTop (mkF m 74 #[iv p0, iv p1, iv p2, iv p3, iv p4, rv b102, .val .null, .val .null, .unset, .unset, .unset, .unset] [(.int p2), .null, (.ref b586), (.ref b586)])) _
    exact kont
  have ge593 : n0 ≤ b586 := Nat.le_trans (own_old_le O114) (Nat.le_of_eq gb586.symm)
  obtain ⟨_, _, ⟨T592, L592, k592, n592⟩, -, X592, ⟨Lc592, hQ592, l592, y592, z592⟩, st592⟩ := X586.specialBack hx (y := (⟨"com/example/subsume/subsume/engine/Individual", "<init>", "(Ljava/lang/String;I)V"⟩ : MethodName)) rfl hown (mvT hZ (hw _ (List.mem_of_getElem? (i := 47) rfl))) (mvT hZ (hw _ (List.mem_of_getElem? (i := 48) rfl))) (mvT hZ (hw _ (List.mem_of_getElem? (i := 49) rfl))) (by decide) (backOf (W := 1) (rm_indI l Z a0 hw [] b586 .null p2 h586 n0 O587 (rfl) y588 y589 A586 ge593) hZ (hw _ (List.mem_of_getElem? (i := 49) rfl)) (hw _ (List.mem_of_getElem? (i := 46) rfl)) (by decide) (by decide)) (g := (mkF m 74 #[iv p0, iv p1, iv p2, iv p3, iv p4, rv b102, .val .null, .val .null, .unset, .unset, .unset, .unset] [(.int p2), .null, (.ref b586), (.ref b586)])) rfl (by rw [hml]; rfl) (Steps.refl _) (a := b586) (argsL := [.null, (.int p2)]) (rest := [(.ref b586)]) (lenOf pd_13 rfl) rfl (by show 2 * 0 + _ ≤ _; exact Nat.le_of_eq rfl) (hb hby at_74) (fun _ _ => ⟨rfl, e586, (by decide : 2 + 0 ≤ _), (by decide : 4 + 0 ≤ _)⟩)
  dsimp only [Pt.U, Pt.locs, Pt.cells, Pt.slots] at X592 l592 y592 z592 st592 hQ592
  subst l592 y592 z592
  obtain ⟨rfl, M592, K592, y594⟩ := hQ592
  have N592 := Fr.app N113 M592
  have O595 := O587.keep K592 (allS ge593 all0)
  have g596 : Go p e below T592 (mkF m 77 #[iv p0, iv p1, iv p2, iv p3, iv p4, rv b102, .val .null, .val .null, .unset, .unset, .unset, .unset] [(.ref b586)]) A0 := fun t kont => g591 t (st592.trans kont)
  have g598 : Go p e below T592 (mkF m 83 #[iv p0, iv p1, iv p2, iv p3, iv p4, rv b102, .val .null, .val .null, rv b586, .unset, .unset, .unset] [(.int (p4 &&& (4 : Int32)))]) A0 := by
    intro t kont
    refine g596 t ?_
    refine XS.astore X592.here hx rfl (hb hby at_77) rfl rfl (l' := #[iv p0, iv p1, iv p2, iv p3, iv p4, rv b102, .val .null, .val .null, rv b586, .unset, .unset, .unset]) rfl ?_
    show Steps p.tables e below (T592.setTop (mkF m 79 #[iv p0, iv p1, iv p2, iv p3, iv p4, rv b102, .val .null, .val .null, rv b586, .unset, .unset, .unset] [])) _
    refine XS.iload X592.here hx rfl (hb hby at_79) rfl ?_
    show Steps p.tables e below (T592.setTop (mkF m 81 #[iv p0, iv p1, iv p2, iv p3, iv p4, rv b102, .val .null, .val .null, rv b586, .unset, .unset, .unset] [(.int p4)])) _
    refine XS.iconst X592.here hx rfl (hb hby at_81) ?_
    show Steps p.tables e below (T592.setTop (mkF m 82 #[iv p0, iv p1, iv p2, iv p3, iv p4, rv b102, .val .null, .val .null, rv b586, .unset, .unset, .unset] [(.int (4 : Int32)), (.int p4)])) _
    refine XS.iand X592.here hx rfl (hb hby at_82) rfl ?_
    show Steps p.tables e below (T592.setTop (mkF m 83 #[iv p0, iv p1, iv p2, iv p3, iv p4, rv b102, .val .null, .val .null, rv b586, .unset, .unset, .unset] [(.int (p4 &&& (4 : Int32)))])) _
    exact kont
  by_cases c597 : (p4 &&& (4 : Int32)) = (0 : Int32)
  ·
    have g600 : Go p e below T592 (mkF m 98 #[iv p0, iv p1, iv p2, iv p3, iv p4, rv b102, .val .null, .val .null, rv b586, .unset, .unset, .unset] [(.int (p4 &&& (8 : Int32)))]) A0 := by
      intro t kont
      refine g598 t ?_
      refine XS.ifYes X592.here hx rfl (pc0 := 83) (pc' := 93) rfl (hb hby at_83) rfl ((if0 _ _).trans (teq c597).1) (by decide) (by decide) ?_
      show Steps p.tables e below (T592.setTop (mkF m 93 #[iv p0, iv p1, iv p2, iv p3, iv p4, rv b102, .val .null, .val .null, rv b586, .unset, .unset, .unset] [])) _
      refine XS.iload X592.here hx rfl (hb hby at_93) rfl ?_
      show Steps p.tables e below (T592.setTop (mkF m 95 #[iv p0, iv p1, iv p2, iv p3, iv p4, rv b102, .val .null, .val .null, rv b586, .unset, .unset, .unset] [(.int p4)])) _
      refine XS.bipush X592.here hx rfl (hb hby at_95) ?_
      show Steps p.tables e below (T592.setTop (mkF m 97 #[iv p0, iv p1, iv p2, iv p3, iv p4, rv b102, .val .null, .val .null, rv b586, .unset, .unset, .unset] [(.int (8 : Int32)), (.int p4)])) _
      refine XS.iand X592.here hx rfl (hb hby at_97) rfl ?_
      show Steps p.tables e below (T592.setTop (mkF m 98 #[iv p0, iv p1, iv p2, iv p3, iv p4, rv b102, .val .null, .val .null, rv b586, .unset, .unset, .unset] [(.int (p4 &&& (8 : Int32)))])) _
      exact kont
    by_cases c599 : (p4 &&& (8 : Int32)) = (0 : Int32)
    ·
      have g601 : Go p e below T592 (mkF m 116 #[iv p0, iv p1, iv p2, iv p3, iv p4, rv b102, .val .null, .val .null, rv b586, .unset, .unset, .unset] []) A0 := by
        intro t kont
        refine g600 t ?_
        refine XS.ifYes X592.here hx rfl (pc0 := 98) (pc' := 116) rfl (hb hby at_98) rfl ((if0 _ _).trans (teq c599).1) (by decide) (by decide) ?_
        show Steps p.tables e below (T592.setTop (mkF m 116 #[iv p0, iv p1, iv p2, iv p3, iv p4, rv b102, .val .null, .val .null, rv b586, .unset, .unset, .unset] [])) _
        exact kont
      obtain ⟨T602, h602, X602, e602, E602, A602, D602, -, st602⟩ := newO X592 hx hZ hown (hw _ (List.mem_of_getElem? (i := 44) rfl)) (hw _ (List.mem_of_getElem? (i := 45) rfl)) (hw _ (List.mem_of_getElem? (i := 46) rfl)) rfl (g := (mkF m 116 #[iv p0, iv p1, iv p2, iv p3, iv p4, rv b102, .val .null, .val .null, rv b586, .unset, .unset, .unset] [])) rfl (hb hby at_116) (by decide) (by decide)
      obtain ⟨b602, gb602⟩ : ∃ z, z = T592.heap.size := ⟨_, rfl⟩
      rw [← gb602] at A602 D602 st602
      have O603 := O595.ext E602
      have y604 : Fld Z h602 b602 "com/example/subsume/subsume/engine/Individual" "name" "Ljava/lang/String;" .null := D602 (Or.inr (hw _ (List.mem_of_getElem? (i := 52) rfl))) (ty := (.object "java/lang/String")) (by decide)
      have y605 : Fld Z h602 b602 "com/example/subsume/subsume/engine/Individual" "id" "I" (.int (0 : Int32)) := D602 (Or.inr (hw _ (List.mem_of_getElem? (i := 54) rfl))) (ty := .int) (by decide)
      have g606 : Go p e below T602 (mkF m 119 #[iv p0, iv p1, iv p2, iv p3, iv p4, rv b102, .val .null, .val .null, rv b586, .unset, .unset, .unset] [(.ref b602)]) A0 := fun t kont => g601 t (st602 t kont)
      have g607 : Go p e below T602 (mkF m 123 #[iv p0, iv p1, iv p2, iv p3, iv p4, rv b102, .val .null, .val .null, rv b586, .unset, .unset, .unset] [(.int p3), .null, (.ref b602), (.ref b602)]) A0 := by
        intro t kont
        refine g606 t ?_
        refine XS.dup X602.here hx rfl (hb hby at_119) rfl rfl ?_
        show Steps p.tables e below (T602.setTop (mkF m 120 #[iv p0, iv p1, iv p2, iv p3, iv p4, rv b102, .val .null, .val .null, rv b586, .unset, .unset, .unset] [(.ref b602), (.ref b602)])) _
        refine XS.aload X602.here hx rfl (hb hby at_120) rfl rfl ?_
        show Steps p.tables e below (T602.setTop (mkF m 122 #[iv p0, iv p1, iv p2, iv p3, iv p4, rv b102, .val .null, .val .null, rv b586, .unset, .unset, .unset] [.null, (.ref b602), (.ref b602)])) _
        refine XS.iloadN X602.here hx rfl (hb hby at_122) rfl ?_
        show Steps p.tables e below (T602.setTop (mkF m 123 #[iv p0, iv p1, iv p2, iv p3, iv p4, rv b102, .val .null, .val .null, rv b586, .unset, .unset, .unset] [(.int p3), .null, (.ref b602), (.ref b602)])) _
        exact kont
      have ge609 : n0 ≤ b602 := Nat.le_trans (own_old_le O595) (Nat.le_of_eq gb602.symm)
      obtain ⟨_, _, ⟨T608, L608, k608, n608⟩, -, X608, ⟨Lc608, hQ608, l608, y608, z608⟩, st608⟩ := X602.specialBack hx (y := (⟨"com/example/subsume/subsume/engine/Individual", "<init>", "(Ljava/lang/String;I)V"⟩ : MethodName)) rfl hown (mvT hZ (hw _ (List.mem_of_getElem? (i := 47) rfl))) (mvT hZ (hw _ (List.mem_of_getElem? (i := 48) rfl))) (mvT hZ (hw _ (List.mem_of_getElem? (i := 49) rfl))) (by decide) (backOf (W := 1) (rm_indI l Z a0 hw [] b602 .null p3 h602 n0 O603 (rfl) y604 y605 A602 ge609) hZ (hw _ (List.mem_of_getElem? (i := 49) rfl)) (hw _ (List.mem_of_getElem? (i := 46) rfl)) (by decide) (by decide)) (g := (mkF m 123 #[iv p0, iv p1, iv p2, iv p3, iv p4, rv b102, .val .null, .val .null, rv b586, .unset, .unset, .unset] [(.int p3), .null, (.ref b602), (.ref b602)])) rfl (by rw [hml]; rfl) (Steps.refl _) (a := b602) (argsL := [.null, (.int p3)]) (rest := [(.ref b602)]) (lenOf pd_13 rfl) rfl (by show 2 * 0 + _ ≤ _; exact Nat.le_of_eq rfl) (hb hby at_123) (fun _ _ => ⟨rfl, e602, (by decide : 3 + 0 ≤ _), (by decide : 6 + 0 ≤ _)⟩)
      dsimp only [Pt.U, Pt.locs, Pt.cells, Pt.slots] at X608 l608 y608 z608 st608 hQ608
      subst l608 y608 z608
      obtain ⟨rfl, M608, K608, y610⟩ := hQ608
      have N608 := Fr.app N592 M608
      have O611 := O603.keep K608 (allS ge609 all0)
      have g612 : Go p e below T608 (mkF m 126 #[iv p0, iv p1, iv p2, iv p3, iv p4, rv b102, .val .null, .val .null, rv b586, .unset, .unset, .unset] [(.ref b602)]) A0 := fun t kont => g607 t (st608.trans kont)
      have g613 : Go p e below T608 (mkF m 128 #[iv p0, iv p1, iv p2, iv p3, iv p4, rv b102, .val .null, .val .null, rv b586, rv b602, .unset, .unset] []) A0 := by
        intro t kont
        refine g612 t ?_
        refine XS.astore X608.here hx rfl (hb hby at_126) rfl rfl (l' := #[iv p0, iv p1, iv p2, iv p3, iv p4, rv b102, .val .null, .val .null, rv b586, rv b602, .unset, .unset]) rfl ?_
        show Steps p.tables e below (T608.setTop (mkF m 128 #[iv p0, iv p1, iv p2, iv p3, iv p4, rv b102, .val .null, .val .null, rv b586, rv b602, .unset, .unset] [])) _
        exact kont
      obtain ⟨T614, h614, X614, e614, E614, A614, D614, -, st614⟩ := newO X608 hx hZ hown (hw _ (List.mem_of_getElem? (i := 55) rfl)) (hw _ (List.mem_of_getElem? (i := 56) rfl)) (hw _ (List.mem_of_getElem? (i := 57) rfl)) rfl (g := (mkF m 128 #[iv p0, iv p1, iv p2, iv p3, iv p4, rv b102, .val .null, .val .null, rv b586, rv b602, .unset, .unset] [])) rfl (hb hby at_128) (by decide) (by decide)
      obtain ⟨b614, gb614⟩ : ∃ z, z = T608.heap.size := ⟨_, rfl⟩
      rw [← gb614] at A614 D614 st614
      have O615 := O611.ext E614
      have y616 : Fld Z h614 b614 "com/example/subsume/subsume/engine/IndividualEquality" "individual" "Lcom/example/subsume/subsume/engine/Individual;" .null := D614 (Or.inr (hw _ (List.mem_of_getElem? (i := 68) rfl))) (ty := (.object "com/example/subsume/subsume/engine/Individual")) (by decide)
      have y617 : Fld Z h614 b614 "com/example/subsume/subsume/engine/IndividualEquality" "other" "Lcom/example/subsume/subsume/engine/Individual;" .null := D614 (Or.inr (hw _ (List.mem_of_getElem? (i := 70) rfl))) (ty := (.object "com/example/subsume/subsume/engine/Individual")) (by decide)
      have g618 : Go p e below T614 (mkF m 131 #[iv p0, iv p1, iv p2, iv p3, iv p4, rv b102, .val .null, .val .null, rv b586, rv b602, .unset, .unset] [(.ref b614)]) A0 := fun t kont => g613 t (st614 t kont)
      have g619 : Go p e below T614 (mkF m 136 #[iv p0, iv p1, iv p2, iv p3, iv p4, rv b102, .val .null, .val .null, rv b586, rv b602, .unset, .unset] [(.ref b602), (.ref b586), (.ref b614), (.ref b614)]) A0 := by
        intro t kont
        refine g618 t ?_
        refine XS.dup X614.here hx rfl (hb hby at_131) rfl rfl ?_
        show Steps p.tables e below (T614.setTop (mkF m 132 #[iv p0, iv p1, iv p2, iv p3, iv p4, rv b102, .val .null, .val .null, rv b586, rv b602, .unset, .unset] [(.ref b614), (.ref b614)])) _
        refine XS.aload X614.here hx rfl (hb hby at_132) rfl rfl ?_
        show Steps p.tables e below (T614.setTop (mkF m 134 #[iv p0, iv p1, iv p2, iv p3, iv p4, rv b102, .val .null, .val .null, rv b586, rv b602, .unset, .unset] [(.ref b586), (.ref b614), (.ref b614)])) _
        refine XS.aload X614.here hx rfl (hb hby at_134) rfl rfl ?_
        show Steps p.tables e below (T614.setTop (mkF m 136 #[iv p0, iv p1, iv p2, iv p3, iv p4, rv b102, .val .null, .val .null, rv b586, rv b602, .unset, .unset] [(.ref b602), (.ref b586), (.ref b614), (.ref b614)])) _
        exact kont
      have ge621 : n0 ≤ b614 := Nat.le_trans (own_old_le O611) (Nat.le_of_eq gb614.symm)
      obtain ⟨_, _, ⟨T620, L620, k620, n620⟩, -, X620, ⟨Lc620, hQ620, l620, y620, z620⟩, st620⟩ := X614.specialBack hx (y := (⟨"com/example/subsume/subsume/engine/IndividualEquality", "<init>", "(Lcom/example/subsume/subsume/engine/Individual;Lcom/example/subsume/subsume/engine/Individual;)V"⟩ : MethodName)) rfl hown (mvT hZ (hw _ (List.mem_of_getElem? (i := 58) rfl))) (mvT hZ (hw _ (List.mem_of_getElem? (i := 59) rfl))) (mvT hZ (hw _ (List.mem_of_getElem? (i := 60) rfl))) (by decide) (backOf (W := 1) (rm_relI l Z a0 hw [] b614 b586 b602 h614 n0 O615 y616 y617 A614 ge621) hZ (hw _ (List.mem_of_getElem? (i := 60) rfl)) (hw _ (List.mem_of_getElem? (i := 57) rfl)) (by decide) (by decide)) (g := (mkF m 136 #[iv p0, iv p1, iv p2, iv p3, iv p4, rv b102, .val .null, .val .null, rv b586, rv b602, .unset, .unset] [(.ref b602), (.ref b586), (.ref b614), (.ref b614)])) rfl (by rw [hml]; rfl) (Steps.refl _) (a := b614) (argsL := [(.ref b586), (.ref b602)]) (rest := [(.ref b614)]) (lenOf pd_14 rfl) rfl (by show 2 * 0 + _ ≤ _; exact Nat.le_of_eq rfl) (hb hby at_136) (fun _ _ => ⟨rfl, e614, (by decide : 4 + 0 ≤ _), (by decide : 8 + 0 ≤ _)⟩)
      dsimp only [Pt.U, Pt.locs, Pt.cells, Pt.slots] at X620 l620 y620 z620 st620 hQ620
      subst l620 y620 z620
      obtain ⟨rfl, M620, K620, y622, y623, y624⟩ := hQ620
      have N620 := Fr.app N608 M620
      have O625 := O615.keep K620 (allS ge621 all0)
      have g626 : Go p e below T620 (mkF m 139 #[iv p0, iv p1, iv p2, iv p3, iv p4, rv b102, .val .null, .val .null, rv b586, rv b602, .unset, .unset] [(.ref b614)]) A0 := fun t kont => g619 t (st620.trans kont)
      have g627 : Go p e below T620 (mkF m 143 #[iv p0, iv p1, iv p2, iv p3, iv p4, rv b102, .val .null, .val .null, rv b586, rv b602, rv b614, .unset] [(.ref b614)]) A0 := by
        intro t kont
        refine g626 t ?_
        refine XS.astore X620.here hx rfl (hb hby at_139) rfl rfl (l' := #[iv p0, iv p1, iv p2, iv p3, iv p4, rv b102, .val .null, .val .null, rv b586, rv b602, rv b614, .unset]) rfl ?_
        show Steps p.tables e below (T620.setTop (mkF m 141 #[iv p0, iv p1, iv p2, iv p3, iv p4, rv b102, .val .null, .val .null, rv b586, rv b602, rv b614, .unset] [])) _
        refine XS.aload X620.here hx rfl (hb hby at_141) rfl rfl ?_
        show Steps p.tables e below (T620.setTop (mkF m 143 #[iv p0, iv p1, iv p2, iv p3, iv p4, rv b102, .val .null, .val .null, rv b586, rv b602, rv b614, .unset] [(.ref b614)])) _
        exact kont
      obtain ⟨cq628, kq628, q628a, q628b, q628c⟩ := isOf hZ rfl y622
      obtain ⟨_, _, ⟨T628, L628, k628, n628⟩, -, X628, ⟨Lc628, hQ628, l628, y628, z628⟩, st628⟩ := X620.virtualBack hx (y := (⟨"com/example/subsume/subsume/engine/IndividualEquality", "individuals", "()Ljava/util/List;"⟩ : MethodName)) (z := (⟨"com/example/subsume/subsume/engine/IndividualEquality", "individuals", "()Ljava/util/List;"⟩ : MethodName)) hown (mvT hZ (hw _ (List.mem_of_getElem? (i := 71) rfl))) (mvT hZ (hw _ (List.mem_of_getElem? (i := 72) rfl))) (notFace_of_selects (args := #[]) (mvT hZ (hw _ (List.mem_of_getElem? (i := 74) rfl)))) (mvT hZ (hw _ (List.mem_of_getElem? (i := 74) rfl))) (mvT hZ (hw _ (List.mem_of_getElem? (i := 73) rfl))) (by decide) (backOf (W := 0) (rm_inds l Z a0 hw [] b614 b586 b602 T620.heap n0 O625 y623 y624) hZ (hw _ (List.mem_of_getElem? (i := 75) rfl)) (hw _ (List.mem_of_getElem? (i := 57) rfl)) (by decide) (by decide)) q628a q628c (g := (mkF m 143 #[iv p0, iv p1, iv p2, iv p3, iv p4, rv b102, .val .null, .val .null, rv b586, rv b602, rv b614, .unset] [(.ref b614)])) rfl (by rw [hml]; rfl) (Steps.refl _) (argsL := []) (rest := []) (lenOf pd_15 rfl) rfl (by show 2 * 0 + _ ≤ _; exact Nat.le_of_eq rfl) (hb hby at_143) (fun _ _ => ⟨rfl, rfl, (by decide : 4 + 1 ≤ _), (by decide : 8 + 2 ≤ _)⟩)
      dsimp only [Pt.U, Pt.locs, Pt.cells, Pt.slots] at X628 l628 y628 z628 st628 hQ628
      subst l628 y628 z628
      obtain ⟨r629, rfl, M628, K628, y630, y631, y632, y633⟩ := hQ628
      have N628 := Fr.app N620 M628
      have O634 := O625.keep K628 all0
      have g635 : Go p e below T628 (mkF m 146 #[iv p0, iv p1, iv p2, iv p3, iv p4, rv b102, .val .null, .val .null, rv b586, rv b602, rv b614, .unset] [(.ref r629)]) A0 := fun t kont => g627 t (st628.trans kont)
      have g636 : Go p e below T628 (mkF m 150 #[iv p0, iv p1, iv p2, iv p3, iv p4, rv b102, .val .null, .val .null, rv b586, rv b602, rv b614, rv r629] [(.ref r629)]) A0 := by
        intro t kont
        refine g635 t ?_
        refine XS.astore X628.here hx rfl (hb hby at_146) rfl rfl (l' := #[iv p0, iv p1, iv p2, iv p3, iv p4, rv b102, .val .null, .val .null, rv b586, rv b602, rv b614, rv r629]) rfl ?_
        show Steps p.tables e below (T628.setTop (mkF m 148 #[iv p0, iv p1, iv p2, iv p3, iv p4, rv b102, .val .null, .val .null, rv b586, rv b602, rv b614, rv r629] [])) _
        refine XS.aload X628.here hx rfl (hb hby at_148) rfl rfl ?_
        show Steps p.tables e below (T628.setTop (mkF m 150 #[iv p0, iv p1, iv p2, iv p3, iv p4, rv b102, .val .null, .val .null, rv b586, rv b602, rv b614, rv r629] [(.ref r629)])) _
        exact kont
      obtain ⟨cq637, kq637, q637a, q637b, q637c⟩ := isOf hZ rfl y631
      obtain ⟨_, _, ⟨T637, L637, k637, n637⟩, -, X637, ⟨Lc637, hQ637, l637, y637, z637⟩, st637⟩ := X628.interfaceBack hx (xi := (⟨"java/util/List", "size", "()I"⟩ : MethodName)) (y := (⟨"java/util/ImmutableCollections$List12", "size", "()I"⟩ : MethodName)) hown (mvT hZ (hw _ (List.mem_of_getElem? (i := 114) rfl))) (mvT hZ (hw _ (List.mem_of_getElem? (i := 115) rfl))) (mvT hZ (hw _ (List.mem_of_getElem? (i := 116) rfl))) (mvT hZ (hw _ (List.mem_of_getElem? (i := 117) rfl))) (mvT hZ (hw _ (List.mem_of_getElem? (i := 118) rfl))) (mvT hZ (hw _ (List.mem_of_getElem? (i := 119) rfl))) (mvT hZ (hw _ (List.mem_of_getElem? (i := 120) rfl))) (mvT hZ (hw _ (List.mem_of_getElem? (i := 121) rfl))) (by decide) (backOf (W := 0) (rm_siz l Z a0 hw [] r629 b602 w_EMPTY T628.heap n0 O634 y633 S1_ (Ne.symm (O634.ne ZE3_.lt ge609))) hZ (hw _ (List.mem_of_getElem? (i := 122) rfl)) (hw _ (List.mem_of_getElem? (i := 82) rfl)) (by decide) (by decide)) q637a q637b q637c (g := (mkF m 150 #[iv p0, iv p1, iv p2, iv p3, iv p4, rv b102, .val .null, .val .null, rv b586, rv b602, rv b614, rv r629] [(.ref r629)])) rfl (by rw [hml]; rfl) (Steps.refl _) (argsL := []) (rest := []) (lenOf pd_16 rfl) rfl (by show 2 * 0 + _ ≤ _; exact Nat.le_of_eq rfl) (hb hby at_150) (fun _ _ => ⟨rfl, rfl, (by decide : 5 + 0 ≤ _), (by decide : 10 + 0 ≤ _)⟩)
      dsimp only [Pt.U, Pt.locs, Pt.cells, Pt.slots] at X637 l637 y637 z637 st637 hQ637
      subst l637 y637 z637
      obtain ⟨rfl, M637, e637⟩ := hQ637
      have N637 := Fr.app N628 M637
      have g638 : Go p e below T637 (mkF m 155 #[iv p0, iv p1, iv p2, iv p3, iv p4, rv b102, .val .null, .val .null, rv b586, rv b602, rv b614, rv r629] [(.int (2 : Int32))]) A0 := fun t kont => g636 t (st637.trans kont)
      have g639 : Go p e below T637 (mkF m 164 #[iv p0, iv p1, iv p2, iv p3, iv p4, rv b102, .val .null, .val .null, rv b586, rv b602, rv b614, rv r629] [(.int (0 : Int32)), (.ref r629)]) A0 := by
        intro t kont
        refine g638 t ?_
        refine XS.iconst X637.here hx rfl (hb hby at_155) ?_
        show Steps p.tables e below (T637.setTop (mkF m 156 #[iv p0, iv p1, iv p2, iv p3, iv p4, rv b102, .val .null, .val .null, rv b586, rv b602, rv b614, rv r629] [(.int (2 : Int32)), (.int (2 : Int32))])) _
        refine XS.icmpYes X637.here hx rfl (pc0 := 156) (pc' := 161) rfl (hb hby at_156) rfl (teq (by decide : (2 : Int32) = (2 : Int32))).1 (by decide) (by decide) ?_
        show Steps p.tables e below (T637.setTop (mkF m 161 #[iv p0, iv p1, iv p2, iv p3, iv p4, rv b102, .val .null, .val .null, rv b586, rv b602, rv b614, rv r629] [])) _
        refine XS.aload X637.here hx rfl (hb hby at_161) rfl rfl ?_
        show Steps p.tables e below (T637.setTop (mkF m 163 #[iv p0, iv p1, iv p2, iv p3, iv p4, rv b102, .val .null, .val .null, rv b586, rv b602, rv b614, rv r629] [(.ref r629)])) _
        refine XS.iconst X637.here hx rfl (hb hby at_163) ?_
        show Steps p.tables e below (T637.setTop (mkF m 164 #[iv p0, iv p1, iv p2, iv p3, iv p4, rv b102, .val .null, .val .null, rv b586, rv b602, rv b614, rv r629] [(.int (0 : Int32)), (.ref r629)])) _
        exact kont
      obtain ⟨cq640, kq640, q640a, q640b, q640c⟩ := isOf hZ e637 y631
      obtain ⟨_, _, ⟨T640, L640, k640, n640⟩, -, X640, ⟨Lc640, hQ640, l640, y640, z640⟩, st640⟩ := X637.interfaceBack hx (xi := (⟨"java/util/List", "get", "(I)Ljava/lang/Object;"⟩ : MethodName)) (y := (⟨"java/util/ImmutableCollections$List12", "get", "(I)Ljava/lang/Object;"⟩ : MethodName)) hown (mvT hZ (hw _ (List.mem_of_getElem? (i := 125) rfl))) (mvT hZ (hw _ (List.mem_of_getElem? (i := 126) rfl))) (mvT hZ (hw _ (List.mem_of_getElem? (i := 127) rfl))) (mvT hZ (hw _ (List.mem_of_getElem? (i := 128) rfl))) (mvT hZ (hw _ (List.mem_of_getElem? (i := 129) rfl))) (mvT hZ (hw _ (List.mem_of_getElem? (i := 130) rfl))) (mvT hZ (hw _ (List.mem_of_getElem? (i := 131) rfl))) (mvT hZ (hw _ (List.mem_of_getElem? (i := 121) rfl))) (by decide) (backOf (W := 0) (rm_get0 l Z a0 hw [] r629 b586 T628.heap n0 O634 y632) hZ (hw _ (List.mem_of_getElem? (i := 132) rfl)) (hw _ (List.mem_of_getElem? (i := 82) rfl)) (by decide) (by decide)) q640a q640b q640c (g := (mkF m 164 #[iv p0, iv p1, iv p2, iv p3, iv p4, rv b102, .val .null, .val .null, rv b586, rv b602, rv b614, rv r629] [(.int (0 : Int32)), (.ref r629)])) rfl (by rw [hml]; rfl) (Steps.refl _) (argsL := [(.int (0 : Int32))]) (rest := []) (lenOf pd_17 rfl) rfl (by show 2 * 0 + _ ≤ _; exact Nat.le_of_eq rfl) (hb hby at_164) (fun _ _ => ⟨rfl, e637, (by decide : 5 + 0 ≤ _), (by decide : 10 + 0 ≤ _)⟩)
      dsimp only [Pt.U, Pt.locs, Pt.cells, Pt.slots] at X640 l640 y640 z640 st640 hQ640
      subst l640 y640 z640
      obtain ⟨rfl, M640, e640⟩ := hQ640
      have N640 := Fr.app N637 M640
      have g641 : Go p e below T640 (mkF m 169 #[iv p0, iv p1, iv p2, iv p3, iv p4, rv b102, .val .null, .val .null, rv b586, rv b602, rv b614, rv r629] [(.ref b586)]) A0 := fun t kont => g639 t (st640.trans kont)
      have g642 : Go p e below T640 (mkF m 177 #[iv p0, iv p1, iv p2, iv p3, iv p4, rv b102, .val .null, .val .null, rv b586, rv b602, rv b614, rv r629] [(.int (1 : Int32)), (.ref r629)]) A0 := by
        intro t kont
        refine g641 t ?_
        refine XS.aload X640.here hx rfl (hb hby at_169) rfl rfl ?_
        show Steps p.tables e below (T640.setTop (mkF m 171 #[iv p0, iv p1, iv p2, iv p3, iv p4, rv b102, .val .null, .val .null, rv b586, rv b602, rv b614, rv r629] [(.ref b586), (.ref b586)])) _
        refine Jvm.RoadKit.acmp (g := (mkF m 171 #[iv p0, iv p1, iv p2, iv p3, iv p4, rv b102, .val .null, .val .null, rv b586, rv b602, rv b614, rv r629] [(.ref b586), (.ref b586)])) X640 hx rfl rfl rfl (pc0 := 171) (pc' := 174) (same := true) rfl (hb hby at_171) rfl (decide_eq_true rfl) (by decide) (by decide) ?_
        show Steps p.tables e below (T640.setTop (mkF m 174 #[iv p0, iv p1, iv p2, iv p3, iv p4, rv b102, .val .null, .val .null, rv b586, rv b602, rv b614, rv r629] [])) _
        refine XS.aload X640.here hx rfl (hb hby at_174) rfl rfl ?_
        show Steps p.tables e below (T640.setTop (mkF m 176 #[iv p0, iv p1, iv p2, iv p3, iv p4, rv b102, .val .null, .val .null, rv b586, rv b602, rv b614, rv r629] [(.ref r629)])) _
        refine XS.iconst X640.here hx rfl (hb hby at_176) ?_
        show Steps p.tables e below (T640.setTop (mkF m 177 #[iv p0, iv p1, iv p2, iv p3, iv p4, rv b102, .val .null, .val .null, rv b586, rv b602, rv b614, rv r629] [(.int (1 : Int32)), (.ref r629)])) _
        exact kont
      obtain ⟨cq643, kq643, q643a, q643b, q643c⟩ := isOf hZ e640 y631
      obtain ⟨_, _, ⟨T643, L643, k643, n643⟩, -, X643, ⟨Lc643, hQ643, l643, y643, z643⟩, st643⟩ := X640.interfaceBack hx (xi := (⟨"java/util/List", "get", "(I)Ljava/lang/Object;"⟩ : MethodName)) (y := (⟨"java/util/ImmutableCollections$List12", "get", "(I)Ljava/lang/Object;"⟩ : MethodName)) hown (mvT hZ (hw _ (List.mem_of_getElem? (i := 125) rfl))) (mvT hZ (hw _ (List.mem_of_getElem? (i := 126) rfl))) (mvT hZ (hw _ (List.mem_of_getElem? (i := 127) rfl))) (mvT hZ (hw _ (List.mem_of_getElem? (i := 128) rfl))) (mvT hZ (hw _ (List.mem_of_getElem? (i := 129) rfl))) (mvT hZ (hw _ (List.mem_of_getElem? (i := 130) rfl))) (mvT hZ (hw _ (List.mem_of_getElem? (i := 131) rfl))) (mvT hZ (hw _ (List.mem_of_getElem? (i := 121) rfl))) (by decide) (backOf (W := 0) (rm_get1 l Z a0 hw [] r629 b602 w_EMPTY T628.heap n0 O634 y633 S1_ (Ne.symm (O634.ne ZE3_.lt ge609))) hZ (hw _ (List.mem_of_getElem? (i := 132) rfl)) (hw _ (List.mem_of_getElem? (i := 82) rfl)) (by decide) (by decide)) q643a q643b q643c (g := (mkF m 177 #[iv p0, iv p1, iv p2, iv p3, iv p4, rv b102, .val .null, .val .null, rv b586, rv b602, rv b614, rv r629] [(.int (1 : Int32)), (.ref r629)])) rfl (by rw [hml]; rfl) (Steps.refl _) (argsL := [(.int (1 : Int32))]) (rest := []) (lenOf pd_17 rfl) rfl (by show 2 * 0 + _ ≤ _; exact Nat.le_of_eq rfl) (hb hby at_177) (fun _ _ => ⟨rfl, e640, (by decide : 5 + 0 ≤ _), (by decide : 10 + 0 ≤ _)⟩)
      dsimp only [Pt.U, Pt.locs, Pt.cells, Pt.slots] at X643 l643 y643 z643 st643 hQ643
      subst l643 y643 z643
      obtain ⟨rfl, M643, e643⟩ := hQ643
      have N643 := Fr.app N640 M643
      have g644 : Go p e below T643 (mkF m 182 #[iv p0, iv p1, iv p2, iv p3, iv p4, rv b102, .val .null, .val .null, rv b586, rv b602, rv b614, rv r629] [(.ref b602)]) A0 := fun t kont => g642 t (st643.trans kont)
      have g645 : Go p e below T643 (mkF m 192 #[iv p0, iv p1, iv p2, iv p3, iv p4, rv b102, .val .null, .val .null, rv b586, rv b602, rv b614, rv r629] [(.int (1 : Int32))]) A0 := by
        intro t kont
        refine g644 t ?_
        refine XS.aload X643.here hx rfl (hb hby at_182) rfl rfl ?_
        show Steps p.tables e below (T643.setTop (mkF m 184 #[iv p0, iv p1, iv p2, iv p3, iv p4, rv b102, .val .null, .val .null, rv b586, rv b602, rv b614, rv r629] [(.ref b602), (.ref b602)])) _
        refine Jvm.RoadKit.acmp (g := (mkF m 184 #[iv p0, iv p1, iv p2, iv p3, iv p4, rv b102, .val .null, .val .null, rv b586, rv b602, rv b614, rv r629] [(.ref b602), (.ref b602)])) X643 hx rfl rfl rfl (pc0 := 184) (pc' := 187) (same := true) rfl (hb hby at_184) rfl (decide_eq_true rfl) (by decide) (by decide) ?_
        show Steps p.tables e below (T643.setTop (mkF m 187 #[iv p0, iv p1, iv p2, iv p3, iv p4, rv b102, .val .null, .val .null, rv b586, rv b602, rv b614, rv r629] [])) _
        refine XS.iconst X643.here hx rfl (hb hby at_187) ?_
        show Steps p.tables e below (T643.setTop (mkF m 188 #[iv p0, iv p1, iv p2, iv p3, iv p4, rv b102, .val .null, .val .null, rv b586, rv b602, rv b614, rv r629] [(.int (1 : Int32))])) _
        refine XS.goto X643.here hx rfl (pc0 := 188) (pc' := 192) rfl (hb hby at_188) (by decide) (by decide) ?_
        show Steps p.tables e below (T643.setTop (mkF m 192 #[iv p0, iv p1, iv p2, iv p3, iv p4, rv b102, .val .null, .val .null, rv b586, rv b602, rv b614, rv r629] [(.int (1 : Int32))])) _
        exact kont
      obtain ⟨fs, hr, hrun, hended, hW, hsame⟩ := X643.leave (v := some (.int (1 : Int32))) (fun h => by rw [Bd.returns] at h; cases h)
      refine ⟨_, _, g645 _ (retN X643 hx (t := .boolean) Bd.returns (by simp) (hb hby at_192) hr), hrun, hended, _, _, rfl, ?_, ⟨_, rfl⟩, hW, hsame.mono (by decide) (by decide)⟩
      show Q_law Z p0 p1 p2 p3 p4 i_COMPACT_STRINGS w_EMPTY h0 n0 _ T643.heap _
      rw [e643]
      exact ⟨rfl, N643⟩
    have g646 : Go p e below T592 (mkF m 101 #[iv p0, iv p1, iv p2, iv p3, iv p4, rv b102, .val .null, .val .null, rv b586, .unset, .unset, .unset] []) A0 := by
      intro t kont
      refine g600 t ?_
      refine XS.ifNo X592.here hx rfl (hb hby at_98) rfl ((if0 _ _).trans (feq c599).1) ?_
      show Steps p.tables e below (T592.setTop (mkF m 101 #[iv p0, iv p1, iv p2, iv p3, iv p4, rv b102, .val .null, .val .null, rv b586, .unset, .unset, .unset] [])) _
      exact kont
    obtain ⟨T647, h647, X647, e647, E647, A647, D647, -, st647⟩ := newO X592 hx hZ hown (hw _ (List.mem_of_getElem? (i := 44) rfl)) (hw _ (List.mem_of_getElem? (i := 45) rfl)) (hw _ (List.mem_of_getElem? (i := 46) rfl)) rfl (g := (mkF m 101 #[iv p0, iv p1, iv p2, iv p3, iv p4, rv b102, .val .null, .val .null, rv b586, .unset, .unset, .unset] [])) rfl (hb hby at_101) (by decide) (by decide)
    obtain ⟨b647, gb647⟩ : ∃ z, z = T592.heap.size := ⟨_, rfl⟩
    rw [← gb647] at A647 D647 st647
    have O648 := O595.ext E647
    have y649 : Fld Z h647 b647 "com/example/subsume/subsume/engine/Individual" "name" "Ljava/lang/String;" .null := D647 (Or.inr (hw _ (List.mem_of_getElem? (i := 52) rfl))) (ty := (.object "java/lang/String")) (by decide)
    have y650 : Fld Z h647 b647 "com/example/subsume/subsume/engine/Individual" "id" "I" (.int (0 : Int32)) := D647 (Or.inr (hw _ (List.mem_of_getElem? (i := 54) rfl))) (ty := .int) (by decide)
    have g651 : Go p e below T647 (mkF m 104 #[iv p0, iv p1, iv p2, iv p3, iv p4, rv b102, .val .null, .val .null, rv b586, .unset, .unset, .unset] [(.ref b647)]) A0 := fun t kont => g646 t (st647 t kont)
    have g652 : Go p e below T647 (mkF m 108 #[iv p0, iv p1, iv p2, iv p3, iv p4, rv b102, .val .null, .val .null, rv b586, .unset, .unset, .unset] [(.int p2), .null, (.ref b647), (.ref b647)]) A0 := by
      intro t kont
      refine g651 t ?_
      refine XS.dup X647.here hx rfl (hb hby at_104) rfl rfl ?_
      show Steps p.tables e below (T647.setTop (mkF m 105 #[iv p0, iv p1, iv p2, iv p3, iv p4, rv b102, .val .null, .val .null, rv b586, .unset, .unset, .unset] [(.ref b647), (.ref b647)])) _
      refine XS.aload X647.here hx rfl (hb hby at_105) rfl rfl ?_
      show Steps p.tables e below (T647.setTop (mkF m 107 #[iv p0, iv p1, iv p2, iv p3, iv p4, rv b102, .val .null, .val .null, rv b586, .unset, .unset, .unset] [.null, (.ref b647), (.ref b647)])) _
      refine XS.iloadN X647.here hx rfl (hb hby at_107) rfl ?_
      show Steps p.tables e below (T647.setTop (mkF m 108 #[iv p0, iv p1, iv p2, iv p3, iv p4, rv b102, .val .null, .val .null, rv b586, .unset, .unset, .unset] [(.int p2), .null, (.ref b647), (.ref b647)])) _
      exact kont
    have ge654 : n0 ≤ b647 := Nat.le_trans (own_old_le O595) (Nat.le_of_eq gb647.symm)
    obtain ⟨_, _, ⟨T653, L653, k653, n653⟩, -, X653, ⟨Lc653, hQ653, l653, y653, z653⟩, st653⟩ := X647.specialBack hx (y := (⟨"com/example/subsume/subsume/engine/Individual", "<init>", "(Ljava/lang/String;I)V"⟩ : MethodName)) rfl hown (mvT hZ (hw _ (List.mem_of_getElem? (i := 47) rfl))) (mvT hZ (hw _ (List.mem_of_getElem? (i := 48) rfl))) (mvT hZ (hw _ (List.mem_of_getElem? (i := 49) rfl))) (by decide) (backOf (W := 1) (rm_indI l Z a0 hw [] b647 .null p2 h647 n0 O648 (rfl) y649 y650 A647 ge654) hZ (hw _ (List.mem_of_getElem? (i := 49) rfl)) (hw _ (List.mem_of_getElem? (i := 46) rfl)) (by decide) (by decide)) (g := (mkF m 108 #[iv p0, iv p1, iv p2, iv p3, iv p4, rv b102, .val .null, .val .null, rv b586, .unset, .unset, .unset] [(.int p2), .null, (.ref b647), (.ref b647)])) rfl (by rw [hml]; rfl) (Steps.refl _) (a := b647) (argsL := [.null, (.int p2)]) (rest := [(.ref b647)]) (lenOf pd_13 rfl) rfl (by show 2 * 0 + _ ≤ _; exact Nat.le_of_eq rfl) (hb hby at_108) (fun _ _ => ⟨rfl, e647, (by decide : 3 + 0 ≤ _), (by decide : 6 + 0 ≤ _)⟩)
    dsimp only [Pt.U, Pt.locs, Pt.cells, Pt.slots] at X653 l653 y653 z653 st653 hQ653
    subst l653 y653 z653
    obtain ⟨rfl, M653, K653, y655⟩ := hQ653
    have N653 := Fr.app N592 M653
    have O656 := O648.keep K653 (allS ge654 all0)
    have g657 : Go p e below T653 (mkF m 111 #[iv p0, iv p1, iv p2, iv p3, iv p4, rv b102, .val .null, .val .null, rv b586, .unset, .unset, .unset] [(.ref b647)]) A0 := fun t kont => g652 t (st653.trans kont)
    have g658 : Go p e below T653 (mkF m 128 #[iv p0, iv p1, iv p2, iv p3, iv p4, rv b102, .val .null, .val .null, rv b586, rv b647, .unset, .unset] []) A0 := by
      intro t kont
      refine g657 t ?_
      refine XS.astore X653.here hx rfl (hb hby at_111) rfl rfl (l' := #[iv p0, iv p1, iv p2, iv p3, iv p4, rv b102, .val .null, .val .null, rv b586, rv b647, .unset, .unset]) rfl ?_
      show Steps p.tables e below (T653.setTop (mkF m 113 #[iv p0, iv p1, iv p2, iv p3, iv p4, rv b102, .val .null, .val .null, rv b586, rv b647, .unset, .unset] [])) _
      refine XS.goto X653.here hx rfl (pc0 := 113) (pc' := 128) rfl (hb hby at_113) (by decide) (by decide) ?_
      show Steps p.tables e below (T653.setTop (mkF m 128 #[iv p0, iv p1, iv p2, iv p3, iv p4, rv b102, .val .null, .val .null, rv b586, rv b647, .unset, .unset] [])) _
      exact kont
    obtain ⟨T659, h659, X659, e659, E659, A659, D659, -, st659⟩ := newO X653 hx hZ hown (hw _ (List.mem_of_getElem? (i := 55) rfl)) (hw _ (List.mem_of_getElem? (i := 56) rfl)) (hw _ (List.mem_of_getElem? (i := 57) rfl)) rfl (g := (mkF m 128 #[iv p0, iv p1, iv p2, iv p3, iv p4, rv b102, .val .null, .val .null, rv b586, rv b647, .unset, .unset] [])) rfl (hb hby at_128) (by decide) (by decide)
    obtain ⟨b659, gb659⟩ : ∃ z, z = T653.heap.size := ⟨_, rfl⟩
    rw [← gb659] at A659 D659 st659
    have O660 := O656.ext E659
    have y661 : Fld Z h659 b659 "com/example/subsume/subsume/engine/IndividualEquality" "individual" "Lcom/example/subsume/subsume/engine/Individual;" .null := D659 (Or.inr (hw _ (List.mem_of_getElem? (i := 68) rfl))) (ty := (.object "com/example/subsume/subsume/engine/Individual")) (by decide)
    have y662 : Fld Z h659 b659 "com/example/subsume/subsume/engine/IndividualEquality" "other" "Lcom/example/subsume/subsume/engine/Individual;" .null := D659 (Or.inr (hw _ (List.mem_of_getElem? (i := 70) rfl))) (ty := (.object "com/example/subsume/subsume/engine/Individual")) (by decide)
    have g663 : Go p e below T659 (mkF m 131 #[iv p0, iv p1, iv p2, iv p3, iv p4, rv b102, .val .null, .val .null, rv b586, rv b647, .unset, .unset] [(.ref b659)]) A0 := fun t kont => g658 t (st659 t kont)
    have g664 : Go p e below T659 (mkF m 136 #[iv p0, iv p1, iv p2, iv p3, iv p4, rv b102, .val .null, .val .null, rv b586, rv b647, .unset, .unset] [(.ref b647), (.ref b586), (.ref b659), (.ref b659)]) A0 := by
      intro t kont
      refine g663 t ?_
      refine XS.dup X659.here hx rfl (hb hby at_131) rfl rfl ?_
      show Steps p.tables e below (T659.setTop (mkF m 132 #[iv p0, iv p1, iv p2, iv p3, iv p4, rv b102, .val .null, .val .null, rv b586, rv b647, .unset, .unset] [(.ref b659), (.ref b659)])) _
      refine XS.aload X659.here hx rfl (hb hby at_132) rfl rfl ?_
      show Steps p.tables e below (T659.setTop (mkF m 134 #[iv p0, iv p1, iv p2, iv p3, iv p4, rv b102, .val .null, .val .null, rv b586, rv b647, .unset, .unset] [(.ref b586), (.ref b659), (.ref b659)])) _
      refine XS.aload X659.here hx rfl (hb hby at_134) rfl rfl ?_
      show Steps p.tables e below (T659.setTop (mkF m 136 #[iv p0, iv p1, iv p2, iv p3, iv p4, rv b102, .val .null, .val .null, rv b586, rv b647, .unset, .unset] [(.ref b647), (.ref b586), (.ref b659), (.ref b659)])) _
      exact kont
    have ge666 : n0 ≤ b659 := Nat.le_trans (own_old_le O656) (Nat.le_of_eq gb659.symm)
    obtain ⟨_, _, ⟨T665, L665, k665, n665⟩, -, X665, ⟨Lc665, hQ665, l665, y665, z665⟩, st665⟩ := X659.specialBack hx (y := (⟨"com/example/subsume/subsume/engine/IndividualEquality", "<init>", "(Lcom/example/subsume/subsume/engine/Individual;Lcom/example/subsume/subsume/engine/Individual;)V"⟩ : MethodName)) rfl hown (mvT hZ (hw _ (List.mem_of_getElem? (i := 58) rfl))) (mvT hZ (hw _ (List.mem_of_getElem? (i := 59) rfl))) (mvT hZ (hw _ (List.mem_of_getElem? (i := 60) rfl))) (by decide) (backOf (W := 1) (rm_relI l Z a0 hw [] b659 b586 b647 h659 n0 O660 y661 y662 A659 ge666) hZ (hw _ (List.mem_of_getElem? (i := 60) rfl)) (hw _ (List.mem_of_getElem? (i := 57) rfl)) (by decide) (by decide)) (g := (mkF m 136 #[iv p0, iv p1, iv p2, iv p3, iv p4, rv b102, .val .null, .val .null, rv b586, rv b647, .unset, .unset] [(.ref b647), (.ref b586), (.ref b659), (.ref b659)])) rfl (by rw [hml]; rfl) (Steps.refl _) (a := b659) (argsL := [(.ref b586), (.ref b647)]) (rest := [(.ref b659)]) (lenOf pd_14 rfl) rfl (by show 2 * 0 + _ ≤ _; exact Nat.le_of_eq rfl) (hb hby at_136) (fun _ _ => ⟨rfl, e659, (by decide : 4 + 0 ≤ _), (by decide : 8 + 0 ≤ _)⟩)
    dsimp only [Pt.U, Pt.locs, Pt.cells, Pt.slots] at X665 l665 y665 z665 st665 hQ665
    subst l665 y665 z665
    obtain ⟨rfl, M665, K665, y667, y668, y669⟩ := hQ665
    have N665 := Fr.app N653 M665
    have O670 := O660.keep K665 (allS ge666 all0)
    have g671 : Go p e below T665 (mkF m 139 #[iv p0, iv p1, iv p2, iv p3, iv p4, rv b102, .val .null, .val .null, rv b586, rv b647, .unset, .unset] [(.ref b659)]) A0 := fun t kont => g664 t (st665.trans kont)
    have g672 : Go p e below T665 (mkF m 143 #[iv p0, iv p1, iv p2, iv p3, iv p4, rv b102, .val .null, .val .null, rv b586, rv b647, rv b659, .unset] [(.ref b659)]) A0 := by
      intro t kont
      refine g671 t ?_
      refine XS.astore X665.here hx rfl (hb hby at_139) rfl rfl (l' := #[iv p0, iv p1, iv p2, iv p3, iv p4, rv b102, .val .null, .val .null, rv b586, rv b647, rv b659, .unset]) rfl ?_
      show Steps p.tables e below (T665.setTop (mkF m 141 #[iv p0, iv p1, iv p2, iv p3, iv p4, rv b102, .val .null, .val .null, rv b586, rv b647, rv b659, .unset] [])) _
      refine XS.aload X665.here hx rfl (hb hby at_141) rfl rfl ?_
      show Steps p.tables e below (T665.setTop (mkF m 143 #[iv p0, iv p1, iv p2, iv p3, iv p4, rv b102, .val .null, .val .null, rv b586, rv b647, rv b659, .unset] [(.ref b659)])) _
      exact kont
    obtain ⟨cq673, kq673, q673a, q673b, q673c⟩ := isOf hZ rfl y667
    obtain ⟨_, _, ⟨T673, L673, k673, n673⟩, -, X673, ⟨Lc673, hQ673, l673, y673, z673⟩, st673⟩ := X665.virtualBack hx (y := (⟨"com/example/subsume/subsume/engine/IndividualEquality", "individuals", "()Ljava/util/List;"⟩ : MethodName)) (z := (⟨"com/example/subsume/subsume/engine/IndividualEquality", "individuals", "()Ljava/util/List;"⟩ : MethodName)) hown (mvT hZ (hw _ (List.mem_of_getElem? (i := 71) rfl))) (mvT hZ (hw _ (List.mem_of_getElem? (i := 72) rfl))) (notFace_of_selects (args := #[]) (mvT hZ (hw _ (List.mem_of_getElem? (i := 74) rfl)))) (mvT hZ (hw _ (List.mem_of_getElem? (i := 74) rfl))) (mvT hZ (hw _ (List.mem_of_getElem? (i := 73) rfl))) (by decide) (backOf (W := 0) (rm_inds l Z a0 hw [] b659 b586 b647 T665.heap n0 O670 y668 y669) hZ (hw _ (List.mem_of_getElem? (i := 75) rfl)) (hw _ (List.mem_of_getElem? (i := 57) rfl)) (by decide) (by decide)) q673a q673c (g := (mkF m 143 #[iv p0, iv p1, iv p2, iv p3, iv p4, rv b102, .val .null, .val .null, rv b586, rv b647, rv b659, .unset] [(.ref b659)])) rfl (by rw [hml]; rfl) (Steps.refl _) (argsL := []) (rest := []) (lenOf pd_15 rfl) rfl (by show 2 * 0 + _ ≤ _; exact Nat.le_of_eq rfl) (hb hby at_143) (fun _ _ => ⟨rfl, rfl, (by decide : 4 + 1 ≤ _), (by decide : 8 + 2 ≤ _)⟩)
    dsimp only [Pt.U, Pt.locs, Pt.cells, Pt.slots] at X673 l673 y673 z673 st673 hQ673
    subst l673 y673 z673
    obtain ⟨r674, rfl, M673, K673, y675, y676, y677, y678⟩ := hQ673
    have N673 := Fr.app N665 M673
    have O679 := O670.keep K673 all0
    have g680 : Go p e below T673 (mkF m 146 #[iv p0, iv p1, iv p2, iv p3, iv p4, rv b102, .val .null, .val .null, rv b586, rv b647, rv b659, .unset] [(.ref r674)]) A0 := fun t kont => g672 t (st673.trans kont)
    have g681 : Go p e below T673 (mkF m 150 #[iv p0, iv p1, iv p2, iv p3, iv p4, rv b102, .val .null, .val .null, rv b586, rv b647, rv b659, rv r674] [(.ref r674)]) A0 := by
      intro t kont
      refine g680 t ?_
      refine XS.astore X673.here hx rfl (hb hby at_146) rfl rfl (l' := #[iv p0, iv p1, iv p2, iv p3, iv p4, rv b102, .val .null, .val .null, rv b586, rv b647, rv b659, rv r674]) rfl ?_
      show Steps p.tables e below (T673.setTop (mkF m 148 #[iv p0, iv p1, iv p2, iv p3, iv p4, rv b102, .val .null, .val .null, rv b586, rv b647, rv b659, rv r674] [])) _
      refine XS.aload X673.here hx rfl (hb hby at_148) rfl rfl ?_
      show Steps p.tables e below (T673.setTop (mkF m 150 #[iv p0, iv p1, iv p2, iv p3, iv p4, rv b102, .val .null, .val .null, rv b586, rv b647, rv b659, rv r674] [(.ref r674)])) _
      exact kont
    obtain ⟨cq682, kq682, q682a, q682b, q682c⟩ := isOf hZ rfl y676
    obtain ⟨_, _, ⟨T682, L682, k682, n682⟩, -, X682, ⟨Lc682, hQ682, l682, y682, z682⟩, st682⟩ := X673.interfaceBack hx (xi := (⟨"java/util/List", "size", "()I"⟩ : MethodName)) (y := (⟨"java/util/ImmutableCollections$List12", "size", "()I"⟩ : MethodName)) hown (mvT hZ (hw _ (List.mem_of_getElem? (i := 114) rfl))) (mvT hZ (hw _ (List.mem_of_getElem? (i := 115) rfl))) (mvT hZ (hw _ (List.mem_of_getElem? (i := 116) rfl))) (mvT hZ (hw _ (List.mem_of_getElem? (i := 117) rfl))) (mvT hZ (hw _ (List.mem_of_getElem? (i := 118) rfl))) (mvT hZ (hw _ (List.mem_of_getElem? (i := 119) rfl))) (mvT hZ (hw _ (List.mem_of_getElem? (i := 120) rfl))) (mvT hZ (hw _ (List.mem_of_getElem? (i := 121) rfl))) (by decide) (backOf (W := 0) (rm_siz l Z a0 hw [] r674 b647 w_EMPTY T673.heap n0 O679 y678 S1_ (Ne.symm (O679.ne ZE3_.lt ge654))) hZ (hw _ (List.mem_of_getElem? (i := 122) rfl)) (hw _ (List.mem_of_getElem? (i := 82) rfl)) (by decide) (by decide)) q682a q682b q682c (g := (mkF m 150 #[iv p0, iv p1, iv p2, iv p3, iv p4, rv b102, .val .null, .val .null, rv b586, rv b647, rv b659, rv r674] [(.ref r674)])) rfl (by rw [hml]; rfl) (Steps.refl _) (argsL := []) (rest := []) (lenOf pd_16 rfl) rfl (by show 2 * 0 + _ ≤ _; exact Nat.le_of_eq rfl) (hb hby at_150) (fun _ _ => ⟨rfl, rfl, (by decide : 5 + 0 ≤ _), (by decide : 10 + 0 ≤ _)⟩)
    dsimp only [Pt.U, Pt.locs, Pt.cells, Pt.slots] at X682 l682 y682 z682 st682 hQ682
    subst l682 y682 z682
    obtain ⟨rfl, M682, e682⟩ := hQ682
    have N682 := Fr.app N673 M682
    have g683 : Go p e below T682 (mkF m 155 #[iv p0, iv p1, iv p2, iv p3, iv p4, rv b102, .val .null, .val .null, rv b586, rv b647, rv b659, rv r674] [(.int (2 : Int32))]) A0 := fun t kont => g681 t (st682.trans kont)
    have g684 : Go p e below T682 (mkF m 164 #[iv p0, iv p1, iv p2, iv p3, iv p4, rv b102, .val .null, .val .null, rv b586, rv b647, rv b659, rv r674] [(.int (0 : Int32)), (.ref r674)]) A0 := by
      intro t kont
      refine g683 t ?_
      refine XS.iconst X682.here hx rfl (hb hby at_155) ?_
      show Steps p.tables e below (T682.setTop (mkF m 156 #[iv p0, iv p1, iv p2, iv p3, iv p4, rv b102, .val .null, .val .null, rv b586, rv b647, rv b659, rv r674] [(.int (2 : Int32)), (.int (2 : Int32))])) _
      refine XS.icmpYes X682.here hx rfl (pc0 := 156) (pc' := 161) rfl (hb hby at_156) rfl (teq (by decide : (2 : Int32) = (2 : Int32))).1 (by decide) (by decide) ?_
      show Steps p.tables e below (T682.setTop (mkF m 161 #[iv p0, iv p1, iv p2, iv p3, iv p4, rv b102, .val .null, .val .null, rv b586, rv b647, rv b659, rv r674] [])) _
      refine XS.aload X682.here hx rfl (hb hby at_161) rfl rfl ?_
      show Steps p.tables e below (T682.setTop (mkF m 163 #[iv p0, iv p1, iv p2, iv p3, iv p4, rv b102, .val .null, .val .null, rv b586, rv b647, rv b659, rv r674] [(.ref r674)])) _
      refine XS.iconst X682.here hx rfl (hb hby at_163) ?_
      show Steps p.tables e below (T682.setTop (mkF m 164 #[iv p0, iv p1, iv p2, iv p3, iv p4, rv b102, .val .null, .val .null, rv b586, rv b647, rv b659, rv r674] [(.int (0 : Int32)), (.ref r674)])) _
      exact kont
    obtain ⟨cq685, kq685, q685a, q685b, q685c⟩ := isOf hZ e682 y676
    obtain ⟨_, _, ⟨T685, L685, k685, n685⟩, -, X685, ⟨Lc685, hQ685, l685, y685, z685⟩, st685⟩ := X682.interfaceBack hx (xi := (⟨"java/util/List", "get", "(I)Ljava/lang/Object;"⟩ : MethodName)) (y := (⟨"java/util/ImmutableCollections$List12", "get", "(I)Ljava/lang/Object;"⟩ : MethodName)) hown (mvT hZ (hw _ (List.mem_of_getElem? (i := 125) rfl))) (mvT hZ (hw _ (List.mem_of_getElem? (i := 126) rfl))) (mvT hZ (hw _ (List.mem_of_getElem? (i := 127) rfl))) (mvT hZ (hw _ (List.mem_of_getElem? (i := 128) rfl))) (mvT hZ (hw _ (List.mem_of_getElem? (i := 129) rfl))) (mvT hZ (hw _ (List.mem_of_getElem? (i := 130) rfl))) (mvT hZ (hw _ (List.mem_of_getElem? (i := 131) rfl))) (mvT hZ (hw _ (List.mem_of_getElem? (i := 121) rfl))) (by decide) (backOf (W := 0) (rm_get0 l Z a0 hw [] r674 b586 T673.heap n0 O679 y677) hZ (hw _ (List.mem_of_getElem? (i := 132) rfl)) (hw _ (List.mem_of_getElem? (i := 82) rfl)) (by decide) (by decide)) q685a q685b q685c (g := (mkF m 164 #[iv p0, iv p1, iv p2, iv p3, iv p4, rv b102, .val .null, .val .null, rv b586, rv b647, rv b659, rv r674] [(.int (0 : Int32)), (.ref r674)])) rfl (by rw [hml]; rfl) (Steps.refl _) (argsL := [(.int (0 : Int32))]) (rest := []) (lenOf pd_17 rfl) rfl (by show 2 * 0 + _ ≤ _; exact Nat.le_of_eq rfl) (hb hby at_164) (fun _ _ => ⟨rfl, e682, (by decide : 5 + 0 ≤ _), (by decide : 10 + 0 ≤ _)⟩)
    dsimp only [Pt.U, Pt.locs, Pt.cells, Pt.slots] at X685 l685 y685 z685 st685 hQ685
    subst l685 y685 z685
    obtain ⟨rfl, M685, e685⟩ := hQ685
    have N685 := Fr.app N682 M685
    have g686 : Go p e below T685 (mkF m 169 #[iv p0, iv p1, iv p2, iv p3, iv p4, rv b102, .val .null, .val .null, rv b586, rv b647, rv b659, rv r674] [(.ref b586)]) A0 := fun t kont => g684 t (st685.trans kont)
    have g687 : Go p e below T685 (mkF m 177 #[iv p0, iv p1, iv p2, iv p3, iv p4, rv b102, .val .null, .val .null, rv b586, rv b647, rv b659, rv r674] [(.int (1 : Int32)), (.ref r674)]) A0 := by
      intro t kont
      refine g686 t ?_
      refine XS.aload X685.here hx rfl (hb hby at_169) rfl rfl ?_
      show Steps p.tables e below (T685.setTop (mkF m 171 #[iv p0, iv p1, iv p2, iv p3, iv p4, rv b102, .val .null, .val .null, rv b586, rv b647, rv b659, rv r674] [(.ref b586), (.ref b586)])) _
      refine Jvm.RoadKit.acmp (g := (mkF m 171 #[iv p0, iv p1, iv p2, iv p3, iv p4, rv b102, .val .null, .val .null, rv b586, rv b647, rv b659, rv r674] [(.ref b586), (.ref b586)])) X685 hx rfl rfl rfl (pc0 := 171) (pc' := 174) (same := true) rfl (hb hby at_171) rfl (decide_eq_true rfl) (by decide) (by decide) ?_
      show Steps p.tables e below (T685.setTop (mkF m 174 #[iv p0, iv p1, iv p2, iv p3, iv p4, rv b102, .val .null, .val .null, rv b586, rv b647, rv b659, rv r674] [])) _
      refine XS.aload X685.here hx rfl (hb hby at_174) rfl rfl ?_
      show Steps p.tables e below (T685.setTop (mkF m 176 #[iv p0, iv p1, iv p2, iv p3, iv p4, rv b102, .val .null, .val .null, rv b586, rv b647, rv b659, rv r674] [(.ref r674)])) _
      refine XS.iconst X685.here hx rfl (hb hby at_176) ?_
      show Steps p.tables e below (T685.setTop (mkF m 177 #[iv p0, iv p1, iv p2, iv p3, iv p4, rv b102, .val .null, .val .null, rv b586, rv b647, rv b659, rv r674] [(.int (1 : Int32)), (.ref r674)])) _
      exact kont
    obtain ⟨cq688, kq688, q688a, q688b, q688c⟩ := isOf hZ e685 y676
    obtain ⟨_, _, ⟨T688, L688, k688, n688⟩, -, X688, ⟨Lc688, hQ688, l688, y688, z688⟩, st688⟩ := X685.interfaceBack hx (xi := (⟨"java/util/List", "get", "(I)Ljava/lang/Object;"⟩ : MethodName)) (y := (⟨"java/util/ImmutableCollections$List12", "get", "(I)Ljava/lang/Object;"⟩ : MethodName)) hown (mvT hZ (hw _ (List.mem_of_getElem? (i := 125) rfl))) (mvT hZ (hw _ (List.mem_of_getElem? (i := 126) rfl))) (mvT hZ (hw _ (List.mem_of_getElem? (i := 127) rfl))) (mvT hZ (hw _ (List.mem_of_getElem? (i := 128) rfl))) (mvT hZ (hw _ (List.mem_of_getElem? (i := 129) rfl))) (mvT hZ (hw _ (List.mem_of_getElem? (i := 130) rfl))) (mvT hZ (hw _ (List.mem_of_getElem? (i := 131) rfl))) (mvT hZ (hw _ (List.mem_of_getElem? (i := 121) rfl))) (by decide) (backOf (W := 0) (rm_get1 l Z a0 hw [] r674 b647 w_EMPTY T673.heap n0 O679 y678 S1_ (Ne.symm (O679.ne ZE3_.lt ge654))) hZ (hw _ (List.mem_of_getElem? (i := 132) rfl)) (hw _ (List.mem_of_getElem? (i := 82) rfl)) (by decide) (by decide)) q688a q688b q688c (g := (mkF m 177 #[iv p0, iv p1, iv p2, iv p3, iv p4, rv b102, .val .null, .val .null, rv b586, rv b647, rv b659, rv r674] [(.int (1 : Int32)), (.ref r674)])) rfl (by rw [hml]; rfl) (Steps.refl _) (argsL := [(.int (1 : Int32))]) (rest := []) (lenOf pd_17 rfl) rfl (by show 2 * 0 + _ ≤ _; exact Nat.le_of_eq rfl) (hb hby at_177) (fun _ _ => ⟨rfl, e685, (by decide : 5 + 0 ≤ _), (by decide : 10 + 0 ≤ _)⟩)
    dsimp only [Pt.U, Pt.locs, Pt.cells, Pt.slots] at X688 l688 y688 z688 st688 hQ688
    subst l688 y688 z688
    obtain ⟨rfl, M688, e688⟩ := hQ688
    have N688 := Fr.app N685 M688
    have g689 : Go p e below T688 (mkF m 182 #[iv p0, iv p1, iv p2, iv p3, iv p4, rv b102, .val .null, .val .null, rv b586, rv b647, rv b659, rv r674] [(.ref b647)]) A0 := fun t kont => g687 t (st688.trans kont)
    have g690 : Go p e below T688 (mkF m 192 #[iv p0, iv p1, iv p2, iv p3, iv p4, rv b102, .val .null, .val .null, rv b586, rv b647, rv b659, rv r674] [(.int (1 : Int32))]) A0 := by
      intro t kont
      refine g689 t ?_
      refine XS.aload X688.here hx rfl (hb hby at_182) rfl rfl ?_
      show Steps p.tables e below (T688.setTop (mkF m 184 #[iv p0, iv p1, iv p2, iv p3, iv p4, rv b102, .val .null, .val .null, rv b586, rv b647, rv b659, rv r674] [(.ref b647), (.ref b647)])) _
      refine Jvm.RoadKit.acmp (g := (mkF m 184 #[iv p0, iv p1, iv p2, iv p3, iv p4, rv b102, .val .null, .val .null, rv b586, rv b647, rv b659, rv r674] [(.ref b647), (.ref b647)])) X688 hx rfl rfl rfl (pc0 := 184) (pc' := 187) (same := true) rfl (hb hby at_184) rfl (decide_eq_true rfl) (by decide) (by decide) ?_
      show Steps p.tables e below (T688.setTop (mkF m 187 #[iv p0, iv p1, iv p2, iv p3, iv p4, rv b102, .val .null, .val .null, rv b586, rv b647, rv b659, rv r674] [])) _
      refine XS.iconst X688.here hx rfl (hb hby at_187) ?_
      show Steps p.tables e below (T688.setTop (mkF m 188 #[iv p0, iv p1, iv p2, iv p3, iv p4, rv b102, .val .null, .val .null, rv b586, rv b647, rv b659, rv r674] [(.int (1 : Int32))])) _
      refine XS.goto X688.here hx rfl (pc0 := 188) (pc' := 192) rfl (hb hby at_188) (by decide) (by decide) ?_
      show Steps p.tables e below (T688.setTop (mkF m 192 #[iv p0, iv p1, iv p2, iv p3, iv p4, rv b102, .val .null, .val .null, rv b586, rv b647, rv b659, rv r674] [(.int (1 : Int32))])) _
      exact kont
    obtain ⟨fs, hr, hrun, hended, hW, hsame⟩ := X688.leave (v := some (.int (1 : Int32))) (fun h => by rw [Bd.returns] at h; cases h)
    refine ⟨_, _, g690 _ (retN X688 hx (t := .boolean) Bd.returns (by simp) (hb hby at_192) hr), hrun, hended, _, _, rfl, ?_, ⟨_, rfl⟩, hW, hsame.mono (by decide) (by decide)⟩
    show Q_law Z p0 p1 p2 p3 p4 i_COMPACT_STRINGS w_EMPTY h0 n0 _ T688.heap _
    rw [e688]
    exact ⟨rfl, N688⟩
  have g691 : Go p e below T592 (mkF m 128 #[iv p0, iv p1, iv p2, iv p3, iv p4, rv b102, .val .null, .val .null, rv b586, rv b586, .unset, .unset] []) A0 := by
    intro t kont
    refine g598 t ?_
    refine XS.ifNo X592.here hx rfl (hb hby at_83) rfl ((if0 _ _).trans (feq c597).1) ?_
    show Steps p.tables e below (T592.setTop (mkF m 86 #[iv p0, iv p1, iv p2, iv p3, iv p4, rv b102, .val .null, .val .null, rv b586, .unset, .unset, .unset] [])) _
    refine XS.aload X592.here hx rfl (hb hby at_86) rfl rfl ?_
    show Steps p.tables e below (T592.setTop (mkF m 88 #[iv p0, iv p1, iv p2, iv p3, iv p4, rv b102, .val .null, .val .null, rv b586, .unset, .unset, .unset] [(.ref b586)])) _
    refine XS.astore X592.here hx rfl (hb hby at_88) rfl rfl (l' := #[iv p0, iv p1, iv p2, iv p3, iv p4, rv b102, .val .null, .val .null, rv b586, rv b586, .unset, .unset]) rfl ?_
    show Steps p.tables e below (T592.setTop (mkF m 90 #[iv p0, iv p1, iv p2, iv p3, iv p4, rv b102, .val .null, .val .null, rv b586, rv b586, .unset, .unset] [])) _
    refine XS.goto X592.here hx rfl (pc0 := 90) (pc' := 128) rfl (hb hby at_90) (by decide) (by decide) ?_
    show Steps p.tables e below (T592.setTop (mkF m 128 #[iv p0, iv p1, iv p2, iv p3, iv p4, rv b102, .val .null, .val .null, rv b586, rv b586, .unset, .unset] [])) _
    exact kont
  obtain ⟨T692, h692, X692, e692, E692, A692, D692, -, st692⟩ := newO X592 hx hZ hown (hw _ (List.mem_of_getElem? (i := 55) rfl)) (hw _ (List.mem_of_getElem? (i := 56) rfl)) (hw _ (List.mem_of_getElem? (i := 57) rfl)) rfl (g := (mkF m 128 #[iv p0, iv p1, iv p2, iv p3, iv p4, rv b102, .val .null, .val .null, rv b586, rv b586, .unset, .unset] [])) rfl (hb hby at_128) (by decide) (by decide)
  obtain ⟨b692, gb692⟩ : ∃ z, z = T592.heap.size := ⟨_, rfl⟩
  rw [← gb692] at A692 D692 st692
  have O693 := O595.ext E692
  have y694 : Fld Z h692 b692 "com/example/subsume/subsume/engine/IndividualEquality" "individual" "Lcom/example/subsume/subsume/engine/Individual;" .null := D692 (Or.inr (hw _ (List.mem_of_getElem? (i := 68) rfl))) (ty := (.object "com/example/subsume/subsume/engine/Individual")) (by decide)
  have y695 : Fld Z h692 b692 "com/example/subsume/subsume/engine/IndividualEquality" "other" "Lcom/example/subsume/subsume/engine/Individual;" .null := D692 (Or.inr (hw _ (List.mem_of_getElem? (i := 70) rfl))) (ty := (.object "com/example/subsume/subsume/engine/Individual")) (by decide)
  have g696 : Go p e below T692 (mkF m 131 #[iv p0, iv p1, iv p2, iv p3, iv p4, rv b102, .val .null, .val .null, rv b586, rv b586, .unset, .unset] [(.ref b692)]) A0 := fun t kont => g691 t (st692 t kont)
  have g697 : Go p e below T692 (mkF m 136 #[iv p0, iv p1, iv p2, iv p3, iv p4, rv b102, .val .null, .val .null, rv b586, rv b586, .unset, .unset] [(.ref b586), (.ref b586), (.ref b692), (.ref b692)]) A0 := by
    intro t kont
    refine g696 t ?_
    refine XS.dup X692.here hx rfl (hb hby at_131) rfl rfl ?_
    show Steps p.tables e below (T692.setTop (mkF m 132 #[iv p0, iv p1, iv p2, iv p3, iv p4, rv b102, .val .null, .val .null, rv b586, rv b586, .unset, .unset] [(.ref b692), (.ref b692)])) _
    refine XS.aload X692.here hx rfl (hb hby at_132) rfl rfl ?_
    show Steps p.tables e below (T692.setTop (mkF m 134 #[iv p0, iv p1, iv p2, iv p3, iv p4, rv b102, .val .null, .val .null, rv b586, rv b586, .unset, .unset] [(.ref b586), (.ref b692), (.ref b692)])) _
    refine XS.aload X692.here hx rfl (hb hby at_134) rfl rfl ?_
    show Steps p.tables e below (T692.setTop (mkF m 136 #[iv p0, iv p1, iv p2, iv p3, iv p4, rv b102, .val .null, .val .null, rv b586, rv b586, .unset, .unset] [(.ref b586), (.ref b586), (.ref b692), (.ref b692)])) _
    exact kont
  have ge699 : n0 ≤ b692 := Nat.le_trans (own_old_le O595) (Nat.le_of_eq gb692.symm)
  obtain ⟨_, _, ⟨T698, L698, k698, n698⟩, -, X698, ⟨Lc698, hQ698, l698, y698, z698⟩, st698⟩ := X692.specialBack hx (y := (⟨"com/example/subsume/subsume/engine/IndividualEquality", "<init>", "(Lcom/example/subsume/subsume/engine/Individual;Lcom/example/subsume/subsume/engine/Individual;)V"⟩ : MethodName)) rfl hown (mvT hZ (hw _ (List.mem_of_getElem? (i := 58) rfl))) (mvT hZ (hw _ (List.mem_of_getElem? (i := 59) rfl))) (mvT hZ (hw _ (List.mem_of_getElem? (i := 60) rfl))) (by decide) (backOf (W := 1) (rm_relI l Z a0 hw [] b692 b586 b586 h692 n0 O693 y694 y695 A692 ge699) hZ (hw _ (List.mem_of_getElem? (i := 60) rfl)) (hw _ (List.mem_of_getElem? (i := 57) rfl)) (by decide) (by decide)) (g := (mkF m 136 #[iv p0, iv p1, iv p2, iv p3, iv p4, rv b102, .val .null, .val .null, rv b586, rv b586, .unset, .unset] [(.ref b586), (.ref b586), (.ref b692), (.ref b692)])) rfl (by rw [hml]; rfl) (Steps.refl _) (a := b692) (argsL := [(.ref b586), (.ref b586)]) (rest := [(.ref b692)]) (lenOf pd_14 rfl) rfl (by show 2 * 0 + _ ≤ _; exact Nat.le_of_eq rfl) (hb hby at_136) (fun _ _ => ⟨rfl, e692, (by decide : 3 + 0 ≤ _), (by decide : 6 + 0 ≤ _)⟩)
  dsimp only [Pt.U, Pt.locs, Pt.cells, Pt.slots] at X698 l698 y698 z698 st698 hQ698
  subst l698 y698 z698
  obtain ⟨rfl, M698, K698, y700, y701, y702⟩ := hQ698
  have N698 := Fr.app N592 M698
  have O703 := O693.keep K698 (allS ge699 all0)
  have g704 : Go p e below T698 (mkF m 139 #[iv p0, iv p1, iv p2, iv p3, iv p4, rv b102, .val .null, .val .null, rv b586, rv b586, .unset, .unset] [(.ref b692)]) A0 := fun t kont => g697 t (st698.trans kont)
  have g705 : Go p e below T698 (mkF m 143 #[iv p0, iv p1, iv p2, iv p3, iv p4, rv b102, .val .null, .val .null, rv b586, rv b586, rv b692, .unset] [(.ref b692)]) A0 := by
    intro t kont
    refine g704 t ?_
    refine XS.astore X698.here hx rfl (hb hby at_139) rfl rfl (l' := #[iv p0, iv p1, iv p2, iv p3, iv p4, rv b102, .val .null, .val .null, rv b586, rv b586, rv b692, .unset]) rfl ?_
    show Steps p.tables e below (T698.setTop (mkF m 141 #[iv p0, iv p1, iv p2, iv p3, iv p4, rv b102, .val .null, .val .null, rv b586, rv b586, rv b692, .unset] [])) _
    refine XS.aload X698.here hx rfl (hb hby at_141) rfl rfl ?_
    show Steps p.tables e below (T698.setTop (mkF m 143 #[iv p0, iv p1, iv p2, iv p3, iv p4, rv b102, .val .null, .val .null, rv b586, rv b586, rv b692, .unset] [(.ref b692)])) _
    exact kont
  obtain ⟨cq706, kq706, q706a, q706b, q706c⟩ := isOf hZ rfl y700
  obtain ⟨_, _, ⟨T706, L706, k706, n706⟩, -, X706, ⟨Lc706, hQ706, l706, y706, z706⟩, st706⟩ := X698.virtualBack hx (y := (⟨"com/example/subsume/subsume/engine/IndividualEquality", "individuals", "()Ljava/util/List;"⟩ : MethodName)) (z := (⟨"com/example/subsume/subsume/engine/IndividualEquality", "individuals", "()Ljava/util/List;"⟩ : MethodName)) hown (mvT hZ (hw _ (List.mem_of_getElem? (i := 71) rfl))) (mvT hZ (hw _ (List.mem_of_getElem? (i := 72) rfl))) (notFace_of_selects (args := #[]) (mvT hZ (hw _ (List.mem_of_getElem? (i := 74) rfl)))) (mvT hZ (hw _ (List.mem_of_getElem? (i := 74) rfl))) (mvT hZ (hw _ (List.mem_of_getElem? (i := 73) rfl))) (by decide) (backOf (W := 0) (rm_inds l Z a0 hw [] b692 b586 b586 T698.heap n0 O703 y701 y702) hZ (hw _ (List.mem_of_getElem? (i := 75) rfl)) (hw _ (List.mem_of_getElem? (i := 57) rfl)) (by decide) (by decide)) q706a q706c (g := (mkF m 143 #[iv p0, iv p1, iv p2, iv p3, iv p4, rv b102, .val .null, .val .null, rv b586, rv b586, rv b692, .unset] [(.ref b692)])) rfl (by rw [hml]; rfl) (Steps.refl _) (argsL := []) (rest := []) (lenOf pd_15 rfl) rfl (by show 2 * 0 + _ ≤ _; exact Nat.le_of_eq rfl) (hb hby at_143) (fun _ _ => ⟨rfl, rfl, (by decide : 3 + 1 ≤ _), (by decide : 6 + 2 ≤ _)⟩)
  dsimp only [Pt.U, Pt.locs, Pt.cells, Pt.slots] at X706 l706 y706 z706 st706 hQ706
  subst l706 y706 z706
  obtain ⟨r707, rfl, M706, K706, y708, y709, y710, y711⟩ := hQ706
  have N706 := Fr.app N698 M706
  have O712 := O703.keep K706 all0
  have g713 : Go p e below T706 (mkF m 146 #[iv p0, iv p1, iv p2, iv p3, iv p4, rv b102, .val .null, .val .null, rv b586, rv b586, rv b692, .unset] [(.ref r707)]) A0 := fun t kont => g705 t (st706.trans kont)
  have g714 : Go p e below T706 (mkF m 150 #[iv p0, iv p1, iv p2, iv p3, iv p4, rv b102, .val .null, .val .null, rv b586, rv b586, rv b692, rv r707] [(.ref r707)]) A0 := by
    intro t kont
    refine g713 t ?_
    refine XS.astore X706.here hx rfl (hb hby at_146) rfl rfl (l' := #[iv p0, iv p1, iv p2, iv p3, iv p4, rv b102, .val .null, .val .null, rv b586, rv b586, rv b692, rv r707]) rfl ?_
    show Steps p.tables e below (T706.setTop (mkF m 148 #[iv p0, iv p1, iv p2, iv p3, iv p4, rv b102, .val .null, .val .null, rv b586, rv b586, rv b692, rv r707] [])) _
    refine XS.aload X706.here hx rfl (hb hby at_148) rfl rfl ?_
    show Steps p.tables e below (T706.setTop (mkF m 150 #[iv p0, iv p1, iv p2, iv p3, iv p4, rv b102, .val .null, .val .null, rv b586, rv b586, rv b692, rv r707] [(.ref r707)])) _
    exact kont
  obtain ⟨cq715, kq715, q715a, q715b, q715c⟩ := isOf hZ rfl y709
  obtain ⟨_, _, ⟨T715, L715, k715, n715⟩, -, X715, ⟨Lc715, hQ715, l715, y715, z715⟩, st715⟩ := X706.interfaceBack hx (xi := (⟨"java/util/List", "size", "()I"⟩ : MethodName)) (y := (⟨"java/util/ImmutableCollections$List12", "size", "()I"⟩ : MethodName)) hown (mvT hZ (hw _ (List.mem_of_getElem? (i := 114) rfl))) (mvT hZ (hw _ (List.mem_of_getElem? (i := 115) rfl))) (mvT hZ (hw _ (List.mem_of_getElem? (i := 116) rfl))) (mvT hZ (hw _ (List.mem_of_getElem? (i := 117) rfl))) (mvT hZ (hw _ (List.mem_of_getElem? (i := 118) rfl))) (mvT hZ (hw _ (List.mem_of_getElem? (i := 119) rfl))) (mvT hZ (hw _ (List.mem_of_getElem? (i := 120) rfl))) (mvT hZ (hw _ (List.mem_of_getElem? (i := 121) rfl))) (by decide) (backOf (W := 0) (rm_siz l Z a0 hw [] r707 b586 w_EMPTY T706.heap n0 O712 y711 S1_ (Ne.symm (O712.ne ZE3_.lt ge593))) hZ (hw _ (List.mem_of_getElem? (i := 122) rfl)) (hw _ (List.mem_of_getElem? (i := 82) rfl)) (by decide) (by decide)) q715a q715b q715c (g := (mkF m 150 #[iv p0, iv p1, iv p2, iv p3, iv p4, rv b102, .val .null, .val .null, rv b586, rv b586, rv b692, rv r707] [(.ref r707)])) rfl (by rw [hml]; rfl) (Steps.refl _) (argsL := []) (rest := []) (lenOf pd_16 rfl) rfl (by show 2 * 0 + _ ≤ _; exact Nat.le_of_eq rfl) (hb hby at_150) (fun _ _ => ⟨rfl, rfl, (by decide : 4 + 0 ≤ _), (by decide : 8 + 0 ≤ _)⟩)
  dsimp only [Pt.U, Pt.locs, Pt.cells, Pt.slots] at X715 l715 y715 z715 st715 hQ715
  subst l715 y715 z715
  obtain ⟨rfl, M715, e715⟩ := hQ715
  have N715 := Fr.app N706 M715
  have g716 : Go p e below T715 (mkF m 155 #[iv p0, iv p1, iv p2, iv p3, iv p4, rv b102, .val .null, .val .null, rv b586, rv b586, rv b692, rv r707] [(.int (2 : Int32))]) A0 := fun t kont => g714 t (st715.trans kont)
  have g717 : Go p e below T715 (mkF m 164 #[iv p0, iv p1, iv p2, iv p3, iv p4, rv b102, .val .null, .val .null, rv b586, rv b586, rv b692, rv r707] [(.int (0 : Int32)), (.ref r707)]) A0 := by
    intro t kont
    refine g716 t ?_
    refine XS.iconst X715.here hx rfl (hb hby at_155) ?_
    show Steps p.tables e below (T715.setTop (mkF m 156 #[iv p0, iv p1, iv p2, iv p3, iv p4, rv b102, .val .null, .val .null, rv b586, rv b586, rv b692, rv r707] [(.int (2 : Int32)), (.int (2 : Int32))])) _
    refine XS.icmpYes X715.here hx rfl (pc0 := 156) (pc' := 161) rfl (hb hby at_156) rfl (teq (by decide : (2 : Int32) = (2 : Int32))).1 (by decide) (by decide) ?_
    show Steps p.tables e below (T715.setTop (mkF m 161 #[iv p0, iv p1, iv p2, iv p3, iv p4, rv b102, .val .null, .val .null, rv b586, rv b586, rv b692, rv r707] [])) _
    refine XS.aload X715.here hx rfl (hb hby at_161) rfl rfl ?_
    show Steps p.tables e below (T715.setTop (mkF m 163 #[iv p0, iv p1, iv p2, iv p3, iv p4, rv b102, .val .null, .val .null, rv b586, rv b586, rv b692, rv r707] [(.ref r707)])) _
    refine XS.iconst X715.here hx rfl (hb hby at_163) ?_
    show Steps p.tables e below (T715.setTop (mkF m 164 #[iv p0, iv p1, iv p2, iv p3, iv p4, rv b102, .val .null, .val .null, rv b586, rv b586, rv b692, rv r707] [(.int (0 : Int32)), (.ref r707)])) _
    exact kont
  obtain ⟨cq718, kq718, q718a, q718b, q718c⟩ := isOf hZ e715 y709
  obtain ⟨_, _, ⟨T718, L718, k718, n718⟩, -, X718, ⟨Lc718, hQ718, l718, y718, z718⟩, st718⟩ := X715.interfaceBack hx (xi := (⟨"java/util/List", "get", "(I)Ljava/lang/Object;"⟩ : MethodName)) (y := (⟨"java/util/ImmutableCollections$List12", "get", "(I)Ljava/lang/Object;"⟩ : MethodName)) hown (mvT hZ (hw _ (List.mem_of_getElem? (i := 125) rfl))) (mvT hZ (hw _ (List.mem_of_getElem? (i := 126) rfl))) (mvT hZ (hw _ (List.mem_of_getElem? (i := 127) rfl))) (mvT hZ (hw _ (List.mem_of_getElem? (i := 128) rfl))) (mvT hZ (hw _ (List.mem_of_getElem? (i := 129) rfl))) (mvT hZ (hw _ (List.mem_of_getElem? (i := 130) rfl))) (mvT hZ (hw _ (List.mem_of_getElem? (i := 131) rfl))) (mvT hZ (hw _ (List.mem_of_getElem? (i := 121) rfl))) (by decide) (backOf (W := 0) (rm_get0 l Z a0 hw [] r707 b586 T706.heap n0 O712 y710) hZ (hw _ (List.mem_of_getElem? (i := 132) rfl)) (hw _ (List.mem_of_getElem? (i := 82) rfl)) (by decide) (by decide)) q718a q718b q718c (g := (mkF m 164 #[iv p0, iv p1, iv p2, iv p3, iv p4, rv b102, .val .null, .val .null, rv b586, rv b586, rv b692, rv r707] [(.int (0 : Int32)), (.ref r707)])) rfl (by rw [hml]; rfl) (Steps.refl _) (argsL := [(.int (0 : Int32))]) (rest := []) (lenOf pd_17 rfl) rfl (by show 2 * 0 + _ ≤ _; exact Nat.le_of_eq rfl) (hb hby at_164) (fun _ _ => ⟨rfl, e715, (by decide : 4 + 0 ≤ _), (by decide : 8 + 0 ≤ _)⟩)
  dsimp only [Pt.U, Pt.locs, Pt.cells, Pt.slots] at X718 l718 y718 z718 st718 hQ718
  subst l718 y718 z718
  obtain ⟨rfl, M718, e718⟩ := hQ718
  have N718 := Fr.app N715 M718
  have g719 : Go p e below T718 (mkF m 169 #[iv p0, iv p1, iv p2, iv p3, iv p4, rv b102, .val .null, .val .null, rv b586, rv b586, rv b692, rv r707] [(.ref b586)]) A0 := fun t kont => g717 t (st718.trans kont)
  have g720 : Go p e below T718 (mkF m 177 #[iv p0, iv p1, iv p2, iv p3, iv p4, rv b102, .val .null, .val .null, rv b586, rv b586, rv b692, rv r707] [(.int (1 : Int32)), (.ref r707)]) A0 := by
    intro t kont
    refine g719 t ?_
    refine XS.aload X718.here hx rfl (hb hby at_169) rfl rfl ?_
    show Steps p.tables e below (T718.setTop (mkF m 171 #[iv p0, iv p1, iv p2, iv p3, iv p4, rv b102, .val .null, .val .null, rv b586, rv b586, rv b692, rv r707] [(.ref b586), (.ref b586)])) _
    refine Jvm.RoadKit.acmp (g := (mkF m 171 #[iv p0, iv p1, iv p2, iv p3, iv p4, rv b102, .val .null, .val .null, rv b586, rv b586, rv b692, rv r707] [(.ref b586), (.ref b586)])) X718 hx rfl rfl rfl (pc0 := 171) (pc' := 174) (same := true) rfl (hb hby at_171) rfl (decide_eq_true rfl) (by decide) (by decide) ?_
    show Steps p.tables e below (T718.setTop (mkF m 174 #[iv p0, iv p1, iv p2, iv p3, iv p4, rv b102, .val .null, .val .null, rv b586, rv b586, rv b692, rv r707] [])) _
    refine XS.aload X718.here hx rfl (hb hby at_174) rfl rfl ?_
    show Steps p.tables e below (T718.setTop (mkF m 176 #[iv p0, iv p1, iv p2, iv p3, iv p4, rv b102, .val .null, .val .null, rv b586, rv b586, rv b692, rv r707] [(.ref r707)])) _
    refine XS.iconst X718.here hx rfl (hb hby at_176) ?_
    show Steps p.tables e below (T718.setTop (mkF m 177 #[iv p0, iv p1, iv p2, iv p3, iv p4, rv b102, .val .null, .val .null, rv b586, rv b586, rv b692, rv r707] [(.int (1 : Int32)), (.ref r707)])) _
    exact kont
  obtain ⟨cq721, kq721, q721a, q721b, q721c⟩ := isOf hZ e718 y709
  obtain ⟨_, _, ⟨T721, L721, k721, n721⟩, -, X721, ⟨Lc721, hQ721, l721, y721, z721⟩, st721⟩ := X718.interfaceBack hx (xi := (⟨"java/util/List", "get", "(I)Ljava/lang/Object;"⟩ : MethodName)) (y := (⟨"java/util/ImmutableCollections$List12", "get", "(I)Ljava/lang/Object;"⟩ : MethodName)) hown (mvT hZ (hw _ (List.mem_of_getElem? (i := 125) rfl))) (mvT hZ (hw _ (List.mem_of_getElem? (i := 126) rfl))) (mvT hZ (hw _ (List.mem_of_getElem? (i := 127) rfl))) (mvT hZ (hw _ (List.mem_of_getElem? (i := 128) rfl))) (mvT hZ (hw _ (List.mem_of_getElem? (i := 129) rfl))) (mvT hZ (hw _ (List.mem_of_getElem? (i := 130) rfl))) (mvT hZ (hw _ (List.mem_of_getElem? (i := 131) rfl))) (mvT hZ (hw _ (List.mem_of_getElem? (i := 121) rfl))) (by decide) (backOf (W := 0) (rm_get1 l Z a0 hw [] r707 b586 w_EMPTY T706.heap n0 O712 y711 S1_ (Ne.symm (O712.ne ZE3_.lt ge593))) hZ (hw _ (List.mem_of_getElem? (i := 132) rfl)) (hw _ (List.mem_of_getElem? (i := 82) rfl)) (by decide) (by decide)) q721a q721b q721c (g := (mkF m 177 #[iv p0, iv p1, iv p2, iv p3, iv p4, rv b102, .val .null, .val .null, rv b586, rv b586, rv b692, rv r707] [(.int (1 : Int32)), (.ref r707)])) rfl (by rw [hml]; rfl) (Steps.refl _) (argsL := [(.int (1 : Int32))]) (rest := []) (lenOf pd_17 rfl) rfl (by show 2 * 0 + _ ≤ _; exact Nat.le_of_eq rfl) (hb hby at_177) (fun _ _ => ⟨rfl, e718, (by decide : 4 + 0 ≤ _), (by decide : 8 + 0 ≤ _)⟩)
  dsimp only [Pt.U, Pt.locs, Pt.cells, Pt.slots] at X721 l721 y721 z721 st721 hQ721
  subst l721 y721 z721
  obtain ⟨rfl, M721, e721⟩ := hQ721
  have N721 := Fr.app N718 M721
  have g722 : Go p e below T721 (mkF m 182 #[iv p0, iv p1, iv p2, iv p3, iv p4, rv b102, .val .null, .val .null, rv b586, rv b586, rv b692, rv r707] [(.ref b586)]) A0 := fun t kont => g720 t (st721.trans kont)
  have g723 : Go p e below T721 (mkF m 192 #[iv p0, iv p1, iv p2, iv p3, iv p4, rv b102, .val .null, .val .null, rv b586, rv b586, rv b692, rv r707] [(.int (1 : Int32))]) A0 := by
    intro t kont
    refine g722 t ?_
    refine XS.aload X721.here hx rfl (hb hby at_182) rfl rfl ?_
    show Steps p.tables e below (T721.setTop (mkF m 184 #[iv p0, iv p1, iv p2, iv p3, iv p4, rv b102, .val .null, .val .null, rv b586, rv b586, rv b692, rv r707] [(.ref b586), (.ref b586)])) _
    refine Jvm.RoadKit.acmp (g := (mkF m 184 #[iv p0, iv p1, iv p2, iv p3, iv p4, rv b102, .val .null, .val .null, rv b586, rv b586, rv b692, rv r707] [(.ref b586), (.ref b586)])) X721 hx rfl rfl rfl (pc0 := 184) (pc' := 187) (same := true) rfl (hb hby at_184) rfl (decide_eq_true rfl) (by decide) (by decide) ?_
    show Steps p.tables e below (T721.setTop (mkF m 187 #[iv p0, iv p1, iv p2, iv p3, iv p4, rv b102, .val .null, .val .null, rv b586, rv b586, rv b692, rv r707] [])) _
    refine XS.iconst X721.here hx rfl (hb hby at_187) ?_
    show Steps p.tables e below (T721.setTop (mkF m 188 #[iv p0, iv p1, iv p2, iv p3, iv p4, rv b102, .val .null, .val .null, rv b586, rv b586, rv b692, rv r707] [(.int (1 : Int32))])) _
    refine XS.goto X721.here hx rfl (pc0 := 188) (pc' := 192) rfl (hb hby at_188) (by decide) (by decide) ?_
    show Steps p.tables e below (T721.setTop (mkF m 192 #[iv p0, iv p1, iv p2, iv p3, iv p4, rv b102, .val .null, .val .null, rv b586, rv b586, rv b692, rv r707] [(.int (1 : Int32))])) _
    exact kont
  obtain ⟨fs, hr, hrun, hended, hW, hsame⟩ := X721.leave (v := some (.int (1 : Int32))) (fun h => by rw [Bd.returns] at h; cases h)
  refine ⟨_, _, g723 _ (retN X721 hx (t := .boolean) Bd.returns (by simp) (hb hby at_192) hr), hrun, hended, _, _, rfl, ?_, ⟨_, rfl⟩, hW, hsame.mono (by decide) (by decide)⟩
  show Q_law Z p0 p1 p2 p3 p4 i_COMPACT_STRINGS w_EMPTY h0 n0 _ T721.heap _
  rw [e721]
  exact ⟨rfl, N721⟩
set_option maxRecDepth 65536 in
set_option maxHeartbeats 40000000 in
theorem comes_1 {Post : Tables → Env → Array Value → State → Outcome → State → Prop} (hpost : ∀ tb e args s v u, (limb_1_1.after args s (.returned v) u = true ∧ limb_1_2.after args s (.returned v) u = true ∧ True) → FrameEnd s (.returned v) u (Jvm.fieldLocs frame_1_writes args s ++ Jvm.arrayLocs frame_1_arrays args s ++ Jvm.staticLocs frame_1_statics s) 32 128 → Post tb e args s (.returned v) u) :
    ArmFor flags0 classFile x code maxLocals ret World_1 tables_1 room_1 Calls_1 rest_1 Pre_1 Post := by
  intro l hfl _ _ p e ha hc hk s m args below hf hA hF happ hP
  obtain ⟨hcalls, hrest, hpre⟩ := hP
  obtain ⟨-, -, -, hnamed, -, -, -, hat⟩ := (Spec.applies_iff hf).mp happ
  obtain ⟨hg, hn⟩ := and_e (Cond.before_iff.mp (show (Jvm.Cond.and given_1 narrow_1).before args s = true from hpre))
  obtain ⟨hcount, hg⟩ := and_e hg
  obtain ⟨ha0, hg⟩ := and_e hg
  obtain ⟨ha1, hg⟩ := and_e hg
  obtain ⟨ha2, hg⟩ := and_e hg
  obtain ⟨ha3, hg⟩ := and_e hg
  have ha4 := hg
  obtain ⟨w0, w1, w2, w3, w4, rfl⟩ : ∃ w0 w1 w2 w3 w4 : Value, args = #[w0, w1, w2, w3, w4] := by
    have hs : args.size = 5 := by simpa [Cond.value, given_1] using hcount
    obtain ⟨L⟩ := args
    match L, hs with
    | [w0, w1, w2, w3, w4], _ => exact ⟨w0, w1, w2, w3, w4, rfl⟩
  have hw := fun d (hd : d ∈ tables_1) => atoms_spec (ws := Jvm.Cond.code x code maxLocals ret :: tables_1) hat d (List.mem_cons_of_mem _ hd)
  obtain ⟨hsets, hown0⟩ := atoms_of _ (rest_1_c_eq ▸ (show rest_1_c.before _ s = true from hrest))
  have hfit : Fit s := fun {y c} hc i hi => by
    obtain ⟨ha, rfl⟩ := Array.getElem?_eq_some_iff.mp hc
    have q := List.all_eq_true.mp ((Array.all_eq_true_iff_forall_mem.mp hF) _ (Array.getElem_mem ha)) i (List.mem_range.mpr hi)
    simpa [Array.getElem?_eq_getElem hi] using q
  obtain ⟨p0, ea0⟩ := is_v ha0
  obtain rfl : w0 = (.int p0) := Option.some.inj ea0
  obtain ⟨p1, ea1⟩ := is_v ha1
  obtain rfl : w1 = (.int p1) := Option.some.inj ea1
  obtain ⟨p2, ea2⟩ := is_v ha2
  obtain rfl : w2 = (.int p2) := Option.some.inj ea2
  obtain ⟨p3, ea3⟩ := is_v ha3
  obtain rfl : w3 = (.int p3) := Option.some.inj ea3
  obtain ⟨p4, ea4⟩ := is_v ha4
  obtain rfl : w4 = (.int p4) := Option.some.inj ea4
  obtain ⟨i_COMPACT_STRINGS, ev_COMPACT_STRINGS⟩ := is_v (Cond.before_iff.mp (hsets _ (List.mem_of_getElem? (i := 1) rfl)))
  obtain ⟨v_SIOOBE_FORMATTER, ev_SIOOBE_FORMATTER, r_SIOOBE_FORMATTER⟩ := isR_v (Cond.before_iff.mp (hsets _ (List.mem_of_getElem? (i := 8) rfl)))
  obtain ⟨w_EMPTY, ev_EMPTY⟩ := exa_v (Cond.before_iff.mp (hsets _ (List.mem_of_getElem? (i := 11) rfl)))
  have E_EMPTY : Exa s s.heap w_EMPTY "java/lang/Object" := Exa.start ev_EMPTY (Cond.before_iff.mp (hsets _ (List.mem_of_getElem? (i := 11) rfl)))
  have ev_ImmutableCollections__assertionsDisabled := own_eqint (Cond.before_iff.mp (hsets _ (List.mem_of_getElem? (i := 14) rfl)))
  obtain ⟨w_EMPTY_LIST, ev_EMPTY_LIST⟩ := exa_v (Cond.before_iff.mp (hsets _ (List.mem_of_getElem? (i := 17) rfl)))
  have E_EMPTY_LIST : Exa s s.heap w_EMPTY_LIST "java/util/ImmutableCollections$ListN" := Exa.start ev_EMPTY_LIST (Cond.before_iff.mp (hsets _ (List.mem_of_getElem? (i := 17) rfl)))
  have S_COMPACT_STRINGS : Sta s s.heap "java/lang/String" "COMPACT_STRINGS" "Z" (.int i_COMPACT_STRINGS) := Sta.start ev_COMPACT_STRINGS (Or.inl (hsets _ (List.mem_of_getElem? (i := 0) rfl)))
  have S_SIOOBE_FORMATTER : Sta s s.heap "jdk/internal/util/Preconditions" "SIOOBE_FORMATTER" "Ljava/util/function/BiFunction;" v_SIOOBE_FORMATTER := Sta.start ev_SIOOBE_FORMATTER (Or.inl (hsets _ (List.mem_of_getElem? (i := 7) rfl)))
  have S_EMPTY : Sta s s.heap "java/util/ImmutableCollections" "EMPTY" "Ljava/lang/Object;" (.ref w_EMPTY) := Sta.start ev_EMPTY (Or.inl (hsets _ (List.mem_of_getElem? (i := 10) rfl)))
  have S_ImmutableCollections__assertionsDisabled : Sta s s.heap "java/util/ImmutableCollections" "$assertionsDisabled" "Z" (.int (1 : Int32)) := Sta.start ev_ImmutableCollections__assertionsDisabled (Or.inl (hsets _ (List.mem_of_getElem? (i := 13) rfl)))
  have S_EMPTY_LIST : Sta s s.heap "java/util/ImmutableCollections" "EMPTY_LIST" "Ljava/util/ImmutableCollections$ListN;" (.ref w_EMPTY_LIST) := Sta.start ev_EMPTY_LIST (Or.inl (hsets _ (List.mem_of_getElem? (i := 16) rfl)))
  have c_COMPACT_STRINGS : ¬ (i_COMPACT_STRINGS = (0 : Int32)) := gotF (Cond.eq_ints ev_COMPACT_STRINGS (Term.int_eval (0))) (not_v (Cond.before_iff.mp (hsets _ (List.mem_of_getElem? (i := 2) rfl))))
  obtain ⟨n, o, h1, h2, h3, _, L, rfl, ⟨rfl, N⟩, hq⟩ := rm_law l s _ hw tables_1 p0 p1 p2 p3 p4 i_COMPACT_STRINGS w_EMPTY s.heap s.heap.size (Old.start s) S_COMPACT_STRINGS S_EMPTY c_COMPACT_STRINGS E_EMPTY p e ha hc hk s m _ below hf ((Spec.applies_iff_loose hf).mp happ).1 ⟨rfl, State.Warmed39.refl s, rfl⟩ trivial
  refine ⟨n, _, h1, h2, h3, hpost _ _ _ _ _ _ ⟨Cond.after_iff.mpr rfl, Cond.after_iff.mpr (eq_i res_at (Term.int_eval (1)) rfl), trivial⟩ ⟨hq.1, hq.2.1, (hq.2.2.sift fun y hy => Or.inr (N y hy)).mono (by decide) (by decide)⟩⟩
theorem main_1_1 : Claimed_1_1 := comes_1 fun _ _ _ _ _ _ h hF => ⟨h.1, hF⟩
theorem main_1_2 : Claimed_1_2 := comes_1 fun _ _ _ _ _ _ h hF => ⟨h.2.1, hF⟩
end Jvm.Pilot.@@N@@
namespace Jvm.Pilot.@@N@@
open Jvm Jvm.ClassFile Sem Op Lib Jvm.Free Jvm.Stand Jvm.Pilot.@@N@@.Jvm.D
/-! MADE BY PROGRAM (witnessworld.py) out of the Statement's table words and the real class files: 36 classes; the members and pool entries that the words name. The judged class is class 1, her method 1. -/
namespace start1
open Jvm.ClassFile
def u (s : String) : CpInfo := .utf8 (stringToUtf16 s)
/-- a pool by its gaps: so many unusable entries, then the entry; so many at the end -/
def gap : Nat → List CpInfo → List CpInfo
  | 0, r => r
  | n + 1, r => .unusable :: gap n r
def poolList (es : List (Nat × CpInfo)) (last : Nat) : List CpInfo := es.foldr (fun e r => gap e.1 (e.2 :: r)) (gap last [])
def pool (es : List (Nat × CpInfo)) (last : Nat) : Array CpInfo := ⟨poolList es last⟩
def fileOf (pool : Array CpInfo) (this : Nat) (attrs : Array Attribute := #[]) (ms : Array MethodInfo := #[]) (fl : Nat := 33) (sup : Nat := 0) (ifs : Array Nat := #[]) (fds : Array FieldInfo := #[]) : ClassFile where
  minorVersion := 0
  majorVersion := 65
  constantPool := pool
  accessFlags := fl
  thisClass := this
  superClass := sup
  interfaces := ifs
  fields := fds
  methods := ms
  attributes := attrs
def plain (name : String) (sup : Option ClassId) : Class where
  name := name
  kind := .ordinary
  loader := none
  accessFlags := 33
  super := sup
  interfaces := #[]
  cf := none
  fields := #[]
  methods := #[]
  instanceTypes := #[]
  staticTypes := #[]
  resolved := #[]
  callSites := []
  init := .initialized
  statics := none
  mirror := none

def pool0 : Array CpInfo := pool [(5, u "<init>"), (0, u "()V"), (1, .class_ 10), (1, u "java/lang/Object")] 113

def k0c0 : Code := { maxStack := 0, maxLocals := 1, code := object_method_1_code, exceptionTable := #[], attributes := #[] }
def k0m0 : Method := { name := "<init>", desc := "()V", sig := { parameters := [], returnType := none }, accessFlags := 1, code := some k0c0 }
/-- java/lang/Object -/
def k0 : Class := { plain "java/lang/Object" none with
  accessFlags := 33
  interfaces := #[]
  cf := some (fileOf pool0 8 #[] #[{ accessFlags := 1, nameIndex := 5, descriptorIndex := 6, attributes := #[] }] 33 0 #[] #[])
  fields := #[]
  methods := #[k0m0]
  instanceTypes := #[]
  staticTypes := #[]
  resolved := Array.replicate 124 none
  statics := none }

def pool1 : Array CpInfo := pool [(2, .class_ 4), (1, u "java/lang/Object"), (0, u "<init>"), (0, u "()V"), (0, .class_ 8), (0, u "java/lang/String"), (0, .methodref 7 10), (0, .nameAndType 5 11), (0, u "([C)V"), (0, .methodref 7 13), (0, .nameAndType 14 15), (0, u "valueOf"), (0, u "(C)Ljava/lang/String;"), (0, .class_ 17), (0, u "com/example/subsume/subsume/engine/Individual"), (0, .methodref 16 19), (0, .nameAndType 5 20), (0, u "(Ljava/lang/String;I)V"), (0, .class_ 22), (0, u "com/example/subsume/subsume/engine/IndividualEquality"), (0, .methodref 21 24), (0, .nameAndType 5 25), (0, u "(Lcom/example/subsume/subsume/engine/Individual;Lcom/example/subsume/subsume/engine/Individual;)V"), (0, .methodref 21 27), (0, .nameAndType 28 29), (0, u "individuals"), (0, u "()Ljava/util/List;"), (0, .interfaceMethodref 31 32), (0, .class_ 33), (0, .nameAndType 34 35), (0, u "java/util/List"), (0, u "size"), (0, u "()I"), (0, .interfaceMethodref 31 37), (0, .nameAndType 38 39), (0, u "get"), (0, u "(I)Ljava/lang/Object;"), (0, .class_ 41), (0, u "com/example/subsume/subsume/engine/IndividualEqualityIndividualsPinLaw"), (2, u "law"), (0, u "(IIIII)Z")] 5

def k1m0 : Method := { name := "<init>", desc := "()V", sig := { parameters := [], returnType := none }, accessFlags := 2, code := none }
def k1c1 : Code := { maxStack := 5, maxLocals := 12, code := code, exceptionTable := #[], attributes := #[] }
def k1m1 : Method := { name := "law", desc := "(IIIII)Z", sig := { parameters := [.int, .int, .int, .int, .int], returnType := some .boolean }, accessFlags := 9, code := some k1c1 }
/-- com/example/subsume/subsume/engine/IndividualEqualityIndividualsPinLaw -/
def k1 : Class := { plain "com/example/subsume/subsume/engine/IndividualEqualityIndividualsPinLaw" (some 0) with
  accessFlags := 49
  interfaces := #[]
  cf := some (fileOf pool1 40 #[] #[{ accessFlags := 2, nameIndex := 5, descriptorIndex := 6, attributes := #[] }, { accessFlags := 9, nameIndex := 44, descriptorIndex := 45, attributes := #[] }] 49 2 #[] #[])
  fields := #[]
  methods := #[k1m0, k1m1]
  instanceTypes := #[]
  staticTypes := #[]
  resolved := Array.replicate 51 none
  statics := none }

def pool2 : Array CpInfo := pool [(1, .class_ 2), (0, u "java/io/Serializable"), (0, .class_ 4), (0, u "java/lang/Object")] 2

/-- java/io/Serializable -/
def k2 : Class := { plain "java/io/Serializable" (some 0) with
  accessFlags := 1537
  interfaces := #[]
  cf := some (fileOf pool2 1 #[] #[] 1537 3 #[] #[])
  fields := #[]
  methods := #[]
  instanceTypes := #[]
  staticTypes := #[]
  resolved := Array.replicate 7 none
  statics := none }

def pool3 : Array CpInfo := pool [(1, .class_ 2), (0, u "java/lang/Comparable"), (0, .class_ 4), (0, u "java/lang/Object")] 7

/-- java/lang/Comparable -/
def k3 : Class := { plain "java/lang/Comparable" (some 0) with
  accessFlags := 1537
  interfaces := #[]
  cf := some (fileOf pool3 1 #[] #[] 1537 3 #[] #[])
  fields := #[]
  methods := #[]
  instanceTypes := #[]
  staticTypes := #[]
  resolved := Array.replicate 12 none
  statics := none }

def pool4 : Array CpInfo := pool [(2, .class_ 4), (1, u "java/lang/CharSequence"), (42, .class_ 48), (0, u "java/lang/CharSequence$1CodePointIterator"), (10, .class_ 60), (0, u "java/lang/CharSequence$1CharIterator"), (5, .class_ 67), (0, u "java/lang/Object")] 63

/-- java/lang/CharSequence -/
def k4 : Class := { plain "java/lang/CharSequence" (some 0) with
  accessFlags := 1537
  interfaces := #[]
  cf := some (fileOf pool4 2 #[.nestMembers #[47, 59]] #[] 1537 66 #[] #[])
  fields := #[]
  methods := #[]
  instanceTypes := #[]
  staticTypes := #[]
  resolved := Array.replicate 131 none
  statics := none }

def pool5 : Array CpInfo := pool [(1, .class_ 2), (0, u "java/lang/constant/Constable"), (0, .class_ 4), (0, u "java/lang/Object")] 6

/-- java/lang/constant/Constable -/
def k5 : Class := { plain "java/lang/constant/Constable" (some 0) with
  accessFlags := 1537
  interfaces := #[]
  cf := some (fileOf pool5 1 #[] #[] 1537 3 #[] #[])
  fields := #[]
  methods := #[]
  instanceTypes := #[]
  staticTypes := #[]
  resolved := Array.replicate 11 none
  statics := none }

def pool6 : Array CpInfo := pool [(1, .class_ 2), (0, u "java/lang/constant/ConstantDesc"), (0, .class_ 4), (0, u "java/lang/Object")] 32

/-- java/lang/constant/ConstantDesc -/
def k6 : Class := { plain "java/lang/constant/ConstantDesc" (some 0) with
  accessFlags := 1537
  interfaces := #[]
  cf := some (fileOf pool6 1 #[] #[] 1537 3 #[] #[])
  fields := #[]
  methods := #[]
  instanceTypes := #[]
  staticTypes := #[]
  resolved := Array.replicate 37 none
  statics := none }

def pool7 : Array CpInfo := pool [(1, .methodref 2 3), (0, .class_ 4), (0, .nameAndType 5 6), (0, u "java/lang/Object"), (0, u "<init>"), (0, u "()V"), (2, .fieldref 10 11), (0, .class_ 12), (0, .nameAndType 13 14), (0, u "java/lang/String"), (0, u "value"), (0, u "[B"), (0, .fieldref 10 16), (0, .nameAndType 17 18), (0, u "coder"), (0, u "B"), (2, u "hash"), (0, u "I"), (2, u "hashIsZero"), (0, u "Z"), (0, .methodref 10 28), (0, .nameAndType 5 29), (0, u "([CIILjava/lang/Void;)V"), (8, .fieldref 10 39), (0, .nameAndType 40 26), (0, u "COMPACT_STRINGS"), (1, .class_ 44), (1, u "java/lang/StringUTF16"), (0, u "compress"), (1, .methodref 42 48), (0, .nameAndType 49 50), (0, u "coderFromArrayLen"), (0, u "([BI)B"), (2, u "toBytes"), (53, .class_ 109), (1, u "java/lang/StringLatin1"), (67, .methodref 42 178), (0, .nameAndType 45 179), (0, u "([CII)[B"), (29, .methodref 10 210), (0, .nameAndType 5 211), (0, u "([BB)V"), (157, u "(C)Z"), (205, .class_ 576), (0, u "java/lang/CharSequence"), (22, u "CASE_INSENSITIVE_ORDER"), (0, u "Ljava/util/Comparator;"), (181, u "valueOf"), (0, u "(C)Ljava/lang/String;"), (226, u "([C)V"), (4, .methodref 107 1016), (0, .nameAndType 1017 369), (0, u "canEncode"), (0, .methodref 107 1019), (0, .nameAndType 53 1020), (0, u "(C)[B"), (80, u "serialPersistentFields"), (0, u "[Ljava/io/ObjectStreamField;"), (0, .class_ 1104), (0, u "java/lang/String$CaseInsensitiveComparator"), (1, .class_ 1107), (0, u "java/io/Serializable"), (0, .class_ 1109), (0, u "java/lang/Comparable"), (0, .class_ 1111), (0, u "java/lang/constant/Constable"), (0, .class_ 1113), (0, u "java/lang/constant/ConstantDesc"), (2, u "serialVersionUID"), (0, u "J"), (3, u "REPL"), (0, u "C"), (2, u "LATIN1"), (1, u "UTF16")] 323

def k7m0 : Method := { name := "<init>", desc := "()V", sig := { parameters := [], returnType := none }, accessFlags := 1, code := none }
def k7c1 : Code := { maxStack := 5, maxLocals := 2, code := jdk_42_method_3_code, exceptionTable := #[], attributes := #[] }
def k7m1 : Method := { name := "<init>", desc := "([C)V", sig := { parameters := [(.array .char)], returnType := none }, accessFlags := 1, code := some k7c1 }
def k7c2 : Code := { maxStack := 4, maxLocals := 1, code := jdk_42_method_139_code, exceptionTable := #[], attributes := #[] }
def k7m2 : Method := { name := "valueOf", desc := "(C)Ljava/lang/String;", sig := { parameters := [.char], returnType := some (.object "java/lang/String") }, accessFlags := 9, code := some k7c2 }
def k7c3 : Code := { maxStack := 4, maxLocals := 6, code := jdk_42_method_149_code, exceptionTable := #[], attributes := #[] }
def k7m3 : Method := { name := "<init>", desc := "([CIILjava/lang/Void;)V", sig := { parameters := [(.array .char), .int, .int, (.object "java/lang/Void")], returnType := none }, accessFlags := 2, code := some k7c3 }
def k7c4 : Code := { maxStack := 2, maxLocals := 3, code := jdk_42_method_151_code, exceptionTable := #[], attributes := #[] }
def k7m4 : Method := { name := "<init>", desc := "([BB)V", sig := { parameters := [(.array .byte), .byte], returnType := none }, accessFlags := 0, code := some k7c4 }
/-- java/lang/String -/
def k7 : Class := { plain "java/lang/String" (some 0) with
  accessFlags := 49
  interfaces := #[2, 3, 4, 5, 6]
  cf := some (fileOf pool7 10 #[.nestMembers #[1103]] #[{ accessFlags := 1, nameIndex := 5, descriptorIndex := 6, attributes := #[] }, { accessFlags := 1, nameIndex := 5, descriptorIndex := 1010, attributes := #[] }, { accessFlags := 9, nameIndex := 782, descriptorIndex := 783, attributes := #[] }, { accessFlags := 2, nameIndex := 5, descriptorIndex := 29, attributes := #[] }, { accessFlags := 0, nameIndex := 5, descriptorIndex := 211, attributes := #[] }] 49 2 #[1106, 1108, 575, 1110, 1112] #[{ accessFlags := 18, nameIndex := 13, descriptorIndex := 14, attributes := #[] }, { accessFlags := 18, nameIndex := 17, descriptorIndex := 18, attributes := #[] }, { accessFlags := 2, nameIndex := 21, descriptorIndex := 22, attributes := #[] }, { accessFlags := 2, nameIndex := 25, descriptorIndex := 26, attributes := #[] }, { accessFlags := 26, nameIndex := 1116, descriptorIndex := 1117, attributes := #[] }, { accessFlags := 24, nameIndex := 40, descriptorIndex := 26, attributes := #[] }, { accessFlags := 26, nameIndex := 1101, descriptorIndex := 1102, attributes := #[] }, { accessFlags := 26, nameIndex := 1121, descriptorIndex := 1122, attributes := #[] }, { accessFlags := 25, nameIndex := 599, descriptorIndex := 600, attributes := #[] }, { accessFlags := 24, nameIndex := 1125, descriptorIndex := 18, attributes := #[] }, { accessFlags := 24, nameIndex := 1127, descriptorIndex := 18, attributes := #[] }])
  fields := #[{ name := "value", type := (.array .byte), accessFlags := 18, slot := 0, constantValue := 0 }, { name := "coder", type := .byte, accessFlags := 18, slot := 1, constantValue := 0 }, { name := "hash", type := .int, accessFlags := 2, slot := 2, constantValue := 0 }, { name := "hashIsZero", type := .boolean, accessFlags := 2, slot := 3, constantValue := 0 }, { name := "serialVersionUID", type := .long, accessFlags := 26, slot := 0, constantValue := 0 }, { name := "COMPACT_STRINGS", type := .boolean, accessFlags := 24, slot := 1, constantValue := 0 }, { name := "serialPersistentFields", type := (.array (.object "java/io/ObjectStreamField")), accessFlags := 26, slot := 2, constantValue := 0 }, { name := "REPL", type := .char, accessFlags := 26, slot := 3, constantValue := 0 }, { name := "CASE_INSENSITIVE_ORDER", type := (.object "java/util/Comparator"), accessFlags := 25, slot := 4, constantValue := 0 }, { name := "LATIN1", type := .byte, accessFlags := 24, slot := 5, constantValue := 0 }, { name := "UTF16", type := .byte, accessFlags := 24, slot := 6, constantValue := 0 }]
  methods := #[k7m0, k7m1, k7m2, k7m3, k7m4]
  instanceTypes := #[(.array .byte), .byte, .int, .boolean]
  staticTypes := #[.long, .boolean, (.array (.object "java/io/ObjectStreamField")), .char, (.object "java/util/Comparator"), .byte, .byte]
  resolved := Array.replicate 1451 none
  statics := some 0 }

def pool8 : Array CpInfo := pool [(6, .class_ 8), (1, u "java/lang/Object"), (0, u "<init>"), (0, u "()V"), (1, .class_ 14), (1, u "java/lang/StringUTF16"), (31, u "$assertionsDisabled"), (0, u "Z"), (13, u "HI_BYTE_SHIFT"), (0, u "I"), (2, u "LO_BYTE_SHIFT"), (49, .methodref 12 116), (0, .nameAndType 117 118), (0, u "compress"), (0, u "([CI[BII)I"), (3, u "([CII)[B"), (138, u "coderFromArrayLen"), (0, u "([BI)B"), (106, .class_ 371), (1, u "java/lang/StringUTF16$LinesSpliterator"), (58, u "MAX_LENGTH"), (196, .class_ 628), (0, u "java/lang/StringUTF16$CodePointsSpliterator"), (0, .class_ 630), (0, u "java/lang/StringUTF16$CharsSpliterator")] 4

def k8m0 : Method := { name := "<init>", desc := "()V", sig := { parameters := [], returnType := none }, accessFlags := 0, code := none }
def k8c1 : Code := { maxStack := 2, maxLocals := 2, code := jdk_52_method_15_code, exceptionTable := #[], attributes := #[] }
def k8m1 : Method := { name := "coderFromArrayLen", desc := "([BI)B", sig := { parameters := [(.array .byte), .int], returnType := some .byte }, accessFlags := 8, code := some k8c1 }
def k8c2 : Code := { maxStack := 5, maxLocals := 6, code := jdk_52_method_16_code, exceptionTable := #[], attributes := #[] }
def k8m2 : Method := { name := "compress", desc := "([CII)[B", sig := { parameters := [(.array .char), .int, .int], returnType := some (.array .byte) }, accessFlags := 9, code := some k8c2 }
def k8c3 : Code := { maxStack := 3, maxLocals := 7, code := jdk_52_method_21_code, exceptionTable := #[], attributes := #[] }
def k8m3 : Method := { name := "compress", desc := "([CI[BII)I", sig := { parameters := [(.array .char), .int, (.array .byte), .int, .int], returnType := some .int }, accessFlags := 9, code := some k8c3 }
/-- java/lang/StringUTF16 -/
def k8 : Class := { plain "java/lang/StringUTF16" (some 0) with
  accessFlags := 48
  interfaces := #[]
  cf := some (fileOf pool8 12 #[.nestMembers #[627, 629, 369]] #[{ accessFlags := 0, nameIndex := 9, descriptorIndex := 10, attributes := #[] }, { accessFlags := 8, nameIndex := 261, descriptorIndex := 262, attributes := #[] }, { accessFlags := 9, nameIndex := 117, descriptorIndex := 122, attributes := #[] }, { accessFlags := 9, nameIndex := 117, descriptorIndex := 118, attributes := #[] }] 48 6 #[] #[{ accessFlags := 26, nameIndex := 61, descriptorIndex := 62, attributes := #[] }, { accessFlags := 26, nameIndex := 65, descriptorIndex := 62, attributes := #[] }, { accessFlags := 24, nameIndex := 430, descriptorIndex := 62, attributes := #[] }, { accessFlags := 4120, nameIndex := 46, descriptorIndex := 47, attributes := #[] }])
  fields := #[{ name := "HI_BYTE_SHIFT", type := .int, accessFlags := 26, slot := 0, constantValue := 0 }, { name := "LO_BYTE_SHIFT", type := .int, accessFlags := 26, slot := 1, constantValue := 0 }, { name := "MAX_LENGTH", type := .int, accessFlags := 24, slot := 2, constantValue := 0 }, { name := "$assertionsDisabled", type := .boolean, accessFlags := 4120, slot := 3, constantValue := 0 }]
  methods := #[k8m0, k8m1, k8m2, k8m3]
  instanceTypes := #[]
  staticTypes := #[.int, .int, .int, .boolean]
  resolved := Array.replicate 635 none
  statics := none }

def pool9 : Array CpInfo := pool [(4, .class_ 6), (1, u "java/lang/Object"), (0, u "<init>"), (0, u "()V"), (5, .class_ 16), (1, u "java/lang/StringLatin1"), (73, u "canEncode"), (14, u "(C)Z"), (15, u "$assertionsDisabled"), (0, u "Z"), (98, .class_ 223), (1, u "java/lang/StringLatin1$LinesSpliterator"), (156, u "toBytes"), (1, u "(C)[B"), (7, .class_ 391), (0, u "java/lang/StringLatin1$CharsSpliterator")] 3

def k9m0 : Method := { name := "<init>", desc := "()V", sig := { parameters := [], returnType := none }, accessFlags := 0, code := none }
def k9c1 : Code := { maxStack := 2, maxLocals := 1, code := jdk_43_method_3_code, exceptionTable := #[], attributes := #[] }
def k9m1 : Method := { name := "canEncode", desc := "(C)Z", sig := { parameters := [.char], returnType := some .boolean }, accessFlags := 9, code := some k9c1 }
def k9c2 : Code := { maxStack := 4, maxLocals := 1, code := jdk_43_method_46_code, exceptionTable := #[], attributes := #[] }
def k9m2 : Method := { name := "toBytes", desc := "(C)[B", sig := { parameters := [.char], returnType := some (.array .byte) }, accessFlags := 9, code := some k9c2 }
/-- java/lang/StringLatin1 -/
def k9 : Class := { plain "java/lang/StringLatin1" (some 0) with
  accessFlags := 48
  interfaces := #[]
  cf := some (fileOf pool9 14 #[.nestMembers #[390, 221]] #[{ accessFlags := 0, nameIndex := 7, descriptorIndex := 8, attributes := #[] }, { accessFlags := 9, nameIndex := 90, descriptorIndex := 105, attributes := #[] }, { accessFlags := 9, nameIndex := 380, descriptorIndex := 382, attributes := #[] }] 48 4 #[] #[{ accessFlags := 4120, nameIndex := 121, descriptorIndex := 122, attributes := #[] }])
  fields := #[{ name := "$assertionsDisabled", type := .boolean, accessFlags := 4120, slot := 0, constantValue := 0 }]
  methods := #[k9m0, k9m1, k9m2]
  instanceTypes := #[]
  staticTypes := #[.boolean]
  resolved := Array.replicate 395 none
  statics := none }

def pool10 : Array CpInfo := pool [(1, .methodref 2 3), (0, .class_ 4), (0, .nameAndType 5 6), (0, u "java/lang/Object"), (0, u "<init>"), (0, u "()V"), (0, .fieldref 8 9), (0, .class_ 10), (0, .nameAndType 11 12), (0, u "com/example/subsume/subsume/engine/Individual"), (0, u "name"), (0, u "Ljava/lang/String;"), (0, .fieldref 8 14), (0, .nameAndType 15 16), (0, u "id"), (0, u "I"), (7, u "(Ljava/lang/String;I)V")] 32

def k10c0 : Code := { maxStack := 2, maxLocals := 3, code := prog_13_method_1_code, exceptionTable := #[], attributes := #[] }
def k10m0 : Method := { name := "<init>", desc := "(Ljava/lang/String;I)V", sig := { parameters := [(.object "java/lang/String"), .int], returnType := none }, accessFlags := 0, code := some k10c0 }
/-- com/example/subsume/subsume/engine/Individual -/
def k10 : Class := { plain "com/example/subsume/subsume/engine/Individual" (some 0) with
  accessFlags := 49
  interfaces := #[]
  cf := some (fileOf pool10 8 #[] #[{ accessFlags := 0, nameIndex := 5, descriptorIndex := 24, attributes := #[] }] 49 2 #[] #[{ accessFlags := 18, nameIndex := 11, descriptorIndex := 12, attributes := #[] }, { accessFlags := 18, nameIndex := 15, descriptorIndex := 16, attributes := #[] }])
  fields := #[{ name := "name", type := (.object "java/lang/String"), accessFlags := 18, slot := 0, constantValue := 0 }, { name := "id", type := .int, accessFlags := 18, slot := 1, constantValue := 0 }]
  methods := #[k10m0]
  instanceTypes := #[(.object "java/lang/String"), .int]
  staticTypes := #[]
  resolved := Array.replicate 57 none
  statics := none }

def pool11 : Array CpInfo := pool [(1, .methodref 2 3), (0, .class_ 4), (0, .nameAndType 5 6), (0, u "java/lang/Object"), (0, u "<init>"), (0, u "()V"), (0, .class_ 8), (0, u "java/lang/Record")] 13

def k11c0 : Code := { maxStack := 1, maxLocals := 1, code := jdk_30_method_1_code, exceptionTable := #[], attributes := #[] }
def k11m0 : Method := { name := "<init>", desc := "()V", sig := { parameters := [], returnType := none }, accessFlags := 4, code := some k11c0 }
/-- java/lang/Record -/
def k11 : Class := { plain "java/lang/Record" (some 0) with
  accessFlags := 1057
  interfaces := #[]
  cf := some (fileOf pool11 7 #[] #[{ accessFlags := 4, nameIndex := 5, descriptorIndex := 6, attributes := #[] }] 1057 2 #[] #[])
  fields := #[]
  methods := #[k11m0]
  instanceTypes := #[]
  staticTypes := #[]
  resolved := Array.replicate 22 none
  statics := none }

def pool12 : Array CpInfo := pool [(1, .class_ 2), (0, u "com/example/subsume/subsume/engine/Axiom"), (0, .class_ 4), (0, u "java/lang/Object")] 11

/-- com/example/subsume/subsume/engine/Axiom -/
def k12 : Class := { plain "com/example/subsume/subsume/engine/Axiom" (some 0) with
  accessFlags := 1537
  interfaces := #[]
  cf := some (fileOf pool12 1 #[] #[] 1537 3 #[] #[])
  fields := #[]
  methods := #[]
  instanceTypes := #[]
  staticTypes := #[]
  resolved := Array.replicate 16 none
  statics := none }

def pool13 : Array CpInfo := pool [(1, .class_ 2), (0, u "com/example/subsume/subsume/engine/Assertion"), (0, .class_ 4), (0, u "java/lang/Object"), (0, .class_ 6), (0, u "com/example/subsume/subsume/engine/Axiom")] 19

/-- com/example/subsume/subsume/engine/Assertion -/
def k13 : Class := { plain "com/example/subsume/subsume/engine/Assertion" (some 0) with
  accessFlags := 1537
  interfaces := #[12]
  cf := some (fileOf pool13 1 #[] #[] 1537 3 #[5] #[])
  fields := #[]
  methods := #[]
  instanceTypes := #[]
  staticTypes := #[]
  resolved := Array.replicate 26 none
  statics := none }

def pool14 : Array CpInfo := pool [(1, .methodref 2 3), (0, .class_ 4), (0, .nameAndType 5 6), (0, u "java/lang/Record"), (0, u "<init>"), (0, u "()V"), (0, .fieldref 8 9), (0, .class_ 10), (0, .nameAndType 11 12), (0, u "com/example/subsume/subsume/engine/IndividualEquality"), (0, u "individual"), (0, u "Lcom/example/subsume/subsume/engine/Individual;"), (0, .fieldref 8 14), (0, .nameAndType 15 12), (0, u "other"), (0, .interfaceMethodref 17 18), (0, .class_ 19), (0, .nameAndType 20 21), (0, u "java/util/List"), (0, u "of"), (0, u "(Ljava/lang/Object;Ljava/lang/Object;)Ljava/util/List;"), (4, u "(Lcom/example/subsume/subsume/engine/Individual;Lcom/example/subsume/subsume/engine/Individual;)V"), (16, .class_ 44), (0, u "com/example/subsume/subsume/engine/Assertion"), (3, u "individuals"), (0, u "()Ljava/util/List;")] 28

def k14c0 : Code := { maxStack := 2, maxLocals := 3, code := prog_14_method_1_code, exceptionTable := #[], attributes := #[] }
def k14m0 : Method := { name := "<init>", desc := "(Lcom/example/subsume/subsume/engine/Individual;Lcom/example/subsume/subsume/engine/Individual;)V", sig := { parameters := [(.object "com/example/subsume/subsume/engine/Individual"), (.object "com/example/subsume/subsume/engine/Individual")], returnType := none }, accessFlags := 1, code := some k14c0 }
def k14c1 : Code := { maxStack := 2, maxLocals := 1, code := prog_14_method_2_code, exceptionTable := #[], attributes := #[] }
def k14m1 : Method := { name := "individuals", desc := "()Ljava/util/List;", sig := { parameters := [], returnType := some (.object "java/util/List") }, accessFlags := 1, code := some k14c1 }
/-- com/example/subsume/subsume/engine/IndividualEquality -/
def k14 : Class := { plain "com/example/subsume/subsume/engine/IndividualEquality" (some 11) with
  accessFlags := 49
  interfaces := #[13]
  cf := some (fileOf pool14 8 #[] #[{ accessFlags := 1, nameIndex := 5, descriptorIndex := 26, attributes := #[] }, { accessFlags := 1, nameIndex := 48, descriptorIndex := 49, attributes := #[] }] 49 2 #[43] #[{ accessFlags := 18, nameIndex := 11, descriptorIndex := 12, attributes := #[] }, { accessFlags := 18, nameIndex := 15, descriptorIndex := 12, attributes := #[] }])
  fields := #[{ name := "individual", type := (.object "com/example/subsume/subsume/engine/Individual"), accessFlags := 18, slot := 0, constantValue := 0 }, { name := "other", type := (.object "com/example/subsume/subsume/engine/Individual"), accessFlags := 18, slot := 1, constantValue := 0 }]
  methods := #[k14m0, k14m1]
  instanceTypes := #[(.object "com/example/subsume/subsume/engine/Individual"), (.object "com/example/subsume/subsume/engine/Individual")]
  staticTypes := #[]
  resolved := Array.replicate 78 none
  statics := none }

def pool15 : Array CpInfo := pool [(8, .class_ 10), (1, u "java/lang/Iterable"), (24, .class_ 36), (0, u "java/lang/Object")] 25

/-- java/lang/Iterable -/
def k15 : Class := { plain "java/lang/Iterable" (some 0) with
  accessFlags := 1537
  interfaces := #[]
  cf := some (fileOf pool15 8 #[] #[] 1537 35 #[] #[])
  fields := #[]
  methods := #[]
  instanceTypes := #[]
  staticTypes := #[]
  resolved := Array.replicate 62 none
  statics := none }

def pool16 : Array CpInfo := pool [(10, .class_ 12), (1, u "java/util/Collection"), (47, .class_ 61), (0, u "java/lang/Object"), (0, .class_ 63), (0, u "java/lang/Iterable")] 51

/-- java/util/Collection -/
def k16 : Class := { plain "java/util/Collection" (some 0) with
  accessFlags := 1537
  interfaces := #[15]
  cf := some (fileOf pool16 10 #[] #[] 1537 60 #[62] #[])
  fields := #[]
  methods := #[]
  instanceTypes := #[]
  staticTypes := #[]
  resolved := Array.replicate 115 none
  statics := none }

def pool17 : Array CpInfo := pool [(8, .class_ 10), (1, u "java/util/SequencedCollection"), (15, .class_ 27), (0, u "java/lang/Object"), (0, .class_ 29), (0, u "java/util/Collection")] 27

/-- java/util/SequencedCollection -/
def k17 : Class := { plain "java/util/SequencedCollection" (some 0) with
  accessFlags := 1537
  interfaces := #[16]
  cf := some (fileOf pool17 8 #[] #[] 1537 26 #[28] #[])
  fields := #[]
  methods := #[]
  instanceTypes := #[]
  staticTypes := #[]
  resolved := Array.replicate 57 none
  statics := none }

def pool18 : Array CpInfo := pool [(8, .class_ 10), (1, u "java/util/List"), (37, u "<init>"), (26, u "get"), (0, u "(I)Ljava/lang/Object;"), (2, u "size"), (0, u "()I"), (7, u "of"), (7, .class_ 97), (0, u "java/util/ImmutableCollections$List12"), (2, .methodref 96 101), (0, .nameAndType 48 102), (0, u "(Ljava/lang/Object;Ljava/lang/Object;)V"), (0, .class_ 104), (0, u "java/lang/Object"), (15, .class_ 121), (0, u "java/util/SequencedCollection"), (79, u "(Ljava/lang/Object;Ljava/lang/Object;)Ljava/util/List;")] 49

def k18m0 : Method := { name := "size", desc := "()I", sig := { parameters := [], returnType := some .int }, accessFlags := 1025, code := none }
def k18m1 : Method := { name := "get", desc := "(I)Ljava/lang/Object;", sig := { parameters := [.int], returnType := some (.object "java/lang/Object") }, accessFlags := 1025, code := none }
def k18c2 : Code := { maxStack := 4, maxLocals := 2, code := jdk_40_method_38_code, exceptionTable := #[], attributes := #[] }
def k18m2 : Method := { name := "of", desc := "(Ljava/lang/Object;Ljava/lang/Object;)Ljava/util/List;", sig := { parameters := [(.object "java/lang/Object"), (.object "java/lang/Object")], returnType := some (.object "java/util/List") }, accessFlags := 9, code := some k18c2 }
/-- java/util/List -/
def k18 : Class := { plain "java/util/List" (some 0) with
  accessFlags := 1537
  interfaces := #[17]
  cf := some (fileOf pool18 8 #[] #[{ accessFlags := 1025, nameIndex := 79, descriptorIndex := 80, attributes := #[] }, { accessFlags := 1025, nameIndex := 75, descriptorIndex := 76, attributes := #[] }, { accessFlags := 9, nameIndex := 88, descriptorIndex := 201, attributes := #[] }] 1537 103 #[120] #[])
  fields := #[]
  methods := #[k18m0, k18m1, k18m2]
  instanceTypes := #[]
  staticTypes := #[]
  resolved := Array.replicate 251 none
  statics := none }

def pool19 : Array CpInfo := pool [(1, .methodref 2 3), (0, .class_ 4), (0, .nameAndType 5 6), (0, u "java/lang/Object"), (0, u "<init>"), (0, u "()V"), (1, .class_ 10), (1, u "java/util/AbstractCollection"), (66, .class_ 78), (0, u "java/util/Collection")] 81

def k19c0 : Code := { maxStack := 1, maxLocals := 1, code := jdk_22_method_1_code, exceptionTable := #[], attributes := #[] }
def k19m0 : Method := { name := "<init>", desc := "()V", sig := { parameters := [], returnType := none }, accessFlags := 4, code := some k19c0 }
/-- java/util/AbstractCollection -/
def k19 : Class := { plain "java/util/AbstractCollection" (some 0) with
  accessFlags := 1057
  interfaces := #[16]
  cf := some (fileOf pool19 8 #[] #[{ accessFlags := 4, nameIndex := 5, descriptorIndex := 6, attributes := #[] }] 1057 2 #[77] #[])
  fields := #[]
  methods := #[k19m0]
  instanceTypes := #[]
  staticTypes := #[]
  resolved := Array.replicate 160 none
  statics := none }

def pool20 : Array CpInfo := pool [(1, .methodref 2 3), (0, .class_ 4), (0, .nameAndType 5 6), (0, u "java/util/AbstractCollection"), (0, u "<init>"), (0, u "()V"), (1, .class_ 10), (1, u "java/util/ImmutableCollections"), (2, .class_ 14), (0, u "java/util/ImmutableCollections$AbstractImmutableCollection")] 41

def k20c0 : Code := { maxStack := 1, maxLocals := 1, code := jdk_47_method_1_code, exceptionTable := #[], attributes := #[] }
def k20m0 : Method := { name := "<init>", desc := "()V", sig := { parameters := [], returnType := none }, accessFlags := 0, code := some k20c0 }
/-- java/util/ImmutableCollections$AbstractImmutableCollection -/
def k20 : Class := { plain "java/util/ImmutableCollections$AbstractImmutableCollection" (some 19) with
  accessFlags := 1056
  interfaces := #[]
  cf := some (fileOf pool20 13 #[.nestHost 8] #[{ accessFlags := 0, nameIndex := 5, descriptorIndex := 6, attributes := #[] }] 1056 2 #[] #[])
  fields := #[]
  methods := #[k20m0]
  instanceTypes := #[]
  staticTypes := #[]
  resolved := Array.replicate 56 none
  statics := none }

def pool21 : Array CpInfo := pool [(1, .class_ 2), (0, u "java/util/RandomAccess"), (0, .class_ 4), (0, u "java/lang/Object")] 2

/-- java/util/RandomAccess -/
def k21 : Class := { plain "java/util/RandomAccess" (some 0) with
  accessFlags := 1537
  interfaces := #[]
  cf := some (fileOf pool21 1 #[] #[] 1537 3 #[] #[])
  fields := #[]
  methods := #[]
  instanceTypes := #[]
  staticTypes := #[]
  resolved := Array.replicate 7 none
  statics := none }

def pool22 : Array CpInfo := pool [(1, .methodref 2 3), (0, .class_ 4), (0, .nameAndType 5 6), (0, u "java/util/ImmutableCollections$AbstractImmutableCollection"), (0, u "<init>"), (0, u "()V"), (1, .class_ 10), (1, u "java/util/ImmutableCollections"), (3, .class_ 16), (1, u "java/util/ImmutableCollections$AbstractImmutableList"), (60, .class_ 78), (0, u "java/util/List"), (45, .class_ 125), (0, u "java/util/RandomAccess")] 70

def k22c0 : Code := { maxStack := 1, maxLocals := 1, code := jdk_46_method_1_code, exceptionTable := #[], attributes := #[] }
def k22m0 : Method := { name := "<init>", desc := "()V", sig := { parameters := [], returnType := none }, accessFlags := 0, code := some k22c0 }
/-- java/util/ImmutableCollections$AbstractImmutableList -/
def k22 : Class := { plain "java/util/ImmutableCollections$AbstractImmutableList" (some 20) with
  accessFlags := 1056
  interfaces := #[18, 21]
  cf := some (fileOf pool22 14 #[.nestHost 8] #[{ accessFlags := 0, nameIndex := 5, descriptorIndex := 6, attributes := #[] }] 1056 2 #[77, 124] #[])
  fields := #[]
  methods := #[k22m0]
  instanceTypes := #[]
  staticTypes := #[]
  resolved := Array.replicate 196 none
  statics := none }

def pool23 : Array CpInfo := pool [(1, .methodref 2 3), (0, .class_ 4), (0, .nameAndType 5 6), (0, u "java/util/ImmutableCollections$AbstractImmutableList"), (0, u "<init>"), (0, u "()V"), (0, .methodref 8 9), (0, .class_ 10), (0, .nameAndType 11 12), (0, u "java/util/Objects"), (0, u "requireNonNull"), (0, u "(Ljava/lang/Object;)Ljava/lang/Object;"), (0, .fieldref 14 15), (0, .class_ 16), (0, .nameAndType 17 18), (0, u "java/util/ImmutableCollections$List12"), (0, u "e0"), (0, u "Ljava/lang/Object;"), (0, .fieldref 20 21), (0, .class_ 22), (0, .nameAndType 23 18), (0, u "java/util/ImmutableCollections"), (0, u "EMPTY"), (0, .fieldref 14 25), (0, .nameAndType 26 18), (0, u "e1"), (24, u "size"), (0, u "()I"), (17, .class_ 71), (0, u "java/io/Serializable"), (13, u "(Ljava/lang/Object;Ljava/lang/Object;)V"), (4, u "get"), (0, u "(I)Ljava/lang/Object;")] 33

def k23c0 : Code := { maxStack := 2, maxLocals := 3, code := jdk_44_method_2_code, exceptionTable := #[], attributes := #[] }
def k23m0 : Method := { name := "<init>", desc := "(Ljava/lang/Object;Ljava/lang/Object;)V", sig := { parameters := [(.object "java/lang/Object"), (.object "java/lang/Object")], returnType := none }, accessFlags := 0, code := some k23c0 }
def k23c1 : Code := { maxStack := 2, maxLocals := 1, code := jdk_44_method_3_code, exceptionTable := #[], attributes := #[] }
def k23m1 : Method := { name := "size", desc := "()I", sig := { parameters := [], returnType := some .int }, accessFlags := 1, code := some k23c1 }
def k23c2 : Code := { maxStack := 2, maxLocals := 2, code := jdk_44_method_5_code, exceptionTable := #[], attributes := #[] }
def k23m2 : Method := { name := "get", desc := "(I)Ljava/lang/Object;", sig := { parameters := [.int], returnType := some (.object "java/lang/Object") }, accessFlags := 1, code := some k23c2 }
/-- java/util/ImmutableCollections$List12 -/
def k23 : Class := { plain "java/util/ImmutableCollections$List12" (some 22) with
  accessFlags := 48
  interfaces := #[2]
  cf := some (fileOf pool23 14 #[.nestHost 20] #[{ accessFlags := 0, nameIndex := 5, descriptorIndex := 85, attributes := #[] }, { accessFlags := 1, nameIndex := 51, descriptorIndex := 52, attributes := #[] }, { accessFlags := 1, nameIndex := 90, descriptorIndex := 91, attributes := #[] }] 48 2 #[70] #[{ accessFlags := 18, nameIndex := 17, descriptorIndex := 18, attributes := #[] }, { accessFlags := 18, nameIndex := 26, descriptorIndex := 18, attributes := #[] }])
  fields := #[{ name := "e0", type := (.object "java/lang/Object"), accessFlags := 18, slot := 0, constantValue := 0 }, { name := "e1", type := (.object "java/lang/Object"), accessFlags := 18, slot := 1, constantValue := 0 }]
  methods := #[k23m0, k23m1, k23m2]
  instanceTypes := #[(.object "java/lang/Object"), (.object "java/lang/Object")]
  staticTypes := #[]
  resolved := Array.replicate 125 none
  statics := none }

def pool24 : Array CpInfo := pool [(2, .class_ 4), (1, u "java/lang/Object"), (0, u "<init>"), (0, u "()V"), (35, .class_ 44), (1, u "java/util/Objects"), (0, u "requireNonNull"), (0, u "(Ljava/lang/Object;)Ljava/lang/Object;")] 137

def k24m0 : Method := { name := "<init>", desc := "()V", sig := { parameters := [], returnType := none }, accessFlags := 2, code := none }
def k24c1 : Code := { maxStack := 2, maxLocals := 1, code := jdk_31_method_10_code, exceptionTable := #[], attributes := #[] }
def k24m1 : Method := { name := "requireNonNull", desc := "(Ljava/lang/Object;)Ljava/lang/Object;", sig := { parameters := [(.object "java/lang/Object")], returnType := some (.object "java/lang/Object") }, accessFlags := 9, code := some k24c1 }
/-- java/util/Objects -/
def k24 : Class := { plain "java/util/Objects" (some 0) with
  accessFlags := 49
  interfaces := #[]
  cf := some (fileOf pool24 42 #[] #[{ accessFlags := 2, nameIndex := 5, descriptorIndex := 6, attributes := #[] }, { accessFlags := 9, nameIndex := 45, descriptorIndex := 46, attributes := #[] }] 49 2 #[] #[])
  fields := #[]
  methods := #[k24m0, k24m1]
  instanceTypes := #[]
  staticTypes := #[]
  resolved := Array.replicate 184 none
  statics := none }

def pool25 : Array CpInfo := pool [(2, .class_ 4), (1, u "java/lang/Object"), (0, u "<init>"), (0, u "()V"), (3, .class_ 11), (0, u "java/util/ImmutableCollections$List12"), (0, .class_ 13), (0, u "java/util/ImmutableCollections$ListN"), (3, u "Z"), (29, .class_ 49), (1, u "java/util/ImmutableCollections"), (0, u "$assertionsDisabled"), (5, u "[Ljava/lang/Object;"), (5, u "EMPTY_LIST"), (0, u "Ljava/util/ImmutableCollections$ListN;"), (8, u "EMPTY_LIST_NULLS"), (22, u "SALT32L"), (0, u "J"), (2, u "REVERSE"), (6, u "archivedObjects"), (2, u "EMPTY"), (0, u "Ljava/lang/Object;"), (0, .class_ 112), (0, u "java/util/ImmutableCollections$SetN"), (5, u "EMPTY_SET"), (0, u "Ljava/util/ImmutableCollections$SetN;"), (0, .class_ 121), (0, u "java/util/ImmutableCollections$MapN"), (3, u "EMPTY_MAP"), (0, u "Ljava/util/ImmutableCollections$MapN;"), (4, u "EXPAND_FACTOR"), (0, u "I"), (36, .class_ 170), (0, u "java/util/ImmutableCollections$MapN$MapNIterator"), (0, .class_ 172), (0, u "java/util/ImmutableCollections$MapN$1"), (0, .class_ 174), (0, u "java/util/ImmutableCollections$Map1"), (0, .class_ 176), (0, u "java/util/ImmutableCollections$AbstractImmutableMap"), (0, .class_ 178), (0, u "java/util/ImmutableCollections$SetN$SetNIterator"), (0, .class_ 180), (0, u "java/util/ImmutableCollections$Set12"), (0, .class_ 182), (0, u "java/util/ImmutableCollections$Set12$1"), (0, .class_ 184), (0, u "java/util/ImmutableCollections$AbstractImmutableSet"), (0, .class_ 186), (0, u "java/util/ImmutableCollections$SubList"), (0, .class_ 188), (0, u "java/util/ImmutableCollections$ListItr"), (0, .class_ 190), (0, u "java/util/ImmutableCollections$AbstractImmutableList"), (0, .class_ 192), (0, u "java/util/ImmutableCollections$AbstractImmutableCollection"), (0, .class_ 194), (0, u "java/util/ImmutableCollections$Access"), (0, .class_ 196), (0, u "java/util/ImmutableCollections$Access$1")] 16

def k25m0 : Method := { name := "<init>", desc := "()V", sig := { parameters := [], returnType := none }, accessFlags := 2, code := none }
/-- java/util/ImmutableCollections -/
def k25 : Class := { plain "java/util/ImmutableCollections" (some 0) with
  accessFlags := 32
  interfaces := #[]
  cf := some (fileOf pool25 47 #[.nestMembers #[120, 169, 171, 173, 175, 111, 177, 179, 181, 183, 12, 10, 185, 187, 189, 191, 193, 195]] #[{ accessFlags := 2, nameIndex := 5, descriptorIndex := 6, attributes := #[] }] 32 2 #[] #[{ accessFlags := 26, nameIndex := 95, descriptorIndex := 96, attributes := #[] }, { accessFlags := 26, nameIndex := 99, descriptorIndex := 17, attributes := #[] }, { accessFlags := 10, nameIndex := 106, descriptorIndex := 56, attributes := #[] }, { accessFlags := 26, nameIndex := 109, descriptorIndex := 110, attributes := #[] }, { accessFlags := 24, nameIndex := 62, descriptorIndex := 63, attributes := #[] }, { accessFlags := 24, nameIndex := 72, descriptorIndex := 63, attributes := #[] }, { accessFlags := 24, nameIndex := 118, descriptorIndex := 119, attributes := #[] }, { accessFlags := 24, nameIndex := 125, descriptorIndex := 126, attributes := #[] }, { accessFlags := 24, nameIndex := 131, descriptorIndex := 132, attributes := #[] }, { accessFlags := 4120, nameIndex := 50, descriptorIndex := 17, attributes := #[] }])
  fields := #[{ name := "SALT32L", type := .long, accessFlags := 26, slot := 0, constantValue := 0 }, { name := "REVERSE", type := .boolean, accessFlags := 26, slot := 1, constantValue := 0 }, { name := "archivedObjects", type := (.array (.object "java/lang/Object")), accessFlags := 10, slot := 2, constantValue := 0 }, { name := "EMPTY", type := (.object "java/lang/Object"), accessFlags := 26, slot := 3, constantValue := 0 }, { name := "EMPTY_LIST", type := (.object "java/util/ImmutableCollections$ListN"), accessFlags := 24, slot := 4, constantValue := 0 }, { name := "EMPTY_LIST_NULLS", type := (.object "java/util/ImmutableCollections$ListN"), accessFlags := 24, slot := 5, constantValue := 0 }, { name := "EMPTY_SET", type := (.object "java/util/ImmutableCollections$SetN"), accessFlags := 24, slot := 6, constantValue := 0 }, { name := "EMPTY_MAP", type := (.object "java/util/ImmutableCollections$MapN"), accessFlags := 24, slot := 7, constantValue := 0 }, { name := "EXPAND_FACTOR", type := .int, accessFlags := 24, slot := 8, constantValue := 0 }, { name := "$assertionsDisabled", type := .boolean, accessFlags := 4120, slot := 9, constantValue := 0 }]
  methods := #[k25m0]
  instanceTypes := #[]
  staticTypes := #[.long, .boolean, (.array (.object "java/lang/Object")), (.object "java/lang/Object"), (.object "java/util/ImmutableCollections$ListN"), (.object "java/util/ImmutableCollections$ListN"), (.object "java/util/ImmutableCollections$SetN"), (.object "java/util/ImmutableCollections$MapN"), .int, .boolean]
  resolved := Array.replicate 213 none
  statics := some 1 }

def pool26 : Array CpInfo := pool [(2, .class_ 4), (1, u "java/lang/Object"), (0, u "<init>"), (0, u "()V"), (17, .class_ 26), (1, u "jdk/internal/util/Preconditions"), (28, .class_ 56), (0, u "jdk/internal/util/Preconditions$4"), (57, .class_ 115), (0, u "jdk/internal/util/Preconditions$1"), (7, u "SIOOBE_FORMATTER"), (0, u "Ljava/util/function/BiFunction;"), (0, .class_ 126), (0, u "jdk/internal/util/Preconditions$2"), (3, u "AIOOBE_FORMATTER"), (0, .class_ 132), (0, u "jdk/internal/util/Preconditions$3"), (3, u "IOOBE_FORMATTER")] 57

def k26m0 : Method := { name := "<init>", desc := "()V", sig := { parameters := [], returnType := none }, accessFlags := 1, code := none }
/-- jdk/internal/util/Preconditions -/
def k26 : Class := { plain "jdk/internal/util/Preconditions" (some 0) with
  accessFlags := 33
  interfaces := #[]
  cf := some (fileOf pool26 24 #[.nestMembers #[55, 131, 125, 114]] #[{ accessFlags := 1, nameIndex := 5, descriptorIndex := 6, attributes := #[] }] 33 2 #[] #[{ accessFlags := 25, nameIndex := 123, descriptorIndex := 124, attributes := #[] }, { accessFlags := 25, nameIndex := 130, descriptorIndex := 124, attributes := #[] }, { accessFlags := 25, nameIndex := 136, descriptorIndex := 124, attributes := #[] }])
  fields := #[{ name := "SIOOBE_FORMATTER", type := (.object "java/util/function/BiFunction"), accessFlags := 25, slot := 0, constantValue := 0 }, { name := "AIOOBE_FORMATTER", type := (.object "java/util/function/BiFunction"), accessFlags := 25, slot := 1, constantValue := 0 }, { name := "IOOBE_FORMATTER", type := (.object "java/util/function/BiFunction"), accessFlags := 25, slot := 2, constantValue := 0 }]
  methods := #[k26m0]
  instanceTypes := #[]
  staticTypes := #[(.object "java/util/function/BiFunction"), (.object "java/util/function/BiFunction"), (.object "java/util/function/BiFunction")]
  resolved := Array.replicate 194 none
  statics := some 2 }

def pool27 : Array CpInfo := pool [(9, u "<init>"), (6, .class_ 18), (1, u "java/lang/Object"), (0, u "()V"), (1, .class_ 23), (1, u "jdk/internal/util/ArraysSupport"), (0, u "LOG2_ARRAY_LONG_INDEX_SCALE"), (0, u "I"), (2, u "U"), (0, u "Ljdk/internal/misc/Unsafe;"), (8, u "BIG_ENDIAN"), (0, u "Z"), (8, u "LOG2_BYTE_BIT_SIZE"), (4, u "LOG2_ARRAY_INT_INDEX_SCALE"), (54, u "JLA"), (0, u "Ljdk/internal/access/JavaLangAccess;"), (11, u "LOG2_ARRAY_BOOLEAN_INDEX_SCALE"), (9, u "LOG2_ARRAY_BYTE_INDEX_SCALE"), (5, u "LOG2_ARRAY_CHAR_INDEX_SCALE"), (5, u "LOG2_ARRAY_SHORT_INDEX_SCALE"), (18, u "LOG2_ARRAY_FLOAT_INDEX_SCALE"), (24, u "LOG2_ARRAY_DOUBLE_INDEX_SCALE"), (89, u "T_BOOLEAN"), (2, u "T_CHAR"), (1, u "T_FLOAT"), (1, u "T_DOUBLE"), (1, u "T_BYTE"), (1, u "T_SHORT"), (1, u "T_INT"), (1, u "T_LONG"), (1, u "SOFT_MAX_ARRAY_LENGTH")] 83

def k27m0 : Method := { name := "<init>", desc := "()V", sig := { parameters := [], returnType := none }, accessFlags := 2, code := none }
/-- jdk/internal/util/ArraysSupport -/
def k27 : Class := { plain "jdk/internal/util/ArraysSupport" (some 0) with
  accessFlags := 33
  interfaces := #[]
  cf := some (fileOf pool27 21 #[] #[{ accessFlags := 2, nameIndex := 9, descriptorIndex := 19, attributes := #[] }] 33 16 #[] #[{ accessFlags := 24, nameIndex := 28, descriptorIndex := 29, attributes := #[] }, { accessFlags := 26, nameIndex := 38, descriptorIndex := 39, attributes := #[] }, { accessFlags := 25, nameIndex := 121, descriptorIndex := 25, attributes := #[] }, { accessFlags := 25, nameIndex := 131, descriptorIndex := 25, attributes := #[] }, { accessFlags := 25, nameIndex := 137, descriptorIndex := 25, attributes := #[] }, { accessFlags := 25, nameIndex := 143, descriptorIndex := 25, attributes := #[] }, { accessFlags := 25, nameIndex := 53, descriptorIndex := 25, attributes := #[] }, { accessFlags := 25, nameIndex := 24, descriptorIndex := 25, attributes := #[] }, { accessFlags := 25, nameIndex := 162, descriptorIndex := 25, attributes := #[] }, { accessFlags := 25, nameIndex := 187, descriptorIndex := 25, attributes := #[] }, { accessFlags := 26, nameIndex := 48, descriptorIndex := 25, attributes := #[] }, { accessFlags := 25, nameIndex := 277, descriptorIndex := 25, attributes := #[] }, { accessFlags := 25, nameIndex := 280, descriptorIndex := 25, attributes := #[] }, { accessFlags := 25, nameIndex := 282, descriptorIndex := 25, attributes := #[] }, { accessFlags := 25, nameIndex := 284, descriptorIndex := 25, attributes := #[] }, { accessFlags := 25, nameIndex := 286, descriptorIndex := 25, attributes := #[] }, { accessFlags := 25, nameIndex := 288, descriptorIndex := 25, attributes := #[] }, { accessFlags := 25, nameIndex := 290, descriptorIndex := 25, attributes := #[] }, { accessFlags := 25, nameIndex := 292, descriptorIndex := 25, attributes := #[] }, { accessFlags := 26, nameIndex := 108, descriptorIndex := 109, attributes := #[] }, { accessFlags := 25, nameIndex := 294, descriptorIndex := 25, attributes := #[] }])
  fields := #[{ name := "U", type := (.object "jdk/internal/misc/Unsafe"), accessFlags := 24, slot := 0, constantValue := 0 }, { name := "BIG_ENDIAN", type := .boolean, accessFlags := 26, slot := 1, constantValue := 0 }, { name := "LOG2_ARRAY_BOOLEAN_INDEX_SCALE", type := .int, accessFlags := 25, slot := 2, constantValue := 0 }, { name := "LOG2_ARRAY_BYTE_INDEX_SCALE", type := .int, accessFlags := 25, slot := 3, constantValue := 0 }, { name := "LOG2_ARRAY_CHAR_INDEX_SCALE", type := .int, accessFlags := 25, slot := 4, constantValue := 0 }, { name := "LOG2_ARRAY_SHORT_INDEX_SCALE", type := .int, accessFlags := 25, slot := 5, constantValue := 0 }, { name := "LOG2_ARRAY_INT_INDEX_SCALE", type := .int, accessFlags := 25, slot := 6, constantValue := 0 }, { name := "LOG2_ARRAY_LONG_INDEX_SCALE", type := .int, accessFlags := 25, slot := 7, constantValue := 0 }, { name := "LOG2_ARRAY_FLOAT_INDEX_SCALE", type := .int, accessFlags := 25, slot := 8, constantValue := 0 }, { name := "LOG2_ARRAY_DOUBLE_INDEX_SCALE", type := .int, accessFlags := 25, slot := 9, constantValue := 0 }, { name := "LOG2_BYTE_BIT_SIZE", type := .int, accessFlags := 26, slot := 10, constantValue := 0 }, { name := "T_BOOLEAN", type := .int, accessFlags := 25, slot := 11, constantValue := 0 }, { name := "T_CHAR", type := .int, accessFlags := 25, slot := 12, constantValue := 0 }, { name := "T_FLOAT", type := .int, accessFlags := 25, slot := 13, constantValue := 0 }, { name := "T_DOUBLE", type := .int, accessFlags := 25, slot := 14, constantValue := 0 }, { name := "T_BYTE", type := .int, accessFlags := 25, slot := 15, constantValue := 0 }, { name := "T_SHORT", type := .int, accessFlags := 25, slot := 16, constantValue := 0 }, { name := "T_INT", type := .int, accessFlags := 25, slot := 17, constantValue := 0 }, { name := "T_LONG", type := .int, accessFlags := 25, slot := 18, constantValue := 0 }, { name := "JLA", type := (.object "jdk/internal/access/JavaLangAccess"), accessFlags := 26, slot := 19, constantValue := 0 }, { name := "SOFT_MAX_ARRAY_LENGTH", type := .int, accessFlags := 25, slot := 20, constantValue := 0 }]
  methods := #[k27m0]
  instanceTypes := #[]
  staticTypes := #[(.object "jdk/internal/misc/Unsafe"), .boolean, .int, .int, .int, .int, .int, .int, .int, .int, .int, .int, .int, .int, .int, .int, .int, .int, .int, (.object "jdk/internal/access/JavaLangAccess"), .int]
  resolved := Array.replicate 378 none
  statics := none }

def pool28 : Array CpInfo := pool [(2, .class_ 4), (1, u "java/util/ImmutableCollections$AbstractImmutableList"), (3, .class_ 10), (1, u "java/util/ImmutableCollections$ListN"), (0, u "elements"), (0, u "[Ljava/lang/Object;"), (2, u "allowNulls"), (0, u "Z"), (42, .class_ 60), (0, u "java/io/Serializable"), (53, .class_ 115), (0, u "java/util/ImmutableCollections")] 3

/-- java/util/ImmutableCollections$ListN -/
def k28 : Class := { plain "java/util/ImmutableCollections$ListN" (some 22) with
  accessFlags := 48
  interfaces := #[2]
  cf := some (fileOf pool28 8 #[.nestHost 114] #[] 48 2 #[59] #[{ accessFlags := 18, nameIndex := 11, descriptorIndex := 12, attributes := #[] }, { accessFlags := 18, nameIndex := 15, descriptorIndex := 16, attributes := #[] }])
  fields := #[{ name := "elements", type := (.array (.object "java/lang/Object")), accessFlags := 18, slot := 0, constantValue := 0 }, { name := "allowNulls", type := .boolean, accessFlags := 18, slot := 1, constantValue := 0 }]
  methods := #[]
  instanceTypes := #[(.array (.object "java/lang/Object")), .boolean]
  staticTypes := #[]
  resolved := Array.replicate 119 none
  statics := none }

def pool29 : Array CpInfo := pool [(1, u "java/lang/Cloneable"), (0, .class_ 1), (0, u "java/lang/Object"), (0, .class_ 3)] 3

/-- java/lang/Cloneable -/
def k29 : Class := { plain "java/lang/Cloneable" (some 0) with
  accessFlags := 1537
  interfaces := #[]
  cf := some (fileOf pool29 2 #[] #[] 1537 4 #[] #[])
  fields := #[]
  methods := #[]
  instanceTypes := #[]
  staticTypes := #[]
  resolved := Array.replicate 8 none
  statics := none }

/-- the primitive byte -/
def k30 : Class := { plain "byte" none with kind := .primitive 'B', accessFlags := 0x411 }
/-- [B -/
def k31 : Class := { plain "[B" (some 0) with kind := .array 30 .byte, interfaces := #[29, 2], accessFlags := 1041 }

/-- the primitive char -/
def k32 : Class := { plain "char" none with kind := .primitive 'C', accessFlags := 0x411 }
/-- [C -/
def k33 : Class := { plain "[C" (some 0) with kind := .array 32 .char, interfaces := #[29, 2], accessFlags := 1041 }

/-- the primitive int -/
def k34 : Class := { plain "int" none with kind := .primitive 'I', accessFlags := 0x411 }
/-- [I -/
def k35 : Class := { plain "[I" (some 0) with kind := .array 34 .int, interfaces := #[29, 2], accessFlags := 1041 }

def heap : Heap := #[{ cls := 7, slots := #[.long 0, .int 1, .null, .int 0, .null, .int 0, .int 0], vm := .statics 7 },
  { cls := 25, slots := #[.long 0, .int 0, .null, .ref 3, .ref 4, .null, .null, .null, .int 0, .int 1], vm := .statics 25 },
  { cls := 26, slots := #[.null, .null, .null], vm := .statics 26 },
  { cls := 0, slots := #[], vm := .none },
  { cls := 28, slots := #[.null, .int 0], vm := .none }]
def classes : Array Class := #[k0, k1, k2, k3, k4, k5, k6, k7, k8, k9, k10, k11, k12, k13, k14, k15, k16, k17, k18, k19, k20, k21, k22, k23, k24, k25, k26, k27, k28, k29, k30, k31, k32, k33, k34, k35]
def interned : List (Array UInt16 × Addr) := []
def slotsUsed : Nat := 22
def theMethod : MethodId := ⟨1, 1⟩
def args0 : Array Value := #[.int 65, .int 66, .int 1, .int 2, .int 0]
def aboutOver (below : List Frame) : State where
  vm := { classes := classes, interned := interned.toArray }
  heap := heap
  slotsUsed := slotsUsed
  threads := #[{ frames := .invoking theMethod args0 :: below }]
def below0 : List Frame := [.native { method := ⟨0, 0⟩, args := #[] }]
def about1 : State := aboutOver below0
def p0 : Program := .bare "" "" ""
def e0 : Env := launch0.env 0 0 0
theorem w_frames : about1.frames = Frame.invoking theMethod args0 :: below0 := rfl
set_option maxRecDepth 65536 in
theorem w_args : argsFit about1.vm theMethod args0 = true := by decide +kernel
set_option maxRecDepth 65536 in
theorem w_heap : heapFits about1 = true := by decide +kernel
set_option maxRecDepth 65536 in
theorem w_runnable : about1.curStatus? = some .runnable := by decide +kernel
set_option maxRecDepth 65536 in
theorem w_alone : about1.alone = true := by decide +kernel
set_option maxRecDepth 65536 in
theorem w_named : about1.methodNamed? x = some theMethod := by decide +kernel
set_option maxRecDepth 65536 in
theorem w_hears : about1.hears theMethod below0 = true := by decide +kernel
set_option maxRecDepth 65536 in
theorem w_ripe : about1.ripe theMethod args0 below0 = true := by decide +kernel
theorem w_running : about1.status = .running := rfl
set_option maxRecDepth 65536 in
theorem w_room : about1.hasRoom e0.platform room_1 = true :=
  launch0.hasRoom_least _ room_1 (by decide +kernel) (by decide +kernel) (by decide +kernel) (by decide +kernel) (by decide +kernel) (by decide +kernel)
theorem allAtoms_all (ts : List Jvm.Cond) (a : Array Jvm.Value) (st : Jvm.State) : (allAtoms ts).before a st = ts.all (fun c => c.before a st) := by
  induction ts with
  | nil => rfl
  | cons c t ih =>
    show (Jvm.Cond.and c (allAtoms t)).before a st = _
    rw [Jvm.Cond.before_and, ih, List.all_cons]
def words1 : List Jvm.Cond := Jvm.Cond.code x code maxLocals ret :: tables_1
/-- a 'code' word, met by the world's own term for the bytes: nothing is compared byte by byte -/
theorem code_word {y : MethodName} {bytes : ByteArray} {mx : Nat} {rt : Option FieldType} {a : Array Value} {s : State} {m : MethodId} {meth : Method} {c : Code} (h1 : s.methodNamed? y = some m) (h2 : s.vm.method? m = some meth) (h3 : meth.code = some c) (h4 : c.code = bytes)
    (h5 : (c.maxLocals == mx && c.exceptionTable.isEmpty && decide (c.maxStack ≤ mostOperands) && decide (meth.sig.returnType = rt) && !meth.locks && decide (parseMethodDescriptor y.desc = some meth.sig)) = true) : (Jvm.Cond.code y bytes mx rt).before a s = true := by
  simp only [Bool.and_eq_true, beq_iff_eq, Bool.not_eq_true', decide_eq_true_eq] at h5
  obtain ⟨⟨⟨⟨⟨g1, g2⟩, g3⟩, g4⟩, g5⟩, g6⟩ := h5
  simp [Cond.before, Cond.holds, Cond.value, h1, h2, h3, h4, g1, g2, g3, g4, g5, g6]
def isCode : Jvm.Cond → Bool
  | .code _ _ _ _ => true
  | _ => false
theorem all_split {L : List Jvm.Cond} {P : Jvm.Cond → Bool} (h1 : L.all (fun c => isCode c || P c) = true) (h2 : ∀ c ∈ L.filter isCode, P c = true) : L.all P = true := by
  refine List.all_eq_true.mpr fun c hc => ?_
  have h := List.all_eq_true.mp h1 c hc
  rcases Bool.eq_false_or_eq_true (isCode c) with hi | hi
  · exact h2 c (List.mem_filter.mpr ⟨hc, hi⟩)
  · simpa [hi] using h
set_option maxRecDepth 65536 in
theorem w_c0 : (Jvm.Cond.code x code maxLocals ret).before args0 about1 = true := code_word (m := ⟨1, 1⟩) (meth := k1m1) (c := k1c1) (by decide +kernel) rfl rfl rfl (by decide +kernel)
set_option maxRecDepth 65536 in
theorem w_c1 : (Jvm.Cond.code ({ cls := "java/lang/String", name := "<init>", desc := "([C)V" } : Jvm.MethodName) jdk_42_method_3_code (2 : Nat) (Option.none : Option Jvm.ClassFile.FieldType)).before args0 about1 = true := code_word (m := ⟨7, 1⟩) (meth := k7m1) (c := k7c1) (by decide +kernel) rfl rfl rfl (by decide +kernel)
set_option maxRecDepth 65536 in
theorem w_c2 : (Jvm.Cond.code ({ cls := "java/lang/String", name := "<init>", desc := "([CIILjava/lang/Void;)V" } : Jvm.MethodName) jdk_42_method_149_code (6 : Nat) (Option.none : Option Jvm.ClassFile.FieldType)).before args0 about1 = true := code_word (m := ⟨7, 3⟩) (meth := k7m3) (c := k7c3) (by decide +kernel) rfl rfl rfl (by decide +kernel)
set_option maxRecDepth 65536 in
theorem w_c3 : (Jvm.Cond.code ({ cls := "java/lang/Object", name := "<init>", desc := "()V" } : Jvm.MethodName) object_method_1_code (1 : Nat) (Option.none : Option Jvm.ClassFile.FieldType)).before args0 about1 = true := code_word (m := ⟨0, 0⟩) (meth := k0m0) (c := k0c0) (by decide +kernel) rfl rfl rfl (by decide +kernel)
set_option maxRecDepth 65536 in
theorem w_c4 : (Jvm.Cond.code ({ cls := "java/lang/StringUTF16", name := "compress", desc := "([CII)[B" } : Jvm.MethodName) jdk_52_method_16_code (6 : Nat) (Option.some (Jvm.ClassFile.FieldType.array Jvm.ClassFile.FieldType.byte))).before args0 about1 = true := code_word (m := ⟨8, 2⟩) (meth := k8m2) (c := k8c2) (by decide +kernel) rfl rfl rfl (by decide +kernel)
set_option maxRecDepth 65536 in
theorem w_c5 : (Jvm.Cond.code ({ cls := "java/lang/StringUTF16", name := "compress", desc := "([CI[BII)I" } : Jvm.MethodName) jdk_52_method_21_code (7 : Nat) (Option.some Jvm.ClassFile.FieldType.int)).before args0 about1 = true := code_word (m := ⟨8, 3⟩) (meth := k8m3) (c := k8c3) (by decide +kernel) rfl rfl rfl (by decide +kernel)
set_option maxRecDepth 65536 in
theorem w_c6 : (Jvm.Cond.code ({ cls := "java/lang/StringUTF16", name := "coderFromArrayLen", desc := "([BI)B" } : Jvm.MethodName) jdk_52_method_15_code (2 : Nat) (Option.some Jvm.ClassFile.FieldType.byte)).before args0 about1 = true := code_word (m := ⟨8, 1⟩) (meth := k8m1) (c := k8c1) (by decide +kernel) rfl rfl rfl (by decide +kernel)
set_option maxRecDepth 65536 in
theorem w_c7 : (Jvm.Cond.code ({ cls := "java/lang/String", name := "valueOf", desc := "(C)Ljava/lang/String;" } : Jvm.MethodName) jdk_42_method_139_code (1 : Nat) (Option.some (Jvm.ClassFile.FieldType.object "java/lang/String"))).before args0 about1 = true := code_word (m := ⟨7, 2⟩) (meth := k7m2) (c := k7c2) (by decide +kernel) rfl rfl rfl (by decide +kernel)
set_option maxRecDepth 65536 in
theorem w_c8 : (Jvm.Cond.code ({ cls := "java/lang/StringLatin1", name := "canEncode", desc := "(C)Z" } : Jvm.MethodName) jdk_43_method_3_code (1 : Nat) (Option.some Jvm.ClassFile.FieldType.boolean)).before args0 about1 = true := code_word (m := ⟨9, 1⟩) (meth := k9m1) (c := k9c1) (by decide +kernel) rfl rfl rfl (by decide +kernel)
set_option maxRecDepth 65536 in
theorem w_c9 : (Jvm.Cond.code ({ cls := "java/lang/StringLatin1", name := "toBytes", desc := "(C)[B" } : Jvm.MethodName) jdk_43_method_46_code (1 : Nat) (Option.some (Jvm.ClassFile.FieldType.array Jvm.ClassFile.FieldType.byte))).before args0 about1 = true := code_word (m := ⟨9, 2⟩) (meth := k9m2) (c := k9c2) (by decide +kernel) rfl rfl rfl (by decide +kernel)
set_option maxRecDepth 65536 in
theorem w_c10 : (Jvm.Cond.code ({ cls := "java/lang/String", name := "<init>", desc := "([BB)V" } : Jvm.MethodName) jdk_42_method_151_code (3 : Nat) (Option.none : Option Jvm.ClassFile.FieldType)).before args0 about1 = true := code_word (m := ⟨7, 4⟩) (meth := k7m4) (c := k7c4) (by decide +kernel) rfl rfl rfl (by decide +kernel)
set_option maxRecDepth 65536 in
theorem w_c11 : (Jvm.Cond.code ({ cls := "com/example/subsume/subsume/engine/Individual", name := "<init>", desc := "(Ljava/lang/String;I)V" } : Jvm.MethodName) prog_13_method_1_code (3 : Nat) (Option.none : Option Jvm.ClassFile.FieldType)).before args0 about1 = true := code_word (m := ⟨10, 0⟩) (meth := k10m0) (c := k10c0) (by decide +kernel) rfl rfl rfl (by decide +kernel)
set_option maxRecDepth 65536 in
theorem w_c12 : (Jvm.Cond.code ({ cls := "com/example/subsume/subsume/engine/IndividualEquality", name := "<init>", desc := "(Lcom/example/subsume/subsume/engine/Individual;Lcom/example/subsume/subsume/engine/Individual;)V" } : Jvm.MethodName) prog_14_method_1_code (3 : Nat) (Option.none : Option Jvm.ClassFile.FieldType)).before args0 about1 = true := code_word (m := ⟨14, 0⟩) (meth := k14m0) (c := k14c0) (by decide +kernel) rfl rfl rfl (by decide +kernel)
set_option maxRecDepth 65536 in
theorem w_c13 : (Jvm.Cond.code ({ cls := "java/lang/Record", name := "<init>", desc := "()V" } : Jvm.MethodName) jdk_30_method_1_code (1 : Nat) (Option.none : Option Jvm.ClassFile.FieldType)).before args0 about1 = true := code_word (m := ⟨11, 0⟩) (meth := k11m0) (c := k11c0) (by decide +kernel) rfl rfl rfl (by decide +kernel)
set_option maxRecDepth 65536 in
theorem w_c14 : (Jvm.Cond.code ({ cls := "com/example/subsume/subsume/engine/IndividualEquality", name := "individuals", desc := "()Ljava/util/List;" } : Jvm.MethodName) prog_14_method_2_code (1 : Nat) (Option.some (Jvm.ClassFile.FieldType.object "java/util/List"))).before args0 about1 = true := code_word (m := ⟨14, 1⟩) (meth := k14m1) (c := k14c1) (by decide +kernel) rfl rfl rfl (by decide +kernel)
set_option maxRecDepth 65536 in
theorem w_c15 : (Jvm.Cond.code ({ cls := "java/util/List", name := "of", desc := "(Ljava/lang/Object;Ljava/lang/Object;)Ljava/util/List;" } : Jvm.MethodName) jdk_40_method_38_code (2 : Nat) (Option.some (Jvm.ClassFile.FieldType.object "java/util/List"))).before args0 about1 = true := code_word (m := ⟨18, 2⟩) (meth := k18m2) (c := k18c2) (by decide +kernel) rfl rfl rfl (by decide +kernel)
set_option maxRecDepth 65536 in
theorem w_c16 : (Jvm.Cond.code ({ cls := "java/util/ImmutableCollections$List12", name := "<init>", desc := "(Ljava/lang/Object;Ljava/lang/Object;)V" } : Jvm.MethodName) jdk_44_method_2_code (3 : Nat) (Option.none : Option Jvm.ClassFile.FieldType)).before args0 about1 = true := code_word (m := ⟨23, 0⟩) (meth := k23m0) (c := k23c0) (by decide +kernel) rfl rfl rfl (by decide +kernel)
set_option maxRecDepth 65536 in
theorem w_c17 : (Jvm.Cond.code ({ cls := "java/util/ImmutableCollections$AbstractImmutableList", name := "<init>", desc := "()V" } : Jvm.MethodName) jdk_46_method_1_code (1 : Nat) (Option.none : Option Jvm.ClassFile.FieldType)).before args0 about1 = true := code_word (m := ⟨22, 0⟩) (meth := k22m0) (c := k22c0) (by decide +kernel) rfl rfl rfl (by decide +kernel)
set_option maxRecDepth 65536 in
theorem w_c18 : (Jvm.Cond.code ({ cls := "java/util/ImmutableCollections$AbstractImmutableCollection", name := "<init>", desc := "()V" } : Jvm.MethodName) jdk_47_method_1_code (1 : Nat) (Option.none : Option Jvm.ClassFile.FieldType)).before args0 about1 = true := code_word (m := ⟨20, 0⟩) (meth := k20m0) (c := k20c0) (by decide +kernel) rfl rfl rfl (by decide +kernel)
set_option maxRecDepth 65536 in
theorem w_c19 : (Jvm.Cond.code ({ cls := "java/util/AbstractCollection", name := "<init>", desc := "()V" } : Jvm.MethodName) jdk_22_method_1_code (1 : Nat) (Option.none : Option Jvm.ClassFile.FieldType)).before args0 about1 = true := code_word (m := ⟨19, 0⟩) (meth := k19m0) (c := k19c0) (by decide +kernel) rfl rfl rfl (by decide +kernel)
set_option maxRecDepth 65536 in
theorem w_c20 : (Jvm.Cond.code ({ cls := "java/util/Objects", name := "requireNonNull", desc := "(Ljava/lang/Object;)Ljava/lang/Object;" } : Jvm.MethodName) jdk_31_method_10_code (1 : Nat) (Option.some (Jvm.ClassFile.FieldType.object "java/lang/Object"))).before args0 about1 = true := code_word (m := ⟨24, 1⟩) (meth := k24m1) (c := k24c1) (by decide +kernel) rfl rfl rfl (by decide +kernel)
set_option maxRecDepth 65536 in
theorem w_c21 : (Jvm.Cond.code ({ cls := "java/util/ImmutableCollections$List12", name := "size", desc := "()I" } : Jvm.MethodName) jdk_44_method_3_code (1 : Nat) (Option.some Jvm.ClassFile.FieldType.int)).before args0 about1 = true := code_word (m := ⟨23, 1⟩) (meth := k23m1) (c := k23c1) (by decide +kernel) rfl rfl rfl (by decide +kernel)
set_option maxRecDepth 65536 in
theorem w_c22 : (Jvm.Cond.code ({ cls := "java/util/ImmutableCollections$List12", name := "get", desc := "(I)Ljava/lang/Object;" } : Jvm.MethodName) jdk_44_method_5_code (2 : Nat) (Option.some (Jvm.ClassFile.FieldType.object "java/lang/Object"))).before args0 about1 = true := code_word (m := ⟨23, 2⟩) (meth := k23m2) (c := k23c2) (by decide +kernel) rfl rfl rfl (by decide +kernel)
def codes1 : List Jvm.Cond := [Jvm.Cond.code x code maxLocals ret, Jvm.Cond.code ({ cls := "java/lang/String", name := "<init>", desc := "([C)V" } : Jvm.MethodName) jdk_42_method_3_code (2 : Nat) (Option.none : Option Jvm.ClassFile.FieldType), Jvm.Cond.code ({ cls := "java/lang/String", name := "<init>", desc := "([CIILjava/lang/Void;)V" } : Jvm.MethodName) jdk_42_method_149_code (6 : Nat) (Option.none : Option Jvm.ClassFile.FieldType), Jvm.Cond.code ({ cls := "java/lang/Object", name := "<init>", desc := "()V" } : Jvm.MethodName) object_method_1_code (1 : Nat) (Option.none : Option Jvm.ClassFile.FieldType), Jvm.Cond.code ({ cls := "java/lang/StringUTF16", name := "compress", desc := "([CII)[B" } : Jvm.MethodName) jdk_52_method_16_code (6 : Nat) (Option.some (Jvm.ClassFile.FieldType.array Jvm.ClassFile.FieldType.byte)), Jvm.Cond.code ({ cls := "java/lang/StringUTF16", name := "compress", desc := "([CI[BII)I" } : Jvm.MethodName) jdk_52_method_21_code (7 : Nat) (Option.some Jvm.ClassFile.FieldType.int), Jvm.Cond.code ({ cls := "java/lang/StringUTF16", name := "coderFromArrayLen", desc := "([BI)B" } : Jvm.MethodName) jdk_52_method_15_code (2 : Nat) (Option.some Jvm.ClassFile.FieldType.byte), Jvm.Cond.code ({ cls := "java/lang/String", name := "valueOf", desc := "(C)Ljava/lang/String;" } : Jvm.MethodName) jdk_42_method_139_code (1 : Nat) (Option.some (Jvm.ClassFile.FieldType.object "java/lang/String")), Jvm.Cond.code ({ cls := "java/lang/StringLatin1", name := "canEncode", desc := "(C)Z" } : Jvm.MethodName) jdk_43_method_3_code (1 : Nat) (Option.some Jvm.ClassFile.FieldType.boolean), Jvm.Cond.code ({ cls := "java/lang/StringLatin1", name := "toBytes", desc := "(C)[B" } : Jvm.MethodName) jdk_43_method_46_code (1 : Nat) (Option.some (Jvm.ClassFile.FieldType.array Jvm.ClassFile.FieldType.byte)), Jvm.Cond.code ({ cls := "java/lang/String", name := "<init>", desc := "([BB)V" } : Jvm.MethodName) jdk_42_method_151_code (3 : Nat) (Option.none : Option Jvm.ClassFile.FieldType), Jvm.Cond.code ({ cls := "com/example/subsume/subsume/engine/Individual", name := "<init>", desc := "(Ljava/lang/String;I)V" } : Jvm.MethodName) prog_13_method_1_code (3 : Nat) (Option.none : Option Jvm.ClassFile.FieldType), Jvm.Cond.code ({ cls := "com/example/subsume/subsume/engine/IndividualEquality", name := "<init>", desc := "(Lcom/example/subsume/subsume/engine/Individual;Lcom/example/subsume/subsume/engine/Individual;)V" } : Jvm.MethodName) prog_14_method_1_code (3 : Nat) (Option.none : Option Jvm.ClassFile.FieldType), Jvm.Cond.code ({ cls := "java/lang/Record", name := "<init>", desc := "()V" } : Jvm.MethodName) jdk_30_method_1_code (1 : Nat) (Option.none : Option Jvm.ClassFile.FieldType), Jvm.Cond.code ({ cls := "com/example/subsume/subsume/engine/IndividualEquality", name := "individuals", desc := "()Ljava/util/List;" } : Jvm.MethodName) prog_14_method_2_code (1 : Nat) (Option.some (Jvm.ClassFile.FieldType.object "java/util/List")), Jvm.Cond.code ({ cls := "java/util/List", name := "of", desc := "(Ljava/lang/Object;Ljava/lang/Object;)Ljava/util/List;" } : Jvm.MethodName) jdk_40_method_38_code (2 : Nat) (Option.some (Jvm.ClassFile.FieldType.object "java/util/List")), Jvm.Cond.code ({ cls := "java/util/ImmutableCollections$List12", name := "<init>", desc := "(Ljava/lang/Object;Ljava/lang/Object;)V" } : Jvm.MethodName) jdk_44_method_2_code (3 : Nat) (Option.none : Option Jvm.ClassFile.FieldType), Jvm.Cond.code ({ cls := "java/util/ImmutableCollections$AbstractImmutableList", name := "<init>", desc := "()V" } : Jvm.MethodName) jdk_46_method_1_code (1 : Nat) (Option.none : Option Jvm.ClassFile.FieldType), Jvm.Cond.code ({ cls := "java/util/ImmutableCollections$AbstractImmutableCollection", name := "<init>", desc := "()V" } : Jvm.MethodName) jdk_47_method_1_code (1 : Nat) (Option.none : Option Jvm.ClassFile.FieldType), Jvm.Cond.code ({ cls := "java/util/AbstractCollection", name := "<init>", desc := "()V" } : Jvm.MethodName) jdk_22_method_1_code (1 : Nat) (Option.none : Option Jvm.ClassFile.FieldType), Jvm.Cond.code ({ cls := "java/util/Objects", name := "requireNonNull", desc := "(Ljava/lang/Object;)Ljava/lang/Object;" } : Jvm.MethodName) jdk_31_method_10_code (1 : Nat) (Option.some (Jvm.ClassFile.FieldType.object "java/lang/Object")), Jvm.Cond.code ({ cls := "java/util/ImmutableCollections$List12", name := "size", desc := "()I" } : Jvm.MethodName) jdk_44_method_3_code (1 : Nat) (Option.some Jvm.ClassFile.FieldType.int), Jvm.Cond.code ({ cls := "java/util/ImmutableCollections$List12", name := "get", desc := "(I)Ljava/lang/Object;" } : Jvm.MethodName) jdk_44_method_5_code (2 : Nat) (Option.some (Jvm.ClassFile.FieldType.object "java/lang/Object"))]
set_option maxRecDepth 65536 in
theorem codes_eq : words1.filter isCode = codes1 := rfl
theorem w_codes : ∀ c ∈ words1.filter isCode, c.before args0 about1 = true := by
  rw [codes_eq]
  intro c hc
  simp only [codes1, List.mem_cons, List.not_mem_nil, or_false] at hc
  rcases hc with rfl | rfl | rfl | rfl | rfl | rfl | rfl | rfl | rfl | rfl | rfl | rfl | rfl | rfl | rfl | rfl | rfl | rfl | rfl | rfl | rfl | rfl | rfl
  · exact w_c0
  · exact w_c1
  · exact w_c2
  · exact w_c3
  · exact w_c4
  · exact w_c5
  · exact w_c6
  · exact w_c7
  · exact w_c8
  · exact w_c9
  · exact w_c10
  · exact w_c11
  · exact w_c12
  · exact w_c13
  · exact w_c14
  · exact w_c15
  · exact w_c16
  · exact w_c17
  · exact w_c18
  · exact w_c19
  · exact w_c20
  · exact w_c21
  · exact w_c22
set_option maxRecDepth 65536 in
theorem w_t1 : (words1.take 24).all (fun c => isCode c || c.before args0 about1) = true := by decide +kernel
set_option maxRecDepth 65536 in
theorem w_t2 : ((words1.drop 24).take 24).all (fun c => isCode c || c.before args0 about1) = true := by decide +kernel
set_option maxRecDepth 65536 in
theorem w_t3 : (((words1.drop 24).drop 24).take 24).all (fun c => isCode c || c.before args0 about1) = true := by decide +kernel
set_option maxRecDepth 65536 in
theorem w_t4 : ((((words1.drop 24).drop 24).drop 24).take 24).all (fun c => isCode c || c.before args0 about1) = true := by decide +kernel
set_option maxRecDepth 65536 in
theorem w_t5 : (((((words1.drop 24).drop 24).drop 24).drop 24).take 24).all (fun c => isCode c || c.before args0 about1) = true := by decide +kernel
set_option maxRecDepth 65536 in
theorem w_t6 : (((((words1.drop 24).drop 24).drop 24).drop 24).drop 24).all (fun c => isCode c || c.before args0 about1) = true := by decide +kernel
theorem w_tables : (allAtoms (Jvm.Cond.code x code maxLocals ret :: tables_1)).before args0 about1 = true := by
  rw [allAtoms_all]
  show words1.all (fun c => c.before args0 about1) = true
  refine all_split ?_ w_codes
  rw [← List.take_append_drop 24 words1, List.all_append, w_t1, ← List.take_append_drop 24 (words1.drop 24), List.all_append, w_t2, ← List.take_append_drop 24 ((words1.drop 24).drop 24), List.all_append, w_t3, ← List.take_append_drop 24 (((words1.drop 24).drop 24).drop 24), List.all_append, w_t4, ← List.take_append_drop 24 ((((words1.drop 24).drop 24).drop 24).drop 24), List.all_append, w_t5, w_t6]
  rfl
set_option maxRecDepth 65536 in
theorem w_rest : rest_1_c.before args0 about1 = true := by decide +kernel
set_option maxRecDepth 65536 in
theorem w_case : (Jvm.Cond.and given_1 narrow_1).before args0 about1 = true := by decide +kernel
theorem w_applies : (headSpec (Jvm.Cond.code x code maxLocals ret :: tables_1) room_1).applies x e0.platform about1 = true :=
  (Spec.applies_iff w_frames).mpr ⟨w_running, w_runnable, w_alone, w_named, w_hears, w_ripe, w_room, w_tables⟩
theorem atStart : AtStart classFile x code maxLocals ret World_1 tables_1 room_1 Calls_1 rest_1 Pre_1 launch0 p0 e0 about1 theMethod args0 below0 :=
  ⟨lists_1, trivial, launch0.admits_env _ _ _, launch0.least_env, fairChoices_fair.cas, fairChoices_fair.clock, w_frames, w_args, w_heap, w_applies, trivial, w_rest, w_case⟩
end start1
theorem witness_1 : WitnessClaimed_1 := ⟨start1.p0, start1.e0, start1.about1, start1.theMethod, start1.args0, start1.below0, start1.atStart⟩
end Jvm.Pilot.@@N@@
