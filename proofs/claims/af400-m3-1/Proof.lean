import JvmDerived
import JvmDerived.Pilot.@@N@@Statement
import JvmDerived.Pilot.@@N@@Code
set_option linter.unusedVariables false
set_option linter.unusedSimpArgs false
namespace Jvm.RoadKit
open Sem ClassFile Op Lib Jvm.Stand Jvm.Free Jvm.LawKit
section New
variable {p : Program} {l : Launch} {e : Env} {R : Room} {s : State} {m : MethodId} {args : Array Value} {below : List Frame} {meth : Method} {c : Code} {T : State} {locs : List Loc} {cells slots : Nat}
theorem retI (X : Stand p l e R s m args below meth c T locs cells slots) (hx : p.tables.exec = Jvm.exec) {pc : Nat} {Ls : Array Slot} {z : Int32} {rest : List Value} (hret : meth.sig.returnType = some .int) (hd : decode c.code pc = .ok (.ireturn, 1)) {fs : List Frame}
    (hl : ∀ (f : JFrame) (acts : List Action), f.method = m → f.locked = none → f.entered = [] → (doReturn e (T.setTop f) acts (some (.int z))).1 = T.setFrames fs) : Steps p.tables e below (T.setTop (mkF m pc Ls (.int z :: rest))) (T.setFrames fs) := by
  have hm' : T.vm.method? m = some meth := X.method'
  have hn : narrow .int (.int z) = .int z := rfl
  show Steps p.tables e below (T.setTop { method := m, pc := pc, locals := Ls, stack := _ :: rest, locked := none }) _
  jvm_step X.here [X.here.top, hx, hd, hm', hret, hn]
  first | (intro acts; rw [hl _ acts rfl rfl rfl]) | rw [hl _ _ rfl rfl rfl]
  exact Steps.refl _
end New
abbrev Go (p : Program) (e : Env) (below : List Frame) (T : State) (f : JFrame) (A : State) : Prop := ∀ t, Steps p.tables e below (T.setTop f) t → Steps p.tables e below A t
theorem own_retA (w : Value) (h : w.isRef = true) (t : FieldType) (ht : t.isReference = true) : narrow t w = w := by
  cases w <;> simp [Value.isRef] at h <;> cases t <;> simp [FieldType.isReference] at ht <;> rfl
theorem own_fitA (w : Value) (h : w.isRef = true) (t : FieldType) (ht : t.isReference = true) : fits t w = true := by
  cases w <;> simp [Value.isRef] at h <;> cases t <;> simp [FieldType.isReference] at ht <;> rfl
theorem own_narb (x : Int32) : nar .byte (x.toInt8.toInt32) = x.toInt8.toInt32 := by
  show x.toInt8.toInt32.toInt8.toInt32 = _
  simp
theorem own_ft_byte {z y : Int32} (e : nar .byte z = y) : fits .byte (.int y) = true := by rw [← e]; exact fits_nar_byte z
theorem own_ft_char {z y : Int32} (e : nar .char z = y) : fits .char (.int y) = true := by rw [← e]; exact fits_nar_char z
theorem own_ft_short {z y : Int32} (e : nar .short z = y) : fits .short (.int y) = true := by rw [← e]; exact fits_nar_short z
theorem own_ft_boolean {z y : Int32} (e : nar .boolean z = y) : fits .boolean (.int y) = true := by rw [← e]; exact fits_nar_bool z
theorem own_nw_byte {z y : Int32} (e : nar .byte z = y) : narrow .byte (.int z) = .int y := by rw [← e]; rfl
theorem own_nw_char {z y : Int32} (e : nar .char z = y) : narrow .char (.int z) = .int y := by rw [← e]; rfl
theorem own_nw_short {z y : Int32} (e : nar .short z = y) : narrow .short (.int z) = .int y := by rw [← e]; rfl
theorem own_nw_boolean {z y : Int32} (e : nar .boolean z = y) : narrow .boolean (.int z) = .int y := by rw [← e]; rfl
theorem own_narc (x : Int32) : nar .char (x.toUInt32.toUInt16.toUInt32.toInt32) = x.toUInt32.toUInt16.toUInt32.toInt32 := by
  show x.toUInt32.toUInt16.toUInt32.toInt32.toUInt32.toUInt16.toUInt32.toInt32 = _
  have q := c_i2c x
  have r := c_i2c x.toUInt32.toUInt16.toUInt32.toInt32
  apply Int32.toInt_inj.mp
  omega
theorem own_ext_refl {h : Heap} : Ext h h := ⟨Nat.le_refl _, fun _ _ q => q⟩
theorem own_ext_trans {h h' h2 : Heap} (A : Ext h h') (B : Ext h' h2) : Ext h h2 := ⟨Nat.le_trans A.1 B.1, fun a c q => B.2 a c (A.2 a c q)⟩
theorem own_ext_keep {h h' : Heap} (K : Keep h h' []) : Ext h h' := ⟨K.1, fun a c q => K.2.1 a c q nin0⟩
theorem own_lcmp_self (x : Int64) : lcmpW x x = (0 : Int32) := by rw [lcW]; exact (lc_eq x x).mpr rfl
theorem own_catV {v : Value} (h : v.isRef = true) : v.category = 1 := by cases v <;> simp [Value.isRef] at h <;> rfl
end Jvm.RoadKit
namespace Jvm.RoadKit
open Sem ClassFile Op Lib Jvm.Stand Jvm.Free Jvm.LawKit
theorem own_old_le {Z : State} {n0 : Nat} {h : Heap} (O : Old Z n0 h) : n0 ≤ h.size := O.1 ▸ O.2.1
theorem own_fld_int {args : Array Value} {s : State} {t : Term} {C n d : String} {k : Int32} {a : Addr} (h : (Cond.eq (.field t C n d) (.int k)).value args s none s [] = some true) (ev : t.eval args s none [] s = some (.ref a)) : Fld s s.heap a C n d (.int k) := by
  obtain ⟨x, y, h1, h2, -, k2⟩ := cmp_v (Or.inl h)
  cases h2.symm.trans (Term.int_eval k)
  obtain ⟨z, rfl⟩ := k2
  have e : z = k := gotT (Cond.eq_ints h1 h2) h
  subst e
  exact Fld.start ((fld_at ev).symm.trans h1)
theorem own_eqint {args : Array Value} {s : State} {t : Term} {k : Int32} (h : (Cond.eq t (.int k)).value args s none s [] = some true) : t.eval args s none [] s = some (.int k) := by
  obtain ⟨x, y, h1, h2, -, k2⟩ := cmp_v (Or.inl h)
  cases h2.symm.trans (Term.int_eval k)
  obtain ⟨z, rfl⟩ := k2
  have e : z = k := gotT (Cond.eq_ints h1 h2) h
  subst e
  exact h1
end Jvm.RoadKit
namespace Jvm.RoadKit
open Sem ClassFile Op Lib Jvm.Stand Jvm.Free Jvm.LawKit
theorem own_c255 (x : Int32) : ¬ ((255 : Int32) < ((x &&& (255 : Int32)).toUInt32.toUInt16.toUInt32.toInt32)) := by
  rw [i2c_mask, Int32.lt_iff_toInt_lt]
  have h : (x &&& 255).toInt ≤ 255 := (c_and x 255 (by decide)).2
  show ¬ (255 < (x &&& 255).toInt)
  omega
theorem own_c0 (x : Int32) : ¬ (((x &&& (255 : Int32)).toUInt32.toUInt16.toUInt32.toInt32) < (0 : Int32)) := by
  rw [i2c_mask, Int32.lt_iff_toInt_lt]
  have h : 0 ≤ (x &&& 255).toInt := (c_and x 255 (by decide)).1
  show ¬ ((x &&& 255).toInt < 0)
  omega
end Jvm.RoadKit
namespace Jvm.Pilot.@@N@@
open Jvm Jvm.ClassFile Sem Op Lib Jvm.Free Jvm.Stand Jvm.LawKit Jvm.RoadKit Bundle Jvm.Pilot.@@N@@.Jvm.D
theorem d3_0 : decode jdk_43_method_3_code 0 = .ok (.iload_n 0, 1) := by decide +kernel
theorem d3_1 : decode jdk_43_method_3_code 1 = .ok (.sipush 255, 3) := by decide +kernel
theorem d3_4 : decode jdk_43_method_3_code 4 = .ok (.if_icmp .gt 7, 3) := by decide +kernel
theorem d3_7 : decode jdk_43_method_3_code 7 = .ok (.iconst 1, 1) := by decide +kernel
theorem d3_8 : decode jdk_43_method_3_code 8 = .ok (.goto 4, 3) := by decide +kernel
theorem d3_12 : decode jdk_43_method_3_code 12 = .ok (.ireturn, 1) := by decide +kernel
theorem pn_java_lang_StringLatin1 : plainName "java/lang/StringLatin1" = true := by first | (simp [plainName, overriddenIn]; done) | decide +kernel
theorem ef_canE (m : MethodId) (x0 : Int32)  : entryFrame m #[(.int x0)] 1 = mkF m 0 #[.val (.int x0)] [] := by first | (simp [entryFrame, mkF, argsToLocals, Value.category]; done) | rfl
def Q_canE (Z : State) (ch : Int32) (h0 : Heap) (n0 : Nat) (v : Option Value) (h : Heap) (L : List Loc) : Prop := v = some (.int (1 : Int32)) ∧ Fr n0 L ∧ h = h0
set_option maxRecDepth 65536 in
set_option maxHeartbeats 40000000 in
theorem rm_canE (l : Launch) (Z : State) (a0 : Array Value) (hw : ∀ d ∈ tables_1, d.before a0 Z = true) (ws : List Jvm.Cond) (ch : Int32) (h0 : Heap) (n0 : Nat) (O0 : Old Z n0 h0) (h1 : ¬ ((255 : Int32) < ch)) :
    MetFree l (⟨"java/lang/StringLatin1", "canEncode", "(C)Z"⟩ : MethodName) (head1 (Jvm.Cond.code (⟨"java/lang/StringLatin1", "canEncode", "(C)Z"⟩ : MethodName) jdk_43_method_3_code 1 (some .boolean) :: ws) ({ frames := 0, cells := 0, slots := 0, locals := 0 } : Room)) (fun a U => a = #[(.int ch)] ∧ Z.Warmed39 U.vm ∧ U.heap = h0) (fun _ _ _ _ _ => True) (fun _ U o U' => ∃ v L, o = .returned v ∧ Q_canE Z ch h0 n0 v U'.heap L ∧ FrameEnd U o U' L ({ frames := 0, cells := 0, slots := 0, locals := 0 } : Room).cells ({ frames := 0, cells := 0, slots := 0, locals := 0 } : Room).slots) := by
  refine MetFree.of_bodySF (plainFor_of_name pn_java_lang_StringLatin1) hisR ?_
  intro p e s m args below meth c s₁ Bd hml0 hP hK
  obtain ⟨rfl, hZ, hh⟩ := hP
  have hx := Bd.exec
  have hby := Bd.bytes
  have hml : c.maxLocals = 1 := hml0
  have hown : s.vm.findClass "java/lang/StringLatin1" = some m.cls := findClass_of_methodNamed Bd.named
  have hnm := (name_of_methodNamed Bd.named Bd.method).1
  have X0 : Stand p l e ({ frames := 0, cells := 0, slots := 0, locals := 0 } : Room) s m #[(.int ch)] below meth c s₁ [] 0 0 := Stand.of_body Bd
  have e0 : s₁.heap = h0 := by rw [← hh, Bd.state]; rfl
  have N0 := Fr.nil n0
  have g0 : Go p e below s₁ (mkF m 0 #[iv ch] []) (s₁.setTop (entryFrame m #[(.int ch)] 1)) := fun t kont => castTop (ef_canE m ch ) kont
  generalize s₁.setTop (entryFrame m #[(.int ch)] 1) = A0 at g0 ⊢
  have g101 : Go p e below s₁ (mkF m 12 #[iv ch] [(.int (1 : Int32))]) A0 := by
    intro t kont
    refine g0 t ?_
    refine XS.iloadN X0.here hx rfl (hb hby d3_0) rfl ?_
    show Steps p.tables e below (s₁.setTop (mkF m 1 #[iv ch] [(.int ch)])) _
    refine XS.sipush X0.here hx rfl (hb hby d3_1) ?_
    show Steps p.tables e below (s₁.setTop (mkF m 4 #[iv ch] [(.int (255 : Int32)), (.int ch)])) _
    refine XS.icmpNo X0.here hx rfl (hb hby d3_4) rfl (flt h1).2.2.1 ?_
    show Steps p.tables e below (s₁.setTop (mkF m 7 #[iv ch] [])) _
    refine XS.iconst X0.here hx rfl (hb hby d3_7) ?_
    show Steps p.tables e below (s₁.setTop (mkF m 8 #[iv ch] [(.int (1 : Int32))])) _
    refine XS.goto X0.here hx rfl (pc0 := 8) (pc' := 12) rfl (hb hby d3_8) (by decide) (by decide) ?_
    show Steps p.tables e below (s₁.setTop (mkF m 12 #[iv ch] [(.int (1 : Int32))])) _
    exact kont
  obtain ⟨fs, hr, hrun, hended, hW, hsame⟩ := X0.leave (v := some (.int (1 : Int32))) (fun h => by rw [Bd.returns] at h; cases h)
  refine ⟨_, _, g101 _ (retN X0 hx (t := .boolean) Bd.returns (by simp) (hb hby d3_12) hr), hrun, hended, _, _, rfl, ?_, ⟨_, rfl⟩, hW, hsame.mono (by decide) (by decide)⟩
  show Q_canE Z ch h0 n0 _ s₁.heap _
  rw [e0]
  exact ⟨rfl, N0, rfl⟩
theorem d4_0 : decode jdk_43_method_46_code 0 = .ok (.iconst 1, 1) := by decide +kernel
theorem d4_1 : decode jdk_43_method_46_code 1 = .ok (.newarray .byte, 2) := by decide +kernel
theorem d4_3 : decode jdk_43_method_46_code 3 = .ok (.dup, 1) := by decide +kernel
theorem d4_4 : decode jdk_43_method_46_code 4 = .ok (.iconst 0, 1) := by decide +kernel
theorem d4_5 : decode jdk_43_method_46_code 5 = .ok (.iload_n 0, 1) := by decide +kernel
theorem d4_6 : decode jdk_43_method_46_code 6 = .ok (.i2b, 1) := by decide +kernel
theorem d4_7 : decode jdk_43_method_46_code 7 = .ok (.bastore, 1) := by decide +kernel
theorem d4_8 : decode jdk_43_method_46_code 8 = .ok (.areturn, 1) := by decide +kernel
theorem ef_toB (m : MethodId) (x0 : Int32)  : entryFrame m #[(.int x0)] 1 = mkF m 0 #[.val (.int x0)] [] := by first | (simp [entryFrame, mkF, argsToLocals, Value.category]; done) | rfl
def Q_toB (Z : State) (ch : Int32) (h0 : Heap) (n0 : Nat) (v : Option Value) (h : Heap) (L : List Loc) : Prop := ∃ (r : Addr), ∃ (kid : ClassId), v = some (.ref r) ∧ Fr n0 L ∧ Keep h0 h [] ∧ h0.size ≤ r ∧ (Exa Z h r "[B") ∧ (Arv Z h r kid .byte (1 : Int32) [(.int (ch.toInt8.toInt32))] (.int (0 : Int32)))
set_option maxRecDepth 65536 in
set_option maxHeartbeats 40000000 in
theorem rm_toB (l : Launch) (Z : State) (a0 : Array Value) (hw : ∀ d ∈ tables_1, d.before a0 Z = true) (ws : List Jvm.Cond) (ch : Int32) (h0 : Heap) (n0 : Nat) (O0 : Old Z n0 h0)  :
    MetFree l (⟨"java/lang/StringLatin1", "toBytes", "(C)[B"⟩ : MethodName) (head1 (Jvm.Cond.code (⟨"java/lang/StringLatin1", "toBytes", "(C)[B"⟩ : MethodName) jdk_43_method_46_code 1 (some (.array .byte)) :: ws) ({ frames := 0, cells := 1, slots := 1, locals := 0 } : Room)) (fun a U => a = #[(.int ch)] ∧ Z.Warmed39 U.vm ∧ U.heap = h0) (fun _ _ _ _ _ => True) (fun _ U o U' => ∃ v L, o = .returned v ∧ Q_toB Z ch h0 n0 v U'.heap L ∧ FrameEnd U o U' L ({ frames := 0, cells := 1, slots := 1, locals := 0 } : Room).cells ({ frames := 0, cells := 1, slots := 1, locals := 0 } : Room).slots) := by
  refine MetFree.of_bodySF (plainFor_of_name pn_java_lang_StringLatin1) hisR ?_
  intro p e s m args below meth c s₁ Bd hml0 hP hK
  obtain ⟨rfl, hZ, hh⟩ := hP
  have hx := Bd.exec
  have hby := Bd.bytes
  have hml : c.maxLocals = 1 := hml0
  have hown : s.vm.findClass "java/lang/StringLatin1" = some m.cls := findClass_of_methodNamed Bd.named
  have hnm := (name_of_methodNamed Bd.named Bd.method).1
  have X0 : Stand p l e ({ frames := 0, cells := 1, slots := 1, locals := 0 } : Room) s m #[(.int ch)] below meth c s₁ [] 0 0 := Stand.of_body Bd
  have e0 : s₁.heap = h0 := by rw [← hh, Bd.state]; rfl
  have N0 := Fr.nil n0
  have g0 : Go p e below s₁ (mkF m 0 #[iv ch] []) (s₁.setTop (entryFrame m #[(.int ch)] 1)) := fun t kont => castTop (ef_toB m ch ) kont
  generalize s₁.setTop (entryFrame m #[(.int ch)] 1) = A0 at g0 ⊢
  have g101 : Go p e below s₁ (mkF m 1 #[iv ch] [(.int (1 : Int32))]) A0 := by
    intro t kont
    refine g0 t ?_
    refine XS.iconst X0.here hx rfl (hb hby d4_0) ?_
    show Steps p.tables e below (s₁.setTop (mkF m 1 #[iv ch] [(.int (1 : Int32))])) _
    exact kont
  obtain ⟨T102, h102, k102, X102, e102, E102, A102, F102, st102⟩ := newPE X0 hx hZ (hw _ (List.mem_of_getElem? (i := 18) rfl)) e0 (g := (mkF m 1 #[iv ch] [(.int (1 : Int32))])) rfl (hb hby d4_1) rfl (by decide) (cap := 1) (by decide) (by decide) (by decide) (by decide) (ad := "[B") (by decide)
  obtain ⟨b102, gb102⟩ : ∃ z, z = h0.size := ⟨_, rfl⟩
  rw [← gb102] at A102 F102 st102
  have O103 := O0.ext E102
  have y104 : Arv Z h102 b102 k102 .byte (1 : Int32) [(.int (0 : Int32))] (.int (0 : Int32)) := (Arv.new A102 (by decide)).pad (pad_rep [] (.int (0 : Int32)) 1)
  have g105 : Go p e below T102 (mkF m 3 #[iv ch] [(.ref b102)]) A0 := fun t kont => g101 t (st102 t kont)
  have g106 : Go p e below T102 (mkF m 7 #[iv ch] [(.int (ch.toInt8.toInt32)), (.int (0 : Int32)), (.ref b102), (.ref b102)]) A0 := by
    intro t kont
    refine g105 t ?_
    refine XS.dup X102.here hx rfl (hb hby d4_3) rfl rfl ?_
    show Steps p.tables e below (T102.setTop (mkF m 4 #[iv ch] [(.ref b102), (.ref b102)])) _
    refine XS.iconst X102.here hx rfl (hb hby d4_4) ?_
    show Steps p.tables e below (T102.setTop (mkF m 5 #[iv ch] [(.int (0 : Int32)), (.ref b102), (.ref b102)])) _
    refine XS.iloadN X102.here hx rfl (hb hby d4_5) rfl ?_
    show Steps p.tables e below (T102.setTop (mkF m 6 #[iv ch] [(.int ch), (.int (0 : Int32)), (.ref b102), (.ref b102)])) _
    refine XS.i2b X102.here hx rfl (hb hby d4_6) rfl ?_
    show Steps p.tables e below (T102.setTop (mkF m 7 #[iv ch] [(.int (ch.toInt8.toInt32)), (.int (0 : Int32)), (.ref b102), (.ref b102)])) _
    exact kont
  have ge108 : n0 ≤ b102 := Nat.le_trans (own_old_le O0) (Nat.le_of_eq gb102.symm)
  have zz107 := y104
  obtain ⟨cl107, Ar107, q107, S107, M107, H107, G107⟩ := zz107
  have in107 : ¬ ((0 : Int32) < 0 ∨ cl107.slots.size ≤ ((0 : Int32)).toNatClampNeg) := inb_of S107 ⟨by decide, by decide⟩
  obtain ⟨T107, h107, X107, e107, W107, st107⟩ := stB X102 hx hZ e102 Ar107 (j := (0 : Int32)) in107 (g := (mkF m 7 #[iv ch] [(.int (ch.toInt8.toInt32)), (.int (0 : Int32)), (.ref b102), (.ref b102)])) rfl rfl (hb hby d4_7)
  rw [show nar .byte (ch.toInt8.toInt32) = (ch.toInt8.toInt32) from (own_narb _)] at W107
  have O109 := O103.wr W107 ge108
  have y110 : Arv Z h107 b102 k102 .byte (1 : Int32) [(.int (ch.toInt8.toInt32))] (.int (0 : Int32)) := Arv.set Ar107 q107 S107 M107 H107 G107 (own_ft_byte (z := (ch.toInt8.toInt32)) (own_narb _)) W107 0 rfl (Nat.le_of_ble_eq_true rfl)
  have N107 := Fr.snoc X107 N0 ge108
  have g111 : Go p e below T107 (mkF m 8 #[iv ch] [(.ref b102)]) A0 := fun t kont => g106 t (st107 t kont)
  have K112 : Keep h0 h107 [] := (((Keep.refl h0 []).ext E102).wr W107 (Or.inr (Nat.le_of_eq gb102.symm)))
  have y113 : Exa Z h107 b102 "[B" := (F102.wr W107)
  obtain ⟨fs, hr, hrun, hended, hW, hsame⟩ := X107.leave (v := some (.ref b102)) (fun h => by rw [Bd.returns] at h; cases h)
  refine ⟨_, _, g111 _ (retOut X107 hx Bd.returns rfl (Or.inr (Or.inr (Or.inr (Or.inr ⟨rfl, rfl, rfl⟩)))) (hb hby d4_8) hr), hrun, hended, _, _, rfl, ?_, ⟨_, rfl⟩, hW, hsame.mono (by decide) (by decide)⟩
  show Q_toB Z ch h0 n0 _ T107.heap _
  rw [e107]
  exact ⟨b102, k102, rfl, N107, K112, (Nat.le_of_eq gb102.symm), y113, y110⟩
theorem d5_0 : decode jdk_42_method_151_code 0 = .ok (.aload_n 0, 1) := by decide +kernel
theorem d5_1 : decode jdk_42_method_151_code 1 = .ok (.invokespecial 1, 3) := by decide +kernel
theorem d5_4 : decode jdk_42_method_151_code 4 = .ok (.aload_n 0, 1) := by decide +kernel
theorem d5_5 : decode jdk_42_method_151_code 5 = .ok (.aload_n 1, 1) := by decide +kernel
theorem d5_6 : decode jdk_42_method_151_code 6 = .ok (.putfield 9, 3) := by decide +kernel
theorem d5_9 : decode jdk_42_method_151_code 9 = .ok (.aload_n 0, 1) := by decide +kernel
theorem d5_10 : decode jdk_42_method_151_code 10 = .ok (.iload_n 2, 1) := by decide +kernel
theorem d5_11 : decode jdk_42_method_151_code 11 = .ok (.putfield 15, 3) := by decide +kernel
theorem d5_14 : decode jdk_42_method_151_code 14 = .ok (.return_, 1) := by decide +kernel
theorem pn_java_lang_String : plainName "java/lang/String" = true := by first | (simp [plainName, overriddenIn]; done) | decide +kernel
theorem ef_strI (m : MethodId) (x0 : Addr) (x1 : Addr) (x2 : Int32)  : entryFrame m #[(.ref x0), (.ref x1), (.int x2)] 3 = mkF m 0 #[.val (.ref x0), .val (.ref x1), .val (.int x2)] [] := by first | (simp [entryFrame, mkF, argsToLocals, Value.category]; done) | rfl
def Q_strI (Z : State) (a1 : Addr) (b1 : Addr) (h0 : Heap) (n0 : Nat) (v : Option Value) (h : Heap) (L : List Loc) : Prop := v = none ∧ Fr n0 L ∧ Keep h0 h [a1] ∧ (Exa Z h a1 "java/lang/String") ∧ (Fld Z h a1 "java/lang/String" "value" "[B" (.ref b1)) ∧ (Fld Z h a1 "java/lang/String" "coder" "B" (.int (0 : Int32)))
set_option maxRecDepth 65536 in
set_option maxHeartbeats 40000000 in
theorem rm_strI (l : Launch) (Z : State) (a0 : Array Value) (hw : ∀ d ∈ tables_1, d.before a0 Z = true) (ws : List Jvm.Cond) (a1 : Addr) (b1 : Addr) (h0 : Heap) (n0 : Nat) (O0 : Old Z n0 h0) (F0_ : Fld Z h0 a1 "java/lang/String" "value" "[B" .null) (F1_ : Fld Z h0 a1 "java/lang/String" "coder" "B" (.int (0 : Int32))) (E2_ : Exa Z h0 a1 "java/lang/String") (G3_ : n0 ≤ a1) :
    MetFree l (⟨"java/lang/String", "<init>", "([BB)V"⟩ : MethodName) (head1 (Jvm.Cond.code (⟨"java/lang/String", "<init>", "([BB)V"⟩ : MethodName) jdk_42_method_151_code 3 none :: ws) ({ frames := 1, cells := 0, slots := 0, locals := 12 } : Room)) (fun a U => a = #[(.ref a1), (.ref b1), (.int (0 : Int32))] ∧ Z.Warmed39 U.vm ∧ U.heap = h0) (fun _ _ _ _ _ => True) (fun _ U o U' => ∃ v L, o = .returned v ∧ Q_strI Z a1 b1 h0 n0 v U'.heap L ∧ FrameEnd U o U' L ({ frames := 1, cells := 0, slots := 0, locals := 12 } : Room).cells ({ frames := 1, cells := 0, slots := 0, locals := 12 } : Room).slots) := by
  refine MetFree.of_bodySF (plainFor_of_name pn_java_lang_String) hisR ?_
  intro p e s m args below meth c s₁ Bd hml0 hP hK
  obtain ⟨rfl, hZ, hh⟩ := hP
  have hx := Bd.exec
  have hby := Bd.bytes
  have hml : c.maxLocals = 3 := hml0
  have hown : s.vm.findClass "java/lang/String" = some m.cls := findClass_of_methodNamed Bd.named
  have hnm := (name_of_methodNamed Bd.named Bd.method).1
  have X0 : Stand p l e ({ frames := 1, cells := 0, slots := 0, locals := 12 } : Room) s m #[(.ref a1), (.ref b1), (.int (0 : Int32))] below meth c s₁ [] 0 0 := Stand.of_body Bd
  have e0 : s₁.heap = h0 := by rw [← hh, Bd.state]; rfl
  have N0 := Fr.nil n0
  have g0 : Go p e below s₁ (mkF m 0 #[rv a1, rv b1, iv (0 : Int32)] []) (s₁.setTop (entryFrame m #[(.ref a1), (.ref b1), (.int (0 : Int32))] 3)) := fun t kont => castTop (ef_strI m a1 b1 (0 : Int32) ) kont
  generalize s₁.setTop (entryFrame m #[(.ref a1), (.ref b1), (.int (0 : Int32))] 3) = A0 at g0 ⊢
  have g101 : Go p e below s₁ (mkF m 1 #[rv a1, rv b1, iv (0 : Int32)] [(.ref a1)]) A0 := by
    intro t kont
    refine g0 t ?_
    refine XS.aloadN X0.here hx rfl (hb hby d5_0) rfl rfl ?_
    show Steps p.tables e below (s₁.setTop (mkF m 1 #[rv a1, rv b1, iv (0 : Int32)] [(.ref a1)])) _
    exact kont
  obtain ⟨T102, X102, e102, st102⟩ := initO X0 hx hZ hown (hw _ (List.mem_of_getElem? (i := 23) rfl)) (hw _ (List.mem_of_getElem? (i := 24) rfl)) (hw _ (List.mem_of_getElem? (i := 25) rfl)) e0 (g := (mkF m 1 #[rv a1, rv b1, iv (0 : Int32)] [(.ref a1)])) rfl (by rw [hml]; rfl) rfl (hb hby d5_1) (by decide) (W := 0) (by show 2 * 0 + _ ≤ _; exact Nat.le_of_eq rfl) (by decide)
  have g103 : Go p e below T102 (mkF m 4 #[rv a1, rv b1, iv (0 : Int32)] []) A0 := fun t kont => g101 t (st102 t kont)
  have g104 : Go p e below T102 (mkF m 6 #[rv a1, rv b1, iv (0 : Int32)] [(.ref b1), (.ref a1)]) A0 := by
    intro t kont
    refine g103 t ?_
    refine XS.aloadN X102.here hx rfl (hb hby d5_4) rfl rfl ?_
    show Steps p.tables e below (T102.setTop (mkF m 5 #[rv a1, rv b1, iv (0 : Int32)] [(.ref a1)])) _
    refine XS.aloadN X102.here hx rfl (hb hby d5_5) rfl rfl ?_
    show Steps p.tables e below (T102.setTop (mkF m 6 #[rv a1, rv b1, iv (0 : Int32)] [(.ref b1), (.ref a1)])) _
    exact kont
  obtain ⟨T105, h105, X105, e105, W105, st105⟩ := putF X102 hx hZ hown (host := "") (Or.inl (hw _ (List.mem_of_getElem? (i := 26) rfl))) Via.refl e102 F0_ E2_ (Or.inr ⟨(hw _ (List.mem_of_getElem? (i := 27) rfl)), rfl, hnm⟩) (hw _ (List.mem_of_getElem? (i := 14) rfl)) (ty := (.array .byte)) (by decide) rfl rfl (g := (mkF m 6 #[rv a1, rv b1, iv (0 : Int32)] [(.ref b1), (.ref a1)])) rfl rfl (hb hby d5_6)
  have O106 := O0.wr W105 G3_
  have y107 : Fld Z h105 a1 "java/lang/String" "value" "[B" (.ref b1) := F0_.same W105
  have N105 := Fr.snoc X105 N0 G3_
  have g108 : Go p e below T105 (mkF m 9 #[rv a1, rv b1, iv (0 : Int32)] []) A0 := fun t kont => g104 t (st105 t kont)
  have g109 : Go p e below T105 (mkF m 11 #[rv a1, rv b1, iv (0 : Int32)] [(.int (0 : Int32)), (.ref a1)]) A0 := by
    intro t kont
    refine g108 t ?_
    refine XS.aloadN X105.here hx rfl (hb hby d5_9) rfl rfl ?_
    show Steps p.tables e below (T105.setTop (mkF m 10 #[rv a1, rv b1, iv (0 : Int32)] [(.ref a1)])) _
    refine XS.iloadN X105.here hx rfl (hb hby d5_10) rfl ?_
    show Steps p.tables e below (T105.setTop (mkF m 11 #[rv a1, rv b1, iv (0 : Int32)] [(.int (0 : Int32)), (.ref a1)])) _
    exact kont
  have y110 : Exa Z h105 a1 "java/lang/String" := (E2_.wr W105)
  have y111 : Fld Z h105 a1 "java/lang/String" "coder" "B" (.int (0 : Int32)) := (F1_.other W105 (Or.inr (slot_ne (Or.inr (hw _ (List.mem_of_getElem? (i := 29) rfl))) (Or.inr (hw _ (List.mem_of_getElem? (i := 27) rfl))) (by decide) (t := .byte) (t' := (.array .byte)) (by decide) (by decide))))
  obtain ⟨T112, h112, X112, e112, W112, st112⟩ := putFN X105 hx hZ hown (hw _ (List.mem_of_getElem? (i := 28) rfl)) Via.refl e105 y111 y110 (Or.inr ⟨(hw _ (List.mem_of_getElem? (i := 29) rfl)), rfl, hnm⟩) (hw _ (List.mem_of_getElem? (i := 14) rfl)) (ty := .byte) (v := (.int (0 : Int32))) (v' := (.int (0 : Int32))) (by decide) (own_nw_byte (by decide : nar .byte (0 : Int32) = (0 : Int32))) (own_ft_byte (by decide : nar .byte (0 : Int32) = (0 : Int32))) (g := (mkF m 11 #[rv a1, rv b1, iv (0 : Int32)] [(.int (0 : Int32)), (.ref a1)])) rfl rfl (hb hby d5_11)
  have O113 := O106.wr W112 G3_
  have y114 : Fld Z h112 a1 "java/lang/String" "coder" "B" (.int (0 : Int32)) := y111.same W112
  have N112 := Fr.snoc X112 N105 G3_
  have g115 : Go p e below T112 (mkF m 14 #[rv a1, rv b1, iv (0 : Int32)] []) A0 := fun t kont => g109 t (st112 t kont)
  have K116 : Keep h0 h112 [a1] := (((Keep.refl h0 [a1]).wr W105 (Or.inl (List.mem_of_getElem? (i := 0) rfl))).wr W112 (Or.inl (List.mem_of_getElem? (i := 0) rfl)))
  have y117 : Exa Z h112 a1 "java/lang/String" := (y110.wr W112)
  have y118 : Fld Z h112 a1 "java/lang/String" "value" "[B" (.ref b1) := (y107.other W112 (Or.inr (slot_ne (Or.inr (hw _ (List.mem_of_getElem? (i := 27) rfl))) (Or.inr (hw _ (List.mem_of_getElem? (i := 29) rfl))) (by decide) (t := (.array .byte)) (t' := .byte) (by decide) (by decide))))
  obtain ⟨fs, hr, hrun, hended, hW, hsame⟩ := X112.leave (v := none) (fun _ => rfl)
  refine ⟨_, _, g115 _ (X112.returnOut hx Bd.returns (hb hby d5_14) hr), hrun, hended, _, _, rfl, ?_, ⟨_, rfl⟩, hW, hsame.mono (by decide) (by decide)⟩
  show Q_strI Z a1 b1 h0 n0 _ T112.heap _
  rw [e112]
  exact ⟨rfl, N112, K116, y117, y118, y114⟩
theorem d2_0 : decode jdk_42_method_139_code 0 = .ok (.getstatic 38, 3) := by decide +kernel
theorem d2_3 : decode jdk_42_method_139_code 3 = .ok (.ifCond .eq 23, 3) := by decide +kernel
theorem d2_6 : decode jdk_42_method_139_code 6 = .ok (.iload_n 0, 1) := by decide +kernel
theorem d2_7 : decode jdk_42_method_139_code 7 = .ok (.invokestatic 1015, 3) := by decide +kernel
theorem pd_0 : parseMethodDescriptor "(C)Z" = some ⟨[.char], some .boolean⟩ := by decide +kernel
theorem d2_10 : decode jdk_42_method_139_code 10 = .ok (.ifCond .eq 16, 3) := by decide +kernel
theorem d2_13 : decode jdk_42_method_139_code 13 = .ok (.new 10, 3) := by decide +kernel
theorem d2_16 : decode jdk_42_method_139_code 16 = .ok (.dup, 1) := by decide +kernel
theorem d2_17 : decode jdk_42_method_139_code 17 = .ok (.iload_n 0, 1) := by decide +kernel
theorem d2_18 : decode jdk_42_method_139_code 18 = .ok (.invokestatic 1018, 3) := by decide +kernel
theorem pd_1 : parseMethodDescriptor "(C)[B" = some ⟨[.char], some (.array .byte)⟩ := by decide +kernel
theorem d2_21 : decode jdk_42_method_139_code 21 = .ok (.iconst 0, 1) := by decide +kernel
theorem d2_22 : decode jdk_42_method_139_code 22 = .ok (.invokespecial 209, 3) := by decide +kernel
theorem pd_2 : parseMethodDescriptor "([BB)V" = some ⟨[(.array .byte), .byte], none⟩ := by decide +kernel
theorem d2_25 : decode jdk_42_method_139_code 25 = .ok (.areturn, 1) := by decide +kernel
theorem ef_valC (m : MethodId) (x0 : Int32)  : entryFrame m #[(.int x0)] 1 = mkF m 0 #[.val (.int x0)] [] := by first | (simp [entryFrame, mkF, argsToLocals, Value.category]; done) | rfl
def Q_valC (Z : State) (ch : Int32) (cs : Int32) (h0 : Heap) (n0 : Nat) (v : Option Value) (h : Heap) (L : List Loc) : Prop := ∃ (r : Addr), ∃ (b : Addr), ∃ (kid : ClassId), v = some (.ref r) ∧ Fr n0 L ∧ Keep h0 h [] ∧ h0.size ≤ r ∧ (Exa Z h r "java/lang/String") ∧ (Fld Z h r "java/lang/String" "coder" "B" (.int (0 : Int32))) ∧ (Fld Z h r "java/lang/String" "value" "[B" (.ref b)) ∧ h0.size ≤ b ∧ (Arv Z h b kid .byte (1 : Int32) [(.int (ch.toInt8.toInt32))] (.int (0 : Int32)))
set_option maxRecDepth 65536 in
set_option maxHeartbeats 40000000 in
theorem rm_valC (l : Launch) (Z : State) (a0 : Array Value) (hw : ∀ d ∈ tables_1, d.before a0 Z = true) (ws : List Jvm.Cond) (ch : Int32) (cs : Int32) (h0 : Heap) (n0 : Nat) (O0 : Old Z n0 h0) (S0_ : Sta Z Z.heap "java/lang/String" "COMPACT_STRINGS" "Z" (.int cs)) (hcs : ¬ (cs = (0 : Int32))) (h1 : ¬ ((255 : Int32) < ch)) :
    MetFree l (⟨"java/lang/String", "valueOf", "(C)Ljava/lang/String;"⟩ : MethodName) (head1 (Jvm.Cond.code (⟨"java/lang/String", "valueOf", "(C)Ljava/lang/String;"⟩ : MethodName) jdk_42_method_139_code 1 (some (.object "java/lang/String")) :: ws) ({ frames := 2, cells := 2, slots := 5, locals := 27 } : Room)) (fun a U => a = #[(.int ch)] ∧ Z.Warmed39 U.vm ∧ U.heap = h0) (fun _ _ _ _ _ => True) (fun _ U o U' => ∃ v L, o = .returned v ∧ Q_valC Z ch cs h0 n0 v U'.heap L ∧ FrameEnd U o U' L ({ frames := 2, cells := 2, slots := 5, locals := 27 } : Room).cells ({ frames := 2, cells := 2, slots := 5, locals := 27 } : Room).slots) := by
  refine MetFree.of_bodySF (plainFor_of_name pn_java_lang_String) hisR ?_
  intro p e s m args below meth c s₁ Bd hml0 hP hK
  obtain ⟨rfl, hZ, hh⟩ := hP
  have hx := Bd.exec
  have hby := Bd.bytes
  have hml : c.maxLocals = 1 := hml0
  have hown : s.vm.findClass "java/lang/String" = some m.cls := findClass_of_methodNamed Bd.named
  have hnm := (name_of_methodNamed Bd.named Bd.method).1
  have X0 : Stand p l e ({ frames := 2, cells := 2, slots := 5, locals := 27 } : Room) s m #[(.int ch)] below meth c s₁ [] 0 0 := Stand.of_body Bd
  have e0 : s₁.heap = h0 := by rw [← hh, Bd.state]; rfl
  have N0 := Fr.nil n0
  have g0 : Go p e below s₁ (mkF m 0 #[iv ch] []) (s₁.setTop (entryFrame m #[(.int ch)] 1)) := fun t kont => castTop (ef_valC m ch ) kont
  generalize s₁.setTop (entryFrame m #[(.int ch)] 1) = A0 at g0 ⊢
  have y101 : Sta Z h0 "java/lang/String" "COMPACT_STRINGS" "Z" (.int cs) := S0_.ext O0.2
  obtain ⟨T102, X102, e102, st102⟩ := getS2 X0 hx hZ hown (host := "") (Or.inl (hw _ (List.mem_of_getElem? (i := 8) rfl))) Via.refl e0 y101 (g := (mkF m 0 #[iv ch] [])) rfl (hb hby d2_0)
  have g103 : Go p e below T102 (mkF m 3 #[iv ch] [(.int cs)]) A0 := fun t kont => g0 t (st102 t kont)
  have g104 : Go p e below T102 (mkF m 7 #[iv ch] [(.int ch)]) A0 := by
    intro t kont
    refine g103 t ?_
    refine XS.ifNo X102.here hx rfl (hb hby d2_3) rfl ((if0 _ _).trans (feq hcs).1) ?_
    show Steps p.tables e below (T102.setTop (mkF m 6 #[iv ch] [])) _
    refine XS.iloadN X102.here hx rfl (hb hby d2_6) rfl ?_
    show Steps p.tables e below (T102.setTop (mkF m 7 #[iv ch] [(.int ch)])) _
    exact kont
  obtain ⟨_, _, ⟨T105, L105, k105, n105⟩, -, X105, ⟨Lc105, hQ105, l105, y105, z105⟩, st105⟩ := Jvm.LawKit.callS X102 hx (y := (⟨"java/lang/StringLatin1", "canEncode", "(C)Z"⟩ : MethodName)) hown (mvT hZ (hw _ (List.mem_of_getElem? (i := 9) rfl))) (mvT hZ (hw _ (List.mem_of_getElem? (i := 10) rfl))) (mvT hZ (hw _ (List.mem_of_getElem? (i := 11) rfl))) (mvT hZ (hw _ (List.mem_of_getElem? (i := 12) rfl))) (by decide) (backOf (W := 0) (rm_canE l Z a0 hw [] ch h0 n0 O0 h1) hZ (hw _ (List.mem_of_getElem? (i := 12) rfl)) (hw _ (List.mem_of_getElem? (i := 11) rfl)) (by decide) (by decide)) (g := (mkF m 7 #[iv ch] [(.int ch)])) rfl (by rw [hml]; rfl) (argsL := [(.int ch)]) (rest := []) (lenOf pd_0 rfl) rfl (by show 2 * 0 + _ ≤ _; exact Nat.le_of_eq rfl) (hb hby d2_7) (fun _ _ => ⟨rfl, e102, (by decide : 0 + 0 ≤ _), (by decide : 0 + 0 ≤ _)⟩)
  dsimp only [Pt.U, Pt.locs, Pt.cells, Pt.slots] at X105 l105 y105 z105 st105 hQ105
  subst l105 y105 z105
  obtain ⟨rfl, M105, e105⟩ := hQ105
  have N105 := Fr.app N0 M105
  have g106 : Go p e below T105 (mkF m 10 #[iv ch] [(.int (1 : Int32))]) A0 := fun t kont => g104 t (st105 t kont)
  have g107 : Go p e below T105 (mkF m 13 #[iv ch] []) A0 := by
    intro t kont
    refine g106 t ?_
    refine XS.ifNo X105.here hx rfl (hb hby d2_10) rfl ((if0 _ _).trans (feq (by decide : ¬ ((1 : Int32) = (0 : Int32)))).1) ?_
    show Steps p.tables e below (T105.setTop (mkF m 13 #[iv ch] [])) _
    exact kont
  obtain ⟨T108, h108, X108, e108, E108, A108, D108, -, st108⟩ := newO X105 hx hZ hown (hw _ (List.mem_of_getElem? (i := 13) rfl)) (hw _ (List.mem_of_getElem? (i := 14) rfl)) (hw _ (List.mem_of_getElem? (i := 6) rfl)) e105 (g := (mkF m 13 #[iv ch] [])) rfl (hb hby d2_13) (by decide) (by decide)
  obtain ⟨b108, gb108⟩ : ∃ z, z = h0.size := ⟨_, rfl⟩
  rw [← gb108] at A108 D108 st108
  have O109 := O0.ext E108
  have y110 : Fld Z h108 b108 "java/lang/String" "value" "[B" .null := D108 (Or.inr (hw _ (List.mem_of_getElem? (i := 27) rfl))) (ty := (.array .byte)) (by decide)
  have y111 : Fld Z h108 b108 "java/lang/String" "coder" "B" (.int (0 : Int32)) := D108 (Or.inr (hw _ (List.mem_of_getElem? (i := 29) rfl))) (ty := .byte) (by decide)
  have g112 : Go p e below T108 (mkF m 16 #[iv ch] [(.ref b108)]) A0 := fun t kont => g107 t (st108 t kont)
  have g113 : Go p e below T108 (mkF m 18 #[iv ch] [(.int ch), (.ref b108), (.ref b108)]) A0 := by
    intro t kont
    refine g112 t ?_
    refine XS.dup X108.here hx rfl (hb hby d2_16) rfl rfl ?_
    show Steps p.tables e below (T108.setTop (mkF m 17 #[iv ch] [(.ref b108), (.ref b108)])) _
    refine XS.iloadN X108.here hx rfl (hb hby d2_17) rfl ?_
    show Steps p.tables e below (T108.setTop (mkF m 18 #[iv ch] [(.int ch), (.ref b108), (.ref b108)])) _
    exact kont
  obtain ⟨_, _, ⟨T114, L114, k114, n114⟩, -, X114, ⟨Lc114, hQ114, l114, y114, z114⟩, st114⟩ := Jvm.LawKit.callS X108 hx (y := (⟨"java/lang/StringLatin1", "toBytes", "(C)[B"⟩ : MethodName)) hown (mvT hZ (hw _ (List.mem_of_getElem? (i := 15) rfl))) (mvT hZ (hw _ (List.mem_of_getElem? (i := 16) rfl))) (mvT hZ (hw _ (List.mem_of_getElem? (i := 11) rfl))) (mvT hZ (hw _ (List.mem_of_getElem? (i := 17) rfl))) (by decide) (backOf (W := 2) (rm_toB l Z a0 hw [] ch h108 n0 O109 ) hZ (hw _ (List.mem_of_getElem? (i := 17) rfl)) (hw _ (List.mem_of_getElem? (i := 11) rfl)) (by decide) (by decide)) (g := (mkF m 18 #[iv ch] [(.int ch), (.ref b108), (.ref b108)])) rfl (by rw [hml]; rfl) (argsL := [(.int ch)]) (rest := [(.ref b108), (.ref b108)]) (lenOf pd_1 rfl) rfl (by show 2 * 0 + _ ≤ _; exact Nat.le_of_eq rfl) (hb hby d2_18) (fun _ _ => ⟨rfl, e108, (by decide : 1 + 1 ≤ _), (by decide : 4 + 1 ≤ _)⟩)
  dsimp only [Pt.U, Pt.locs, Pt.cells, Pt.slots] at X114 l114 y114 z114 st114 hQ114
  subst l114 y114 z114
  obtain ⟨r115, r116, rfl, M114, K114, y117, y118, y119⟩ := hQ114
  have N114 := Fr.app N105 M114
  have O120 := O109.keep K114 all0
  have g121 : Go p e below T114 (mkF m 21 #[iv ch] [(.ref r115), (.ref b108), (.ref b108)]) A0 := fun t kont => g113 t (st114 t kont)
  have g122 : Go p e below T114 (mkF m 22 #[iv ch] [(.int (0 : Int32)), (.ref r115), (.ref b108), (.ref b108)]) A0 := by
    intro t kont
    refine g121 t ?_
    refine XS.iconst X114.here hx rfl (hb hby d2_21) ?_
    show Steps p.tables e below (T114.setTop (mkF m 22 #[iv ch] [(.int (0 : Int32)), (.ref r115), (.ref b108), (.ref b108)])) _
    exact kont
  have y124 : Fld Z T114.heap b108 "java/lang/String" "value" "[B" .null := (y110.keep K114 nin0)
  have y125 : Fld Z T114.heap b108 "java/lang/String" "coder" "B" (.int (0 : Int32)) := (y111.keep K114 nin0)
  have y126 : Exa Z T114.heap b108 "java/lang/String" := (A108.keep K114)
  have ge127 : n0 ≤ b108 := Nat.le_trans (own_old_le O0) (Nat.le_of_eq gb108.symm)
  obtain ⟨_, _, ⟨T123, L123, k123, n123⟩, -, X123, ⟨Lc123, hQ123, l123, y123, z123⟩, st123⟩ := X114.specialBack hx (y := (⟨"java/lang/String", "<init>", "([BB)V"⟩ : MethodName)) rfl hown (mvT hZ (hw _ (List.mem_of_getElem? (i := 19) rfl))) (mvT hZ (hw _ (List.mem_of_getElem? (i := 20) rfl))) (mvT hZ (hw _ (List.mem_of_getElem? (i := 22) rfl))) (by decide) (backOf (W := 1) (rm_strI l Z a0 hw [] b108 r115 T114.heap n0 O120 y124 y125 y126 ge127) hZ (hw _ (List.mem_of_getElem? (i := 22) rfl)) (hw _ (List.mem_of_getElem? (i := 6) rfl)) (by decide) (by decide)) (g := (mkF m 22 #[iv ch] [(.int (0 : Int32)), (.ref r115), (.ref b108), (.ref b108)])) rfl (by rw [hml]; rfl) (Steps.refl _) (a := b108) (argsL := [(.ref r115), (.int (0 : Int32))]) (rest := [(.ref b108)]) (lenOf pd_2 rfl) rfl (by show 2 * 0 + _ ≤ _; exact Nat.le_of_eq rfl) (hb hby d2_22) (fun _ _ => ⟨rfl, rfl, (by decide : 2 + 0 ≤ _), (by decide : 5 + 0 ≤ _)⟩)
  dsimp only [Pt.U, Pt.locs, Pt.cells, Pt.slots] at X123 l123 y123 z123 st123 hQ123
  subst l123 y123 z123
  obtain ⟨rfl, M123, K123, y128, y129, y130⟩ := hQ123
  have N123 := Fr.app N114 M123
  have O131 := O120.keep K123 (allS ge127 all0)
  have g132 : Go p e below T123 (mkF m 25 #[iv ch] [(.ref b108)]) A0 := fun t kont => g122 t (st123.trans kont)
  have K133 : Keep h0 T123.heap [] := ((((Keep.refl h0 []).ext E108).trans K114 (fun x hx => nomatch hx)).trans K123 (allS (P := fun x => x ∈ [] ∨ h0.size ≤ x) (Or.inr (Nat.le_of_eq gb108.symm)) all0))
  have y134 : Arv Z T123.heap r115 r116 .byte (1 : Int32) [(.int (ch.toInt8.toInt32))] (.int (0 : Int32)) := (y119.keep K123 (ninS (Ne.symm (Nat.ne_of_lt (Nat.lt_of_lt_of_le A108.lt y117))) nin0))
  obtain ⟨fs, hr, hrun, hended, hW, hsame⟩ := X123.leave (v := some (.ref b108)) (fun h => by rw [Bd.returns] at h; cases h)
  refine ⟨_, _, g132 _ (retOut X123 hx Bd.returns rfl (Or.inr (Or.inr (Or.inr (Or.inr ⟨rfl, rfl, rfl⟩)))) (hb hby d2_25) hr), hrun, hended, _, _, rfl, ?_, ⟨_, rfl⟩, hW, hsame.mono (by decide) (by decide)⟩
  show Q_valC Z ch cs h0 n0 _ T123.heap _
  exact ⟨b108, r115, r116, rfl, N123, K133, (Nat.le_of_eq gb108.symm), y128, y130, y129, (Nat.le_trans E108.1 y117), y134⟩
theorem d1_0 : decode method_2_code 0 = .ok (.iload_n 1, 1) := by decide +kernel
theorem d1_1 : decode method_2_code 1 = .ok (.ifCond .eq 5, 3) := by decide +kernel
theorem d1_4 : decode method_2_code 4 = .ok (.aconst_null, 1) := by decide +kernel
theorem d1_5 : decode method_2_code 5 = .ok (.areturn, 1) := by decide +kernel
theorem pn_com_example_subsume_subsume_engine_IndividualInequalityIndividualsPinLaw : plainName "com/example/subsume/subsume/engine/IndividualInequalityIndividualsPinLaw" = true := by first | (simp [plainName, overriddenIn]; done) | decide +kernel
theorem ef_nameN (m : MethodId) (x0 : Int32) (x1 : Int32)  : entryFrame m #[(.int x0), (.int x1)] 2 = mkF m 0 #[.val (.int x0), .val (.int x1)] [] := by first | (simp [entryFrame, mkF, argsToLocals, Value.category]; done) | rfl
def Q_nameN (Z : State) (i1 : Int32) (h0 : Heap) (n0 : Nat) (v : Option Value) (h : Heap) (L : List Loc) : Prop := ∃ (r : Value), v = some r ∧ Fr n0 L ∧ Keep h0 h [] ∧ r.isRef = true
set_option maxRecDepth 65536 in
set_option maxHeartbeats 40000000 in
theorem rm_nameN (l : Launch) (Z : State) (a0 : Array Value) (hw : ∀ d ∈ tables_1, d.before a0 Z = true) (ws : List Jvm.Cond) (i1 : Int32) (h0 : Heap) (n0 : Nat) (O0 : Old Z n0 h0)  :
    MetFree l (⟨"com/example/subsume/subsume/engine/IndividualInequalityIndividualsPinLaw", "nameOf", "(IZ)Ljava/lang/String;"⟩ : MethodName) (head1 (Jvm.Cond.code (⟨"com/example/subsume/subsume/engine/IndividualInequalityIndividualsPinLaw", "nameOf", "(IZ)Ljava/lang/String;"⟩ : MethodName) method_2_code 2 (some (.object "java/lang/String")) :: ws) ({ frames := 0, cells := 0, slots := 0, locals := 0 } : Room)) (fun a U => a = #[(.int i1), (.int (1 : Int32))] ∧ Z.Warmed39 U.vm ∧ U.heap = h0) (fun _ _ _ _ _ => True) (fun _ U o U' => ∃ v L, o = .returned v ∧ Q_nameN Z i1 h0 n0 v U'.heap L ∧ FrameEnd U o U' L ({ frames := 0, cells := 0, slots := 0, locals := 0 } : Room).cells ({ frames := 0, cells := 0, slots := 0, locals := 0 } : Room).slots) := by
  refine MetFree.of_bodySF (plainFor_of_name pn_com_example_subsume_subsume_engine_IndividualInequalityIndividualsPinLaw) hisR ?_
  intro p e s m args below meth c s₁ Bd hml0 hP hK
  obtain ⟨rfl, hZ, hh⟩ := hP
  have hx := Bd.exec
  have hby := Bd.bytes
  have hml : c.maxLocals = 2 := hml0
  have hown : s.vm.findClass "com/example/subsume/subsume/engine/IndividualInequalityIndividualsPinLaw" = some m.cls := findClass_of_methodNamed Bd.named
  have hnm := (name_of_methodNamed Bd.named Bd.method).1
  have X0 : Stand p l e ({ frames := 0, cells := 0, slots := 0, locals := 0 } : Room) s m #[(.int i1), (.int (1 : Int32))] below meth c s₁ [] 0 0 := Stand.of_body Bd
  have e0 : s₁.heap = h0 := by rw [← hh, Bd.state]; rfl
  have N0 := Fr.nil n0
  have g0 : Go p e below s₁ (mkF m 0 #[iv i1, iv (1 : Int32)] []) (s₁.setTop (entryFrame m #[(.int i1), (.int (1 : Int32))] 2)) := fun t kont => castTop (ef_nameN m i1 (1 : Int32) ) kont
  generalize s₁.setTop (entryFrame m #[(.int i1), (.int (1 : Int32))] 2) = A0 at g0 ⊢
  have g101 : Go p e below s₁ (mkF m 5 #[iv i1, iv (1 : Int32)] [.null]) A0 := by
    intro t kont
    refine g0 t ?_
    refine XS.iloadN X0.here hx rfl (hb hby d1_0) rfl ?_
    show Steps p.tables e below (s₁.setTop (mkF m 1 #[iv i1, iv (1 : Int32)] [(.int (1 : Int32))])) _
    refine XS.ifNo X0.here hx rfl (hb hby d1_1) rfl ((if0 _ _).trans (feq (by decide : ¬ ((1 : Int32) = (0 : Int32)))).1) ?_
    show Steps p.tables e below (s₁.setTop (mkF m 4 #[iv i1, iv (1 : Int32)] [])) _
    refine XS.aconstNull X0.here hx rfl (hb hby d1_4) ?_
    show Steps p.tables e below (s₁.setTop (mkF m 5 #[iv i1, iv (1 : Int32)] [.null])) _
    exact kont
  have K102 : Keep h0 h0 [] := (Keep.refl h0 [])
  obtain ⟨fs, hr, hrun, hended, hW, hsame⟩ := X0.leave (v := some .null) (fun h => by rw [Bd.returns] at h; cases h)
  refine ⟨_, _, g101 _ (retOut X0 hx Bd.returns rfl (Or.inr (Or.inr (Or.inr (Or.inr ⟨rfl, rfl, rfl⟩)))) (hb hby d1_5) hr), hrun, hended, _, _, rfl, ?_, ⟨_, rfl⟩, hW, hsame.mono (by decide) (by decide)⟩
  show Q_nameN Z i1 h0 n0 _ s₁.heap _
  rw [e0]
  exact ⟨.null, rfl, N0, K102, rfl⟩
theorem d1_6 : decode method_2_code 6 = .ok (.iload_n 0, 1) := by decide +kernel
theorem d1_7 : decode method_2_code 7 = .ok (.sipush 255, 3) := by decide +kernel
theorem d1_10 : decode method_2_code 10 = .ok (.iand, 1) := by decide +kernel
theorem d1_11 : decode method_2_code 11 = .ok (.i2c, 1) := by decide +kernel
theorem d1_12 : decode method_2_code 12 = .ok (.invokestatic 7, 3) := by decide +kernel
theorem pd_3 : parseMethodDescriptor "(C)Ljava/lang/String;" = some ⟨[.char], some (.object "java/lang/String")⟩ := by decide +kernel
theorem d1_15 : decode method_2_code 15 = .ok (.areturn, 1) := by decide +kernel
theorem ef_nameS (m : MethodId) (x0 : Int32) (x1 : Int32)  : entryFrame m #[(.int x0), (.int x1)] 2 = mkF m 0 #[.val (.int x0), .val (.int x1)] [] := by first | (simp [entryFrame, mkF, argsToLocals, Value.category]; done) | rfl
def Q_nameS (Z : State) (i1 : Int32) (cs : Int32) (h0 : Heap) (n0 : Nat) (v : Option Value) (h : Heap) (L : List Loc) : Prop := ∃ (r : Value), v = some r ∧ Fr n0 L ∧ Keep h0 h [] ∧ r.isRef = true
set_option maxRecDepth 65536 in
set_option maxHeartbeats 40000000 in
theorem rm_nameS (l : Launch) (Z : State) (a0 : Array Value) (hw : ∀ d ∈ tables_1, d.before a0 Z = true) (ws : List Jvm.Cond) (i1 : Int32) (cs : Int32) (h0 : Heap) (n0 : Nat) (O0 : Old Z n0 h0) (S0_ : Sta Z Z.heap "java/lang/String" "COMPACT_STRINGS" "Z" (.int cs)) (hcs : ¬ (cs = (0 : Int32))) :
    MetFree l (⟨"com/example/subsume/subsume/engine/IndividualInequalityIndividualsPinLaw", "nameOf", "(IZ)Ljava/lang/String;"⟩ : MethodName) (head1 (Jvm.Cond.code (⟨"com/example/subsume/subsume/engine/IndividualInequalityIndividualsPinLaw", "nameOf", "(IZ)Ljava/lang/String;"⟩ : MethodName) method_2_code 2 (some (.object "java/lang/String")) :: ws) ({ frames := 3, cells := 2, slots := 5, locals := 39 } : Room)) (fun a U => a = #[(.int i1), (.int (0 : Int32))] ∧ Z.Warmed39 U.vm ∧ U.heap = h0) (fun _ _ _ _ _ => True) (fun _ U o U' => ∃ v L, o = .returned v ∧ Q_nameS Z i1 cs h0 n0 v U'.heap L ∧ FrameEnd U o U' L ({ frames := 3, cells := 2, slots := 5, locals := 39 } : Room).cells ({ frames := 3, cells := 2, slots := 5, locals := 39 } : Room).slots) := by
  refine MetFree.of_bodySF (plainFor_of_name pn_com_example_subsume_subsume_engine_IndividualInequalityIndividualsPinLaw) hisR ?_
  intro p e s m args below meth c s₁ Bd hml0 hP hK
  obtain ⟨rfl, hZ, hh⟩ := hP
  have hx := Bd.exec
  have hby := Bd.bytes
  have hml : c.maxLocals = 2 := hml0
  have hown : s.vm.findClass "com/example/subsume/subsume/engine/IndividualInequalityIndividualsPinLaw" = some m.cls := findClass_of_methodNamed Bd.named
  have hnm := (name_of_methodNamed Bd.named Bd.method).1
  have X0 : Stand p l e ({ frames := 3, cells := 2, slots := 5, locals := 39 } : Room) s m #[(.int i1), (.int (0 : Int32))] below meth c s₁ [] 0 0 := Stand.of_body Bd
  have e0 : s₁.heap = h0 := by rw [← hh, Bd.state]; rfl
  have N0 := Fr.nil n0
  have g0 : Go p e below s₁ (mkF m 0 #[iv i1, iv (0 : Int32)] []) (s₁.setTop (entryFrame m #[(.int i1), (.int (0 : Int32))] 2)) := fun t kont => castTop (ef_nameS m i1 (0 : Int32) ) kont
  generalize s₁.setTop (entryFrame m #[(.int i1), (.int (0 : Int32))] 2) = A0 at g0 ⊢
  have g101 : Go p e below s₁ (mkF m 12 #[iv i1, iv (0 : Int32)] [(.int ((i1 &&& (255 : Int32)).toUInt32.toUInt16.toUInt32.toInt32))]) A0 := by
    intro t kont
    refine g0 t ?_
    refine XS.iloadN X0.here hx rfl (hb hby d1_0) rfl ?_
    show Steps p.tables e below (s₁.setTop (mkF m 1 #[iv i1, iv (0 : Int32)] [(.int (0 : Int32))])) _
    refine XS.ifYes X0.here hx rfl (pc0 := 1) (pc' := 6) rfl (hb hby d1_1) rfl ((if0 _ _).trans (teq (by decide : (0 : Int32) = (0 : Int32))).1) (by decide) (by decide) ?_
    show Steps p.tables e below (s₁.setTop (mkF m 6 #[iv i1, iv (0 : Int32)] [])) _
    refine XS.iloadN X0.here hx rfl (hb hby d1_6) rfl ?_
    show Steps p.tables e below (s₁.setTop (mkF m 7 #[iv i1, iv (0 : Int32)] [(.int i1)])) _
    refine XS.sipush X0.here hx rfl (hb hby d1_7) ?_
    show Steps p.tables e below (s₁.setTop (mkF m 10 #[iv i1, iv (0 : Int32)] [(.int (255 : Int32)), (.int i1)])) _
    refine XS.iand X0.here hx rfl (hb hby d1_10) rfl ?_
    show Steps p.tables e below (s₁.setTop (mkF m 11 #[iv i1, iv (0 : Int32)] [(.int (i1 &&& (255 : Int32)))])) _
    refine XS.i2c X0.here hx rfl (hb hby d1_11) rfl ?_
    show Steps p.tables e below (s₁.setTop (mkF m 12 #[iv i1, iv (0 : Int32)] [(.int ((i1 &&& (255 : Int32)).toUInt32.toUInt16.toUInt32.toInt32))])) _
    exact kont
  obtain ⟨_, _, ⟨T102, L102, k102, n102⟩, -, X102, ⟨Lc102, hQ102, l102, y102, z102⟩, st102⟩ := Jvm.LawKit.callS X0 hx (y := (⟨"java/lang/String", "valueOf", "(C)Ljava/lang/String;"⟩ : MethodName)) hown (mvT hZ (hw _ (List.mem_of_getElem? (i := 4) rfl))) (mvT hZ (hw _ (List.mem_of_getElem? (i := 5) rfl))) (mvT hZ (hw _ (List.mem_of_getElem? (i := 6) rfl))) (mvT hZ (hw _ (List.mem_of_getElem? (i := 7) rfl))) (by decide) (backOf (W := 0) (rm_valC l Z a0 hw [] ((i1 &&& (255 : Int32)).toUInt32.toUInt16.toUInt32.toInt32) cs h0 n0 O0 S0_ hcs (own_c255 i1)) hZ (hw _ (List.mem_of_getElem? (i := 7) rfl)) (hw _ (List.mem_of_getElem? (i := 6) rfl)) (by decide) (by decide)) (g := (mkF m 12 #[iv i1, iv (0 : Int32)] [(.int ((i1 &&& (255 : Int32)).toUInt32.toUInt16.toUInt32.toInt32))])) rfl (by rw [hml]; rfl) (argsL := [(.int ((i1 &&& (255 : Int32)).toUInt32.toUInt16.toUInt32.toInt32))]) (rest := []) (lenOf pd_3 rfl) rfl (by show 2 * 0 + _ ≤ _; exact Nat.le_of_eq rfl) (hb hby d1_12) (fun _ _ => ⟨rfl, e0, (by decide : 0 + 2 ≤ _), (by decide : 0 + 5 ≤ _)⟩)
  dsimp only [Pt.U, Pt.locs, Pt.cells, Pt.slots] at X102 l102 y102 z102 st102 hQ102
  subst l102 y102 z102
  obtain ⟨r103, r104, r105, rfl, M102, K102, y106, y107, y108, y109, y110, y111⟩ := hQ102
  have N102 := Fr.app N0 M102
  have O112 := O0.keep K102 all0
  have g113 : Go p e below T102 (mkF m 15 #[iv i1, iv (0 : Int32)] [(.ref r103)]) A0 := fun t kont => g101 t (st102 t kont)
  have K114 : Keep h0 T102.heap [] := ((Keep.refl h0 []).trans K102 (fun x hx => nomatch hx))
  obtain ⟨fs, hr, hrun, hended, hW, hsame⟩ := X102.leave (v := some (.ref r103)) (fun h => by rw [Bd.returns] at h; cases h)
  refine ⟨_, _, g113 _ (retOut X102 hx Bd.returns rfl (Or.inr (Or.inr (Or.inr (Or.inr ⟨rfl, rfl, rfl⟩)))) (hb hby d1_15) hr), hrun, hended, _, _, rfl, ?_, ⟨_, rfl⟩, hW, hsame.mono (by decide) (by decide)⟩
  show Q_nameS Z i1 cs h0 n0 _ T102.heap _
  exact ⟨(.ref r103), rfl, N102, K114, rfl⟩
theorem d7_0 : decode prog_13_method_1_code 0 = .ok (.aload_n 0, 1) := by decide +kernel
theorem d7_1 : decode prog_13_method_1_code 1 = .ok (.invokespecial 1, 3) := by decide +kernel
theorem d7_4 : decode prog_13_method_1_code 4 = .ok (.aload_n 0, 1) := by decide +kernel
theorem d7_5 : decode prog_13_method_1_code 5 = .ok (.aload_n 1, 1) := by decide +kernel
theorem d7_6 : decode prog_13_method_1_code 6 = .ok (.putfield 7, 3) := by decide +kernel
theorem d7_9 : decode prog_13_method_1_code 9 = .ok (.aload_n 0, 1) := by decide +kernel
theorem d7_10 : decode prog_13_method_1_code 10 = .ok (.iload_n 2, 1) := by decide +kernel
theorem d7_11 : decode prog_13_method_1_code 11 = .ok (.putfield 13, 3) := by decide +kernel
theorem d7_14 : decode prog_13_method_1_code 14 = .ok (.return_, 1) := by decide +kernel
theorem pn_com_example_subsume_subsume_engine_Individual : plainName "com/example/subsume/subsume/engine/Individual" = true := by first | (simp [plainName, overriddenIn]; done) | decide +kernel
theorem ef_indI (m : MethodId) (x0 : Addr) (x1 : Value) (x2 : Int32) (h1 : x1.isRef = true) : entryFrame m #[(.ref x0), x1, (.int x2)] 3 = mkF m 0 #[.val (.ref x0), .val x1, .val (.int x2)] [] := by (rcases ref_cases h1 with rfl | ⟨_, rfl⟩) <;> first | (simp [entryFrame, mkF, argsToLocals, Value.category]; done) | rfl
def Q_indI (Z : State) (a1 : Addr) (v1 : Value) (i1 : Int32) (h0 : Heap) (n0 : Nat) (v : Option Value) (h : Heap) (L : List Loc) : Prop := v = none ∧ Fr n0 L ∧ Keep h0 h [a1] ∧ (Exa Z h a1 "com/example/subsume/subsume/engine/Individual")
set_option maxRecDepth 65536 in
set_option maxHeartbeats 40000000 in
theorem rm_indI (l : Launch) (Z : State) (a0 : Array Value) (hw : ∀ d ∈ tables_1, d.before a0 Z = true) (ws : List Jvm.Cond) (a1 : Addr) (v1 : Value) (i1 : Int32) (h0 : Heap) (n0 : Nat) (O0 : Old Z n0 h0) (hv1 : v1.isRef = true) (F1_ : Fld Z h0 a1 "com/example/subsume/subsume/engine/Individual" "name" "Ljava/lang/String;" .null) (F2_ : Fld Z h0 a1 "com/example/subsume/subsume/engine/Individual" "id" "I" (.int (0 : Int32))) (E3_ : Exa Z h0 a1 "com/example/subsume/subsume/engine/Individual") (G4_ : n0 ≤ a1) :
    MetFree l (⟨"com/example/subsume/subsume/engine/Individual", "<init>", "(Ljava/lang/String;I)V"⟩ : MethodName) (head1 (Jvm.Cond.code (⟨"com/example/subsume/subsume/engine/Individual", "<init>", "(Ljava/lang/String;I)V"⟩ : MethodName) prog_13_method_1_code 3 none :: ws) ({ frames := 1, cells := 0, slots := 0, locals := 12 } : Room)) (fun a U => a = #[(.ref a1), v1, (.int i1)] ∧ Z.Warmed39 U.vm ∧ U.heap = h0) (fun _ _ _ _ _ => True) (fun _ U o U' => ∃ v L, o = .returned v ∧ Q_indI Z a1 v1 i1 h0 n0 v U'.heap L ∧ FrameEnd U o U' L ({ frames := 1, cells := 0, slots := 0, locals := 12 } : Room).cells ({ frames := 1, cells := 0, slots := 0, locals := 12 } : Room).slots) := by
  refine MetFree.of_bodySF (plainFor_of_name pn_com_example_subsume_subsume_engine_Individual) hisR ?_
  intro p e s m args below meth c s₁ Bd hml0 hP hK
  obtain ⟨rfl, hZ, hh⟩ := hP
  have hx := Bd.exec
  have hby := Bd.bytes
  have hml : c.maxLocals = 3 := hml0
  have hown : s.vm.findClass "com/example/subsume/subsume/engine/Individual" = some m.cls := findClass_of_methodNamed Bd.named
  have hnm := (name_of_methodNamed Bd.named Bd.method).1
  have X0 : Stand p l e ({ frames := 1, cells := 0, slots := 0, locals := 12 } : Room) s m #[(.ref a1), v1, (.int i1)] below meth c s₁ [] 0 0 := Stand.of_body Bd
  have e0 : s₁.heap = h0 := by rw [← hh, Bd.state]; rfl
  have N0 := Fr.nil n0
  have g0 : Go p e below s₁ (mkF m 0 #[rv a1, .val v1, iv i1] []) (s₁.setTop (entryFrame m #[(.ref a1), v1, (.int i1)] 3)) := fun t kont => castTop (ef_indI m a1 v1 i1 (hv1)) kont
  generalize s₁.setTop (entryFrame m #[(.ref a1), v1, (.int i1)] 3) = A0 at g0 ⊢
  have g101 : Go p e below s₁ (mkF m 1 #[rv a1, .val v1, iv i1] [(.ref a1)]) A0 := by
    intro t kont
    refine g0 t ?_
    refine XS.aloadN X0.here hx rfl (hb hby d7_0) rfl rfl ?_
    show Steps p.tables e below (s₁.setTop (mkF m 1 #[rv a1, .val v1, iv i1] [(.ref a1)])) _
    exact kont
  obtain ⟨T102, X102, e102, st102⟩ := initO X0 hx hZ hown (hw _ (List.mem_of_getElem? (i := 36) rfl)) (hw _ (List.mem_of_getElem? (i := 24) rfl)) (hw _ (List.mem_of_getElem? (i := 25) rfl)) e0 (g := (mkF m 1 #[rv a1, .val v1, iv i1] [(.ref a1)])) rfl (by rw [hml]; rfl) rfl (hb hby d7_1) (by decide) (W := 0) (by show 2 * 0 + _ ≤ _; exact Nat.le_of_eq rfl) (by decide)
  have g103 : Go p e below T102 (mkF m 4 #[rv a1, .val v1, iv i1] []) A0 := fun t kont => g101 t (st102 t kont)
  have g104 : Go p e below T102 (mkF m 6 #[rv a1, .val v1, iv i1] [v1, (.ref a1)]) A0 := by
    intro t kont
    refine g103 t ?_
    refine XS.aloadN X102.here hx rfl (hb hby d7_4) rfl rfl ?_
    show Steps p.tables e below (T102.setTop (mkF m 5 #[rv a1, .val v1, iv i1] [(.ref a1)])) _
    refine XS.aloadN X102.here hx rfl (hb hby d7_5) rfl (hv1) ?_
    show Steps p.tables e below (T102.setTop (mkF m 6 #[rv a1, .val v1, iv i1] [v1, (.ref a1)])) _
    exact kont
  obtain ⟨T105, h105, X105, e105, W105, st105⟩ := putF X102 hx hZ hown (host := "") (Or.inl (hw _ (List.mem_of_getElem? (i := 37) rfl))) Via.refl e102 F1_ E3_ (Or.inr ⟨(hw _ (List.mem_of_getElem? (i := 38) rfl)), rfl, hnm⟩) (hw _ (List.mem_of_getElem? (i := 31) rfl)) (ty := (.object "java/lang/String")) (by decide) (own_retA _ (hv1) _ rfl) (own_fitA _ (hv1) _ rfl) (g := (mkF m 6 #[rv a1, .val v1, iv i1] [v1, (.ref a1)])) rfl rfl (hb hby d7_6)
  have O106 := O0.wr W105 G4_
  have y107 : Fld Z h105 a1 "com/example/subsume/subsume/engine/Individual" "name" "Ljava/lang/String;" v1 := F1_.same W105
  have N105 := Fr.snoc X105 N0 G4_
  have g108 : Go p e below T105 (mkF m 9 #[rv a1, .val v1, iv i1] []) A0 := fun t kont => g104 t (st105 t kont)
  have g109 : Go p e below T105 (mkF m 11 #[rv a1, .val v1, iv i1] [(.int i1), (.ref a1)]) A0 := by
    intro t kont
    refine g108 t ?_
    refine XS.aloadN X105.here hx rfl (hb hby d7_9) rfl rfl ?_
    show Steps p.tables e below (T105.setTop (mkF m 10 #[rv a1, .val v1, iv i1] [(.ref a1)])) _
    refine XS.iloadN X105.here hx rfl (hb hby d7_10) rfl ?_
    show Steps p.tables e below (T105.setTop (mkF m 11 #[rv a1, .val v1, iv i1] [(.int i1), (.ref a1)])) _
    exact kont
  have y110 : Exa Z h105 a1 "com/example/subsume/subsume/engine/Individual" := (E3_.wr W105)
  have y111 : Fld Z h105 a1 "com/example/subsume/subsume/engine/Individual" "id" "I" (.int (0 : Int32)) := (F2_.other W105 (Or.inr (slot_ne (Or.inr (hw _ (List.mem_of_getElem? (i := 40) rfl))) (Or.inr (hw _ (List.mem_of_getElem? (i := 38) rfl))) (by decide) (t := .int) (t' := (.object "java/lang/String")) (by decide) (by decide))))
  obtain ⟨T112, h112, X112, e112, W112, st112⟩ := putF X105 hx hZ hown (host := "") (Or.inl (hw _ (List.mem_of_getElem? (i := 39) rfl))) Via.refl e105 y111 y110 (Or.inr ⟨(hw _ (List.mem_of_getElem? (i := 40) rfl)), rfl, hnm⟩) (hw _ (List.mem_of_getElem? (i := 31) rfl)) (ty := .int) (by decide) rfl rfl (g := (mkF m 11 #[rv a1, .val v1, iv i1] [(.int i1), (.ref a1)])) rfl rfl (hb hby d7_11)
  have O113 := O106.wr W112 G4_
  have y114 : Fld Z h112 a1 "com/example/subsume/subsume/engine/Individual" "id" "I" (.int i1) := y111.same W112
  have N112 := Fr.snoc X112 N105 G4_
  have g115 : Go p e below T112 (mkF m 14 #[rv a1, .val v1, iv i1] []) A0 := fun t kont => g109 t (st112 t kont)
  have K116 : Keep h0 h112 [a1] := (((Keep.refl h0 [a1]).wr W105 (Or.inl (List.mem_of_getElem? (i := 0) rfl))).wr W112 (Or.inl (List.mem_of_getElem? (i := 0) rfl)))
  have y117 : Exa Z h112 a1 "com/example/subsume/subsume/engine/Individual" := (y110.wr W112)
  obtain ⟨fs, hr, hrun, hended, hW, hsame⟩ := X112.leave (v := none) (fun _ => rfl)
  refine ⟨_, _, g115 _ (X112.returnOut hx Bd.returns (hb hby d7_14) hr), hrun, hended, _, _, rfl, ?_, ⟨_, rfl⟩, hW, hsame.mono (by decide) (by decide)⟩
  show Q_indI Z a1 v1 i1 h0 n0 _ T112.heap _
  rw [e112]
  exact ⟨rfl, N112, K116, y117⟩
theorem d9_0 : decode jdk_30_method_1_code 0 = .ok (.aload_n 0, 1) := by decide +kernel
theorem d9_1 : decode jdk_30_method_1_code 1 = .ok (.invokespecial 1, 3) := by decide +kernel
theorem d9_4 : decode jdk_30_method_1_code 4 = .ok (.return_, 1) := by decide +kernel
theorem pn_java_lang_Record : plainName "java/lang/Record" = true := by first | (simp [plainName, overriddenIn]; done) | decide +kernel
theorem ef_rec (m : MethodId) (x0 : Addr)  : entryFrame m #[(.ref x0)] 1 = mkF m 0 #[.val (.ref x0)] [] := by first | (simp [entryFrame, mkF, argsToLocals, Value.category]; done) | rfl
def Q_rec (Z : State) (a1 : Addr) (h0 : Heap) (n0 : Nat) (v : Option Value) (h : Heap) (L : List Loc) : Prop := v = none ∧ Fr n0 L ∧ h = h0
set_option maxRecDepth 65536 in
set_option maxHeartbeats 40000000 in
theorem rm_rec (l : Launch) (Z : State) (a0 : Array Value) (hw : ∀ d ∈ tables_1, d.before a0 Z = true) (ws : List Jvm.Cond) (a1 : Addr) (h0 : Heap) (n0 : Nat) (O0 : Old Z n0 h0)  :
    MetFree l (⟨"java/lang/Record", "<init>", "()V"⟩ : MethodName) (head1 (Jvm.Cond.code (⟨"java/lang/Record", "<init>", "()V"⟩ : MethodName) jdk_30_method_1_code 1 none :: ws) ({ frames := 1, cells := 0, slots := 0, locals := 12 } : Room)) (fun a U => a = #[(.ref a1)] ∧ Z.Warmed39 U.vm ∧ U.heap = h0) (fun _ _ _ _ _ => True) (fun _ U o U' => ∃ v L, o = .returned v ∧ Q_rec Z a1 h0 n0 v U'.heap L ∧ FrameEnd U o U' L ({ frames := 1, cells := 0, slots := 0, locals := 12 } : Room).cells ({ frames := 1, cells := 0, slots := 0, locals := 12 } : Room).slots) := by
  refine MetFree.of_bodySF (plainFor_of_name pn_java_lang_Record) hisR ?_
  intro p e s m args below meth c s₁ Bd hml0 hP hK
  obtain ⟨rfl, hZ, hh⟩ := hP
  have hx := Bd.exec
  have hby := Bd.bytes
  have hml : c.maxLocals = 1 := hml0
  have hown : s.vm.findClass "java/lang/Record" = some m.cls := findClass_of_methodNamed Bd.named
  have hnm := (name_of_methodNamed Bd.named Bd.method).1
  have X0 : Stand p l e ({ frames := 1, cells := 0, slots := 0, locals := 12 } : Room) s m #[(.ref a1)] below meth c s₁ [] 0 0 := Stand.of_body Bd
  have e0 : s₁.heap = h0 := by rw [← hh, Bd.state]; rfl
  have N0 := Fr.nil n0
  have g0 : Go p e below s₁ (mkF m 0 #[rv a1] []) (s₁.setTop (entryFrame m #[(.ref a1)] 1)) := fun t kont => castTop (ef_rec m a1 ) kont
  generalize s₁.setTop (entryFrame m #[(.ref a1)] 1) = A0 at g0 ⊢
  have g101 : Go p e below s₁ (mkF m 1 #[rv a1] [(.ref a1)]) A0 := by
    intro t kont
    refine g0 t ?_
    refine XS.aloadN X0.here hx rfl (hb hby d9_0) rfl rfl ?_
    show Steps p.tables e below (s₁.setTop (mkF m 1 #[rv a1] [(.ref a1)])) _
    exact kont
  obtain ⟨T102, X102, e102, st102⟩ := initO X0 hx hZ hown (hw _ (List.mem_of_getElem? (i := 52) rfl)) (hw _ (List.mem_of_getElem? (i := 24) rfl)) (hw _ (List.mem_of_getElem? (i := 25) rfl)) e0 (g := (mkF m 1 #[rv a1] [(.ref a1)])) rfl (by rw [hml]; rfl) rfl (hb hby d9_1) (by decide) (W := 0) (by show 2 * 0 + _ ≤ _; exact Nat.le_of_eq rfl) (by decide)
  have g103 : Go p e below T102 (mkF m 4 #[rv a1] []) A0 := fun t kont => g101 t (st102 t kont)
  obtain ⟨fs, hr, hrun, hended, hW, hsame⟩ := X102.leave (v := none) (fun _ => rfl)
  refine ⟨_, _, g103 _ (X102.returnOut hx Bd.returns (hb hby d9_4) hr), hrun, hended, _, _, rfl, ?_, ⟨_, rfl⟩, hW, hsame.mono (by decide) (by decide)⟩
  show Q_rec Z a1 h0 n0 _ T102.heap _
  rw [e102]
  exact ⟨rfl, N0, rfl⟩
theorem d8_0 : decode prog_15_method_1_code 0 = .ok (.aload_n 0, 1) := by decide +kernel
theorem d8_1 : decode prog_15_method_1_code 1 = .ok (.invokespecial 1, 3) := by decide +kernel
theorem pd_4 : parseMethodDescriptor "()V" = some ⟨[], none⟩ := by decide +kernel
theorem d8_4 : decode prog_15_method_1_code 4 = .ok (.aload_n 0, 1) := by decide +kernel
theorem d8_5 : decode prog_15_method_1_code 5 = .ok (.aload_n 1, 1) := by decide +kernel
theorem d8_6 : decode prog_15_method_1_code 6 = .ok (.putfield 7, 3) := by decide +kernel
theorem d8_9 : decode prog_15_method_1_code 9 = .ok (.aload_n 0, 1) := by decide +kernel
theorem d8_10 : decode prog_15_method_1_code 10 = .ok (.aload_n 2, 1) := by decide +kernel
theorem d8_11 : decode prog_15_method_1_code 11 = .ok (.putfield 13, 3) := by decide +kernel
theorem d8_14 : decode prog_15_method_1_code 14 = .ok (.return_, 1) := by decide +kernel
theorem pn_com_example_subsume_subsume_engine_IndividualInequality : plainName "com/example/subsume/subsume/engine/IndividualInequality" = true := by first | (simp [plainName, overriddenIn]; done) | decide +kernel
theorem ef_relI (m : MethodId) (x0 : Addr) (x1 : Addr) (x2 : Addr)  : entryFrame m #[(.ref x0), (.ref x1), (.ref x2)] 3 = mkF m 0 #[.val (.ref x0), .val (.ref x1), .val (.ref x2)] [] := by first | (simp [entryFrame, mkF, argsToLocals, Value.category]; done) | rfl
def Q_relI (Z : State) (a1 : Addr) (b1 : Addr) (b2 : Addr) (h0 : Heap) (n0 : Nat) (v : Option Value) (h : Heap) (L : List Loc) : Prop := v = none ∧ Fr n0 L ∧ Keep h0 h [a1] ∧ (Exa Z h a1 "com/example/subsume/subsume/engine/IndividualInequality") ∧ (Fld Z h a1 "com/example/subsume/subsume/engine/IndividualInequality" "individual" "Lcom/example/subsume/subsume/engine/Individual;" (.ref b1)) ∧ (Fld Z h a1 "com/example/subsume/subsume/engine/IndividualInequality" "other" "Lcom/example/subsume/subsume/engine/Individual;" (.ref b2))
set_option maxRecDepth 65536 in
set_option maxHeartbeats 40000000 in
theorem rm_relI (l : Launch) (Z : State) (a0 : Array Value) (hw : ∀ d ∈ tables_1, d.before a0 Z = true) (ws : List Jvm.Cond) (a1 : Addr) (b1 : Addr) (b2 : Addr) (h0 : Heap) (n0 : Nat) (O0 : Old Z n0 h0) (F0_ : Fld Z h0 a1 "com/example/subsume/subsume/engine/IndividualInequality" "individual" "Lcom/example/subsume/subsume/engine/Individual;" .null) (F1_ : Fld Z h0 a1 "com/example/subsume/subsume/engine/IndividualInequality" "other" "Lcom/example/subsume/subsume/engine/Individual;" .null) (E2_ : Exa Z h0 a1 "com/example/subsume/subsume/engine/IndividualInequality") (G3_ : n0 ≤ a1) :
    MetFree l (⟨"com/example/subsume/subsume/engine/IndividualInequality", "<init>", "(Lcom/example/subsume/subsume/engine/Individual;Lcom/example/subsume/subsume/engine/Individual;)V"⟩ : MethodName) (head1 (Jvm.Cond.code (⟨"com/example/subsume/subsume/engine/IndividualInequality", "<init>", "(Lcom/example/subsume/subsume/engine/Individual;Lcom/example/subsume/subsume/engine/Individual;)V"⟩ : MethodName) prog_15_method_1_code 3 none :: ws) ({ frames := 2, cells := 0, slots := 0, locals := 24 } : Room)) (fun a U => a = #[(.ref a1), (.ref b1), (.ref b2)] ∧ Z.Warmed39 U.vm ∧ U.heap = h0) (fun _ _ _ _ _ => True) (fun _ U o U' => ∃ v L, o = .returned v ∧ Q_relI Z a1 b1 b2 h0 n0 v U'.heap L ∧ FrameEnd U o U' L ({ frames := 2, cells := 0, slots := 0, locals := 24 } : Room).cells ({ frames := 2, cells := 0, slots := 0, locals := 24 } : Room).slots) := by
  refine MetFree.of_bodySF (plainFor_of_name pn_com_example_subsume_subsume_engine_IndividualInequality) hisR ?_
  intro p e s m args below meth c s₁ Bd hml0 hP hK
  obtain ⟨rfl, hZ, hh⟩ := hP
  have hx := Bd.exec
  have hby := Bd.bytes
  have hml : c.maxLocals = 3 := hml0
  have hown : s.vm.findClass "com/example/subsume/subsume/engine/IndividualInequality" = some m.cls := findClass_of_methodNamed Bd.named
  have hnm := (name_of_methodNamed Bd.named Bd.method).1
  have X0 : Stand p l e ({ frames := 2, cells := 0, slots := 0, locals := 24 } : Room) s m #[(.ref a1), (.ref b1), (.ref b2)] below meth c s₁ [] 0 0 := Stand.of_body Bd
  have e0 : s₁.heap = h0 := by rw [← hh, Bd.state]; rfl
  have N0 := Fr.nil n0
  have g0 : Go p e below s₁ (mkF m 0 #[rv a1, rv b1, rv b2] []) (s₁.setTop (entryFrame m #[(.ref a1), (.ref b1), (.ref b2)] 3)) := fun t kont => castTop (ef_relI m a1 b1 b2 ) kont
  generalize s₁.setTop (entryFrame m #[(.ref a1), (.ref b1), (.ref b2)] 3) = A0 at g0 ⊢
  have g101 : Go p e below s₁ (mkF m 1 #[rv a1, rv b1, rv b2] [(.ref a1)]) A0 := by
    intro t kont
    refine g0 t ?_
    refine XS.aloadN X0.here hx rfl (hb hby d8_0) rfl rfl ?_
    show Steps p.tables e below (s₁.setTop (mkF m 1 #[rv a1, rv b1, rv b2] [(.ref a1)])) _
    exact kont
  obtain ⟨_, _, ⟨T102, L102, k102, n102⟩, -, X102, ⟨Lc102, hQ102, l102, y102, z102⟩, st102⟩ := X0.specialBack hx (y := (⟨"java/lang/Record", "<init>", "()V"⟩ : MethodName)) rfl hown (mvT hZ (hw _ (List.mem_of_getElem? (i := 47) rfl))) (mvT hZ (hw _ (List.mem_of_getElem? (i := 48) rfl))) (mvT hZ (hw _ (List.mem_of_getElem? (i := 51) rfl))) (by decide) (backOf (W := 0) (rm_rec l Z a0 hw [] a1 h0 n0 O0 ) hZ (hw _ (List.mem_of_getElem? (i := 51) rfl)) (hw _ (List.mem_of_getElem? (i := 50) rfl)) (by decide) (by decide)) (g := (mkF m 1 #[rv a1, rv b1, rv b2] [(.ref a1)])) rfl (by rw [hml]; rfl) (Steps.refl _) (a := a1) (argsL := []) (rest := []) (lenOf pd_4 rfl) rfl (by show 2 * 0 + _ ≤ _; exact Nat.le_of_eq rfl) (hb hby d8_1) (fun _ _ => ⟨rfl, e0, (by decide : 0 + 0 ≤ _), (by decide : 0 + 0 ≤ _)⟩)
  dsimp only [Pt.U, Pt.locs, Pt.cells, Pt.slots] at X102 l102 y102 z102 st102 hQ102
  subst l102 y102 z102
  obtain ⟨rfl, M102, e102⟩ := hQ102
  have N102 := Fr.app N0 M102
  have g103 : Go p e below T102 (mkF m 4 #[rv a1, rv b1, rv b2] []) A0 := fun t kont => g101 t (st102.trans kont)
  have g104 : Go p e below T102 (mkF m 6 #[rv a1, rv b1, rv b2] [(.ref b1), (.ref a1)]) A0 := by
    intro t kont
    refine g103 t ?_
    refine XS.aloadN X102.here hx rfl (hb hby d8_4) rfl rfl ?_
    show Steps p.tables e below (T102.setTop (mkF m 5 #[rv a1, rv b1, rv b2] [(.ref a1)])) _
    refine XS.aloadN X102.here hx rfl (hb hby d8_5) rfl rfl ?_
    show Steps p.tables e below (T102.setTop (mkF m 6 #[rv a1, rv b1, rv b2] [(.ref b1), (.ref a1)])) _
    exact kont
  obtain ⟨T105, h105, X105, e105, W105, st105⟩ := putF X102 hx hZ hown (host := "") (Or.inl (hw _ (List.mem_of_getElem? (i := 53) rfl))) Via.refl e102 F0_ E2_ (Or.inr ⟨(hw _ (List.mem_of_getElem? (i := 54) rfl)), rfl, hnm⟩) (hw _ (List.mem_of_getElem? (i := 42) rfl)) (ty := (.object "com/example/subsume/subsume/engine/Individual")) (by decide) rfl rfl (g := (mkF m 6 #[rv a1, rv b1, rv b2] [(.ref b1), (.ref a1)])) rfl rfl (hb hby d8_6)
  have O106 := O0.wr W105 G3_
  have y107 : Fld Z h105 a1 "com/example/subsume/subsume/engine/IndividualInequality" "individual" "Lcom/example/subsume/subsume/engine/Individual;" (.ref b1) := F0_.same W105
  have N105 := Fr.snoc X105 N102 G3_
  have g108 : Go p e below T105 (mkF m 9 #[rv a1, rv b1, rv b2] []) A0 := fun t kont => g104 t (st105 t kont)
  have g109 : Go p e below T105 (mkF m 11 #[rv a1, rv b1, rv b2] [(.ref b2), (.ref a1)]) A0 := by
    intro t kont
    refine g108 t ?_
    refine XS.aloadN X105.here hx rfl (hb hby d8_9) rfl rfl ?_
    show Steps p.tables e below (T105.setTop (mkF m 10 #[rv a1, rv b1, rv b2] [(.ref a1)])) _
    refine XS.aloadN X105.here hx rfl (hb hby d8_10) rfl rfl ?_
    show Steps p.tables e below (T105.setTop (mkF m 11 #[rv a1, rv b1, rv b2] [(.ref b2), (.ref a1)])) _
    exact kont
  have y110 : Exa Z h105 a1 "com/example/subsume/subsume/engine/IndividualInequality" := (E2_.wr W105)
  have y111 : Fld Z h105 a1 "com/example/subsume/subsume/engine/IndividualInequality" "other" "Lcom/example/subsume/subsume/engine/Individual;" .null := (F1_.other W105 (Or.inr (slot_ne (Or.inr (hw _ (List.mem_of_getElem? (i := 56) rfl))) (Or.inr (hw _ (List.mem_of_getElem? (i := 54) rfl))) (by decide) (t := (.object "com/example/subsume/subsume/engine/Individual")) (t' := (.object "com/example/subsume/subsume/engine/Individual")) (by decide) (by decide))))
  obtain ⟨T112, h112, X112, e112, W112, st112⟩ := putF X105 hx hZ hown (host := "") (Or.inl (hw _ (List.mem_of_getElem? (i := 55) rfl))) Via.refl e105 y111 y110 (Or.inr ⟨(hw _ (List.mem_of_getElem? (i := 56) rfl)), rfl, hnm⟩) (hw _ (List.mem_of_getElem? (i := 42) rfl)) (ty := (.object "com/example/subsume/subsume/engine/Individual")) (by decide) rfl rfl (g := (mkF m 11 #[rv a1, rv b1, rv b2] [(.ref b2), (.ref a1)])) rfl rfl (hb hby d8_11)
  have O113 := O106.wr W112 G3_
  have y114 : Fld Z h112 a1 "com/example/subsume/subsume/engine/IndividualInequality" "other" "Lcom/example/subsume/subsume/engine/Individual;" (.ref b2) := y111.same W112
  have N112 := Fr.snoc X112 N105 G3_
  have g115 : Go p e below T112 (mkF m 14 #[rv a1, rv b1, rv b2] []) A0 := fun t kont => g109 t (st112 t kont)
  have K116 : Keep h0 h112 [a1] := (((Keep.refl h0 [a1]).wr W105 (Or.inl (List.mem_of_getElem? (i := 0) rfl))).wr W112 (Or.inl (List.mem_of_getElem? (i := 0) rfl)))
  have y117 : Exa Z h112 a1 "com/example/subsume/subsume/engine/IndividualInequality" := (y110.wr W112)
  have y118 : Fld Z h112 a1 "com/example/subsume/subsume/engine/IndividualInequality" "individual" "Lcom/example/subsume/subsume/engine/Individual;" (.ref b1) := (y107.other W112 (Or.inr (slot_ne (Or.inr (hw _ (List.mem_of_getElem? (i := 54) rfl))) (Or.inr (hw _ (List.mem_of_getElem? (i := 56) rfl))) (by decide) (t := (.object "com/example/subsume/subsume/engine/Individual")) (t' := (.object "com/example/subsume/subsume/engine/Individual")) (by decide) (by decide))))
  obtain ⟨fs, hr, hrun, hended, hW, hsame⟩ := X112.leave (v := none) (fun _ => rfl)
  refine ⟨_, _, g115 _ (X112.returnOut hx Bd.returns (hb hby d8_14) hr), hrun, hended, _, _, rfl, ?_, ⟨_, rfl⟩, hW, hsame.mono (by decide) (by decide)⟩
  show Q_relI Z a1 b1 b2 h0 n0 _ T112.heap _
  rw [e112]
  exact ⟨rfl, N112, K116, y117, y118, y114⟩
theorem d16_0 : decode jdk_31_method_10_code 0 = .ok (.aload_n 0, 1) := by decide +kernel
theorem d16_1 : decode jdk_31_method_10_code 1 = .ok (.ifnonnull 11, 3) := by decide +kernel
theorem d16_12 : decode jdk_31_method_10_code 12 = .ok (.aload_n 0, 1) := by decide +kernel
theorem d16_13 : decode jdk_31_method_10_code 13 = .ok (.areturn, 1) := by decide +kernel
theorem pn_java_util_Objects : plainName "java/util/Objects" = true := by first | (simp [plainName, overriddenIn]; done) | decide +kernel
theorem ef_rnn (m : MethodId) (x0 : Addr)  : entryFrame m #[(.ref x0)] 1 = mkF m 0 #[.val (.ref x0)] [] := by first | (simp [entryFrame, mkF, argsToLocals, Value.category]; done) | rfl
def Q_rnn (Z : State) (a1 : Addr) (h0 : Heap) (n0 : Nat) (v : Option Value) (h : Heap) (L : List Loc) : Prop := v = some (.ref a1) ∧ Fr n0 L ∧ h = h0
set_option maxRecDepth 65536 in
set_option maxHeartbeats 40000000 in
theorem rm_rnn (l : Launch) (Z : State) (a0 : Array Value) (hw : ∀ d ∈ tables_1, d.before a0 Z = true) (ws : List Jvm.Cond) (a1 : Addr) (h0 : Heap) (n0 : Nat) (O0 : Old Z n0 h0)  :
    MetFree l (⟨"java/util/Objects", "requireNonNull", "(Ljava/lang/Object;)Ljava/lang/Object;"⟩ : MethodName) (head1 (Jvm.Cond.code (⟨"java/util/Objects", "requireNonNull", "(Ljava/lang/Object;)Ljava/lang/Object;"⟩ : MethodName) jdk_31_method_10_code 1 (some (.object "java/lang/Object")) :: ws) ({ frames := 0, cells := 0, slots := 0, locals := 0 } : Room)) (fun a U => a = #[(.ref a1)] ∧ Z.Warmed39 U.vm ∧ U.heap = h0) (fun _ _ _ _ _ => True) (fun _ U o U' => ∃ v L, o = .returned v ∧ Q_rnn Z a1 h0 n0 v U'.heap L ∧ FrameEnd U o U' L ({ frames := 0, cells := 0, slots := 0, locals := 0 } : Room).cells ({ frames := 0, cells := 0, slots := 0, locals := 0 } : Room).slots) := by
  refine MetFree.of_bodySF (plainFor_of_name pn_java_util_Objects) hisR ?_
  intro p e s m args below meth c s₁ Bd hml0 hP hK
  obtain ⟨rfl, hZ, hh⟩ := hP
  have hx := Bd.exec
  have hby := Bd.bytes
  have hml : c.maxLocals = 1 := hml0
  have hown : s.vm.findClass "java/util/Objects" = some m.cls := findClass_of_methodNamed Bd.named
  have hnm := (name_of_methodNamed Bd.named Bd.method).1
  have X0 : Stand p l e ({ frames := 0, cells := 0, slots := 0, locals := 0 } : Room) s m #[(.ref a1)] below meth c s₁ [] 0 0 := Stand.of_body Bd
  have e0 : s₁.heap = h0 := by rw [← hh, Bd.state]; rfl
  have N0 := Fr.nil n0
  have g0 : Go p e below s₁ (mkF m 0 #[rv a1] []) (s₁.setTop (entryFrame m #[(.ref a1)] 1)) := fun t kont => castTop (ef_rnn m a1 ) kont
  generalize s₁.setTop (entryFrame m #[(.ref a1)] 1) = A0 at g0 ⊢
  have g101 : Go p e below s₁ (mkF m 13 #[rv a1] [(.ref a1)]) A0 := by
    intro t kont
    refine g0 t ?_
    refine XS.aloadN X0.here hx rfl (hb hby d16_0) rfl rfl ?_
    show Steps p.tables e below (s₁.setTop (mkF m 1 #[rv a1] [(.ref a1)])) _
    refine XS.ifnonnullYes X0.here hx rfl (pc0 := 1) (pc' := 12) rfl (hb hby d16_1) rfl (by decide) (by decide) ?_
    show Steps p.tables e below (s₁.setTop (mkF m 12 #[rv a1] [])) _
    refine XS.aloadN X0.here hx rfl (hb hby d16_12) rfl rfl ?_
    show Steps p.tables e below (s₁.setTop (mkF m 13 #[rv a1] [(.ref a1)])) _
    exact kont
  obtain ⟨fs, hr, hrun, hended, hW, hsame⟩ := X0.leave (v := some (.ref a1)) (fun h => by rw [Bd.returns] at h; cases h)
  refine ⟨_, _, g101 _ (retOut X0 hx Bd.returns rfl (Or.inr (Or.inr (Or.inr (Or.inr ⟨rfl, rfl, rfl⟩)))) (hb hby d16_13) hr), hrun, hended, _, _, rfl, ?_, ⟨_, rfl⟩, hW, hsame.mono (by decide) (by decide)⟩
  show Q_rnn Z a1 h0 n0 _ s₁.heap _
  rw [e0]
  exact ⟨rfl, N0, rfl⟩
theorem d15_0 : decode jdk_22_method_1_code 0 = .ok (.aload_n 0, 1) := by decide +kernel
theorem d15_1 : decode jdk_22_method_1_code 1 = .ok (.invokespecial 1, 3) := by decide +kernel
theorem d15_4 : decode jdk_22_method_1_code 4 = .ok (.return_, 1) := by decide +kernel
theorem pn_java_util_AbstractCollection : plainName "java/util/AbstractCollection" = true := by first | (simp [plainName, overriddenIn]; done) | decide +kernel
theorem ef_ini0 (m : MethodId) (x0 : Addr)  : entryFrame m #[(.ref x0)] 1 = mkF m 0 #[.val (.ref x0)] [] := by first | (simp [entryFrame, mkF, argsToLocals, Value.category]; done) | rfl
def Q_ini0 (Z : State) (a1 : Addr) (h0 : Heap) (n0 : Nat) (v : Option Value) (h : Heap) (L : List Loc) : Prop := v = none ∧ Fr n0 L ∧ h = h0
set_option maxRecDepth 65536 in
set_option maxHeartbeats 40000000 in
theorem rm_ini0 (l : Launch) (Z : State) (a0 : Array Value) (hw : ∀ d ∈ tables_1, d.before a0 Z = true) (ws : List Jvm.Cond) (a1 : Addr) (h0 : Heap) (n0 : Nat) (O0 : Old Z n0 h0)  :
    MetFree l (⟨"java/util/AbstractCollection", "<init>", "()V"⟩ : MethodName) (head1 (Jvm.Cond.code (⟨"java/util/AbstractCollection", "<init>", "()V"⟩ : MethodName) jdk_22_method_1_code 1 none :: ws) ({ frames := 1, cells := 0, slots := 0, locals := 12 } : Room)) (fun a U => a = #[(.ref a1)] ∧ Z.Warmed39 U.vm ∧ U.heap = h0) (fun _ _ _ _ _ => True) (fun _ U o U' => ∃ v L, o = .returned v ∧ Q_ini0 Z a1 h0 n0 v U'.heap L ∧ FrameEnd U o U' L ({ frames := 1, cells := 0, slots := 0, locals := 12 } : Room).cells ({ frames := 1, cells := 0, slots := 0, locals := 12 } : Room).slots) := by
  refine MetFree.of_bodySF (plainFor_of_name pn_java_util_AbstractCollection) hisR ?_
  intro p e s m args below meth c s₁ Bd hml0 hP hK
  obtain ⟨rfl, hZ, hh⟩ := hP
  have hx := Bd.exec
  have hby := Bd.bytes
  have hml : c.maxLocals = 1 := hml0
  have hown : s.vm.findClass "java/util/AbstractCollection" = some m.cls := findClass_of_methodNamed Bd.named
  have hnm := (name_of_methodNamed Bd.named Bd.method).1
  have X0 : Stand p l e ({ frames := 1, cells := 0, slots := 0, locals := 12 } : Room) s m #[(.ref a1)] below meth c s₁ [] 0 0 := Stand.of_body Bd
  have e0 : s₁.heap = h0 := by rw [← hh, Bd.state]; rfl
  have N0 := Fr.nil n0
  have g0 : Go p e below s₁ (mkF m 0 #[rv a1] []) (s₁.setTop (entryFrame m #[(.ref a1)] 1)) := fun t kont => castTop (ef_ini0 m a1 ) kont
  generalize s₁.setTop (entryFrame m #[(.ref a1)] 1) = A0 at g0 ⊢
  have g101 : Go p e below s₁ (mkF m 1 #[rv a1] [(.ref a1)]) A0 := by
    intro t kont
    refine g0 t ?_
    refine XS.aloadN X0.here hx rfl (hb hby d15_0) rfl rfl ?_
    show Steps p.tables e below (s₁.setTop (mkF m 1 #[rv a1] [(.ref a1)])) _
    exact kont
  obtain ⟨T102, X102, e102, st102⟩ := initO X0 hx hZ hown (hw _ (List.mem_of_getElem? (i := 91) rfl)) (hw _ (List.mem_of_getElem? (i := 24) rfl)) (hw _ (List.mem_of_getElem? (i := 25) rfl)) e0 (g := (mkF m 1 #[rv a1] [(.ref a1)])) rfl (by rw [hml]; rfl) rfl (hb hby d15_1) (by decide) (W := 0) (by show 2 * 0 + _ ≤ _; exact Nat.le_of_eq rfl) (by decide)
  have g103 : Go p e below T102 (mkF m 4 #[rv a1] []) A0 := fun t kont => g101 t (st102 t kont)
  obtain ⟨fs, hr, hrun, hended, hW, hsame⟩ := X102.leave (v := none) (fun _ => rfl)
  refine ⟨_, _, g103 _ (X102.returnOut hx Bd.returns (hb hby d15_4) hr), hrun, hended, _, _, rfl, ?_, ⟨_, rfl⟩, hW, hsame.mono (by decide) (by decide)⟩
  show Q_ini0 Z a1 h0 n0 _ T102.heap _
  rw [e102]
  exact ⟨rfl, N0, rfl⟩
theorem d14_0 : decode jdk_47_method_1_code 0 = .ok (.aload_n 0, 1) := by decide +kernel
theorem d14_1 : decode jdk_47_method_1_code 1 = .ok (.invokespecial 1, 3) := by decide +kernel
theorem d14_4 : decode jdk_47_method_1_code 4 = .ok (.return_, 1) := by decide +kernel
theorem pn_java_util_ImmutableCollections_AbstractImmutableCollection : plainName "java/util/ImmutableCollections$AbstractImmutableCollection" = true := by first | (simp [plainName, overriddenIn]; done) | decide +kernel
theorem ef_ini1 (m : MethodId) (x0 : Addr)  : entryFrame m #[(.ref x0)] 1 = mkF m 0 #[.val (.ref x0)] [] := by first | (simp [entryFrame, mkF, argsToLocals, Value.category]; done) | rfl
def Q_ini1 (Z : State) (a1 : Addr) (h0 : Heap) (n0 : Nat) (v : Option Value) (h : Heap) (L : List Loc) : Prop := v = none ∧ Fr n0 L ∧ h = h0
set_option maxRecDepth 65536 in
set_option maxHeartbeats 40000000 in
theorem rm_ini1 (l : Launch) (Z : State) (a0 : Array Value) (hw : ∀ d ∈ tables_1, d.before a0 Z = true) (ws : List Jvm.Cond) (a1 : Addr) (h0 : Heap) (n0 : Nat) (O0 : Old Z n0 h0)  :
    MetFree l (⟨"java/util/ImmutableCollections$AbstractImmutableCollection", "<init>", "()V"⟩ : MethodName) (head1 (Jvm.Cond.code (⟨"java/util/ImmutableCollections$AbstractImmutableCollection", "<init>", "()V"⟩ : MethodName) jdk_47_method_1_code 1 none :: ws) ({ frames := 2, cells := 0, slots := 0, locals := 24 } : Room)) (fun a U => a = #[(.ref a1)] ∧ Z.Warmed39 U.vm ∧ U.heap = h0) (fun _ _ _ _ _ => True) (fun _ U o U' => ∃ v L, o = .returned v ∧ Q_ini1 Z a1 h0 n0 v U'.heap L ∧ FrameEnd U o U' L ({ frames := 2, cells := 0, slots := 0, locals := 24 } : Room).cells ({ frames := 2, cells := 0, slots := 0, locals := 24 } : Room).slots) := by
  refine MetFree.of_bodySF (plainFor_of_name pn_java_util_ImmutableCollections_AbstractImmutableCollection) hisR ?_
  intro p e s m args below meth c s₁ Bd hml0 hP hK
  obtain ⟨rfl, hZ, hh⟩ := hP
  have hx := Bd.exec
  have hby := Bd.bytes
  have hml : c.maxLocals = 1 := hml0
  have hown : s.vm.findClass "java/util/ImmutableCollections$AbstractImmutableCollection" = some m.cls := findClass_of_methodNamed Bd.named
  have hnm := (name_of_methodNamed Bd.named Bd.method).1
  have X0 : Stand p l e ({ frames := 2, cells := 0, slots := 0, locals := 24 } : Room) s m #[(.ref a1)] below meth c s₁ [] 0 0 := Stand.of_body Bd
  have e0 : s₁.heap = h0 := by rw [← hh, Bd.state]; rfl
  have N0 := Fr.nil n0
  have g0 : Go p e below s₁ (mkF m 0 #[rv a1] []) (s₁.setTop (entryFrame m #[(.ref a1)] 1)) := fun t kont => castTop (ef_ini1 m a1 ) kont
  generalize s₁.setTop (entryFrame m #[(.ref a1)] 1) = A0 at g0 ⊢
  have g101 : Go p e below s₁ (mkF m 1 #[rv a1] [(.ref a1)]) A0 := by
    intro t kont
    refine g0 t ?_
    refine XS.aloadN X0.here hx rfl (hb hby d14_0) rfl rfl ?_
    show Steps p.tables e below (s₁.setTop (mkF m 1 #[rv a1] [(.ref a1)])) _
    exact kont
  obtain ⟨_, _, ⟨T102, L102, k102, n102⟩, -, X102, ⟨Lc102, hQ102, l102, y102, z102⟩, st102⟩ := X0.specialBack hx (y := (⟨"java/util/AbstractCollection", "<init>", "()V"⟩ : MethodName)) rfl hown (mvT hZ (hw _ (List.mem_of_getElem? (i := 85) rfl))) (mvT hZ (hw _ (List.mem_of_getElem? (i := 86) rfl))) (mvT hZ (hw _ (List.mem_of_getElem? (i := 90) rfl))) (by decide) (backOf (W := 0) (rm_ini0 l Z a0 hw [] a1 h0 n0 O0 ) hZ (hw _ (List.mem_of_getElem? (i := 90) rfl)) (hw _ (List.mem_of_getElem? (i := 89) rfl)) (by decide) (by decide)) (g := (mkF m 1 #[rv a1] [(.ref a1)])) rfl (by rw [hml]; rfl) (Steps.refl _) (a := a1) (argsL := []) (rest := []) (lenOf pd_4 rfl) rfl (by show 2 * 0 + _ ≤ _; exact Nat.le_of_eq rfl) (hb hby d14_1) (fun _ _ => ⟨rfl, e0, (by decide : 0 + 0 ≤ _), (by decide : 0 + 0 ≤ _)⟩)
  dsimp only [Pt.U, Pt.locs, Pt.cells, Pt.slots] at X102 l102 y102 z102 st102 hQ102
  subst l102 y102 z102
  obtain ⟨rfl, M102, e102⟩ := hQ102
  have N102 := Fr.app N0 M102
  have g103 : Go p e below T102 (mkF m 4 #[rv a1] []) A0 := fun t kont => g101 t (st102.trans kont)
  obtain ⟨fs, hr, hrun, hended, hW, hsame⟩ := X102.leave (v := none) (fun _ => rfl)
  refine ⟨_, _, g103 _ (X102.returnOut hx Bd.returns (hb hby d14_4) hr), hrun, hended, _, _, rfl, ?_, ⟨_, rfl⟩, hW, hsame.mono (by decide) (by decide)⟩
  show Q_ini1 Z a1 h0 n0 _ T102.heap _
  rw [e102]
  exact ⟨rfl, N102, rfl⟩
theorem d13_0 : decode jdk_46_method_1_code 0 = .ok (.aload_n 0, 1) := by decide +kernel
theorem d13_1 : decode jdk_46_method_1_code 1 = .ok (.invokespecial 1, 3) := by decide +kernel
theorem d13_4 : decode jdk_46_method_1_code 4 = .ok (.return_, 1) := by decide +kernel
theorem pn_java_util_ImmutableCollections_AbstractImmutableList : plainName "java/util/ImmutableCollections$AbstractImmutableList" = true := by first | (simp [plainName, overriddenIn]; done) | decide +kernel
theorem ef_ini2 (m : MethodId) (x0 : Addr)  : entryFrame m #[(.ref x0)] 1 = mkF m 0 #[.val (.ref x0)] [] := by first | (simp [entryFrame, mkF, argsToLocals, Value.category]; done) | rfl
def Q_ini2 (Z : State) (a1 : Addr) (h0 : Heap) (n0 : Nat) (v : Option Value) (h : Heap) (L : List Loc) : Prop := v = none ∧ Fr n0 L ∧ h = h0
set_option maxRecDepth 65536 in
set_option maxHeartbeats 40000000 in
theorem rm_ini2 (l : Launch) (Z : State) (a0 : Array Value) (hw : ∀ d ∈ tables_1, d.before a0 Z = true) (ws : List Jvm.Cond) (a1 : Addr) (h0 : Heap) (n0 : Nat) (O0 : Old Z n0 h0)  :
    MetFree l (⟨"java/util/ImmutableCollections$AbstractImmutableList", "<init>", "()V"⟩ : MethodName) (head1 (Jvm.Cond.code (⟨"java/util/ImmutableCollections$AbstractImmutableList", "<init>", "()V"⟩ : MethodName) jdk_46_method_1_code 1 none :: ws) ({ frames := 3, cells := 0, slots := 0, locals := 36 } : Room)) (fun a U => a = #[(.ref a1)] ∧ Z.Warmed39 U.vm ∧ U.heap = h0) (fun _ _ _ _ _ => True) (fun _ U o U' => ∃ v L, o = .returned v ∧ Q_ini2 Z a1 h0 n0 v U'.heap L ∧ FrameEnd U o U' L ({ frames := 3, cells := 0, slots := 0, locals := 36 } : Room).cells ({ frames := 3, cells := 0, slots := 0, locals := 36 } : Room).slots) := by
  refine MetFree.of_bodySF (plainFor_of_name pn_java_util_ImmutableCollections_AbstractImmutableList) hisR ?_
  intro p e s m args below meth c s₁ Bd hml0 hP hK
  obtain ⟨rfl, hZ, hh⟩ := hP
  have hx := Bd.exec
  have hby := Bd.bytes
  have hml : c.maxLocals = 1 := hml0
  have hown : s.vm.findClass "java/util/ImmutableCollections$AbstractImmutableList" = some m.cls := findClass_of_methodNamed Bd.named
  have hnm := (name_of_methodNamed Bd.named Bd.method).1
  have X0 : Stand p l e ({ frames := 3, cells := 0, slots := 0, locals := 36 } : Room) s m #[(.ref a1)] below meth c s₁ [] 0 0 := Stand.of_body Bd
  have e0 : s₁.heap = h0 := by rw [← hh, Bd.state]; rfl
  have N0 := Fr.nil n0
  have g0 : Go p e below s₁ (mkF m 0 #[rv a1] []) (s₁.setTop (entryFrame m #[(.ref a1)] 1)) := fun t kont => castTop (ef_ini2 m a1 ) kont
  generalize s₁.setTop (entryFrame m #[(.ref a1)] 1) = A0 at g0 ⊢
  have g101 : Go p e below s₁ (mkF m 1 #[rv a1] [(.ref a1)]) A0 := by
    intro t kont
    refine g0 t ?_
    refine XS.aloadN X0.here hx rfl (hb hby d13_0) rfl rfl ?_
    show Steps p.tables e below (s₁.setTop (mkF m 1 #[rv a1] [(.ref a1)])) _
    exact kont
  obtain ⟨_, _, ⟨T102, L102, k102, n102⟩, -, X102, ⟨Lc102, hQ102, l102, y102, z102⟩, st102⟩ := X0.specialBack hx (y := (⟨"java/util/ImmutableCollections$AbstractImmutableCollection", "<init>", "()V"⟩ : MethodName)) rfl hown (mvT hZ (hw _ (List.mem_of_getElem? (i := 79) rfl))) (mvT hZ (hw _ (List.mem_of_getElem? (i := 80) rfl))) (mvT hZ (hw _ (List.mem_of_getElem? (i := 84) rfl))) (by decide) (backOf (W := 0) (rm_ini1 l Z a0 hw [] a1 h0 n0 O0 ) hZ (hw _ (List.mem_of_getElem? (i := 84) rfl)) (hw _ (List.mem_of_getElem? (i := 83) rfl)) (by decide) (by decide)) (g := (mkF m 1 #[rv a1] [(.ref a1)])) rfl (by rw [hml]; rfl) (Steps.refl _) (a := a1) (argsL := []) (rest := []) (lenOf pd_4 rfl) rfl (by show 2 * 0 + _ ≤ _; exact Nat.le_of_eq rfl) (hb hby d13_1) (fun _ _ => ⟨rfl, e0, (by decide : 0 + 0 ≤ _), (by decide : 0 + 0 ≤ _)⟩)
  dsimp only [Pt.U, Pt.locs, Pt.cells, Pt.slots] at X102 l102 y102 z102 st102 hQ102
  subst l102 y102 z102
  obtain ⟨rfl, M102, e102⟩ := hQ102
  have N102 := Fr.app N0 M102
  have g103 : Go p e below T102 (mkF m 4 #[rv a1] []) A0 := fun t kont => g101 t (st102.trans kont)
  obtain ⟨fs, hr, hrun, hended, hW, hsame⟩ := X102.leave (v := none) (fun _ => rfl)
  refine ⟨_, _, g103 _ (X102.returnOut hx Bd.returns (hb hby d13_4) hr), hrun, hended, _, _, rfl, ?_, ⟨_, rfl⟩, hW, hsame.mono (by decide) (by decide)⟩
  show Q_ini2 Z a1 h0 n0 _ T102.heap _
  rw [e102]
  exact ⟨rfl, N102, rfl⟩
theorem d12_0 : decode jdk_44_method_2_code 0 = .ok (.aload_n 0, 1) := by decide +kernel
theorem d12_1 : decode jdk_44_method_2_code 1 = .ok (.invokespecial 1, 3) := by decide +kernel
theorem d12_4 : decode jdk_44_method_2_code 4 = .ok (.aload_n 0, 1) := by decide +kernel
theorem d12_5 : decode jdk_44_method_2_code 5 = .ok (.aload_n 1, 1) := by decide +kernel
theorem d12_6 : decode jdk_44_method_2_code 6 = .ok (.invokestatic 7, 3) := by decide +kernel
theorem pd_5 : parseMethodDescriptor "(Ljava/lang/Object;)Ljava/lang/Object;" = some ⟨[(.object "java/lang/Object")], some (.object "java/lang/Object")⟩ := by decide +kernel
theorem d12_9 : decode jdk_44_method_2_code 9 = .ok (.putfield 13, 3) := by decide +kernel
theorem d12_12 : decode jdk_44_method_2_code 12 = .ok (.aload_n 0, 1) := by decide +kernel
theorem d12_13 : decode jdk_44_method_2_code 13 = .ok (.aload_n 2, 1) := by decide +kernel
theorem d12_14 : decode jdk_44_method_2_code 14 = .ok (.invokestatic 7, 3) := by decide +kernel
theorem d12_17 : decode jdk_44_method_2_code 17 = .ok (.putfield 24, 3) := by decide +kernel
theorem d12_20 : decode jdk_44_method_2_code 20 = .ok (.return_, 1) := by decide +kernel
theorem pn_java_util_ImmutableCollections_List12 : plainName "java/util/ImmutableCollections$List12" = true := by first | (simp [plainName, overriddenIn]; done) | decide +kernel
theorem ef_l12I (m : MethodId) (x0 : Addr) (x1 : Addr) (x2 : Addr)  : entryFrame m #[(.ref x0), (.ref x1), (.ref x2)] 3 = mkF m 0 #[.val (.ref x0), .val (.ref x1), .val (.ref x2)] [] := by first | (simp [entryFrame, mkF, argsToLocals, Value.category]; done) | rfl
def Q_l12I (Z : State) (a1 : Addr) (b1 : Addr) (b2 : Addr) (h0 : Heap) (n0 : Nat) (v : Option Value) (h : Heap) (L : List Loc) : Prop := v = none ∧ Fr n0 L ∧ Keep h0 h [a1] ∧ (Exa Z h a1 "java/util/ImmutableCollections$List12") ∧ (Fld Z h a1 "java/util/ImmutableCollections$List12" "e0" "Ljava/lang/Object;" (.ref b1)) ∧ (Fld Z h a1 "java/util/ImmutableCollections$List12" "e1" "Ljava/lang/Object;" (.ref b2))
set_option maxRecDepth 65536 in
set_option maxHeartbeats 40000000 in
theorem rm_l12I (l : Launch) (Z : State) (a0 : Array Value) (hw : ∀ d ∈ tables_1, d.before a0 Z = true) (ws : List Jvm.Cond) (a1 : Addr) (b1 : Addr) (b2 : Addr) (h0 : Heap) (n0 : Nat) (O0 : Old Z n0 h0) (F0_ : Fld Z h0 a1 "java/util/ImmutableCollections$List12" "e0" "Ljava/lang/Object;" .null) (F1_ : Fld Z h0 a1 "java/util/ImmutableCollections$List12" "e1" "Ljava/lang/Object;" .null) (E2_ : Exa Z h0 a1 "java/util/ImmutableCollections$List12") (G3_ : n0 ≤ a1) :
    MetFree l (⟨"java/util/ImmutableCollections$List12", "<init>", "(Ljava/lang/Object;Ljava/lang/Object;)V"⟩ : MethodName) (head1 (Jvm.Cond.code (⟨"java/util/ImmutableCollections$List12", "<init>", "(Ljava/lang/Object;Ljava/lang/Object;)V"⟩ : MethodName) jdk_44_method_2_code 3 none :: ws) ({ frames := 4, cells := 0, slots := 0, locals := 48 } : Room)) (fun a U => a = #[(.ref a1), (.ref b1), (.ref b2)] ∧ Z.Warmed39 U.vm ∧ U.heap = h0) (fun _ _ _ _ _ => True) (fun _ U o U' => ∃ v L, o = .returned v ∧ Q_l12I Z a1 b1 b2 h0 n0 v U'.heap L ∧ FrameEnd U o U' L ({ frames := 4, cells := 0, slots := 0, locals := 48 } : Room).cells ({ frames := 4, cells := 0, slots := 0, locals := 48 } : Room).slots) := by
  refine MetFree.of_bodySF (plainFor_of_name pn_java_util_ImmutableCollections_List12) hisR ?_
  intro p e s m args below meth c s₁ Bd hml0 hP hK
  obtain ⟨rfl, hZ, hh⟩ := hP
  have hx := Bd.exec
  have hby := Bd.bytes
  have hml : c.maxLocals = 3 := hml0
  have hown : s.vm.findClass "java/util/ImmutableCollections$List12" = some m.cls := findClass_of_methodNamed Bd.named
  have hnm := (name_of_methodNamed Bd.named Bd.method).1
  have X0 : Stand p l e ({ frames := 4, cells := 0, slots := 0, locals := 48 } : Room) s m #[(.ref a1), (.ref b1), (.ref b2)] below meth c s₁ [] 0 0 := Stand.of_body Bd
  have e0 : s₁.heap = h0 := by rw [← hh, Bd.state]; rfl
  have N0 := Fr.nil n0
  have g0 : Go p e below s₁ (mkF m 0 #[rv a1, rv b1, rv b2] []) (s₁.setTop (entryFrame m #[(.ref a1), (.ref b1), (.ref b2)] 3)) := fun t kont => castTop (ef_l12I m a1 b1 b2 ) kont
  generalize s₁.setTop (entryFrame m #[(.ref a1), (.ref b1), (.ref b2)] 3) = A0 at g0 ⊢
  have g101 : Go p e below s₁ (mkF m 1 #[rv a1, rv b1, rv b2] [(.ref a1)]) A0 := by
    intro t kont
    refine g0 t ?_
    refine XS.aloadN X0.here hx rfl (hb hby d12_0) rfl rfl ?_
    show Steps p.tables e below (s₁.setTop (mkF m 1 #[rv a1, rv b1, rv b2] [(.ref a1)])) _
    exact kont
  obtain ⟨_, _, ⟨T102, L102, k102, n102⟩, -, X102, ⟨Lc102, hQ102, l102, y102, z102⟩, st102⟩ := X0.specialBack hx (y := (⟨"java/util/ImmutableCollections$AbstractImmutableList", "<init>", "()V"⟩ : MethodName)) rfl hown (mvT hZ (hw _ (List.mem_of_getElem? (i := 73) rfl))) (mvT hZ (hw _ (List.mem_of_getElem? (i := 74) rfl))) (mvT hZ (hw _ (List.mem_of_getElem? (i := 78) rfl))) (by decide) (backOf (W := 0) (rm_ini2 l Z a0 hw [] a1 h0 n0 O0 ) hZ (hw _ (List.mem_of_getElem? (i := 78) rfl)) (hw _ (List.mem_of_getElem? (i := 77) rfl)) (by decide) (by decide)) (g := (mkF m 1 #[rv a1, rv b1, rv b2] [(.ref a1)])) rfl (by rw [hml]; rfl) (Steps.refl _) (a := a1) (argsL := []) (rest := []) (lenOf pd_4 rfl) rfl (by show 2 * 0 + _ ≤ _; exact Nat.le_of_eq rfl) (hb hby d12_1) (fun _ _ => ⟨rfl, e0, (by decide : 0 + 0 ≤ _), (by decide : 0 + 0 ≤ _)⟩)
  dsimp only [Pt.U, Pt.locs, Pt.cells, Pt.slots] at X102 l102 y102 z102 st102 hQ102
  subst l102 y102 z102
  obtain ⟨rfl, M102, e102⟩ := hQ102
  have N102 := Fr.app N0 M102
  have g103 : Go p e below T102 (mkF m 4 #[rv a1, rv b1, rv b2] []) A0 := fun t kont => g101 t (st102.trans kont)
  have g104 : Go p e below T102 (mkF m 6 #[rv a1, rv b1, rv b2] [(.ref b1), (.ref a1)]) A0 := by
    intro t kont
    refine g103 t ?_
    refine XS.aloadN X102.here hx rfl (hb hby d12_4) rfl rfl ?_
    show Steps p.tables e below (T102.setTop (mkF m 5 #[rv a1, rv b1, rv b2] [(.ref a1)])) _
    refine XS.aloadN X102.here hx rfl (hb hby d12_5) rfl rfl ?_
    show Steps p.tables e below (T102.setTop (mkF m 6 #[rv a1, rv b1, rv b2] [(.ref b1), (.ref a1)])) _
    exact kont
  obtain ⟨_, _, ⟨T105, L105, k105, n105⟩, -, X105, ⟨Lc105, hQ105, l105, y105, z105⟩, st105⟩ := Jvm.LawKit.callS X102 hx (y := (⟨"java/util/Objects", "requireNonNull", "(Ljava/lang/Object;)Ljava/lang/Object;"⟩ : MethodName)) hown (mvT hZ (hw _ (List.mem_of_getElem? (i := 92) rfl))) (mvT hZ (hw _ (List.mem_of_getElem? (i := 93) rfl))) (mvT hZ (hw _ (List.mem_of_getElem? (i := 94) rfl))) (mvT hZ (hw _ (List.mem_of_getElem? (i := 95) rfl))) (by decide) (backOf (W := 1) (rm_rnn l Z a0 hw [] b1 h0 n0 O0 ) hZ (hw _ (List.mem_of_getElem? (i := 95) rfl)) (hw _ (List.mem_of_getElem? (i := 94) rfl)) (by decide) (by decide)) (g := (mkF m 6 #[rv a1, rv b1, rv b2] [(.ref b1), (.ref a1)])) rfl (by rw [hml]; rfl) (argsL := [(.ref b1)]) (rest := [(.ref a1)]) (lenOf pd_5 rfl) rfl (by show 2 * 0 + _ ≤ _; exact Nat.le_of_eq rfl) (hb hby d12_6) (fun _ _ => ⟨rfl, e102, (by decide : 0 + 0 ≤ _), (by decide : 0 + 0 ≤ _)⟩)
  dsimp only [Pt.U, Pt.locs, Pt.cells, Pt.slots] at X105 l105 y105 z105 st105 hQ105
  subst l105 y105 z105
  obtain ⟨rfl, M105, e105⟩ := hQ105
  have N105 := Fr.app N102 M105
  have g106 : Go p e below T105 (mkF m 9 #[rv a1, rv b1, rv b2] [(.ref b1), (.ref a1)]) A0 := fun t kont => g104 t (st105 t kont)
  obtain ⟨T107, h107, X107, e107, W107, st107⟩ := putF X105 hx hZ hown (host := "") (Or.inl (hw _ (List.mem_of_getElem? (i := 96) rfl))) Via.refl e105 F0_ E2_ (Or.inr ⟨(hw _ (List.mem_of_getElem? (i := 97) rfl)), rfl, hnm⟩) (hw _ (List.mem_of_getElem? (i := 67) rfl)) (ty := (.object "java/lang/Object")) (by decide) rfl rfl (g := (mkF m 9 #[rv a1, rv b1, rv b2] [(.ref b1), (.ref a1)])) rfl rfl (hb hby d12_9)
  have O108 := O0.wr W107 G3_
  have y109 : Fld Z h107 a1 "java/util/ImmutableCollections$List12" "e0" "Ljava/lang/Object;" (.ref b1) := F0_.same W107
  have N107 := Fr.snoc X107 N105 G3_
  have g110 : Go p e below T107 (mkF m 12 #[rv a1, rv b1, rv b2] []) A0 := fun t kont => g106 t (st107 t kont)
  have g111 : Go p e below T107 (mkF m 14 #[rv a1, rv b1, rv b2] [(.ref b2), (.ref a1)]) A0 := by
    intro t kont
    refine g110 t ?_
    refine XS.aloadN X107.here hx rfl (hb hby d12_12) rfl rfl ?_
    show Steps p.tables e below (T107.setTop (mkF m 13 #[rv a1, rv b1, rv b2] [(.ref a1)])) _
    refine XS.aloadN X107.here hx rfl (hb hby d12_13) rfl rfl ?_
    show Steps p.tables e below (T107.setTop (mkF m 14 #[rv a1, rv b1, rv b2] [(.ref b2), (.ref a1)])) _
    exact kont
  obtain ⟨_, _, ⟨T112, L112, k112, n112⟩, -, X112, ⟨Lc112, hQ112, l112, y112, z112⟩, st112⟩ := Jvm.LawKit.callS X107 hx (y := (⟨"java/util/Objects", "requireNonNull", "(Ljava/lang/Object;)Ljava/lang/Object;"⟩ : MethodName)) hown (mvT hZ (hw _ (List.mem_of_getElem? (i := 92) rfl))) (mvT hZ (hw _ (List.mem_of_getElem? (i := 93) rfl))) (mvT hZ (hw _ (List.mem_of_getElem? (i := 94) rfl))) (mvT hZ (hw _ (List.mem_of_getElem? (i := 95) rfl))) (by decide) (backOf (W := 1) (rm_rnn l Z a0 hw [] b2 h107 n0 O108 ) hZ (hw _ (List.mem_of_getElem? (i := 95) rfl)) (hw _ (List.mem_of_getElem? (i := 94) rfl)) (by decide) (by decide)) (g := (mkF m 14 #[rv a1, rv b1, rv b2] [(.ref b2), (.ref a1)])) rfl (by rw [hml]; rfl) (argsL := [(.ref b2)]) (rest := [(.ref a1)]) (lenOf pd_5 rfl) rfl (by show 2 * 0 + _ ≤ _; exact Nat.le_of_eq rfl) (hb hby d12_14) (fun _ _ => ⟨rfl, e107, (by decide : 0 + 0 ≤ _), (by decide : 0 + 0 ≤ _)⟩)
  dsimp only [Pt.U, Pt.locs, Pt.cells, Pt.slots] at X112 l112 y112 z112 st112 hQ112
  subst l112 y112 z112
  obtain ⟨rfl, M112, e112⟩ := hQ112
  have N112 := Fr.app N107 M112
  have g113 : Go p e below T112 (mkF m 17 #[rv a1, rv b1, rv b2] [(.ref b2), (.ref a1)]) A0 := fun t kont => g111 t (st112 t kont)
  have y114 : Exa Z h107 a1 "java/util/ImmutableCollections$List12" := (E2_.wr W107)
  have y115 : Fld Z h107 a1 "java/util/ImmutableCollections$List12" "e1" "Ljava/lang/Object;" .null := (F1_.other W107 (Or.inr (slot_ne (Or.inr (hw _ (List.mem_of_getElem? (i := 99) rfl))) (Or.inr (hw _ (List.mem_of_getElem? (i := 97) rfl))) (by decide) (t := (.object "java/lang/Object")) (t' := (.object "java/lang/Object")) (by decide) (by decide))))
  obtain ⟨T116, h116, X116, e116, W116, st116⟩ := putF X112 hx hZ hown (host := "") (Or.inl (hw _ (List.mem_of_getElem? (i := 98) rfl))) Via.refl e112 y115 y114 (Or.inr ⟨(hw _ (List.mem_of_getElem? (i := 99) rfl)), rfl, hnm⟩) (hw _ (List.mem_of_getElem? (i := 67) rfl)) (ty := (.object "java/lang/Object")) (by decide) rfl rfl (g := (mkF m 17 #[rv a1, rv b1, rv b2] [(.ref b2), (.ref a1)])) rfl rfl (hb hby d12_17)
  have O117 := O108.wr W116 G3_
  have y118 : Fld Z h116 a1 "java/util/ImmutableCollections$List12" "e1" "Ljava/lang/Object;" (.ref b2) := y115.same W116
  have N116 := Fr.snoc X116 N112 G3_
  have g119 : Go p e below T116 (mkF m 20 #[rv a1, rv b1, rv b2] []) A0 := fun t kont => g113 t (st116 t kont)
  have K120 : Keep h0 h116 [a1] := (((Keep.refl h0 [a1]).wr W107 (Or.inl (List.mem_of_getElem? (i := 0) rfl))).wr W116 (Or.inl (List.mem_of_getElem? (i := 0) rfl)))
  have y121 : Exa Z h116 a1 "java/util/ImmutableCollections$List12" := (y114.wr W116)
  have y122 : Fld Z h116 a1 "java/util/ImmutableCollections$List12" "e0" "Ljava/lang/Object;" (.ref b1) := (y109.other W116 (Or.inr (slot_ne (Or.inr (hw _ (List.mem_of_getElem? (i := 97) rfl))) (Or.inr (hw _ (List.mem_of_getElem? (i := 99) rfl))) (by decide) (t := (.object "java/lang/Object")) (t' := (.object "java/lang/Object")) (by decide) (by decide))))
  obtain ⟨fs, hr, hrun, hended, hW, hsame⟩ := X116.leave (v := none) (fun _ => rfl)
  refine ⟨_, _, g119 _ (X116.returnOut hx Bd.returns (hb hby d12_20) hr), hrun, hended, _, _, rfl, ?_, ⟨_, rfl⟩, hW, hsame.mono (by decide) (by decide)⟩
  show Q_l12I Z a1 b1 b2 h0 n0 _ T116.heap _
  rw [e116]
  exact ⟨rfl, N116, K120, y121, y122, y118⟩
theorem d11_0 : decode jdk_40_method_38_code 0 = .ok (.new 96, 3) := by decide +kernel
theorem d11_3 : decode jdk_40_method_38_code 3 = .ok (.dup, 1) := by decide +kernel
theorem d11_4 : decode jdk_40_method_38_code 4 = .ok (.aload_n 0, 1) := by decide +kernel
theorem d11_5 : decode jdk_40_method_38_code 5 = .ok (.aload_n 1, 1) := by decide +kernel
theorem d11_6 : decode jdk_40_method_38_code 6 = .ok (.invokespecial 100, 3) := by decide +kernel
theorem pd_6 : parseMethodDescriptor "(Ljava/lang/Object;Ljava/lang/Object;)V" = some ⟨[(.object "java/lang/Object"), (.object "java/lang/Object")], none⟩ := by decide +kernel
theorem d11_9 : decode jdk_40_method_38_code 9 = .ok (.areturn, 1) := by decide +kernel
theorem pn_java_util_List : plainName "java/util/List" = true := by first | (simp [plainName, overriddenIn]; done) | decide +kernel
theorem ef_lof (m : MethodId) (x0 : Addr) (x1 : Addr)  : entryFrame m #[(.ref x0), (.ref x1)] 2 = mkF m 0 #[.val (.ref x0), .val (.ref x1)] [] := by first | (simp [entryFrame, mkF, argsToLocals, Value.category]; done) | rfl
def Q_lof (Z : State) (b1 : Addr) (b2 : Addr) (h0 : Heap) (n0 : Nat) (v : Option Value) (h : Heap) (L : List Loc) : Prop := ∃ (r : Addr), v = some (.ref r) ∧ Fr n0 L ∧ Keep h0 h [] ∧ h0.size ≤ r ∧ (Exa Z h r "java/util/ImmutableCollections$List12") ∧ (Fld Z h r "java/util/ImmutableCollections$List12" "e0" "Ljava/lang/Object;" (.ref b1)) ∧ (Fld Z h r "java/util/ImmutableCollections$List12" "e1" "Ljava/lang/Object;" (.ref b2))
set_option maxRecDepth 65536 in
set_option maxHeartbeats 40000000 in
theorem rm_lof (l : Launch) (Z : State) (a0 : Array Value) (hw : ∀ d ∈ tables_1, d.before a0 Z = true) (ws : List Jvm.Cond) (b1 : Addr) (b2 : Addr) (h0 : Heap) (n0 : Nat) (O0 : Old Z n0 h0)  :
    MetFree l (⟨"java/util/List", "of", "(Ljava/lang/Object;Ljava/lang/Object;)Ljava/util/List;"⟩ : MethodName) (head1 (Jvm.Cond.code (⟨"java/util/List", "of", "(Ljava/lang/Object;Ljava/lang/Object;)Ljava/util/List;"⟩ : MethodName) jdk_40_method_38_code 2 (some (.object "java/util/List")) :: ws) ({ frames := 5, cells := 1, slots := 2, locals := 63 } : Room)) (fun a U => a = #[(.ref b1), (.ref b2)] ∧ Z.Warmed39 U.vm ∧ U.heap = h0) (fun _ _ _ _ _ => True) (fun _ U o U' => ∃ v L, o = .returned v ∧ Q_lof Z b1 b2 h0 n0 v U'.heap L ∧ FrameEnd U o U' L ({ frames := 5, cells := 1, slots := 2, locals := 63 } : Room).cells ({ frames := 5, cells := 1, slots := 2, locals := 63 } : Room).slots) := by
  refine MetFree.of_bodySF (plainFor_of_name pn_java_util_List) hisR ?_
  intro p e s m args below meth c s₁ Bd hml0 hP hK
  obtain ⟨rfl, hZ, hh⟩ := hP
  have hx := Bd.exec
  have hby := Bd.bytes
  have hml : c.maxLocals = 2 := hml0
  have hown : s.vm.findClass "java/util/List" = some m.cls := findClass_of_methodNamed Bd.named
  have hnm := (name_of_methodNamed Bd.named Bd.method).1
  have X0 : Stand p l e ({ frames := 5, cells := 1, slots := 2, locals := 63 } : Room) s m #[(.ref b1), (.ref b2)] below meth c s₁ [] 0 0 := Stand.of_body Bd
  have e0 : s₁.heap = h0 := by rw [← hh, Bd.state]; rfl
  have N0 := Fr.nil n0
  have g0 : Go p e below s₁ (mkF m 0 #[rv b1, rv b2] []) (s₁.setTop (entryFrame m #[(.ref b1), (.ref b2)] 2)) := fun t kont => castTop (ef_lof m b1 b2 ) kont
  generalize s₁.setTop (entryFrame m #[(.ref b1), (.ref b2)] 2) = A0 at g0 ⊢
  obtain ⟨T101, h101, X101, e101, E101, A101, D101, -, st101⟩ := newO X0 hx hZ hown (hw _ (List.mem_of_getElem? (i := 66) rfl)) (hw _ (List.mem_of_getElem? (i := 67) rfl)) (hw _ (List.mem_of_getElem? (i := 68) rfl)) e0 (g := (mkF m 0 #[rv b1, rv b2] [])) rfl (hb hby d11_0) (by decide) (by decide)
  obtain ⟨b101, gb101⟩ : ∃ z, z = h0.size := ⟨_, rfl⟩
  rw [← gb101] at A101 D101 st101
  have O102 := O0.ext E101
  have y103 : Fld Z h101 b101 "java/util/ImmutableCollections$List12" "e0" "Ljava/lang/Object;" .null := D101 (Or.inr (hw _ (List.mem_of_getElem? (i := 97) rfl))) (ty := (.object "java/lang/Object")) (by decide)
  have y104 : Fld Z h101 b101 "java/util/ImmutableCollections$List12" "e1" "Ljava/lang/Object;" .null := D101 (Or.inr (hw _ (List.mem_of_getElem? (i := 99) rfl))) (ty := (.object "java/lang/Object")) (by decide)
  have g105 : Go p e below T101 (mkF m 3 #[rv b1, rv b2] [(.ref b101)]) A0 := fun t kont => g0 t (st101 t kont)
  have g106 : Go p e below T101 (mkF m 6 #[rv b1, rv b2] [(.ref b2), (.ref b1), (.ref b101), (.ref b101)]) A0 := by
    intro t kont
    refine g105 t ?_
    refine XS.dup X101.here hx rfl (hb hby d11_3) rfl rfl ?_
    show Steps p.tables e below (T101.setTop (mkF m 4 #[rv b1, rv b2] [(.ref b101), (.ref b101)])) _
    refine XS.aloadN X101.here hx rfl (hb hby d11_4) rfl rfl ?_
    show Steps p.tables e below (T101.setTop (mkF m 5 #[rv b1, rv b2] [(.ref b1), (.ref b101), (.ref b101)])) _
    refine XS.aloadN X101.here hx rfl (hb hby d11_5) rfl rfl ?_
    show Steps p.tables e below (T101.setTop (mkF m 6 #[rv b1, rv b2] [(.ref b2), (.ref b1), (.ref b101), (.ref b101)])) _
    exact kont
  have ge108 : n0 ≤ b101 := Nat.le_trans (own_old_le O0) (Nat.le_of_eq gb101.symm)
  obtain ⟨_, _, ⟨T107, L107, k107, n107⟩, -, X107, ⟨Lc107, hQ107, l107, y107, z107⟩, st107⟩ := X101.specialBack hx (y := (⟨"java/util/ImmutableCollections$List12", "<init>", "(Ljava/lang/Object;Ljava/lang/Object;)V"⟩ : MethodName)) rfl hown (mvT hZ (hw _ (List.mem_of_getElem? (i := 69) rfl))) (mvT hZ (hw _ (List.mem_of_getElem? (i := 70) rfl))) (mvT hZ (hw _ (List.mem_of_getElem? (i := 72) rfl))) (by decide) (backOf (W := 1) (rm_l12I l Z a0 hw [] b101 b1 b2 h101 n0 O102 y103 y104 A101 ge108) hZ (hw _ (List.mem_of_getElem? (i := 72) rfl)) (hw _ (List.mem_of_getElem? (i := 68) rfl)) (by decide) (by decide)) (g := (mkF m 6 #[rv b1, rv b2] [(.ref b2), (.ref b1), (.ref b101), (.ref b101)])) rfl (by rw [hml]; rfl) (Steps.refl _) (a := b101) (argsL := [(.ref b1), (.ref b2)]) (rest := [(.ref b101)]) (lenOf pd_6 rfl) rfl (by show 2 * 0 + _ ≤ _; exact Nat.le_of_eq rfl) (hb hby d11_6) (fun _ _ => ⟨rfl, e101, (by decide : 1 + 0 ≤ _), (by decide : 2 + 0 ≤ _)⟩)
  dsimp only [Pt.U, Pt.locs, Pt.cells, Pt.slots] at X107 l107 y107 z107 st107 hQ107
  subst l107 y107 z107
  obtain ⟨rfl, M107, K107, y109, y110, y111⟩ := hQ107
  have N107 := Fr.app N0 M107
  have O112 := O102.keep K107 (allS ge108 all0)
  have g113 : Go p e below T107 (mkF m 9 #[rv b1, rv b2] [(.ref b101)]) A0 := fun t kont => g106 t (st107.trans kont)
  have K114 : Keep h0 T107.heap [] := (((Keep.refl h0 []).ext E101).trans K107 (allS (P := fun x => x ∈ [] ∨ h0.size ≤ x) (Or.inr (Nat.le_of_eq gb101.symm)) all0))
  obtain ⟨fs, hr, hrun, hended, hW, hsame⟩ := X107.leave (v := some (.ref b101)) (fun h => by rw [Bd.returns] at h; cases h)
  refine ⟨_, _, g113 _ (retOut X107 hx Bd.returns rfl (Or.inr (Or.inr (Or.inr (Or.inr ⟨rfl, rfl, rfl⟩)))) (hb hby d11_9) hr), hrun, hended, _, _, rfl, ?_, ⟨_, rfl⟩, hW, hsame.mono (by decide) (by decide)⟩
  show Q_lof Z b1 b2 h0 n0 _ T107.heap _
  exact ⟨b101, rfl, N107, K114, (Nat.le_of_eq gb101.symm), y109, y110, y111⟩
theorem d10_0 : decode prog_15_method_2_code 0 = .ok (.aload_n 0, 1) := by decide +kernel
theorem d10_1 : decode prog_15_method_2_code 1 = .ok (.getfield 7, 3) := by decide +kernel
theorem d10_4 : decode prog_15_method_2_code 4 = .ok (.aload_n 0, 1) := by decide +kernel
theorem d10_5 : decode prog_15_method_2_code 5 = .ok (.getfield 13, 3) := by decide +kernel
theorem d10_8 : decode prog_15_method_2_code 8 = .ok (.invokestatic 16, 3) := by decide +kernel
theorem pd_7 : parseMethodDescriptor "(Ljava/lang/Object;Ljava/lang/Object;)Ljava/util/List;" = some ⟨[(.object "java/lang/Object"), (.object "java/lang/Object")], some (.object "java/util/List")⟩ := by decide +kernel
theorem d10_11 : decode prog_15_method_2_code 11 = .ok (.areturn, 1) := by decide +kernel
theorem ef_inds (m : MethodId) (x0 : Addr)  : entryFrame m #[(.ref x0)] 1 = mkF m 0 #[.val (.ref x0)] [] := by first | (simp [entryFrame, mkF, argsToLocals, Value.category]; done) | rfl
def Q_inds (Z : State) (a1 : Addr) (b1 : Addr) (b2 : Addr) (h0 : Heap) (n0 : Nat) (v : Option Value) (h : Heap) (L : List Loc) : Prop := ∃ (r : Addr), v = some (.ref r) ∧ Fr n0 L ∧ Keep h0 h [] ∧ h0.size ≤ r ∧ (Exa Z h r "java/util/ImmutableCollections$List12") ∧ (Fld Z h r "java/util/ImmutableCollections$List12" "e0" "Ljava/lang/Object;" (.ref b1)) ∧ (Fld Z h r "java/util/ImmutableCollections$List12" "e1" "Ljava/lang/Object;" (.ref b2))
set_option maxRecDepth 65536 in
set_option maxHeartbeats 40000000 in
theorem rm_inds (l : Launch) (Z : State) (a0 : Array Value) (hw : ∀ d ∈ tables_1, d.before a0 Z = true) (ws : List Jvm.Cond) (a1 : Addr) (b1 : Addr) (b2 : Addr) (h0 : Heap) (n0 : Nat) (O0 : Old Z n0 h0) (F0_ : Fld Z h0 a1 "com/example/subsume/subsume/engine/IndividualInequality" "individual" "Lcom/example/subsume/subsume/engine/Individual;" (.ref b1)) (F1_ : Fld Z h0 a1 "com/example/subsume/subsume/engine/IndividualInequality" "other" "Lcom/example/subsume/subsume/engine/Individual;" (.ref b2)) :
    MetFree l (⟨"com/example/subsume/subsume/engine/IndividualInequality", "individuals", "()Ljava/util/List;"⟩ : MethodName) (head1 (Jvm.Cond.code (⟨"com/example/subsume/subsume/engine/IndividualInequality", "individuals", "()Ljava/util/List;"⟩ : MethodName) prog_15_method_2_code 1 (some (.object "java/util/List")) :: ws) ({ frames := 6, cells := 1, slots := 2, locals := 76 } : Room)) (fun a U => a = #[(.ref a1)] ∧ Z.Warmed39 U.vm ∧ U.heap = h0) (fun _ _ _ _ _ => True) (fun _ U o U' => ∃ v L, o = .returned v ∧ Q_inds Z a1 b1 b2 h0 n0 v U'.heap L ∧ FrameEnd U o U' L ({ frames := 6, cells := 1, slots := 2, locals := 76 } : Room).cells ({ frames := 6, cells := 1, slots := 2, locals := 76 } : Room).slots) := by
  refine MetFree.of_bodySF (plainFor_of_name pn_com_example_subsume_subsume_engine_IndividualInequality) hisR ?_
  intro p e s m args below meth c s₁ Bd hml0 hP hK
  obtain ⟨rfl, hZ, hh⟩ := hP
  have hx := Bd.exec
  have hby := Bd.bytes
  have hml : c.maxLocals = 1 := hml0
  have hown : s.vm.findClass "com/example/subsume/subsume/engine/IndividualInequality" = some m.cls := findClass_of_methodNamed Bd.named
  have hnm := (name_of_methodNamed Bd.named Bd.method).1
  have X0 : Stand p l e ({ frames := 6, cells := 1, slots := 2, locals := 76 } : Room) s m #[(.ref a1)] below meth c s₁ [] 0 0 := Stand.of_body Bd
  have e0 : s₁.heap = h0 := by rw [← hh, Bd.state]; rfl
  have N0 := Fr.nil n0
  have g0 : Go p e below s₁ (mkF m 0 #[rv a1] []) (s₁.setTop (entryFrame m #[(.ref a1)] 1)) := fun t kont => castTop (ef_inds m a1 ) kont
  generalize s₁.setTop (entryFrame m #[(.ref a1)] 1) = A0 at g0 ⊢
  have g101 : Go p e below s₁ (mkF m 1 #[rv a1] [(.ref a1)]) A0 := by
    intro t kont
    refine g0 t ?_
    refine XS.aloadN X0.here hx rfl (hb hby d10_0) rfl rfl ?_
    show Steps p.tables e below (s₁.setTop (mkF m 1 #[rv a1] [(.ref a1)])) _
    exact kont
  obtain ⟨T102, X102, e102, st102⟩ := getF X0 hx hZ hown (host := "") (Or.inl (hw _ (List.mem_of_getElem? (i := 53) rfl))) Via.refl e0 F0_ (g := (mkF m 1 #[rv a1] [(.ref a1)])) rfl rfl (hb hby d10_1)
  have g103 : Go p e below T102 (mkF m 4 #[rv a1] [(.ref b1)]) A0 := fun t kont => g101 t (st102 t kont)
  have g104 : Go p e below T102 (mkF m 5 #[rv a1] [(.ref a1), (.ref b1)]) A0 := by
    intro t kont
    refine g103 t ?_
    refine XS.aloadN X102.here hx rfl (hb hby d10_4) rfl rfl ?_
    show Steps p.tables e below (T102.setTop (mkF m 5 #[rv a1] [(.ref a1), (.ref b1)])) _
    exact kont
  obtain ⟨T105, X105, e105, st105⟩ := getF X102 hx hZ hown (host := "") (Or.inl (hw _ (List.mem_of_getElem? (i := 55) rfl))) Via.refl e102 F1_ (g := (mkF m 5 #[rv a1] [(.ref a1), (.ref b1)])) rfl rfl (hb hby d10_5)
  have g106 : Go p e below T105 (mkF m 8 #[rv a1] [(.ref b2), (.ref b1)]) A0 := fun t kont => g104 t (st105 t kont)
  obtain ⟨_, _, ⟨T107, L107, k107, n107⟩, -, X107, ⟨Lc107, hQ107, l107, y107, z107⟩, st107⟩ := Jvm.LawKit.callS X105 hx (y := (⟨"java/util/List", "of", "(Ljava/lang/Object;Ljava/lang/Object;)Ljava/util/List;"⟩ : MethodName)) hown (mvT hZ (hw _ (List.mem_of_getElem? (i := 62) rfl))) (mvT hZ (hw _ (List.mem_of_getElem? (i := 63) rfl))) (mvT hZ (hw _ (List.mem_of_getElem? (i := 64) rfl))) (mvT hZ (hw _ (List.mem_of_getElem? (i := 65) rfl))) (by decide) (backOf (W := 0) (rm_lof l Z a0 hw [] b1 b2 h0 n0 O0 ) hZ (hw _ (List.mem_of_getElem? (i := 65) rfl)) (hw _ (List.mem_of_getElem? (i := 64) rfl)) (by decide) (by decide)) (g := (mkF m 8 #[rv a1] [(.ref b2), (.ref b1)])) rfl (by rw [hml]; rfl) (argsL := [(.ref b1), (.ref b2)]) (rest := []) (lenOf pd_7 rfl) rfl (by show 2 * 0 + _ ≤ _; exact Nat.le_of_eq rfl) (hb hby d10_8) (fun _ _ => ⟨rfl, e105, (by decide : 0 + 1 ≤ _), (by decide : 0 + 2 ≤ _)⟩)
  dsimp only [Pt.U, Pt.locs, Pt.cells, Pt.slots] at X107 l107 y107 z107 st107 hQ107
  subst l107 y107 z107
  obtain ⟨r108, rfl, M107, K107, y109, y110, y111, y112⟩ := hQ107
  have N107 := Fr.app N0 M107
  have O113 := O0.keep K107 all0
  have g114 : Go p e below T107 (mkF m 11 #[rv a1] [(.ref r108)]) A0 := fun t kont => g106 t (st107 t kont)
  have K115 : Keep h0 T107.heap [] := ((Keep.refl h0 []).trans K107 (fun x hx => nomatch hx))
  obtain ⟨fs, hr, hrun, hended, hW, hsame⟩ := X107.leave (v := some (.ref r108)) (fun h => by rw [Bd.returns] at h; cases h)
  refine ⟨_, _, g114 _ (retOut X107 hx Bd.returns rfl (Or.inr (Or.inr (Or.inr (Or.inr ⟨rfl, rfl, rfl⟩)))) (hb hby d10_11) hr), hrun, hended, _, _, rfl, ?_, ⟨_, rfl⟩, hW, hsame.mono (by decide) (by decide)⟩
  show Q_inds Z a1 b1 b2 h0 n0 _ T107.heap _
  exact ⟨r108, rfl, N107, K115, y109, y110, y111, y112⟩
theorem d17_0 : decode jdk_44_method_3_code 0 = .ok (.aload_n 0, 1) := by decide +kernel
theorem d17_1 : decode jdk_44_method_3_code 1 = .ok (.getfield 24, 3) := by decide +kernel
theorem d17_4 : decode jdk_44_method_3_code 4 = .ok (.getstatic 19, 3) := by decide +kernel
theorem d17_7 : decode jdk_44_method_3_code 7 = .ok (.if_acmp .eq 7, 3) := by decide +kernel
theorem d17_10 : decode jdk_44_method_3_code 10 = .ok (.iconst 2, 1) := by decide +kernel
theorem d17_11 : decode jdk_44_method_3_code 11 = .ok (.goto 4, 3) := by decide +kernel
theorem d17_15 : decode jdk_44_method_3_code 15 = .ok (.ireturn, 1) := by decide +kernel
theorem ef_siz (m : MethodId) (x0 : Addr)  : entryFrame m #[(.ref x0)] 1 = mkF m 0 #[.val (.ref x0)] [] := by first | (simp [entryFrame, mkF, argsToLocals, Value.category]; done) | rfl
def Q_siz (Z : State) (a1 : Addr) (b2 : Addr) (w_EMPTY : Addr) (h0 : Heap) (n0 : Nat) (v : Option Value) (h : Heap) (L : List Loc) : Prop := v = some (.int (2 : Int32)) ∧ Fr n0 L ∧ h = h0
set_option maxRecDepth 65536 in
set_option maxHeartbeats 40000000 in
theorem rm_siz (l : Launch) (Z : State) (a0 : Array Value) (hw : ∀ d ∈ tables_1, d.before a0 Z = true) (ws : List Jvm.Cond) (a1 : Addr) (b2 : Addr) (w_EMPTY : Addr) (h0 : Heap) (n0 : Nat) (O0 : Old Z n0 h0) (F0_ : Fld Z h0 a1 "java/util/ImmutableCollections$List12" "e1" "Ljava/lang/Object;" (.ref b2)) (S1_ : Sta Z Z.heap "java/util/ImmutableCollections" "EMPTY" "Ljava/lang/Object;" (.ref w_EMPTY)) (NE2_ : ¬ (b2 = w_EMPTY)) :
    MetFree l (⟨"java/util/ImmutableCollections$List12", "size", "()I"⟩ : MethodName) (head1 (Jvm.Cond.code (⟨"java/util/ImmutableCollections$List12", "size", "()I"⟩ : MethodName) jdk_44_method_3_code 1 (some .int) :: ws) ({ frames := 0, cells := 0, slots := 0, locals := 0 } : Room)) (fun a U => a = #[(.ref a1)] ∧ Z.Warmed39 U.vm ∧ U.heap = h0) (fun _ _ _ _ _ => True) (fun _ U o U' => ∃ v L, o = .returned v ∧ Q_siz Z a1 b2 w_EMPTY h0 n0 v U'.heap L ∧ FrameEnd U o U' L ({ frames := 0, cells := 0, slots := 0, locals := 0 } : Room).cells ({ frames := 0, cells := 0, slots := 0, locals := 0 } : Room).slots) := by
  refine MetFree.of_bodySF (plainFor_of_name pn_java_util_ImmutableCollections_List12) hisR ?_
  intro p e s m args below meth c s₁ Bd hml0 hP hK
  obtain ⟨rfl, hZ, hh⟩ := hP
  have hx := Bd.exec
  have hby := Bd.bytes
  have hml : c.maxLocals = 1 := hml0
  have hown : s.vm.findClass "java/util/ImmutableCollections$List12" = some m.cls := findClass_of_methodNamed Bd.named
  have hnm := (name_of_methodNamed Bd.named Bd.method).1
  have X0 : Stand p l e ({ frames := 0, cells := 0, slots := 0, locals := 0 } : Room) s m #[(.ref a1)] below meth c s₁ [] 0 0 := Stand.of_body Bd
  have e0 : s₁.heap = h0 := by rw [← hh, Bd.state]; rfl
  have N0 := Fr.nil n0
  have g0 : Go p e below s₁ (mkF m 0 #[rv a1] []) (s₁.setTop (entryFrame m #[(.ref a1)] 1)) := fun t kont => castTop (ef_siz m a1 ) kont
  generalize s₁.setTop (entryFrame m #[(.ref a1)] 1) = A0 at g0 ⊢
  have g101 : Go p e below s₁ (mkF m 1 #[rv a1] [(.ref a1)]) A0 := by
    intro t kont
    refine g0 t ?_
    refine XS.aloadN X0.here hx rfl (hb hby d17_0) rfl rfl ?_
    show Steps p.tables e below (s₁.setTop (mkF m 1 #[rv a1] [(.ref a1)])) _
    exact kont
  obtain ⟨T102, X102, e102, st102⟩ := getF X0 hx hZ hown (host := "") (Or.inl (hw _ (List.mem_of_getElem? (i := 98) rfl))) Via.refl e0 F0_ (g := (mkF m 1 #[rv a1] [(.ref a1)])) rfl rfl (hb hby d17_1)
  have g103 : Go p e below T102 (mkF m 4 #[rv a1] [(.ref b2)]) A0 := fun t kont => g101 t (st102 t kont)
  have y104 : Sta Z h0 "java/util/ImmutableCollections" "EMPTY" "Ljava/lang/Object;" (.ref w_EMPTY) := S1_.ext O0.2
  obtain ⟨T105, X105, e105, st105⟩ := getS2 X102 hx hZ hown (Or.inr (hw _ (List.mem_of_getElem? (i := 109) rfl))) Via.refl e102 y104 (g := (mkF m 4 #[rv a1] [(.ref b2)])) rfl (hb hby d17_4)
  have g106 : Go p e below T105 (mkF m 7 #[rv a1] [(.ref w_EMPTY), (.ref b2)]) A0 := fun t kont => g103 t (st105 t kont)
  have g107 : Go p e below T105 (mkF m 15 #[rv a1] [(.int (2 : Int32))]) A0 := by
    intro t kont
    refine g106 t ?_
    refine Jvm.RoadKit.acmp (g := (mkF m 7 #[rv a1] [(.ref w_EMPTY), (.ref b2)])) X105 hx rfl rfl rfl (pc0 := 7) (pc' := 10) (same := false) rfl (hb hby d17_7) rfl (decide_eq_false fun q => NE2_ (Value.ref.inj q)) (by decide) (by decide) ?_
    show Steps p.tables e below (T105.setTop (mkF m 10 #[rv a1] [])) _
    refine XS.iconst X105.here hx rfl (hb hby d17_10) ?_
    show Steps p.tables e below (T105.setTop (mkF m 11 #[rv a1] [(.int (2 : Int32))])) _
    refine XS.goto X105.here hx rfl (pc0 := 11) (pc' := 15) rfl (hb hby d17_11) (by decide) (by decide) ?_
    show Steps p.tables e below (T105.setTop (mkF m 15 #[rv a1] [(.int (2 : Int32))])) _
    exact kont
  obtain ⟨fs, hr, hrun, hended, hW, hsame⟩ := X105.leave (v := some (.int (2 : Int32))) (fun h => by rw [Bd.returns] at h; cases h)
  refine ⟨_, _, g107 _ (retI X105 hx Bd.returns (hb hby d17_15) hr), hrun, hended, _, _, rfl, ?_, ⟨_, rfl⟩, hW, hsame.mono (by decide) (by decide)⟩
  show Q_siz Z a1 b2 w_EMPTY h0 n0 _ T105.heap _
  rw [e105]
  exact ⟨rfl, N0, rfl⟩
theorem d18_0 : decode jdk_44_method_5_code 0 = .ok (.iload_n 1, 1) := by decide +kernel
theorem d18_1 : decode jdk_44_method_5_code 1 = .ok (.ifCond .ne 8, 3) := by decide +kernel
theorem d18_4 : decode jdk_44_method_5_code 4 = .ok (.aload_n 0, 1) := by decide +kernel
theorem d18_5 : decode jdk_44_method_5_code 5 = .ok (.getfield 13, 3) := by decide +kernel
theorem d18_8 : decode jdk_44_method_5_code 8 = .ok (.areturn, 1) := by decide +kernel
theorem ef_get0 (m : MethodId) (x0 : Addr) (x1 : Int32)  : entryFrame m #[(.ref x0), (.int x1)] 2 = mkF m 0 #[.val (.ref x0), .val (.int x1)] [] := by first | (simp [entryFrame, mkF, argsToLocals, Value.category]; done) | rfl
def Q_get0 (Z : State) (a1 : Addr) (b1 : Addr) (h0 : Heap) (n0 : Nat) (v : Option Value) (h : Heap) (L : List Loc) : Prop := v = some (.ref b1) ∧ Fr n0 L ∧ h = h0
set_option maxRecDepth 65536 in
set_option maxHeartbeats 40000000 in
theorem rm_get0 (l : Launch) (Z : State) (a0 : Array Value) (hw : ∀ d ∈ tables_1, d.before a0 Z = true) (ws : List Jvm.Cond) (a1 : Addr) (b1 : Addr) (h0 : Heap) (n0 : Nat) (O0 : Old Z n0 h0) (F0_ : Fld Z h0 a1 "java/util/ImmutableCollections$List12" "e0" "Ljava/lang/Object;" (.ref b1)) :
    MetFree l (⟨"java/util/ImmutableCollections$List12", "get", "(I)Ljava/lang/Object;"⟩ : MethodName) (head1 (Jvm.Cond.code (⟨"java/util/ImmutableCollections$List12", "get", "(I)Ljava/lang/Object;"⟩ : MethodName) jdk_44_method_5_code 2 (some (.object "java/lang/Object")) :: ws) ({ frames := 0, cells := 0, slots := 0, locals := 0 } : Room)) (fun a U => a = #[(.ref a1), (.int (0 : Int32))] ∧ Z.Warmed39 U.vm ∧ U.heap = h0) (fun _ _ _ _ _ => True) (fun _ U o U' => ∃ v L, o = .returned v ∧ Q_get0 Z a1 b1 h0 n0 v U'.heap L ∧ FrameEnd U o U' L ({ frames := 0, cells := 0, slots := 0, locals := 0 } : Room).cells ({ frames := 0, cells := 0, slots := 0, locals := 0 } : Room).slots) := by
  refine MetFree.of_bodySF (plainFor_of_name pn_java_util_ImmutableCollections_List12) hisR ?_
  intro p e s m args below meth c s₁ Bd hml0 hP hK
  obtain ⟨rfl, hZ, hh⟩ := hP
  have hx := Bd.exec
  have hby := Bd.bytes
  have hml : c.maxLocals = 2 := hml0
  have hown : s.vm.findClass "java/util/ImmutableCollections$List12" = some m.cls := findClass_of_methodNamed Bd.named
  have hnm := (name_of_methodNamed Bd.named Bd.method).1
  have X0 : Stand p l e ({ frames := 0, cells := 0, slots := 0, locals := 0 } : Room) s m #[(.ref a1), (.int (0 : Int32))] below meth c s₁ [] 0 0 := Stand.of_body Bd
  have e0 : s₁.heap = h0 := by rw [← hh, Bd.state]; rfl
  have N0 := Fr.nil n0
  have g0 : Go p e below s₁ (mkF m 0 #[rv a1, iv (0 : Int32)] []) (s₁.setTop (entryFrame m #[(.ref a1), (.int (0 : Int32))] 2)) := fun t kont => castTop (ef_get0 m a1 (0 : Int32) ) kont
  generalize s₁.setTop (entryFrame m #[(.ref a1), (.int (0 : Int32))] 2) = A0 at g0 ⊢
  have g101 : Go p e below s₁ (mkF m 5 #[rv a1, iv (0 : Int32)] [(.ref a1)]) A0 := by
    intro t kont
    refine g0 t ?_
    refine XS.iloadN X0.here hx rfl (hb hby d18_0) rfl ?_
    show Steps p.tables e below (s₁.setTop (mkF m 1 #[rv a1, iv (0 : Int32)] [(.int (0 : Int32))])) _
    refine XS.ifNo X0.here hx rfl (hb hby d18_1) rfl ((if0 _ _).trans (teq (by decide : (0 : Int32) = (0 : Int32))).2) ?_
    show Steps p.tables e below (s₁.setTop (mkF m 4 #[rv a1, iv (0 : Int32)] [])) _
    refine XS.aloadN X0.here hx rfl (hb hby d18_4) rfl rfl ?_
    show Steps p.tables e below (s₁.setTop (mkF m 5 #[rv a1, iv (0 : Int32)] [(.ref a1)])) _
    exact kont
  obtain ⟨T102, X102, e102, st102⟩ := getF X0 hx hZ hown (host := "") (Or.inl (hw _ (List.mem_of_getElem? (i := 96) rfl))) Via.refl e0 F0_ (g := (mkF m 5 #[rv a1, iv (0 : Int32)] [(.ref a1)])) rfl rfl (hb hby d18_5)
  have g103 : Go p e below T102 (mkF m 8 #[rv a1, iv (0 : Int32)] [(.ref b1)]) A0 := fun t kont => g101 t (st102 t kont)
  obtain ⟨fs, hr, hrun, hended, hW, hsame⟩ := X102.leave (v := some (.ref b1)) (fun h => by rw [Bd.returns] at h; cases h)
  refine ⟨_, _, g103 _ (retOut X102 hx Bd.returns rfl (Or.inr (Or.inr (Or.inr (Or.inr ⟨rfl, rfl, rfl⟩)))) (hb hby d18_8) hr), hrun, hended, _, _, rfl, ?_, ⟨_, rfl⟩, hW, hsame.mono (by decide) (by decide)⟩
  show Q_get0 Z a1 b1 h0 n0 _ T102.heap _
  rw [e102]
  exact ⟨rfl, N0, rfl⟩
theorem d18_9 : decode jdk_44_method_5_code 9 = .ok (.iload_n 1, 1) := by decide +kernel
theorem d18_10 : decode jdk_44_method_5_code 10 = .ok (.iconst 1, 1) := by decide +kernel
theorem d18_11 : decode jdk_44_method_5_code 11 = .ok (.if_icmp .ne 18, 3) := by decide +kernel
theorem d18_14 : decode jdk_44_method_5_code 14 = .ok (.aload_n 0, 1) := by decide +kernel
theorem d18_15 : decode jdk_44_method_5_code 15 = .ok (.getfield 24, 3) := by decide +kernel
theorem d18_18 : decode jdk_44_method_5_code 18 = .ok (.getstatic 19, 3) := by decide +kernel
theorem d18_21 : decode jdk_44_method_5_code 21 = .ok (.if_acmp .eq 8, 3) := by decide +kernel
theorem d18_24 : decode jdk_44_method_5_code 24 = .ok (.aload_n 0, 1) := by decide +kernel
theorem d18_25 : decode jdk_44_method_5_code 25 = .ok (.getfield 24, 3) := by decide +kernel
theorem d18_28 : decode jdk_44_method_5_code 28 = .ok (.areturn, 1) := by decide +kernel
theorem ef_get1 (m : MethodId) (x0 : Addr) (x1 : Int32)  : entryFrame m #[(.ref x0), (.int x1)] 2 = mkF m 0 #[.val (.ref x0), .val (.int x1)] [] := by first | (simp [entryFrame, mkF, argsToLocals, Value.category]; done) | rfl
def Q_get1 (Z : State) (a1 : Addr) (b2 : Addr) (w_EMPTY : Addr) (h0 : Heap) (n0 : Nat) (v : Option Value) (h : Heap) (L : List Loc) : Prop := v = some (.ref b2) ∧ Fr n0 L ∧ h = h0
set_option maxRecDepth 65536 in
set_option maxHeartbeats 40000000 in
theorem rm_get1 (l : Launch) (Z : State) (a0 : Array Value) (hw : ∀ d ∈ tables_1, d.before a0 Z = true) (ws : List Jvm.Cond) (a1 : Addr) (b2 : Addr) (w_EMPTY : Addr) (h0 : Heap) (n0 : Nat) (O0 : Old Z n0 h0) (F0_ : Fld Z h0 a1 "java/util/ImmutableCollections$List12" "e1" "Ljava/lang/Object;" (.ref b2)) (S1_ : Sta Z Z.heap "java/util/ImmutableCollections" "EMPTY" "Ljava/lang/Object;" (.ref w_EMPTY)) (NE2_ : ¬ (b2 = w_EMPTY)) :
    MetFree l (⟨"java/util/ImmutableCollections$List12", "get", "(I)Ljava/lang/Object;"⟩ : MethodName) (head1 (Jvm.Cond.code (⟨"java/util/ImmutableCollections$List12", "get", "(I)Ljava/lang/Object;"⟩ : MethodName) jdk_44_method_5_code 2 (some (.object "java/lang/Object")) :: ws) ({ frames := 0, cells := 0, slots := 0, locals := 0 } : Room)) (fun a U => a = #[(.ref a1), (.int (1 : Int32))] ∧ Z.Warmed39 U.vm ∧ U.heap = h0) (fun _ _ _ _ _ => True) (fun _ U o U' => ∃ v L, o = .returned v ∧ Q_get1 Z a1 b2 w_EMPTY h0 n0 v U'.heap L ∧ FrameEnd U o U' L ({ frames := 0, cells := 0, slots := 0, locals := 0 } : Room).cells ({ frames := 0, cells := 0, slots := 0, locals := 0 } : Room).slots) := by
  refine MetFree.of_bodySF (plainFor_of_name pn_java_util_ImmutableCollections_List12) hisR ?_
  intro p e s m args below meth c s₁ Bd hml0 hP hK
  obtain ⟨rfl, hZ, hh⟩ := hP
  have hx := Bd.exec
  have hby := Bd.bytes
  have hml : c.maxLocals = 2 := hml0
  have hown : s.vm.findClass "java/util/ImmutableCollections$List12" = some m.cls := findClass_of_methodNamed Bd.named
  have hnm := (name_of_methodNamed Bd.named Bd.method).1
  have X0 : Stand p l e ({ frames := 0, cells := 0, slots := 0, locals := 0 } : Room) s m #[(.ref a1), (.int (1 : Int32))] below meth c s₁ [] 0 0 := Stand.of_body Bd
  have e0 : s₁.heap = h0 := by rw [← hh, Bd.state]; rfl
  have N0 := Fr.nil n0
  have g0 : Go p e below s₁ (mkF m 0 #[rv a1, iv (1 : Int32)] []) (s₁.setTop (entryFrame m #[(.ref a1), (.int (1 : Int32))] 2)) := fun t kont => castTop (ef_get1 m a1 (1 : Int32) ) kont
  generalize s₁.setTop (entryFrame m #[(.ref a1), (.int (1 : Int32))] 2) = A0 at g0 ⊢
  have g101 : Go p e below s₁ (mkF m 15 #[rv a1, iv (1 : Int32)] [(.ref a1)]) A0 := by
    intro t kont
    refine g0 t ?_
    refine XS.iloadN X0.here hx rfl (hb hby d18_0) rfl ?_
    show Steps p.tables e below (s₁.setTop (mkF m 1 #[rv a1, iv (1 : Int32)] [(.int (1 : Int32))])) _
    refine XS.ifYes X0.here hx rfl (pc0 := 1) (pc' := 9) rfl (hb hby d18_1) rfl ((if0 _ _).trans (feq (by decide : ¬ ((1 : Int32) = (0 : Int32)))).2) (by decide) (by decide) ?_
    show Steps p.tables e below (s₁.setTop (mkF m 9 #[rv a1, iv (1 : Int32)] [])) _
    refine XS.iloadN X0.here hx rfl (hb hby d18_9) rfl ?_
    show Steps p.tables e below (s₁.setTop (mkF m 10 #[rv a1, iv (1 : Int32)] [(.int (1 : Int32))])) _
    refine XS.iconst X0.here hx rfl (hb hby d18_10) ?_
    show Steps p.tables e below (s₁.setTop (mkF m 11 #[rv a1, iv (1 : Int32)] [(.int (1 : Int32)), (.int (1 : Int32))])) _
    refine XS.icmpNo X0.here hx rfl (hb hby d18_11) rfl (teq (by decide : (1 : Int32) = (1 : Int32))).2 ?_
    show Steps p.tables e below (s₁.setTop (mkF m 14 #[rv a1, iv (1 : Int32)] [])) _
    refine XS.aloadN X0.here hx rfl (hb hby d18_14) rfl rfl ?_
    show Steps p.tables e below (s₁.setTop (mkF m 15 #[rv a1, iv (1 : Int32)] [(.ref a1)])) _
    exact kont
  obtain ⟨T102, X102, e102, st102⟩ := getF X0 hx hZ hown (host := "") (Or.inl (hw _ (List.mem_of_getElem? (i := 98) rfl))) Via.refl e0 F0_ (g := (mkF m 15 #[rv a1, iv (1 : Int32)] [(.ref a1)])) rfl rfl (hb hby d18_15)
  have g103 : Go p e below T102 (mkF m 18 #[rv a1, iv (1 : Int32)] [(.ref b2)]) A0 := fun t kont => g101 t (st102 t kont)
  have y104 : Sta Z h0 "java/util/ImmutableCollections" "EMPTY" "Ljava/lang/Object;" (.ref w_EMPTY) := S1_.ext O0.2
  obtain ⟨T105, X105, e105, st105⟩ := getS2 X102 hx hZ hown (Or.inr (hw _ (List.mem_of_getElem? (i := 109) rfl))) Via.refl e102 y104 (g := (mkF m 18 #[rv a1, iv (1 : Int32)] [(.ref b2)])) rfl (hb hby d18_18)
  have g106 : Go p e below T105 (mkF m 21 #[rv a1, iv (1 : Int32)] [(.ref w_EMPTY), (.ref b2)]) A0 := fun t kont => g103 t (st105 t kont)
  have g107 : Go p e below T105 (mkF m 25 #[rv a1, iv (1 : Int32)] [(.ref a1)]) A0 := by
    intro t kont
    refine g106 t ?_
    refine Jvm.RoadKit.acmp (g := (mkF m 21 #[rv a1, iv (1 : Int32)] [(.ref w_EMPTY), (.ref b2)])) X105 hx rfl rfl rfl (pc0 := 21) (pc' := 24) (same := false) rfl (hb hby d18_21) rfl (decide_eq_false fun q => NE2_ (Value.ref.inj q)) (by decide) (by decide) ?_
    show Steps p.tables e below (T105.setTop (mkF m 24 #[rv a1, iv (1 : Int32)] [])) _
    refine XS.aloadN X105.here hx rfl (hb hby d18_24) rfl rfl ?_
    show Steps p.tables e below (T105.setTop (mkF m 25 #[rv a1, iv (1 : Int32)] [(.ref a1)])) _
    exact kont
  obtain ⟨T108, X108, e108, st108⟩ := getF X105 hx hZ hown (host := "") (Or.inl (hw _ (List.mem_of_getElem? (i := 98) rfl))) Via.refl e105 F0_ (g := (mkF m 25 #[rv a1, iv (1 : Int32)] [(.ref a1)])) rfl rfl (hb hby d18_25)
  have g109 : Go p e below T108 (mkF m 28 #[rv a1, iv (1 : Int32)] [(.ref b2)]) A0 := fun t kont => g107 t (st108 t kont)
  obtain ⟨fs, hr, hrun, hended, hW, hsame⟩ := X108.leave (v := some (.ref b2)) (fun h => by rw [Bd.returns] at h; cases h)
  refine ⟨_, _, g109 _ (retOut X108 hx Bd.returns rfl (Or.inr (Or.inr (Or.inr (Or.inr ⟨rfl, rfl, rfl⟩)))) (hb hby d18_28) hr), hrun, hended, _, _, rfl, ?_, ⟨_, rfl⟩, hW, hsame.mono (by decide) (by decide)⟩
  show Q_get1 Z a1 b2 w_EMPTY h0 n0 _ T108.heap _
  rw [e108]
  exact ⟨rfl, N0, rfl⟩
theorem d19_0 : decode prog_15_method_7_code 0 = .ok (.aload_n 0, 1) := by decide +kernel
theorem d19_1 : decode prog_15_method_7_code 1 = .ok (.getfield 7, 3) := by decide +kernel
theorem d19_4 : decode prog_15_method_7_code 4 = .ok (.areturn, 1) := by decide +kernel
theorem ef_rInd (m : MethodId) (x0 : Addr)  : entryFrame m #[(.ref x0)] 1 = mkF m 0 #[.val (.ref x0)] [] := by first | (simp [entryFrame, mkF, argsToLocals, Value.category]; done) | rfl
def Q_rInd (Z : State) (a1 : Addr) (b1 : Addr) (h0 : Heap) (n0 : Nat) (v : Option Value) (h : Heap) (L : List Loc) : Prop := v = some (.ref b1) ∧ Fr n0 L ∧ h = h0
set_option maxRecDepth 65536 in
set_option maxHeartbeats 40000000 in
theorem rm_rInd (l : Launch) (Z : State) (a0 : Array Value) (hw : ∀ d ∈ tables_1, d.before a0 Z = true) (ws : List Jvm.Cond) (a1 : Addr) (b1 : Addr) (h0 : Heap) (n0 : Nat) (O0 : Old Z n0 h0) (F0_ : Fld Z h0 a1 "com/example/subsume/subsume/engine/IndividualInequality" "individual" "Lcom/example/subsume/subsume/engine/Individual;" (.ref b1)) :
    MetFree l (⟨"com/example/subsume/subsume/engine/IndividualInequality", "individual", "()Lcom/example/subsume/subsume/engine/Individual;"⟩ : MethodName) (head1 (Jvm.Cond.code (⟨"com/example/subsume/subsume/engine/IndividualInequality", "individual", "()Lcom/example/subsume/subsume/engine/Individual;"⟩ : MethodName) prog_15_method_7_code 1 (some (.object "com/example/subsume/subsume/engine/Individual")) :: ws) ({ frames := 0, cells := 0, slots := 0, locals := 0 } : Room)) (fun a U => a = #[(.ref a1)] ∧ Z.Warmed39 U.vm ∧ U.heap = h0) (fun _ _ _ _ _ => True) (fun _ U o U' => ∃ v L, o = .returned v ∧ Q_rInd Z a1 b1 h0 n0 v U'.heap L ∧ FrameEnd U o U' L ({ frames := 0, cells := 0, slots := 0, locals := 0 } : Room).cells ({ frames := 0, cells := 0, slots := 0, locals := 0 } : Room).slots) := by
  refine MetFree.of_bodySF (plainFor_of_name pn_com_example_subsume_subsume_engine_IndividualInequality) hisR ?_
  intro p e s m args below meth c s₁ Bd hml0 hP hK
  obtain ⟨rfl, hZ, hh⟩ := hP
  have hx := Bd.exec
  have hby := Bd.bytes
  have hml : c.maxLocals = 1 := hml0
  have hown : s.vm.findClass "com/example/subsume/subsume/engine/IndividualInequality" = some m.cls := findClass_of_methodNamed Bd.named
  have hnm := (name_of_methodNamed Bd.named Bd.method).1
  have X0 : Stand p l e ({ frames := 0, cells := 0, slots := 0, locals := 0 } : Room) s m #[(.ref a1)] below meth c s₁ [] 0 0 := Stand.of_body Bd
  have e0 : s₁.heap = h0 := by rw [← hh, Bd.state]; rfl
  have N0 := Fr.nil n0
  have g0 : Go p e below s₁ (mkF m 0 #[rv a1] []) (s₁.setTop (entryFrame m #[(.ref a1)] 1)) := fun t kont => castTop (ef_rInd m a1 ) kont
  generalize s₁.setTop (entryFrame m #[(.ref a1)] 1) = A0 at g0 ⊢
  have g101 : Go p e below s₁ (mkF m 1 #[rv a1] [(.ref a1)]) A0 := by
    intro t kont
    refine g0 t ?_
    refine XS.aloadN X0.here hx rfl (hb hby d19_0) rfl rfl ?_
    show Steps p.tables e below (s₁.setTop (mkF m 1 #[rv a1] [(.ref a1)])) _
    exact kont
  obtain ⟨T102, X102, e102, st102⟩ := getF X0 hx hZ hown (host := "") (Or.inl (hw _ (List.mem_of_getElem? (i := 53) rfl))) Via.refl e0 F0_ (g := (mkF m 1 #[rv a1] [(.ref a1)])) rfl rfl (hb hby d19_1)
  have g103 : Go p e below T102 (mkF m 4 #[rv a1] [(.ref b1)]) A0 := fun t kont => g101 t (st102 t kont)
  obtain ⟨fs, hr, hrun, hended, hW, hsame⟩ := X102.leave (v := some (.ref b1)) (fun h => by rw [Bd.returns] at h; cases h)
  refine ⟨_, _, g103 _ (retOut X102 hx Bd.returns rfl (Or.inr (Or.inr (Or.inr (Or.inr ⟨rfl, rfl, rfl⟩)))) (hb hby d19_4) hr), hrun, hended, _, _, rfl, ?_, ⟨_, rfl⟩, hW, hsame.mono (by decide) (by decide)⟩
  show Q_rInd Z a1 b1 h0 n0 _ T102.heap _
  rw [e102]
  exact ⟨rfl, N0, rfl⟩
theorem d20_0 : decode prog_15_method_8_code 0 = .ok (.aload_n 0, 1) := by decide +kernel
theorem d20_1 : decode prog_15_method_8_code 1 = .ok (.getfield 13, 3) := by decide +kernel
theorem d20_4 : decode prog_15_method_8_code 4 = .ok (.areturn, 1) := by decide +kernel
theorem ef_rOth (m : MethodId) (x0 : Addr)  : entryFrame m #[(.ref x0)] 1 = mkF m 0 #[.val (.ref x0)] [] := by first | (simp [entryFrame, mkF, argsToLocals, Value.category]; done) | rfl
def Q_rOth (Z : State) (a1 : Addr) (b1 : Addr) (h0 : Heap) (n0 : Nat) (v : Option Value) (h : Heap) (L : List Loc) : Prop := v = some (.ref b1) ∧ Fr n0 L ∧ h = h0
set_option maxRecDepth 65536 in
set_option maxHeartbeats 40000000 in
theorem rm_rOth (l : Launch) (Z : State) (a0 : Array Value) (hw : ∀ d ∈ tables_1, d.before a0 Z = true) (ws : List Jvm.Cond) (a1 : Addr) (b1 : Addr) (h0 : Heap) (n0 : Nat) (O0 : Old Z n0 h0) (F0_ : Fld Z h0 a1 "com/example/subsume/subsume/engine/IndividualInequality" "other" "Lcom/example/subsume/subsume/engine/Individual;" (.ref b1)) :
    MetFree l (⟨"com/example/subsume/subsume/engine/IndividualInequality", "other", "()Lcom/example/subsume/subsume/engine/Individual;"⟩ : MethodName) (head1 (Jvm.Cond.code (⟨"com/example/subsume/subsume/engine/IndividualInequality", "other", "()Lcom/example/subsume/subsume/engine/Individual;"⟩ : MethodName) prog_15_method_8_code 1 (some (.object "com/example/subsume/subsume/engine/Individual")) :: ws) ({ frames := 0, cells := 0, slots := 0, locals := 0 } : Room)) (fun a U => a = #[(.ref a1)] ∧ Z.Warmed39 U.vm ∧ U.heap = h0) (fun _ _ _ _ _ => True) (fun _ U o U' => ∃ v L, o = .returned v ∧ Q_rOth Z a1 b1 h0 n0 v U'.heap L ∧ FrameEnd U o U' L ({ frames := 0, cells := 0, slots := 0, locals := 0 } : Room).cells ({ frames := 0, cells := 0, slots := 0, locals := 0 } : Room).slots) := by
  refine MetFree.of_bodySF (plainFor_of_name pn_com_example_subsume_subsume_engine_IndividualInequality) hisR ?_
  intro p e s m args below meth c s₁ Bd hml0 hP hK
  obtain ⟨rfl, hZ, hh⟩ := hP
  have hx := Bd.exec
  have hby := Bd.bytes
  have hml : c.maxLocals = 1 := hml0
  have hown : s.vm.findClass "com/example/subsume/subsume/engine/IndividualInequality" = some m.cls := findClass_of_methodNamed Bd.named
  have hnm := (name_of_methodNamed Bd.named Bd.method).1
  have X0 : Stand p l e ({ frames := 0, cells := 0, slots := 0, locals := 0 } : Room) s m #[(.ref a1)] below meth c s₁ [] 0 0 := Stand.of_body Bd
  have e0 : s₁.heap = h0 := by rw [← hh, Bd.state]; rfl
  have N0 := Fr.nil n0
  have g0 : Go p e below s₁ (mkF m 0 #[rv a1] []) (s₁.setTop (entryFrame m #[(.ref a1)] 1)) := fun t kont => castTop (ef_rOth m a1 ) kont
  generalize s₁.setTop (entryFrame m #[(.ref a1)] 1) = A0 at g0 ⊢
  have g101 : Go p e below s₁ (mkF m 1 #[rv a1] [(.ref a1)]) A0 := by
    intro t kont
    refine g0 t ?_
    refine XS.aloadN X0.here hx rfl (hb hby d20_0) rfl rfl ?_
    show Steps p.tables e below (s₁.setTop (mkF m 1 #[rv a1] [(.ref a1)])) _
    exact kont
  obtain ⟨T102, X102, e102, st102⟩ := getF X0 hx hZ hown (host := "") (Or.inl (hw _ (List.mem_of_getElem? (i := 55) rfl))) Via.refl e0 F0_ (g := (mkF m 1 #[rv a1] [(.ref a1)])) rfl rfl (hb hby d20_1)
  have g103 : Go p e below T102 (mkF m 4 #[rv a1] [(.ref b1)]) A0 := fun t kont => g101 t (st102 t kont)
  obtain ⟨fs, hr, hrun, hended, hW, hsame⟩ := X102.leave (v := some (.ref b1)) (fun h => by rw [Bd.returns] at h; cases h)
  refine ⟨_, _, g103 _ (retOut X102 hx Bd.returns rfl (Or.inr (Or.inr (Or.inr (Or.inr ⟨rfl, rfl, rfl⟩)))) (hb hby d20_4) hr), hrun, hended, _, _, rfl, ?_, ⟨_, rfl⟩, hW, hsame.mono (by decide) (by decide)⟩
  show Q_rOth Z a1 b1 h0 n0 _ T102.heap _
  rw [e102]
  exact ⟨rfl, N0, rfl⟩
theorem pd_8 : parseMethodDescriptor "(IZ)Ljava/lang/String;" = some ⟨[.int, .boolean], some (.object "java/lang/String")⟩ := by decide +kernel
theorem pd_9 : parseMethodDescriptor "(Ljava/lang/String;I)V" = some ⟨[(.object "java/lang/String"), .int], none⟩ := by decide +kernel
theorem pd_10 : parseMethodDescriptor "(Lcom/example/subsume/subsume/engine/Individual;Lcom/example/subsume/subsume/engine/Individual;)V" = some ⟨[(.object "com/example/subsume/subsume/engine/Individual"), (.object "com/example/subsume/subsume/engine/Individual")], none⟩ := by decide +kernel
theorem pd_11 : parseMethodDescriptor "()Ljava/util/List;" = some ⟨[], some (.object "java/util/List")⟩ := by decide +kernel
theorem pd_12 : parseMethodDescriptor "()I" = some ⟨[], some .int⟩ := by decide +kernel
theorem pd_13 : parseMethodDescriptor "(I)Ljava/lang/Object;" = some ⟨[.int], some (.object "java/lang/Object")⟩ := by decide +kernel
theorem pd_14 : parseMethodDescriptor "()Lcom/example/subsume/subsume/engine/Individual;" = some ⟨[], some (.object "com/example/subsume/subsume/engine/Individual")⟩ := by decide +kernel
theorem ef_law (m : MethodId) (x0 : Int32) (x1 : Int32) (x2 : Int32) (x3 : Int32) (x4 : Int32)  : entryFrame m #[(.int x0), (.int x1), (.int x2), (.int x3), (.int x4)] maxLocals = mkF m 0 #[.val (.int x0), .val (.int x1), .val (.int x2), .val (.int x3), .val (.int x4), .unset, .unset, .unset, .unset, .unset, .unset] [] := by first | (simp [entryFrame, mkF, argsToLocals, Value.category, maxLocals]; done) | rfl
def Q_law (Z : State) (p0 : Int32) (p1 : Int32) (p2 : Int32) (p3 : Int32) (p4 : Int32) (i_COMPACT_STRINGS : Int32) (w_EMPTY : Addr) (h0 : Heap) (n0 : Nat) (v : Option Value) (h : Heap) (L : List Loc) : Prop := v = some (.int (1 : Int32)) ∧ Fr n0 L
set_option maxRecDepth 65536 in
set_option maxHeartbeats 40000000 in
theorem rm_law (l : Launch) (Z : State) (a0 : Array Value) (hw : ∀ d ∈ tables_1, d.before a0 Z = true) (ws : List Jvm.Cond) (p0 : Int32) (p1 : Int32) (p2 : Int32) (p3 : Int32) (p4 : Int32) (i_COMPACT_STRINGS : Int32) (w_EMPTY : Addr) (h0 : Heap) (n0 : Nat) (O0 : Old Z n0 h0) (S0_ : Sta Z Z.heap "java/lang/String" "COMPACT_STRINGS" "Z" (.int i_COMPACT_STRINGS)) (S1_ : Sta Z Z.heap "java/util/ImmutableCollections" "EMPTY" "Ljava/lang/Object;" (.ref w_EMPTY)) (hcs : ¬ (i_COMPACT_STRINGS = (0 : Int32))) (ZE3_ : Exa Z Z.heap w_EMPTY "java/lang/Object") :
    MetFree l x (head1 (Jvm.Cond.code x code maxLocals ret :: ws) room_1) (fun a U => a = #[(.int p0), (.int p1), (.int p2), (.int p3), (.int p4)] ∧ Z.Warmed39 U.vm ∧ U.heap = h0) (fun _ _ _ _ _ => True) (fun _ U o U' => ∃ v L, o = .returned v ∧ Q_law Z p0 p1 p2 p3 p4 i_COMPACT_STRINGS w_EMPTY h0 n0 v U'.heap L ∧ FrameEnd U o U' L room_1.cells room_1.slots) := by
  refine MetFree.of_bodySF (plainFor_of_name pn_com_example_subsume_subsume_engine_IndividualInequalityIndividualsPinLaw) hisR ?_
  intro p e s m args below meth c s₁ Bd hml0 hP hK
  obtain ⟨rfl, hZ, hh⟩ := hP
  have hx := Bd.exec
  have hby := Bd.bytes
  have hml : c.maxLocals = 11 := hml0
  have hown : s.vm.findClass "com/example/subsume/subsume/engine/IndividualInequalityIndividualsPinLaw" = some m.cls := findClass_of_methodNamed Bd.named
  have hnm := (name_of_methodNamed Bd.named Bd.method).1
  have X0 : Stand p l e room_1 s m #[(.int p0), (.int p1), (.int p2), (.int p3), (.int p4)] below meth c s₁ [] 0 0 := Stand.of_body Bd
  have e0 : s₁.heap = h0 := by rw [← hh, Bd.state]; rfl
  have N0 := Fr.nil n0
  have g0 : Go p e below s₁ (mkF m 0 #[iv p0, iv p1, iv p2, iv p3, iv p4, .unset, .unset, .unset, .unset, .unset, .unset] []) (s₁.setTop (entryFrame m #[(.int p0), (.int p1), (.int p2), (.int p3), (.int p4)] maxLocals)) := fun t kont => castTop (ef_law m p0 p1 p2 p3 p4 ) kont
  generalize s₁.setTop (entryFrame m #[(.int p0), (.int p1), (.int p2), (.int p3), (.int p4)] maxLocals) = A0 at g0 ⊢
  have g102 : Go p e below s₁ (mkF m 5 #[iv p0, iv p1, iv p2, iv p3, iv p4, .unset, .unset, .unset, .unset, .unset, .unset] [(.int (p4 &&& (1 : Int32))), (.int p2)]) A0 := by
    intro t kont
    refine g0 t ?_
    refine XS.iloadN X0.here hx rfl (hb hby at_0) rfl ?_
    show Steps p.tables e below (s₁.setTop (mkF m 1 #[iv p0, iv p1, iv p2, iv p3, iv p4, .unset, .unset, .unset, .unset, .unset, .unset] [(.int p2)])) _
    refine XS.iload X0.here hx rfl (hb hby at_1) rfl ?_
    show Steps p.tables e below (s₁.setTop (mkF m 3 #[iv p0, iv p1, iv p2, iv p3, iv p4, .unset, .unset, .unset, .unset, .unset, .unset] [(.int p4), (.int p2)])) _
    refine XS.iconst X0.here hx rfl (hb hby at_3) ?_
    show Steps p.tables e below (s₁.setTop (mkF m 4 #[iv p0, iv p1, iv p2, iv p3, iv p4, .unset, .unset, .unset, .unset, .unset, .unset] [(.int (1 : Int32)), (.int p4), (.int p2)])) _
    refine XS.iand X0.here hx rfl (hb hby at_4) rfl ?_
    show Steps p.tables e below (s₁.setTop (mkF m 5 #[iv p0, iv p1, iv p2, iv p3, iv p4, .unset, .unset, .unset, .unset, .unset, .unset] [(.int (p4 &&& (1 : Int32))), (.int p2)])) _
    exact kont
  by_cases c101 : (p4 &&& (1 : Int32)) = (0 : Int32)
  ·
    have g103 : Go p e below s₁ (mkF m 13 #[iv p0, iv p1, iv p2, iv p3, iv p4, .unset, .unset, .unset, .unset, .unset, .unset] [(.int (0 : Int32)), (.int p2)]) A0 := by
      intro t kont
      refine g102 t ?_
      refine XS.ifYes X0.here hx rfl (pc0 := 5) (pc' := 12) rfl (hb hby at_5) rfl ((if0 _ _).trans (teq c101).1) (by decide) (by decide) ?_
      show Steps p.tables e below (s₁.setTop (mkF m 12 #[iv p0, iv p1, iv p2, iv p3, iv p4, .unset, .unset, .unset, .unset, .unset, .unset] [(.int p2)])) _
      refine XS.iconst X0.here hx rfl (hb hby at_12) ?_
      show Steps p.tables e below (s₁.setTop (mkF m 13 #[iv p0, iv p1, iv p2, iv p3, iv p4, .unset, .unset, .unset, .unset, .unset, .unset] [(.int (0 : Int32)), (.int p2)])) _
      exact kont
    obtain ⟨_, _, ⟨T104, L104, k104, n104⟩, -, X104, ⟨Lc104, hQ104, l104, y104, z104⟩, st104⟩ := Jvm.LawKit.callS X0 hx (y := (⟨"com/example/subsume/subsume/engine/IndividualInequalityIndividualsPinLaw", "nameOf", "(IZ)Ljava/lang/String;"⟩ : MethodName)) hown (mvT hZ (hw _ (List.mem_of_getElem? (i := 0) rfl))) (mvT hZ (hw _ (List.mem_of_getElem? (i := 1) rfl))) (mvT hZ (hw _ (List.mem_of_getElem? (i := 2) rfl))) (mvT hZ (hw _ (List.mem_of_getElem? (i := 3) rfl))) (by decide) (backOf (W := 0) (rm_nameS l Z a0 hw [] p2 i_COMPACT_STRINGS h0 n0 O0 S0_ hcs) hZ (hw _ (List.mem_of_getElem? (i := 3) rfl)) (hw _ (List.mem_of_getElem? (i := 2) rfl)) (by decide) (by decide)) (g := (mkF m 13 #[iv p0, iv p1, iv p2, iv p3, iv p4, .unset, .unset, .unset, .unset, .unset, .unset] [(.int (0 : Int32)), (.int p2)])) rfl (by rw [hml]; rfl) (argsL := [(.int p2), (.int (0 : Int32))]) (rest := []) (lenOf pd_8 rfl) rfl (by show 2 * 0 + _ ≤ _; exact Nat.le_of_eq rfl) (hb hby at_13) (fun _ _ => ⟨rfl, e0, (by decide : 0 + 2 ≤ _), (by decide : 0 + 5 ≤ _)⟩)
    dsimp only [Pt.U, Pt.locs, Pt.cells, Pt.slots] at X104 l104 y104 z104 st104 hQ104
    subst l104 y104 z104
    obtain ⟨r105, rfl, M104, K104, y106⟩ := hQ104
    have N104 := Fr.app N0 M104
    have O107 := O0.keep K104 all0
    have g108 : Go p e below T104 (mkF m 16 #[iv p0, iv p1, iv p2, iv p3, iv p4, .unset, .unset, .unset, .unset, .unset, .unset] [r105]) A0 := fun t kont => g103 t (st104 t kont)
    have g110 : Go p e below T104 (mkF m 23 #[iv p0, iv p1, iv p2, iv p3, iv p4, .val r105, .unset, .unset, .unset, .unset, .unset] [(.int (p4 &&& (2 : Int32))), (.int p3)]) A0 := by
      intro t kont
      refine g108 t ?_
      refine XS.astore X104.here hx rfl (hb hby at_16) rfl (y106) (l' := #[iv p0, iv p1, iv p2, iv p3, iv p4, .val r105, .unset, .unset, .unset, .unset, .unset]) (XS.store1 (o := .unset) rfl (Or.inl rfl) (own_catV (y106))) ?_
      show Steps p.tables e below (T104.setTop (mkF m 18 #[iv p0, iv p1, iv p2, iv p3, iv p4, .val r105, .unset, .unset, .unset, .unset, .unset] [])) _
      refine XS.iloadN X104.here hx rfl (hb hby at_18) rfl ?_
      show Steps p.tables e below (T104.setTop (mkF m 19 #[iv p0, iv p1, iv p2, iv p3, iv p4, .val r105, .unset, .unset, .unset, .unset, .unset] [(.int p3)])) _
      refine XS.iload X104.here hx rfl (hb hby at_19) rfl ?_
      show Steps p.tables e below (T104.setTop (mkF m 21 #[iv p0, iv p1, iv p2, iv p3, iv p4, .val r105, .unset, .unset, .unset, .unset, .unset] [(.int p4), (.int p3)])) _
      refine XS.iconst X104.here hx rfl (hb hby at_21) ?_
      show Steps p.tables e below (T104.setTop (mkF m 22 #[iv p0, iv p1, iv p2, iv p3, iv p4, .val r105, .unset, .unset, .unset, .unset, .unset] [(.int (2 : Int32)), (.int p4), (.int p3)])) _
      refine XS.iand X104.here hx rfl (hb hby at_22) rfl ?_
      show Steps p.tables e below (T104.setTop (mkF m 23 #[iv p0, iv p1, iv p2, iv p3, iv p4, .val r105, .unset, .unset, .unset, .unset, .unset] [(.int (p4 &&& (2 : Int32))), (.int p3)])) _
      exact kont
    by_cases c109 : (p4 &&& (2 : Int32)) = (0 : Int32)
    ·
      have g111 : Go p e below T104 (mkF m 31 #[iv p0, iv p1, iv p2, iv p3, iv p4, .val r105, .unset, .unset, .unset, .unset, .unset] [(.int (0 : Int32)), (.int p3)]) A0 := by
        intro t kont
        refine g110 t ?_
        refine XS.ifYes X104.here hx rfl (pc0 := 23) (pc' := 30) rfl (hb hby at_23) rfl ((if0 _ _).trans (teq c109).1) (by decide) (by decide) ?_
        show Steps p.tables e below (T104.setTop (mkF m 30 #[iv p0, iv p1, iv p2, iv p3, iv p4, .val r105, .unset, .unset, .unset, .unset, .unset] [(.int p3)])) _
        refine XS.iconst X104.here hx rfl (hb hby at_30) ?_
        show Steps p.tables e below (T104.setTop (mkF m 31 #[iv p0, iv p1, iv p2, iv p3, iv p4, .val r105, .unset, .unset, .unset, .unset, .unset] [(.int (0 : Int32)), (.int p3)])) _
        exact kont
      obtain ⟨_, _, ⟨T112, L112, k112, n112⟩, -, X112, ⟨Lc112, hQ112, l112, y112, z112⟩, st112⟩ := Jvm.LawKit.callS X104 hx (y := (⟨"com/example/subsume/subsume/engine/IndividualInequalityIndividualsPinLaw", "nameOf", "(IZ)Ljava/lang/String;"⟩ : MethodName)) hown (mvT hZ (hw _ (List.mem_of_getElem? (i := 0) rfl))) (mvT hZ (hw _ (List.mem_of_getElem? (i := 1) rfl))) (mvT hZ (hw _ (List.mem_of_getElem? (i := 2) rfl))) (mvT hZ (hw _ (List.mem_of_getElem? (i := 3) rfl))) (by decide) (backOf (W := 0) (rm_nameS l Z a0 hw [] p3 i_COMPACT_STRINGS T104.heap n0 O107 S0_ hcs) hZ (hw _ (List.mem_of_getElem? (i := 3) rfl)) (hw _ (List.mem_of_getElem? (i := 2) rfl)) (by decide) (by decide)) (g := (mkF m 31 #[iv p0, iv p1, iv p2, iv p3, iv p4, .val r105, .unset, .unset, .unset, .unset, .unset] [(.int (0 : Int32)), (.int p3)])) rfl (by rw [hml]; rfl) (argsL := [(.int p3), (.int (0 : Int32))]) (rest := []) (lenOf pd_8 rfl) rfl (by show 2 * 0 + _ ≤ _; exact Nat.le_of_eq rfl) (hb hby at_31) (fun _ _ => ⟨rfl, rfl, (by decide : 2 + 2 ≤ _), (by decide : 5 + 5 ≤ _)⟩)
      dsimp only [Pt.U, Pt.locs, Pt.cells, Pt.slots] at X112 l112 y112 z112 st112 hQ112
      subst l112 y112 z112
      obtain ⟨r113, rfl, M112, K112, y114⟩ := hQ112
      have N112 := Fr.app N104 M112
      have O115 := O107.keep K112 all0
      have g116 : Go p e below T112 (mkF m 34 #[iv p0, iv p1, iv p2, iv p3, iv p4, .val r105, .unset, .unset, .unset, .unset, .unset] [r113]) A0 := fun t kont => g111 t (st112 t kont)
      have g117 : Go p e below T112 (mkF m 36 #[iv p0, iv p1, iv p2, iv p3, iv p4, .val r105, .val r113, .unset, .unset, .unset, .unset] []) A0 := by
        intro t kont
        refine g116 t ?_
        refine XS.astore X112.here hx rfl (hb hby at_34) rfl (y114) (l' := #[iv p0, iv p1, iv p2, iv p3, iv p4, .val r105, .val r113, .unset, .unset, .unset, .unset]) (XS.store1 (o := .unset) rfl (Or.inl rfl) (own_catV (y114))) ?_
        show Steps p.tables e below (T112.setTop (mkF m 36 #[iv p0, iv p1, iv p2, iv p3, iv p4, .val r105, .val r113, .unset, .unset, .unset, .unset] [])) _
        exact kont
      obtain ⟨T118, h118, X118, e118, E118, A118, D118, -, st118⟩ := newO X112 hx hZ hown (hw _ (List.mem_of_getElem? (i := 30) rfl)) (hw _ (List.mem_of_getElem? (i := 31) rfl)) (hw _ (List.mem_of_getElem? (i := 32) rfl)) rfl (g := (mkF m 36 #[iv p0, iv p1, iv p2, iv p3, iv p4, .val r105, .val r113, .unset, .unset, .unset, .unset] [])) rfl (hb hby at_36) (by decide) (by decide)
      obtain ⟨b118, gb118⟩ : ∃ z, z = T112.heap.size := ⟨_, rfl⟩
      rw [← gb118] at A118 D118 st118
      have O119 := O115.ext E118
      have y120 : Fld Z h118 b118 "com/example/subsume/subsume/engine/Individual" "name" "Ljava/lang/String;" .null := D118 (Or.inr (hw _ (List.mem_of_getElem? (i := 38) rfl))) (ty := (.object "java/lang/String")) (by decide)
      have y121 : Fld Z h118 b118 "com/example/subsume/subsume/engine/Individual" "id" "I" (.int (0 : Int32)) := D118 (Or.inr (hw _ (List.mem_of_getElem? (i := 40) rfl))) (ty := .int) (by decide)
      have g122 : Go p e below T118 (mkF m 39 #[iv p0, iv p1, iv p2, iv p3, iv p4, .val r105, .val r113, .unset, .unset, .unset, .unset] [(.ref b118)]) A0 := fun t kont => g117 t (st118 t kont)
      have g123 : Go p e below T118 (mkF m 43 #[iv p0, iv p1, iv p2, iv p3, iv p4, .val r105, .val r113, .unset, .unset, .unset, .unset] [(.int p0), r105, (.ref b118), (.ref b118)]) A0 := by
        intro t kont
        refine g122 t ?_
        refine XS.dup X118.here hx rfl (hb hby at_39) rfl rfl ?_
        show Steps p.tables e below (T118.setTop (mkF m 40 #[iv p0, iv p1, iv p2, iv p3, iv p4, .val r105, .val r113, .unset, .unset, .unset, .unset] [(.ref b118), (.ref b118)])) _
        refine XS.aload X118.here hx rfl (hb hby at_40) rfl (y106) ?_
        show Steps p.tables e below (T118.setTop (mkF m 42 #[iv p0, iv p1, iv p2, iv p3, iv p4, .val r105, .val r113, .unset, .unset, .unset, .unset] [r105, (.ref b118), (.ref b118)])) _
        refine XS.iloadN X118.here hx rfl (hb hby at_42) rfl ?_
        show Steps p.tables e below (T118.setTop (mkF m 43 #[iv p0, iv p1, iv p2, iv p3, iv p4, .val r105, .val r113, .unset, .unset, .unset, .unset] [(.int p0), r105, (.ref b118), (.ref b118)])) _
        exact kont
      have ge125 : n0 ≤ b118 := Nat.le_trans (own_old_le O115) (Nat.le_of_eq gb118.symm)
      obtain ⟨_, _, ⟨T124, L124, k124, n124⟩, -, X124, ⟨Lc124, hQ124, l124, y124, z124⟩, st124⟩ := X118.specialBack hx (y := (⟨"com/example/subsume/subsume/engine/Individual", "<init>", "(Ljava/lang/String;I)V"⟩ : MethodName)) rfl hown (mvT hZ (hw _ (List.mem_of_getElem? (i := 33) rfl))) (mvT hZ (hw _ (List.mem_of_getElem? (i := 34) rfl))) (mvT hZ (hw _ (List.mem_of_getElem? (i := 35) rfl))) (by decide) (backOf (W := 1) (rm_indI l Z a0 hw [] b118 r105 p0 h118 n0 O119 y106 y120 y121 A118 ge125) hZ (hw _ (List.mem_of_getElem? (i := 35) rfl)) (hw _ (List.mem_of_getElem? (i := 32) rfl)) (by decide) (by decide)) (g := (mkF m 43 #[iv p0, iv p1, iv p2, iv p3, iv p4, .val r105, .val r113, .unset, .unset, .unset, .unset] [(.int p0), r105, (.ref b118), (.ref b118)])) rfl (by rw [hml]; rfl) (Steps.refl _) (a := b118) (argsL := [r105, (.int p0)]) (rest := [(.ref b118)]) (lenOf pd_9 rfl) rfl (by show 2 * 0 + _ ≤ _; exact Nat.le_of_eq rfl) (hb hby at_43) (fun _ _ => ⟨rfl, e118, (by decide : 5 + 0 ≤ _), (by decide : 12 + 0 ≤ _)⟩)
      dsimp only [Pt.U, Pt.locs, Pt.cells, Pt.slots] at X124 l124 y124 z124 st124 hQ124
      subst l124 y124 z124
      obtain ⟨rfl, M124, K124, y126⟩ := hQ124
      have N124 := Fr.app N112 M124
      have O127 := O119.keep K124 (allS ge125 all0)
      have g128 : Go p e below T124 (mkF m 46 #[iv p0, iv p1, iv p2, iv p3, iv p4, .val r105, .val r113, .unset, .unset, .unset, .unset] [(.ref b118)]) A0 := fun t kont => g123 t (st124.trans kont)
      have g130 : Go p e below T124 (mkF m 52 #[iv p0, iv p1, iv p2, iv p3, iv p4, .val r105, .val r113, rv b118, .unset, .unset, .unset] [(.int (p4 &&& (4 : Int32)))]) A0 := by
        intro t kont
        refine g128 t ?_
        refine XS.astore X124.here hx rfl (hb hby at_46) rfl rfl (l' := #[iv p0, iv p1, iv p2, iv p3, iv p4, .val r105, .val r113, rv b118, .unset, .unset, .unset]) rfl ?_
        show Steps p.tables e below (T124.setTop (mkF m 48 #[iv p0, iv p1, iv p2, iv p3, iv p4, .val r105, .val r113, rv b118, .unset, .unset, .unset] [])) _
        refine XS.iload X124.here hx rfl (hb hby at_48) rfl ?_
        show Steps p.tables e below (T124.setTop (mkF m 50 #[iv p0, iv p1, iv p2, iv p3, iv p4, .val r105, .val r113, rv b118, .unset, .unset, .unset] [(.int p4)])) _
        refine XS.iconst X124.here hx rfl (hb hby at_50) ?_
        show Steps p.tables e below (T124.setTop (mkF m 51 #[iv p0, iv p1, iv p2, iv p3, iv p4, .val r105, .val r113, rv b118, .unset, .unset, .unset] [(.int (4 : Int32)), (.int p4)])) _
        refine XS.iand X124.here hx rfl (hb hby at_51) rfl ?_
        show Steps p.tables e below (T124.setTop (mkF m 52 #[iv p0, iv p1, iv p2, iv p3, iv p4, .val r105, .val r113, rv b118, .unset, .unset, .unset] [(.int (p4 &&& (4 : Int32)))])) _
        exact kont
      by_cases c129 : (p4 &&& (4 : Int32)) = (0 : Int32)
      ·
        have g131 : Go p e below T124 (mkF m 60 #[iv p0, iv p1, iv p2, iv p3, iv p4, .val r105, .val r113, rv b118, .unset, .unset, .unset] []) A0 := by
          intro t kont
          refine g130 t ?_
          refine XS.ifYes X124.here hx rfl (pc0 := 52) (pc' := 60) rfl (hb hby at_52) rfl ((if0 _ _).trans (teq c129).1) (by decide) (by decide) ?_
          show Steps p.tables e below (T124.setTop (mkF m 60 #[iv p0, iv p1, iv p2, iv p3, iv p4, .val r105, .val r113, rv b118, .unset, .unset, .unset] [])) _
          exact kont
        obtain ⟨T132, h132, X132, e132, E132, A132, D132, -, st132⟩ := newO X124 hx hZ hown (hw _ (List.mem_of_getElem? (i := 30) rfl)) (hw _ (List.mem_of_getElem? (i := 31) rfl)) (hw _ (List.mem_of_getElem? (i := 32) rfl)) rfl (g := (mkF m 60 #[iv p0, iv p1, iv p2, iv p3, iv p4, .val r105, .val r113, rv b118, .unset, .unset, .unset] [])) rfl (hb hby at_60) (by decide) (by decide)
        obtain ⟨b132, gb132⟩ : ∃ z, z = T124.heap.size := ⟨_, rfl⟩
        rw [← gb132] at A132 D132 st132
        have O133 := O127.ext E132
        have y134 : Fld Z h132 b132 "com/example/subsume/subsume/engine/Individual" "name" "Ljava/lang/String;" .null := D132 (Or.inr (hw _ (List.mem_of_getElem? (i := 38) rfl))) (ty := (.object "java/lang/String")) (by decide)
        have y135 : Fld Z h132 b132 "com/example/subsume/subsume/engine/Individual" "id" "I" (.int (0 : Int32)) := D132 (Or.inr (hw _ (List.mem_of_getElem? (i := 40) rfl))) (ty := .int) (by decide)
        have g136 : Go p e below T132 (mkF m 63 #[iv p0, iv p1, iv p2, iv p3, iv p4, .val r105, .val r113, rv b118, .unset, .unset, .unset] [(.ref b132)]) A0 := fun t kont => g131 t (st132 t kont)
        have g137 : Go p e below T132 (mkF m 67 #[iv p0, iv p1, iv p2, iv p3, iv p4, .val r105, .val r113, rv b118, .unset, .unset, .unset] [(.int p1), r113, (.ref b132), (.ref b132)]) A0 := by
          intro t kont
          refine g136 t ?_
          refine XS.dup X132.here hx rfl (hb hby at_63) rfl rfl ?_
          show Steps p.tables e below (T132.setTop (mkF m 64 #[iv p0, iv p1, iv p2, iv p3, iv p4, .val r105, .val r113, rv b118, .unset, .unset, .unset] [(.ref b132), (.ref b132)])) _
          refine XS.aload X132.here hx rfl (hb hby at_64) rfl (y114) ?_
          show Steps p.tables e below (T132.setTop (mkF m 66 #[iv p0, iv p1, iv p2, iv p3, iv p4, .val r105, .val r113, rv b118, .unset, .unset, .unset] [r113, (.ref b132), (.ref b132)])) _
          refine XS.iloadN X132.here hx rfl (hb hby at_66) rfl ?_
          show Steps p.tables e below (T132.setTop (mkF m 67 #[iv p0, iv p1, iv p2, iv p3, iv p4, .val r105, .val r113, rv b118, .unset, .unset, .unset] [(.int p1), r113, (.ref b132), (.ref b132)])) _
          exact kont
        have ge139 : n0 ≤ b132 := Nat.le_trans (own_old_le O127) (Nat.le_of_eq gb132.symm)
        obtain ⟨_, _, ⟨T138, L138, k138, n138⟩, -, X138, ⟨Lc138, hQ138, l138, y138, z138⟩, st138⟩ := X132.specialBack hx (y := (⟨"com/example/subsume/subsume/engine/Individual", "<init>", "(Ljava/lang/String;I)V"⟩ : MethodName)) rfl hown (mvT hZ (hw _ (List.mem_of_getElem? (i := 33) rfl))) (mvT hZ (hw _ (List.mem_of_getElem? (i := 34) rfl))) (mvT hZ (hw _ (List.mem_of_getElem? (i := 35) rfl))) (by decide) (backOf (W := 1) (rm_indI l Z a0 hw [] b132 r113 p1 h132 n0 O133 y114 y134 y135 A132 ge139) hZ (hw _ (List.mem_of_getElem? (i := 35) rfl)) (hw _ (List.mem_of_getElem? (i := 32) rfl)) (by decide) (by decide)) (g := (mkF m 67 #[iv p0, iv p1, iv p2, iv p3, iv p4, .val r105, .val r113, rv b118, .unset, .unset, .unset] [(.int p1), r113, (.ref b132), (.ref b132)])) rfl (by rw [hml]; rfl) (Steps.refl _) (a := b132) (argsL := [r113, (.int p1)]) (rest := [(.ref b132)]) (lenOf pd_9 rfl) rfl (by show 2 * 0 + _ ≤ _; exact Nat.le_of_eq rfl) (hb hby at_67) (fun _ _ => ⟨rfl, e132, (by decide : 6 + 0 ≤ _), (by decide : 14 + 0 ≤ _)⟩)
        dsimp only [Pt.U, Pt.locs, Pt.cells, Pt.slots] at X138 l138 y138 z138 st138 hQ138
        subst l138 y138 z138
        obtain ⟨rfl, M138, K138, y140⟩ := hQ138
        have N138 := Fr.app N124 M138
        have O141 := O133.keep K138 (allS ge139 all0)
        have g142 : Go p e below T138 (mkF m 70 #[iv p0, iv p1, iv p2, iv p3, iv p4, .val r105, .val r113, rv b118, .unset, .unset, .unset] [(.ref b132)]) A0 := fun t kont => g137 t (st138.trans kont)
        have g143 : Go p e below T138 (mkF m 72 #[iv p0, iv p1, iv p2, iv p3, iv p4, .val r105, .val r113, rv b118, rv b132, .unset, .unset] []) A0 := by
          intro t kont
          refine g142 t ?_
          refine XS.astore X138.here hx rfl (hb hby at_70) rfl rfl (l' := #[iv p0, iv p1, iv p2, iv p3, iv p4, .val r105, .val r113, rv b118, rv b132, .unset, .unset]) rfl ?_
          show Steps p.tables e below (T138.setTop (mkF m 72 #[iv p0, iv p1, iv p2, iv p3, iv p4, .val r105, .val r113, rv b118, rv b132, .unset, .unset] [])) _
          exact kont
        obtain ⟨T144, h144, X144, e144, E144, A144, D144, -, st144⟩ := newO X138 hx hZ hown (hw _ (List.mem_of_getElem? (i := 41) rfl)) (hw _ (List.mem_of_getElem? (i := 42) rfl)) (hw _ (List.mem_of_getElem? (i := 43) rfl)) rfl (g := (mkF m 72 #[iv p0, iv p1, iv p2, iv p3, iv p4, .val r105, .val r113, rv b118, rv b132, .unset, .unset] [])) rfl (hb hby at_72) (by decide) (by decide)
        obtain ⟨b144, gb144⟩ : ∃ z, z = T138.heap.size := ⟨_, rfl⟩
        rw [← gb144] at A144 D144 st144
        have O145 := O141.ext E144
        have y146 : Fld Z h144 b144 "com/example/subsume/subsume/engine/IndividualInequality" "individual" "Lcom/example/subsume/subsume/engine/Individual;" .null := D144 (Or.inr (hw _ (List.mem_of_getElem? (i := 54) rfl))) (ty := (.object "com/example/subsume/subsume/engine/Individual")) (by decide)
        have y147 : Fld Z h144 b144 "com/example/subsume/subsume/engine/IndividualInequality" "other" "Lcom/example/subsume/subsume/engine/Individual;" .null := D144 (Or.inr (hw _ (List.mem_of_getElem? (i := 56) rfl))) (ty := (.object "com/example/subsume/subsume/engine/Individual")) (by decide)
        have g148 : Go p e below T144 (mkF m 75 #[iv p0, iv p1, iv p2, iv p3, iv p4, .val r105, .val r113, rv b118, rv b132, .unset, .unset] [(.ref b144)]) A0 := fun t kont => g143 t (st144 t kont)
        have g149 : Go p e below T144 (mkF m 80 #[iv p0, iv p1, iv p2, iv p3, iv p4, .val r105, .val r113, rv b118, rv b132, .unset, .unset] [(.ref b132), (.ref b118), (.ref b144), (.ref b144)]) A0 := by
          intro t kont
          refine g148 t ?_
          refine XS.dup X144.here hx rfl (hb hby at_75) rfl rfl ?_
          show Steps p.tables e below (T144.setTop (mkF m 76 #[iv p0, iv p1, iv p2, iv p3, iv p4, .val r105, .val r113, rv b118, rv b132, .unset, .unset] [(.ref b144), (.ref b144)])) _
          refine XS.aload X144.here hx rfl (hb hby at_76) rfl rfl ?_
          show Steps p.tables e below (T144.setTop (mkF m 78 #[iv p0, iv p1, iv p2, iv p3, iv p4, .val r105, .val r113, rv b118, rv b132, .unset, .unset] [(.ref b118), (.ref b144), (.ref b144)])) _
          refine XS.aload X144.here hx rfl (hb hby at_78) rfl rfl ?_
          show Steps p.tables e below (T144.setTop (mkF m 80 #[iv p0, iv p1, iv p2, iv p3, iv p4, .val r105, .val r113, rv b118, rv b132, .unset, .unset] [(.ref b132), (.ref b118), (.ref b144), (.ref b144)])) _
          exact kont
        have ge151 : n0 ≤ b144 := Nat.le_trans (own_old_le O141) (Nat.le_of_eq gb144.symm)
        obtain ⟨_, _, ⟨T150, L150, k150, n150⟩, -, X150, ⟨Lc150, hQ150, l150, y150, z150⟩, st150⟩ := X144.specialBack hx (y := (⟨"com/example/subsume/subsume/engine/IndividualInequality", "<init>", "(Lcom/example/subsume/subsume/engine/Individual;Lcom/example/subsume/subsume/engine/Individual;)V"⟩ : MethodName)) rfl hown (mvT hZ (hw _ (List.mem_of_getElem? (i := 44) rfl))) (mvT hZ (hw _ (List.mem_of_getElem? (i := 45) rfl))) (mvT hZ (hw _ (List.mem_of_getElem? (i := 46) rfl))) (by decide) (backOf (W := 1) (rm_relI l Z a0 hw [] b144 b118 b132 h144 n0 O145 y146 y147 A144 ge151) hZ (hw _ (List.mem_of_getElem? (i := 46) rfl)) (hw _ (List.mem_of_getElem? (i := 43) rfl)) (by decide) (by decide)) (g := (mkF m 80 #[iv p0, iv p1, iv p2, iv p3, iv p4, .val r105, .val r113, rv b118, rv b132, .unset, .unset] [(.ref b132), (.ref b118), (.ref b144), (.ref b144)])) rfl (by rw [hml]; rfl) (Steps.refl _) (a := b144) (argsL := [(.ref b118), (.ref b132)]) (rest := [(.ref b144)]) (lenOf pd_10 rfl) rfl (by show 2 * 0 + _ ≤ _; exact Nat.le_of_eq rfl) (hb hby at_80) (fun _ _ => ⟨rfl, e144, (by decide : 7 + 0 ≤ _), (by decide : 16 + 0 ≤ _)⟩)
        dsimp only [Pt.U, Pt.locs, Pt.cells, Pt.slots] at X150 l150 y150 z150 st150 hQ150
        subst l150 y150 z150
        obtain ⟨rfl, M150, K150, y152, y153, y154⟩ := hQ150
        have N150 := Fr.app N138 M150
        have O155 := O145.keep K150 (allS ge151 all0)
        have g156 : Go p e below T150 (mkF m 83 #[iv p0, iv p1, iv p2, iv p3, iv p4, .val r105, .val r113, rv b118, rv b132, .unset, .unset] [(.ref b144)]) A0 := fun t kont => g149 t (st150.trans kont)
        have g157 : Go p e below T150 (mkF m 87 #[iv p0, iv p1, iv p2, iv p3, iv p4, .val r105, .val r113, rv b118, rv b132, rv b144, .unset] [(.ref b144)]) A0 := by
          intro t kont
          refine g156 t ?_
          refine XS.astore X150.here hx rfl (hb hby at_83) rfl rfl (l' := #[iv p0, iv p1, iv p2, iv p3, iv p4, .val r105, .val r113, rv b118, rv b132, rv b144, .unset]) rfl ?_
          show Steps p.tables e below (T150.setTop (mkF m 85 #[iv p0, iv p1, iv p2, iv p3, iv p4, .val r105, .val r113, rv b118, rv b132, rv b144, .unset] [])) _
          refine XS.aload X150.here hx rfl (hb hby at_85) rfl rfl ?_
          show Steps p.tables e below (T150.setTop (mkF m 87 #[iv p0, iv p1, iv p2, iv p3, iv p4, .val r105, .val r113, rv b118, rv b132, rv b144, .unset] [(.ref b144)])) _
          exact kont
        obtain ⟨cq158, kq158, q158a, q158b, q158c⟩ := isOf hZ rfl y152
        obtain ⟨_, _, ⟨T158, L158, k158, n158⟩, -, X158, ⟨Lc158, hQ158, l158, y158, z158⟩, st158⟩ := X150.virtualBack hx (y := (⟨"com/example/subsume/subsume/engine/IndividualInequality", "individuals", "()Ljava/util/List;"⟩ : MethodName)) (z := (⟨"com/example/subsume/subsume/engine/IndividualInequality", "individuals", "()Ljava/util/List;"⟩ : MethodName)) hown (mvT hZ (hw _ (List.mem_of_getElem? (i := 57) rfl))) (mvT hZ (hw _ (List.mem_of_getElem? (i := 58) rfl))) (notFace_of_selects (args := #[]) (mvT hZ (hw _ (List.mem_of_getElem? (i := 60) rfl)))) (mvT hZ (hw _ (List.mem_of_getElem? (i := 60) rfl))) (mvT hZ (hw _ (List.mem_of_getElem? (i := 59) rfl))) (by decide) (backOf (W := 0) (rm_inds l Z a0 hw [] b144 b118 b132 T150.heap n0 O155 y153 y154) hZ (hw _ (List.mem_of_getElem? (i := 61) rfl)) (hw _ (List.mem_of_getElem? (i := 43) rfl)) (by decide) (by decide)) q158a q158c (g := (mkF m 87 #[iv p0, iv p1, iv p2, iv p3, iv p4, .val r105, .val r113, rv b118, rv b132, rv b144, .unset] [(.ref b144)])) rfl (by rw [hml]; rfl) (Steps.refl _) (argsL := []) (rest := []) (lenOf pd_11 rfl) rfl (by show 2 * 0 + _ ≤ _; exact Nat.le_of_eq rfl) (hb hby at_87) (fun _ _ => ⟨rfl, rfl, (by decide : 7 + 1 ≤ _), (by decide : 16 + 2 ≤ _)⟩)
        dsimp only [Pt.U, Pt.locs, Pt.cells, Pt.slots] at X158 l158 y158 z158 st158 hQ158
        subst l158 y158 z158
        obtain ⟨r159, rfl, M158, K158, y160, y161, y162, y163⟩ := hQ158
        have N158 := Fr.app N150 M158
        have O164 := O155.keep K158 all0
        have g165 : Go p e below T158 (mkF m 90 #[iv p0, iv p1, iv p2, iv p3, iv p4, .val r105, .val r113, rv b118, rv b132, rv b144, .unset] [(.ref r159)]) A0 := fun t kont => g157 t (st158.trans kont)
        have g166 : Go p e below T158 (mkF m 94 #[iv p0, iv p1, iv p2, iv p3, iv p4, .val r105, .val r113, rv b118, rv b132, rv b144, rv r159] [(.ref r159)]) A0 := by
          intro t kont
          refine g165 t ?_
          refine XS.astore X158.here hx rfl (hb hby at_90) rfl rfl (l' := #[iv p0, iv p1, iv p2, iv p3, iv p4, .val r105, .val r113, rv b118, rv b132, rv b144, rv r159]) rfl ?_
          show Steps p.tables e below (T158.setTop (mkF m 92 #[iv p0, iv p1, iv p2, iv p3, iv p4, .val r105, .val r113, rv b118, rv b132, rv b144, rv r159] [])) _
          refine XS.aload X158.here hx rfl (hb hby at_92) rfl rfl ?_
          show Steps p.tables e below (T158.setTop (mkF m 94 #[iv p0, iv p1, iv p2, iv p3, iv p4, .val r105, .val r113, rv b118, rv b132, rv b144, rv r159] [(.ref r159)])) _
          exact kont
        obtain ⟨cq167, kq167, q167a, q167b, q167c⟩ := isOf hZ rfl y161
        obtain ⟨_, _, ⟨T167, L167, k167, n167⟩, -, X167, ⟨Lc167, hQ167, l167, y167, z167⟩, st167⟩ := X158.interfaceBack hx (xi := (⟨"java/util/List", "size", "()I"⟩ : MethodName)) (y := (⟨"java/util/ImmutableCollections$List12", "size", "()I"⟩ : MethodName)) hown (mvT hZ (hw _ (List.mem_of_getElem? (i := 100) rfl))) (mvT hZ (hw _ (List.mem_of_getElem? (i := 101) rfl))) (mvT hZ (hw _ (List.mem_of_getElem? (i := 102) rfl))) (mvT hZ (hw _ (List.mem_of_getElem? (i := 103) rfl))) (mvT hZ (hw _ (List.mem_of_getElem? (i := 104) rfl))) (mvT hZ (hw _ (List.mem_of_getElem? (i := 105) rfl))) (mvT hZ (hw _ (List.mem_of_getElem? (i := 106) rfl))) (mvT hZ (hw _ (List.mem_of_getElem? (i := 107) rfl))) (by decide) (backOf (W := 0) (rm_siz l Z a0 hw [] r159 b132 w_EMPTY T158.heap n0 O164 y163 S1_ (Ne.symm (O164.ne ZE3_.lt ge139))) hZ (hw _ (List.mem_of_getElem? (i := 108) rfl)) (hw _ (List.mem_of_getElem? (i := 68) rfl)) (by decide) (by decide)) q167a q167b q167c (g := (mkF m 94 #[iv p0, iv p1, iv p2, iv p3, iv p4, .val r105, .val r113, rv b118, rv b132, rv b144, rv r159] [(.ref r159)])) rfl (by rw [hml]; rfl) (Steps.refl _) (argsL := []) (rest := []) (lenOf pd_12 rfl) rfl (by show 2 * 0 + _ ≤ _; exact Nat.le_of_eq rfl) (hb hby at_94) (fun _ _ => ⟨rfl, rfl, (by decide : 8 + 0 ≤ _), (by decide : 18 + 0 ≤ _)⟩)
        dsimp only [Pt.U, Pt.locs, Pt.cells, Pt.slots] at X167 l167 y167 z167 st167 hQ167
        subst l167 y167 z167
        obtain ⟨rfl, M167, e167⟩ := hQ167
        have N167 := Fr.app N158 M167
        have g168 : Go p e below T167 (mkF m 99 #[iv p0, iv p1, iv p2, iv p3, iv p4, .val r105, .val r113, rv b118, rv b132, rv b144, rv r159] [(.int (2 : Int32))]) A0 := fun t kont => g166 t (st167.trans kont)
        have g169 : Go p e below T167 (mkF m 108 #[iv p0, iv p1, iv p2, iv p3, iv p4, .val r105, .val r113, rv b118, rv b132, rv b144, rv r159] [(.int (0 : Int32)), (.ref r159)]) A0 := by
          intro t kont
          refine g168 t ?_
          refine XS.iconst X167.here hx rfl (hb hby at_99) ?_
          show Steps p.tables e below (T167.setTop (mkF m 100 #[iv p0, iv p1, iv p2, iv p3, iv p4, .val r105, .val r113, rv b118, rv b132, rv b144, rv r159] [(.int (2 : Int32)), (.int (2 : Int32))])) _
          refine XS.icmpYes X167.here hx rfl (pc0 := 100) (pc' := 105) rfl (hb hby at_100) rfl (teq (by decide : (2 : Int32) = (2 : Int32))).1 (by decide) (by decide) ?_
          show Steps p.tables e below (T167.setTop (mkF m 105 #[iv p0, iv p1, iv p2, iv p3, iv p4, .val r105, .val r113, rv b118, rv b132, rv b144, rv r159] [])) _
          refine XS.aload X167.here hx rfl (hb hby at_105) rfl rfl ?_
          show Steps p.tables e below (T167.setTop (mkF m 107 #[iv p0, iv p1, iv p2, iv p3, iv p4, .val r105, .val r113, rv b118, rv b132, rv b144, rv r159] [(.ref r159)])) _
          refine XS.iconst X167.here hx rfl (hb hby at_107) ?_
          show Steps p.tables e below (T167.setTop (mkF m 108 #[iv p0, iv p1, iv p2, iv p3, iv p4, .val r105, .val r113, rv b118, rv b132, rv b144, rv r159] [(.int (0 : Int32)), (.ref r159)])) _
          exact kont
        obtain ⟨cq170, kq170, q170a, q170b, q170c⟩ := isOf hZ e167 y161
        obtain ⟨_, _, ⟨T170, L170, k170, n170⟩, -, X170, ⟨Lc170, hQ170, l170, y170, z170⟩, st170⟩ := X167.interfaceBack hx (xi := (⟨"java/util/List", "get", "(I)Ljava/lang/Object;"⟩ : MethodName)) (y := (⟨"java/util/ImmutableCollections$List12", "get", "(I)Ljava/lang/Object;"⟩ : MethodName)) hown (mvT hZ (hw _ (List.mem_of_getElem? (i := 111) rfl))) (mvT hZ (hw _ (List.mem_of_getElem? (i := 112) rfl))) (mvT hZ (hw _ (List.mem_of_getElem? (i := 113) rfl))) (mvT hZ (hw _ (List.mem_of_getElem? (i := 114) rfl))) (mvT hZ (hw _ (List.mem_of_getElem? (i := 115) rfl))) (mvT hZ (hw _ (List.mem_of_getElem? (i := 116) rfl))) (mvT hZ (hw _ (List.mem_of_getElem? (i := 117) rfl))) (mvT hZ (hw _ (List.mem_of_getElem? (i := 107) rfl))) (by decide) (backOf (W := 0) (rm_get0 l Z a0 hw [] r159 b118 T158.heap n0 O164 y162) hZ (hw _ (List.mem_of_getElem? (i := 118) rfl)) (hw _ (List.mem_of_getElem? (i := 68) rfl)) (by decide) (by decide)) q170a q170b q170c (g := (mkF m 108 #[iv p0, iv p1, iv p2, iv p3, iv p4, .val r105, .val r113, rv b118, rv b132, rv b144, rv r159] [(.int (0 : Int32)), (.ref r159)])) rfl (by rw [hml]; rfl) (Steps.refl _) (argsL := [(.int (0 : Int32))]) (rest := []) (lenOf pd_13 rfl) rfl (by show 2 * 0 + _ ≤ _; exact Nat.le_of_eq rfl) (hb hby at_108) (fun _ _ => ⟨rfl, e167, (by decide : 8 + 0 ≤ _), (by decide : 18 + 0 ≤ _)⟩)
        dsimp only [Pt.U, Pt.locs, Pt.cells, Pt.slots] at X170 l170 y170 z170 st170 hQ170
        subst l170 y170 z170
        obtain ⟨rfl, M170, e170⟩ := hQ170
        have N170 := Fr.app N167 M170
        have g171 : Go p e below T170 (mkF m 113 #[iv p0, iv p1, iv p2, iv p3, iv p4, .val r105, .val r113, rv b118, rv b132, rv b144, rv r159] [(.ref b118)]) A0 := fun t kont => g169 t (st170.trans kont)
        have g172 : Go p e below T170 (mkF m 123 #[iv p0, iv p1, iv p2, iv p3, iv p4, .val r105, .val r113, rv b118, rv b132, rv b144, rv r159] [(.int (1 : Int32)), (.ref r159)]) A0 := by
          intro t kont
          refine g171 t ?_
          refine XS.aload X170.here hx rfl (hb hby at_113) rfl rfl ?_
          show Steps p.tables e below (T170.setTop (mkF m 115 #[iv p0, iv p1, iv p2, iv p3, iv p4, .val r105, .val r113, rv b118, rv b132, rv b144, rv r159] [(.ref b118), (.ref b118)])) _
          refine Jvm.RoadKit.acmp (g := (mkF m 115 #[iv p0, iv p1, iv p2, iv p3, iv p4, .val r105, .val r113, rv b118, rv b132, rv b144, rv r159] [(.ref b118), (.ref b118)])) X170 hx rfl rfl rfl (pc0 := 115) (pc' := 120) (same := true) rfl (hb hby at_115) rfl (decide_eq_true rfl) (by decide) (by decide) ?_
          show Steps p.tables e below (T170.setTop (mkF m 120 #[iv p0, iv p1, iv p2, iv p3, iv p4, .val r105, .val r113, rv b118, rv b132, rv b144, rv r159] [])) _
          refine XS.aload X170.here hx rfl (hb hby at_120) rfl rfl ?_
          show Steps p.tables e below (T170.setTop (mkF m 122 #[iv p0, iv p1, iv p2, iv p3, iv p4, .val r105, .val r113, rv b118, rv b132, rv b144, rv r159] [(.ref r159)])) _
          refine XS.iconst X170.here hx rfl (hb hby at_122) ?_
          show Steps p.tables e below (T170.setTop (mkF m 123 #[iv p0, iv p1, iv p2, iv p3, iv p4, .val r105, .val r113, rv b118, rv b132, rv b144, rv r159] [(.int (1 : Int32)), (.ref r159)])) _
          exact kont
        obtain ⟨cq173, kq173, q173a, q173b, q173c⟩ := isOf hZ e170 y161
        obtain ⟨_, _, ⟨T173, L173, k173, n173⟩, -, X173, ⟨Lc173, hQ173, l173, y173, z173⟩, st173⟩ := X170.interfaceBack hx (xi := (⟨"java/util/List", "get", "(I)Ljava/lang/Object;"⟩ : MethodName)) (y := (⟨"java/util/ImmutableCollections$List12", "get", "(I)Ljava/lang/Object;"⟩ : MethodName)) hown (mvT hZ (hw _ (List.mem_of_getElem? (i := 111) rfl))) (mvT hZ (hw _ (List.mem_of_getElem? (i := 112) rfl))) (mvT hZ (hw _ (List.mem_of_getElem? (i := 113) rfl))) (mvT hZ (hw _ (List.mem_of_getElem? (i := 114) rfl))) (mvT hZ (hw _ (List.mem_of_getElem? (i := 115) rfl))) (mvT hZ (hw _ (List.mem_of_getElem? (i := 116) rfl))) (mvT hZ (hw _ (List.mem_of_getElem? (i := 117) rfl))) (mvT hZ (hw _ (List.mem_of_getElem? (i := 107) rfl))) (by decide) (backOf (W := 0) (rm_get1 l Z a0 hw [] r159 b132 w_EMPTY T158.heap n0 O164 y163 S1_ (Ne.symm (O164.ne ZE3_.lt ge139))) hZ (hw _ (List.mem_of_getElem? (i := 118) rfl)) (hw _ (List.mem_of_getElem? (i := 68) rfl)) (by decide) (by decide)) q173a q173b q173c (g := (mkF m 123 #[iv p0, iv p1, iv p2, iv p3, iv p4, .val r105, .val r113, rv b118, rv b132, rv b144, rv r159] [(.int (1 : Int32)), (.ref r159)])) rfl (by rw [hml]; rfl) (Steps.refl _) (argsL := [(.int (1 : Int32))]) (rest := []) (lenOf pd_13 rfl) rfl (by show 2 * 0 + _ ≤ _; exact Nat.le_of_eq rfl) (hb hby at_123) (fun _ _ => ⟨rfl, e170, (by decide : 8 + 0 ≤ _), (by decide : 18 + 0 ≤ _)⟩)
        dsimp only [Pt.U, Pt.locs, Pt.cells, Pt.slots] at X173 l173 y173 z173 st173 hQ173
        subst l173 y173 z173
        obtain ⟨rfl, M173, e173⟩ := hQ173
        have N173 := Fr.app N170 M173
        have g174 : Go p e below T173 (mkF m 128 #[iv p0, iv p1, iv p2, iv p3, iv p4, .val r105, .val r113, rv b118, rv b132, rv b144, rv r159] [(.ref b132)]) A0 := fun t kont => g172 t (st173.trans kont)
        have g175 : Go p e below T173 (mkF m 137 #[iv p0, iv p1, iv p2, iv p3, iv p4, .val r105, .val r113, rv b118, rv b132, rv b144, rv r159] [(.ref b144)]) A0 := by
          intro t kont
          refine g174 t ?_
          refine XS.aload X173.here hx rfl (hb hby at_128) rfl rfl ?_
          show Steps p.tables e below (T173.setTop (mkF m 130 #[iv p0, iv p1, iv p2, iv p3, iv p4, .val r105, .val r113, rv b118, rv b132, rv b144, rv r159] [(.ref b132), (.ref b132)])) _
          refine Jvm.RoadKit.acmp (g := (mkF m 130 #[iv p0, iv p1, iv p2, iv p3, iv p4, .val r105, .val r113, rv b118, rv b132, rv b144, rv r159] [(.ref b132), (.ref b132)])) X173 hx rfl rfl rfl (pc0 := 130) (pc' := 135) (same := true) rfl (hb hby at_130) rfl (decide_eq_true rfl) (by decide) (by decide) ?_
          show Steps p.tables e below (T173.setTop (mkF m 135 #[iv p0, iv p1, iv p2, iv p3, iv p4, .val r105, .val r113, rv b118, rv b132, rv b144, rv r159] [])) _
          refine XS.aload X173.here hx rfl (hb hby at_135) rfl rfl ?_
          show Steps p.tables e below (T173.setTop (mkF m 137 #[iv p0, iv p1, iv p2, iv p3, iv p4, .val r105, .val r113, rv b118, rv b132, rv b144, rv r159] [(.ref b144)])) _
          exact kont
        have y177 : Exa Z T158.heap b144 "com/example/subsume/subsume/engine/IndividualInequality" := (y152.keep K158)
        have y178 : Fld Z T158.heap b144 "com/example/subsume/subsume/engine/IndividualInequality" "individual" "Lcom/example/subsume/subsume/engine/Individual;" (.ref b118) := (y153.keep K158 nin0)
        obtain ⟨cq176, kq176, q176a, q176b, q176c⟩ := isOf hZ e173 y177
        obtain ⟨_, _, ⟨T176, L176, k176, n176⟩, -, X176, ⟨Lc176, hQ176, l176, y176, z176⟩, st176⟩ := X173.virtualBack hx (y := (⟨"com/example/subsume/subsume/engine/IndividualInequality", "individual", "()Lcom/example/subsume/subsume/engine/Individual;"⟩ : MethodName)) (z := (⟨"com/example/subsume/subsume/engine/IndividualInequality", "individual", "()Lcom/example/subsume/subsume/engine/Individual;"⟩ : MethodName)) hown (mvT hZ (hw _ (List.mem_of_getElem? (i := 119) rfl))) (mvT hZ (hw _ (List.mem_of_getElem? (i := 120) rfl))) (notFace_of_selects (args := #[]) (mvT hZ (hw _ (List.mem_of_getElem? (i := 122) rfl)))) (mvT hZ (hw _ (List.mem_of_getElem? (i := 122) rfl))) (mvT hZ (hw _ (List.mem_of_getElem? (i := 121) rfl))) (by decide) (backOf (W := 0) (rm_rInd l Z a0 hw [] b144 b118 T158.heap n0 O164 y178) hZ (hw _ (List.mem_of_getElem? (i := 123) rfl)) (hw _ (List.mem_of_getElem? (i := 43) rfl)) (by decide) (by decide)) q176a q176c (g := (mkF m 137 #[iv p0, iv p1, iv p2, iv p3, iv p4, .val r105, .val r113, rv b118, rv b132, rv b144, rv r159] [(.ref b144)])) rfl (by rw [hml]; rfl) (Steps.refl _) (argsL := []) (rest := []) (lenOf pd_14 rfl) rfl (by show 2 * 0 + _ ≤ _; exact Nat.le_of_eq rfl) (hb hby at_137) (fun _ _ => ⟨rfl, e173, (by decide : 8 + 0 ≤ _), (by decide : 18 + 0 ≤ _)⟩)
        dsimp only [Pt.U, Pt.locs, Pt.cells, Pt.slots] at X176 l176 y176 z176 st176 hQ176
        subst l176 y176 z176
        obtain ⟨rfl, M176, e176⟩ := hQ176
        have N176 := Fr.app N173 M176
        have g179 : Go p e below T176 (mkF m 140 #[iv p0, iv p1, iv p2, iv p3, iv p4, .val r105, .val r113, rv b118, rv b132, rv b144, rv r159] [(.ref b118)]) A0 := fun t kont => g175 t (st176.trans kont)
        have g180 : Go p e below T176 (mkF m 147 #[iv p0, iv p1, iv p2, iv p3, iv p4, .val r105, .val r113, rv b118, rv b132, rv b144, rv r159] [(.ref b144)]) A0 := by
          intro t kont
          refine g179 t ?_
          refine XS.aload X176.here hx rfl (hb hby at_140) rfl rfl ?_
          show Steps p.tables e below (T176.setTop (mkF m 142 #[iv p0, iv p1, iv p2, iv p3, iv p4, .val r105, .val r113, rv b118, rv b132, rv b144, rv r159] [(.ref b118), (.ref b118)])) _
          refine Jvm.RoadKit.acmp (g := (mkF m 142 #[iv p0, iv p1, iv p2, iv p3, iv p4, .val r105, .val r113, rv b118, rv b132, rv b144, rv r159] [(.ref b118), (.ref b118)])) X176 hx rfl rfl rfl (pc0 := 142) (pc' := 145) (same := true) rfl (hb hby at_142) rfl (decide_eq_true rfl) (by decide) (by decide) ?_
          show Steps p.tables e below (T176.setTop (mkF m 145 #[iv p0, iv p1, iv p2, iv p3, iv p4, .val r105, .val r113, rv b118, rv b132, rv b144, rv r159] [])) _
          refine XS.aload X176.here hx rfl (hb hby at_145) rfl rfl ?_
          show Steps p.tables e below (T176.setTop (mkF m 147 #[iv p0, iv p1, iv p2, iv p3, iv p4, .val r105, .val r113, rv b118, rv b132, rv b144, rv r159] [(.ref b144)])) _
          exact kont
        have y182 : Fld Z T158.heap b144 "com/example/subsume/subsume/engine/IndividualInequality" "other" "Lcom/example/subsume/subsume/engine/Individual;" (.ref b132) := (y154.keep K158 nin0)
        obtain ⟨cq181, kq181, q181a, q181b, q181c⟩ := isOf hZ e176 y177
        obtain ⟨_, _, ⟨T181, L181, k181, n181⟩, -, X181, ⟨Lc181, hQ181, l181, y181, z181⟩, st181⟩ := X176.virtualBack hx (y := (⟨"com/example/subsume/subsume/engine/IndividualInequality", "other", "()Lcom/example/subsume/subsume/engine/Individual;"⟩ : MethodName)) (z := (⟨"com/example/subsume/subsume/engine/IndividualInequality", "other", "()Lcom/example/subsume/subsume/engine/Individual;"⟩ : MethodName)) hown (mvT hZ (hw _ (List.mem_of_getElem? (i := 124) rfl))) (mvT hZ (hw _ (List.mem_of_getElem? (i := 125) rfl))) (notFace_of_selects (args := #[]) (mvT hZ (hw _ (List.mem_of_getElem? (i := 127) rfl)))) (mvT hZ (hw _ (List.mem_of_getElem? (i := 127) rfl))) (mvT hZ (hw _ (List.mem_of_getElem? (i := 126) rfl))) (by decide) (backOf (W := 0) (rm_rOth l Z a0 hw [] b144 b132 T158.heap n0 O164 y182) hZ (hw _ (List.mem_of_getElem? (i := 128) rfl)) (hw _ (List.mem_of_getElem? (i := 43) rfl)) (by decide) (by decide)) q181a q181c (g := (mkF m 147 #[iv p0, iv p1, iv p2, iv p3, iv p4, .val r105, .val r113, rv b118, rv b132, rv b144, rv r159] [(.ref b144)])) rfl (by rw [hml]; rfl) (Steps.refl _) (argsL := []) (rest := []) (lenOf pd_14 rfl) rfl (by show 2 * 0 + _ ≤ _; exact Nat.le_of_eq rfl) (hb hby at_147) (fun _ _ => ⟨rfl, e176, (by decide : 8 + 0 ≤ _), (by decide : 18 + 0 ≤ _)⟩)
        dsimp only [Pt.U, Pt.locs, Pt.cells, Pt.slots] at X181 l181 y181 z181 st181 hQ181
        subst l181 y181 z181
        obtain ⟨rfl, M181, e181⟩ := hQ181
        have N181 := Fr.app N176 M181
        have g183 : Go p e below T181 (mkF m 150 #[iv p0, iv p1, iv p2, iv p3, iv p4, .val r105, .val r113, rv b118, rv b132, rv b144, rv r159] [(.ref b132)]) A0 := fun t kont => g180 t (st181.trans kont)
        have g184 : Go p e below T181 (mkF m 160 #[iv p0, iv p1, iv p2, iv p3, iv p4, .val r105, .val r113, rv b118, rv b132, rv b144, rv r159] [(.int (1 : Int32))]) A0 := by
          intro t kont
          refine g183 t ?_
          refine XS.aload X181.here hx rfl (hb hby at_150) rfl rfl ?_
          show Steps p.tables e below (T181.setTop (mkF m 152 #[iv p0, iv p1, iv p2, iv p3, iv p4, .val r105, .val r113, rv b118, rv b132, rv b144, rv r159] [(.ref b132), (.ref b132)])) _
          refine Jvm.RoadKit.acmp (g := (mkF m 152 #[iv p0, iv p1, iv p2, iv p3, iv p4, .val r105, .val r113, rv b118, rv b132, rv b144, rv r159] [(.ref b132), (.ref b132)])) X181 hx rfl rfl rfl (pc0 := 152) (pc' := 155) (same := true) rfl (hb hby at_152) rfl (decide_eq_true rfl) (by decide) (by decide) ?_
          show Steps p.tables e below (T181.setTop (mkF m 155 #[iv p0, iv p1, iv p2, iv p3, iv p4, .val r105, .val r113, rv b118, rv b132, rv b144, rv r159] [])) _
          refine XS.iconst X181.here hx rfl (hb hby at_155) ?_
          show Steps p.tables e below (T181.setTop (mkF m 156 #[iv p0, iv p1, iv p2, iv p3, iv p4, .val r105, .val r113, rv b118, rv b132, rv b144, rv r159] [(.int (1 : Int32))])) _
          refine XS.goto X181.here hx rfl (pc0 := 156) (pc' := 160) rfl (hb hby at_156) (by decide) (by decide) ?_
          show Steps p.tables e below (T181.setTop (mkF m 160 #[iv p0, iv p1, iv p2, iv p3, iv p4, .val r105, .val r113, rv b118, rv b132, rv b144, rv r159] [(.int (1 : Int32))])) _
          exact kont
        obtain ⟨fs, hr, hrun, hended, hW, hsame⟩ := X181.leave (v := some (.int (1 : Int32))) (fun h => by rw [Bd.returns] at h; cases h)
        refine ⟨_, _, g184 _ (retN X181 hx (t := .boolean) Bd.returns (by simp) (hb hby at_160) hr), hrun, hended, _, _, rfl, ?_, ⟨_, rfl⟩, hW, hsame.mono (by decide) (by decide)⟩
        show Q_law Z p0 p1 p2 p3 p4 i_COMPACT_STRINGS w_EMPTY h0 n0 _ T181.heap _
        rw [e181]
        exact ⟨rfl, N181⟩
      have g185 : Go p e below T124 (mkF m 72 #[iv p0, iv p1, iv p2, iv p3, iv p4, .val r105, .val r113, rv b118, rv b118, .unset, .unset] []) A0 := by
        intro t kont
        refine g130 t ?_
        refine XS.ifNo X124.here hx rfl (hb hby at_52) rfl ((if0 _ _).trans (feq c129).1) ?_
        show Steps p.tables e below (T124.setTop (mkF m 55 #[iv p0, iv p1, iv p2, iv p3, iv p4, .val r105, .val r113, rv b118, .unset, .unset, .unset] [])) _
        refine XS.aload X124.here hx rfl (hb hby at_55) rfl rfl ?_
        show Steps p.tables e below (T124.setTop (mkF m 57 #[iv p0, iv p1, iv p2, iv p3, iv p4, .val r105, .val r113, rv b118, .unset, .unset, .unset] [(.ref b118)])) _
        refine XS.goto X124.here hx rfl (pc0 := 57) (pc' := 70) rfl (hb hby at_57) (by decide) (by decide) ?_
        show Steps p.tables e below (T124.setTop (mkF m 70 #[iv p0, iv p1, iv p2, iv p3, iv p4, .val r105, .val r113, rv b118, .unset, .unset, .unset] [(.ref b118)])) _
        refine XS.astore X124.here hx rfl (hb hby at_70) rfl rfl (l' := #[iv p0, iv p1, iv p2, iv p3, iv p4, .val r105, .val r113, rv b118, rv b118, .unset, .unset]) rfl ?_
        show Steps p.tables e below (T124.setTop (mkF m 72 #[iv p0, iv p1, iv p2, iv p3, iv p4, .val r105, .val r113, rv b118, rv b118, .unset, .unset] [])) _
        exact kont
      obtain ⟨T186, h186, X186, e186, E186, A186, D186, -, st186⟩ := newO X124 hx hZ hown (hw _ (List.mem_of_getElem? (i := 41) rfl)) (hw _ (List.mem_of_getElem? (i := 42) rfl)) (hw _ (List.mem_of_getElem? (i := 43) rfl)) rfl (g := (mkF m 72 #[iv p0, iv p1, iv p2, iv p3, iv p4, .val r105, .val r113, rv b118, rv b118, .unset, .unset] [])) rfl (hb hby at_72) (by decide) (by decide)
      obtain ⟨b186, gb186⟩ : ∃ z, z = T124.heap.size := ⟨_, rfl⟩
      rw [← gb186] at A186 D186 st186
      have O187 := O127.ext E186
      have y188 : Fld Z h186 b186 "com/example/subsume/subsume/engine/IndividualInequality" "individual" "Lcom/example/subsume/subsume/engine/Individual;" .null := D186 (Or.inr (hw _ (List.mem_of_getElem? (i := 54) rfl))) (ty := (.object "com/example/subsume/subsume/engine/Individual")) (by decide)
      have y189 : Fld Z h186 b186 "com/example/subsume/subsume/engine/IndividualInequality" "other" "Lcom/example/subsume/subsume/engine/Individual;" .null := D186 (Or.inr (hw _ (List.mem_of_getElem? (i := 56) rfl))) (ty := (.object "com/example/subsume/subsume/engine/Individual")) (by decide)
      have g190 : Go p e below T186 (mkF m 75 #[iv p0, iv p1, iv p2, iv p3, iv p4, .val r105, .val r113, rv b118, rv b118, .unset, .unset] [(.ref b186)]) A0 := fun t kont => g185 t (st186 t kont)
      have g191 : Go p e below T186 (mkF m 80 #[iv p0, iv p1, iv p2, iv p3, iv p4, .val r105, .val r113, rv b118, rv b118, .unset, .unset] [(.ref b118), (.ref b118), (.ref b186), (.ref b186)]) A0 := by
        intro t kont
        refine g190 t ?_
        refine XS.dup X186.here hx rfl (hb hby at_75) rfl rfl ?_
        show Steps p.tables e below (T186.setTop (mkF m 76 #[iv p0, iv p1, iv p2, iv p3, iv p4, .val r105, .val r113, rv b118, rv b118, .unset, .unset] [(.ref b186), (.ref b186)])) _
        refine XS.aload X186.here hx rfl (hb hby at_76) rfl rfl ?_
        show Steps p.tables e below (T186.setTop (mkF m 78 #[iv p0, iv p1, iv p2, iv p3, iv p4, .val r105, .val r113, rv b118, rv b118, .unset, .unset] [(.ref b118), (.ref b186), (.ref b186)])) _
        refine XS.aload X186.here hx rfl (hb hby at_78) rfl rfl ?_
        show Steps p.tables e below (T186.setTop (mkF m 80 #[iv p0, iv p1, iv p2, iv p3, iv p4, .val r105, .val r113, rv b118, rv b118, .unset, .unset] [(.ref b118), (.ref b118), (.ref b186), (.ref b186)])) _
        exact kont
      have ge193 : n0 ≤ b186 := Nat.le_trans (own_old_le O127) (Nat.le_of_eq gb186.symm)
      obtain ⟨_, _, ⟨T192, L192, k192, n192⟩, -, X192, ⟨Lc192, hQ192, l192, y192, z192⟩, st192⟩ := X186.specialBack hx (y := (⟨"com/example/subsume/subsume/engine/IndividualInequality", "<init>", "(Lcom/example/subsume/subsume/engine/Individual;Lcom/example/subsume/subsume/engine/Individual;)V"⟩ : MethodName)) rfl hown (mvT hZ (hw _ (List.mem_of_getElem? (i := 44) rfl))) (mvT hZ (hw _ (List.mem_of_getElem? (i := 45) rfl))) (mvT hZ (hw _ (List.mem_of_getElem? (i := 46) rfl))) (by decide) (backOf (W := 1) (rm_relI l Z a0 hw [] b186 b118 b118 h186 n0 O187 y188 y189 A186 ge193) hZ (hw _ (List.mem_of_getElem? (i := 46) rfl)) (hw _ (List.mem_of_getElem? (i := 43) rfl)) (by decide) (by decide)) (g := (mkF m 80 #[iv p0, iv p1, iv p2, iv p3, iv p4, .val r105, .val r113, rv b118, rv b118, .unset, .unset] [(.ref b118), (.ref b118), (.ref b186), (.ref b186)])) rfl (by rw [hml]; rfl) (Steps.refl _) (a := b186) (argsL := [(.ref b118), (.ref b118)]) (rest := [(.ref b186)]) (lenOf pd_10 rfl) rfl (by show 2 * 0 + _ ≤ _; exact Nat.le_of_eq rfl) (hb hby at_80) (fun _ _ => ⟨rfl, e186, (by decide : 6 + 0 ≤ _), (by decide : 14 + 0 ≤ _)⟩)
      dsimp only [Pt.U, Pt.locs, Pt.cells, Pt.slots] at X192 l192 y192 z192 st192 hQ192
      subst l192 y192 z192
      obtain ⟨rfl, M192, K192, y194, y195, y196⟩ := hQ192
      have N192 := Fr.app N124 M192
      have O197 := O187.keep K192 (allS ge193 all0)
      have g198 : Go p e below T192 (mkF m 83 #[iv p0, iv p1, iv p2, iv p3, iv p4, .val r105, .val r113, rv b118, rv b118, .unset, .unset] [(.ref b186)]) A0 := fun t kont => g191 t (st192.trans kont)
      have g199 : Go p e below T192 (mkF m 87 #[iv p0, iv p1, iv p2, iv p3, iv p4, .val r105, .val r113, rv b118, rv b118, rv b186, .unset] [(.ref b186)]) A0 := by
        intro t kont
        refine g198 t ?_
        refine XS.astore X192.here hx rfl (hb hby at_83) rfl rfl (l' := #[iv p0, iv p1, iv p2, iv p3, iv p4, .val r105, .val r113, rv b118, rv b118, rv b186, .unset]) rfl ?_
        show Steps p.tables e below (T192.setTop (mkF m 85 #[iv p0, iv p1, iv p2, iv p3, iv p4, .val r105, .val r113, rv b118, rv b118, rv b186, .unset] [])) _
        refine XS.aload X192.here hx rfl (hb hby at_85) rfl rfl ?_
        show Steps p.tables e below (T192.setTop (mkF m 87 #[iv p0, iv p1, iv p2, iv p3, iv p4, .val r105, .val r113, rv b118, rv b118, rv b186, .unset] [(.ref b186)])) _
        exact kont
      obtain ⟨cq200, kq200, q200a, q200b, q200c⟩ := isOf hZ rfl y194
      obtain ⟨_, _, ⟨T200, L200, k200, n200⟩, -, X200, ⟨Lc200, hQ200, l200, y200, z200⟩, st200⟩ := X192.virtualBack hx (y := (⟨"com/example/subsume/subsume/engine/IndividualInequality", "individuals", "()Ljava/util/List;"⟩ : MethodName)) (z := (⟨"com/example/subsume/subsume/engine/IndividualInequality", "individuals", "()Ljava/util/List;"⟩ : MethodName)) hown (mvT hZ (hw _ (List.mem_of_getElem? (i := 57) rfl))) (mvT hZ (hw _ (List.mem_of_getElem? (i := 58) rfl))) (notFace_of_selects (args := #[]) (mvT hZ (hw _ (List.mem_of_getElem? (i := 60) rfl)))) (mvT hZ (hw _ (List.mem_of_getElem? (i := 60) rfl))) (mvT hZ (hw _ (List.mem_of_getElem? (i := 59) rfl))) (by decide) (backOf (W := 0) (rm_inds l Z a0 hw [] b186 b118 b118 T192.heap n0 O197 y195 y196) hZ (hw _ (List.mem_of_getElem? (i := 61) rfl)) (hw _ (List.mem_of_getElem? (i := 43) rfl)) (by decide) (by decide)) q200a q200c (g := (mkF m 87 #[iv p0, iv p1, iv p2, iv p3, iv p4, .val r105, .val r113, rv b118, rv b118, rv b186, .unset] [(.ref b186)])) rfl (by rw [hml]; rfl) (Steps.refl _) (argsL := []) (rest := []) (lenOf pd_11 rfl) rfl (by show 2 * 0 + _ ≤ _; exact Nat.le_of_eq rfl) (hb hby at_87) (fun _ _ => ⟨rfl, rfl, (by decide : 6 + 1 ≤ _), (by decide : 14 + 2 ≤ _)⟩)
      dsimp only [Pt.U, Pt.locs, Pt.cells, Pt.slots] at X200 l200 y200 z200 st200 hQ200
      subst l200 y200 z200
      obtain ⟨r201, rfl, M200, K200, y202, y203, y204, y205⟩ := hQ200
      have N200 := Fr.app N192 M200
      have O206 := O197.keep K200 all0
      have g207 : Go p e below T200 (mkF m 90 #[iv p0, iv p1, iv p2, iv p3, iv p4, .val r105, .val r113, rv b118, rv b118, rv b186, .unset] [(.ref r201)]) A0 := fun t kont => g199 t (st200.trans kont)
      have g208 : Go p e below T200 (mkF m 94 #[iv p0, iv p1, iv p2, iv p3, iv p4, .val r105, .val r113, rv b118, rv b118, rv b186, rv r201] [(.ref r201)]) A0 := by
        intro t kont
        refine g207 t ?_
        refine XS.astore X200.here hx rfl (hb hby at_90) rfl rfl (l' := #[iv p0, iv p1, iv p2, iv p3, iv p4, .val r105, .val r113, rv b118, rv b118, rv b186, rv r201]) rfl ?_
        show Steps p.tables e below (T200.setTop (mkF m 92 #[iv p0, iv p1, iv p2, iv p3, iv p4, .val r105, .val r113, rv b118, rv b118, rv b186, rv r201] [])) _
        refine XS.aload X200.here hx rfl (hb hby at_92) rfl rfl ?_
        show Steps p.tables e below (T200.setTop (mkF m 94 #[iv p0, iv p1, iv p2, iv p3, iv p4, .val r105, .val r113, rv b118, rv b118, rv b186, rv r201] [(.ref r201)])) _
        exact kont
      obtain ⟨cq209, kq209, q209a, q209b, q209c⟩ := isOf hZ rfl y203
      obtain ⟨_, _, ⟨T209, L209, k209, n209⟩, -, X209, ⟨Lc209, hQ209, l209, y209, z209⟩, st209⟩ := X200.interfaceBack hx (xi := (⟨"java/util/List", "size", "()I"⟩ : MethodName)) (y := (⟨"java/util/ImmutableCollections$List12", "size", "()I"⟩ : MethodName)) hown (mvT hZ (hw _ (List.mem_of_getElem? (i := 100) rfl))) (mvT hZ (hw _ (List.mem_of_getElem? (i := 101) rfl))) (mvT hZ (hw _ (List.mem_of_getElem? (i := 102) rfl))) (mvT hZ (hw _ (List.mem_of_getElem? (i := 103) rfl))) (mvT hZ (hw _ (List.mem_of_getElem? (i := 104) rfl))) (mvT hZ (hw _ (List.mem_of_getElem? (i := 105) rfl))) (mvT hZ (hw _ (List.mem_of_getElem? (i := 106) rfl))) (mvT hZ (hw _ (List.mem_of_getElem? (i := 107) rfl))) (by decide) (backOf (W := 0) (rm_siz l Z a0 hw [] r201 b118 w_EMPTY T200.heap n0 O206 y205 S1_ (Ne.symm (O206.ne ZE3_.lt ge125))) hZ (hw _ (List.mem_of_getElem? (i := 108) rfl)) (hw _ (List.mem_of_getElem? (i := 68) rfl)) (by decide) (by decide)) q209a q209b q209c (g := (mkF m 94 #[iv p0, iv p1, iv p2, iv p3, iv p4, .val r105, .val r113, rv b118, rv b118, rv b186, rv r201] [(.ref r201)])) rfl (by rw [hml]; rfl) (Steps.refl _) (argsL := []) (rest := []) (lenOf pd_12 rfl) rfl (by show 2 * 0 + _ ≤ _; exact Nat.le_of_eq rfl) (hb hby at_94) (fun _ _ => ⟨rfl, rfl, (by decide : 7 + 0 ≤ _), (by decide : 16 + 0 ≤ _)⟩)
      dsimp only [Pt.U, Pt.locs, Pt.cells, Pt.slots] at X209 l209 y209 z209 st209 hQ209
      subst l209 y209 z209
      obtain ⟨rfl, M209, e209⟩ := hQ209
      have N209 := Fr.app N200 M209
      have g210 : Go p e below T209 (mkF m 99 #[iv p0, iv p1, iv p2, iv p3, iv p4, .val r105, .val r113, rv b118, rv b118, rv b186, rv r201] [(.int (2 : Int32))]) A0 := fun t kont => g208 t (st209.trans kont)
      have g211 : Go p e below T209 (mkF m 108 #[iv p0, iv p1, iv p2, iv p3, iv p4, .val r105, .val r113, rv b118, rv b118, rv b186, rv r201] [(.int (0 : Int32)), (.ref r201)]) A0 := by
        intro t kont
        refine g210 t ?_
        refine XS.iconst X209.here hx rfl (hb hby at_99) ?_
        show Steps p.tables e below (T209.setTop (mkF m 100 #[iv p0, iv p1, iv p2, iv p3, iv p4, .val r105, .val r113, rv b118, rv b118, rv b186, rv r201] [(.int (2 : Int32)), (.int (2 : Int32))])) _
        refine XS.icmpYes X209.here hx rfl (pc0 := 100) (pc' := 105) rfl (hb hby at_100) rfl (teq (by decide : (2 : Int32) = (2 : Int32))).1 (by decide) (by decide) ?_
        show Steps p.tables e below (T209.setTop (mkF m 105 #[iv p0, iv p1, iv p2, iv p3, iv p4, .val r105, .val r113, rv b118, rv b118, rv b186, rv r201] [])) _
        refine XS.aload X209.here hx rfl (hb hby at_105) rfl rfl ?_
        show Steps p.tables e below (T209.setTop (mkF m 107 #[iv p0, iv p1, iv p2, iv p3, iv p4, .val r105, .val r113, rv b118, rv b118, rv b186, rv r201] [(.ref r201)])) _
        refine XS.iconst X209.here hx rfl (hb hby at_107) ?_
        show Steps p.tables e below (T209.setTop (mkF m 108 #[iv p0, iv p1, iv p2, iv p3, iv p4, .val r105, .val r113, rv b118, rv b118, rv b186, rv r201] [(.int (0 : Int32)), (.ref r201)])) _
        exact kont
      obtain ⟨cq212, kq212, q212a, q212b, q212c⟩ := isOf hZ e209 y203
      obtain ⟨_, _, ⟨T212, L212, k212, n212⟩, -, X212, ⟨Lc212, hQ212, l212, y212, z212⟩, st212⟩ := X209.interfaceBack hx (xi := (⟨"java/util/List", "get", "(I)Ljava/lang/Object;"⟩ : MethodName)) (y := (⟨"java/util/ImmutableCollections$List12", "get", "(I)Ljava/lang/Object;"⟩ : MethodName)) hown (mvT hZ (hw _ (List.mem_of_getElem? (i := 111) rfl))) (mvT hZ (hw _ (List.mem_of_getElem? (i := 112) rfl))) (mvT hZ (hw _ (List.mem_of_getElem? (i := 113) rfl))) (mvT hZ (hw _ (List.mem_of_getElem? (i := 114) rfl))) (mvT hZ (hw _ (List.mem_of_getElem? (i := 115) rfl))) (mvT hZ (hw _ (List.mem_of_getElem? (i := 116) rfl))) (mvT hZ (hw _ (List.mem_of_getElem? (i := 117) rfl))) (mvT hZ (hw _ (List.mem_of_getElem? (i := 107) rfl))) (by decide) (backOf (W := 0) (rm_get0 l Z a0 hw [] r201 b118 T200.heap n0 O206 y204) hZ (hw _ (List.mem_of_getElem? (i := 118) rfl)) (hw _ (List.mem_of_getElem? (i := 68) rfl)) (by decide) (by decide)) q212a q212b q212c (g := (mkF m 108 #[iv p0, iv p1, iv p2, iv p3, iv p4, .val r105, .val r113, rv b118, rv b118, rv b186, rv r201] [(.int (0 : Int32)), (.ref r201)])) rfl (by rw [hml]; rfl) (Steps.refl _) (argsL := [(.int (0 : Int32))]) (rest := []) (lenOf pd_13 rfl) rfl (by show 2 * 0 + _ ≤ _; exact Nat.le_of_eq rfl) (hb hby at_108) (fun _ _ => ⟨rfl, e209, (by decide : 7 + 0 ≤ _), (by decide : 16 + 0 ≤ _)⟩)
      dsimp only [Pt.U, Pt.locs, Pt.cells, Pt.slots] at X212 l212 y212 z212 st212 hQ212
      subst l212 y212 z212
      obtain ⟨rfl, M212, e212⟩ := hQ212
      have N212 := Fr.app N209 M212
      have g213 : Go p e below T212 (mkF m 113 #[iv p0, iv p1, iv p2, iv p3, iv p4, .val r105, .val r113, rv b118, rv b118, rv b186, rv r201] [(.ref b118)]) A0 := fun t kont => g211 t (st212.trans kont)
      have g214 : Go p e below T212 (mkF m 123 #[iv p0, iv p1, iv p2, iv p3, iv p4, .val r105, .val r113, rv b118, rv b118, rv b186, rv r201] [(.int (1 : Int32)), (.ref r201)]) A0 := by
        intro t kont
        refine g213 t ?_
        refine XS.aload X212.here hx rfl (hb hby at_113) rfl rfl ?_
        show Steps p.tables e below (T212.setTop (mkF m 115 #[iv p0, iv p1, iv p2, iv p3, iv p4, .val r105, .val r113, rv b118, rv b118, rv b186, rv r201] [(.ref b118), (.ref b118)])) _
        refine Jvm.RoadKit.acmp (g := (mkF m 115 #[iv p0, iv p1, iv p2, iv p3, iv p4, .val r105, .val r113, rv b118, rv b118, rv b186, rv r201] [(.ref b118), (.ref b118)])) X212 hx rfl rfl rfl (pc0 := 115) (pc' := 120) (same := true) rfl (hb hby at_115) rfl (decide_eq_true rfl) (by decide) (by decide) ?_
        show Steps p.tables e below (T212.setTop (mkF m 120 #[iv p0, iv p1, iv p2, iv p3, iv p4, .val r105, .val r113, rv b118, rv b118, rv b186, rv r201] [])) _
        refine XS.aload X212.here hx rfl (hb hby at_120) rfl rfl ?_
        show Steps p.tables e below (T212.setTop (mkF m 122 #[iv p0, iv p1, iv p2, iv p3, iv p4, .val r105, .val r113, rv b118, rv b118, rv b186, rv r201] [(.ref r201)])) _
        refine XS.iconst X212.here hx rfl (hb hby at_122) ?_
        show Steps p.tables e below (T212.setTop (mkF m 123 #[iv p0, iv p1, iv p2, iv p3, iv p4, .val r105, .val r113, rv b118, rv b118, rv b186, rv r201] [(.int (1 : Int32)), (.ref r201)])) _
        exact kont
      obtain ⟨cq215, kq215, q215a, q215b, q215c⟩ := isOf hZ e212 y203
      obtain ⟨_, _, ⟨T215, L215, k215, n215⟩, -, X215, ⟨Lc215, hQ215, l215, y215, z215⟩, st215⟩ := X212.interfaceBack hx (xi := (⟨"java/util/List", "get", "(I)Ljava/lang/Object;"⟩ : MethodName)) (y := (⟨"java/util/ImmutableCollections$List12", "get", "(I)Ljava/lang/Object;"⟩ : MethodName)) hown (mvT hZ (hw _ (List.mem_of_getElem? (i := 111) rfl))) (mvT hZ (hw _ (List.mem_of_getElem? (i := 112) rfl))) (mvT hZ (hw _ (List.mem_of_getElem? (i := 113) rfl))) (mvT hZ (hw _ (List.mem_of_getElem? (i := 114) rfl))) (mvT hZ (hw _ (List.mem_of_getElem? (i := 115) rfl))) (mvT hZ (hw _ (List.mem_of_getElem? (i := 116) rfl))) (mvT hZ (hw _ (List.mem_of_getElem? (i := 117) rfl))) (mvT hZ (hw _ (List.mem_of_getElem? (i := 107) rfl))) (by decide) (backOf (W := 0) (rm_get1 l Z a0 hw [] r201 b118 w_EMPTY T200.heap n0 O206 y205 S1_ (Ne.symm (O206.ne ZE3_.lt ge125))) hZ (hw _ (List.mem_of_getElem? (i := 118) rfl)) (hw _ (List.mem_of_getElem? (i := 68) rfl)) (by decide) (by decide)) q215a q215b q215c (g := (mkF m 123 #[iv p0, iv p1, iv p2, iv p3, iv p4, .val r105, .val r113, rv b118, rv b118, rv b186, rv r201] [(.int (1 : Int32)), (.ref r201)])) rfl (by rw [hml]; rfl) (Steps.refl _) (argsL := [(.int (1 : Int32))]) (rest := []) (lenOf pd_13 rfl) rfl (by show 2 * 0 + _ ≤ _; exact Nat.le_of_eq rfl) (hb hby at_123) (fun _ _ => ⟨rfl, e212, (by decide : 7 + 0 ≤ _), (by decide : 16 + 0 ≤ _)⟩)
      dsimp only [Pt.U, Pt.locs, Pt.cells, Pt.slots] at X215 l215 y215 z215 st215 hQ215
      subst l215 y215 z215
      obtain ⟨rfl, M215, e215⟩ := hQ215
      have N215 := Fr.app N212 M215
      have g216 : Go p e below T215 (mkF m 128 #[iv p0, iv p1, iv p2, iv p3, iv p4, .val r105, .val r113, rv b118, rv b118, rv b186, rv r201] [(.ref b118)]) A0 := fun t kont => g214 t (st215.trans kont)
      have g217 : Go p e below T215 (mkF m 137 #[iv p0, iv p1, iv p2, iv p3, iv p4, .val r105, .val r113, rv b118, rv b118, rv b186, rv r201] [(.ref b186)]) A0 := by
        intro t kont
        refine g216 t ?_
        refine XS.aload X215.here hx rfl (hb hby at_128) rfl rfl ?_
        show Steps p.tables e below (T215.setTop (mkF m 130 #[iv p0, iv p1, iv p2, iv p3, iv p4, .val r105, .val r113, rv b118, rv b118, rv b186, rv r201] [(.ref b118), (.ref b118)])) _
        refine Jvm.RoadKit.acmp (g := (mkF m 130 #[iv p0, iv p1, iv p2, iv p3, iv p4, .val r105, .val r113, rv b118, rv b118, rv b186, rv r201] [(.ref b118), (.ref b118)])) X215 hx rfl rfl rfl (pc0 := 130) (pc' := 135) (same := true) rfl (hb hby at_130) rfl (decide_eq_true rfl) (by decide) (by decide) ?_
        show Steps p.tables e below (T215.setTop (mkF m 135 #[iv p0, iv p1, iv p2, iv p3, iv p4, .val r105, .val r113, rv b118, rv b118, rv b186, rv r201] [])) _
        refine XS.aload X215.here hx rfl (hb hby at_135) rfl rfl ?_
        show Steps p.tables e below (T215.setTop (mkF m 137 #[iv p0, iv p1, iv p2, iv p3, iv p4, .val r105, .val r113, rv b118, rv b118, rv b186, rv r201] [(.ref b186)])) _
        exact kont
      have y219 : Exa Z T200.heap b186 "com/example/subsume/subsume/engine/IndividualInequality" := (y194.keep K200)
      have y220 : Fld Z T200.heap b186 "com/example/subsume/subsume/engine/IndividualInequality" "individual" "Lcom/example/subsume/subsume/engine/Individual;" (.ref b118) := (y195.keep K200 nin0)
      obtain ⟨cq218, kq218, q218a, q218b, q218c⟩ := isOf hZ e215 y219
      obtain ⟨_, _, ⟨T218, L218, k218, n218⟩, -, X218, ⟨Lc218, hQ218, l218, y218, z218⟩, st218⟩ := X215.virtualBack hx (y := (⟨"com/example/subsume/subsume/engine/IndividualInequality", "individual", "()Lcom/example/subsume/subsume/engine/Individual;"⟩ : MethodName)) (z := (⟨"com/example/subsume/subsume/engine/IndividualInequality", "individual", "()Lcom/example/subsume/subsume/engine/Individual;"⟩ : MethodName)) hown (mvT hZ (hw _ (List.mem_of_getElem? (i := 119) rfl))) (mvT hZ (hw _ (List.mem_of_getElem? (i := 120) rfl))) (notFace_of_selects (args := #[]) (mvT hZ (hw _ (List.mem_of_getElem? (i := 122) rfl)))) (mvT hZ (hw _ (List.mem_of_getElem? (i := 122) rfl))) (mvT hZ (hw _ (List.mem_of_getElem? (i := 121) rfl))) (by decide) (backOf (W := 0) (rm_rInd l Z a0 hw [] b186 b118 T200.heap n0 O206 y220) hZ (hw _ (List.mem_of_getElem? (i := 123) rfl)) (hw _ (List.mem_of_getElem? (i := 43) rfl)) (by decide) (by decide)) q218a q218c (g := (mkF m 137 #[iv p0, iv p1, iv p2, iv p3, iv p4, .val r105, .val r113, rv b118, rv b118, rv b186, rv r201] [(.ref b186)])) rfl (by rw [hml]; rfl) (Steps.refl _) (argsL := []) (rest := []) (lenOf pd_14 rfl) rfl (by show 2 * 0 + _ ≤ _; exact Nat.le_of_eq rfl) (hb hby at_137) (fun _ _ => ⟨rfl, e215, (by decide : 7 + 0 ≤ _), (by decide : 16 + 0 ≤ _)⟩)
      dsimp only [Pt.U, Pt.locs, Pt.cells, Pt.slots] at X218 l218 y218 z218 st218 hQ218
      subst l218 y218 z218
      obtain ⟨rfl, M218, e218⟩ := hQ218
      have N218 := Fr.app N215 M218
      have g221 : Go p e below T218 (mkF m 140 #[iv p0, iv p1, iv p2, iv p3, iv p4, .val r105, .val r113, rv b118, rv b118, rv b186, rv r201] [(.ref b118)]) A0 := fun t kont => g217 t (st218.trans kont)
      have g222 : Go p e below T218 (mkF m 147 #[iv p0, iv p1, iv p2, iv p3, iv p4, .val r105, .val r113, rv b118, rv b118, rv b186, rv r201] [(.ref b186)]) A0 := by
        intro t kont
        refine g221 t ?_
        refine XS.aload X218.here hx rfl (hb hby at_140) rfl rfl ?_
        show Steps p.tables e below (T218.setTop (mkF m 142 #[iv p0, iv p1, iv p2, iv p3, iv p4, .val r105, .val r113, rv b118, rv b118, rv b186, rv r201] [(.ref b118), (.ref b118)])) _
        refine Jvm.RoadKit.acmp (g := (mkF m 142 #[iv p0, iv p1, iv p2, iv p3, iv p4, .val r105, .val r113, rv b118, rv b118, rv b186, rv r201] [(.ref b118), (.ref b118)])) X218 hx rfl rfl rfl (pc0 := 142) (pc' := 145) (same := true) rfl (hb hby at_142) rfl (decide_eq_true rfl) (by decide) (by decide) ?_
        show Steps p.tables e below (T218.setTop (mkF m 145 #[iv p0, iv p1, iv p2, iv p3, iv p4, .val r105, .val r113, rv b118, rv b118, rv b186, rv r201] [])) _
        refine XS.aload X218.here hx rfl (hb hby at_145) rfl rfl ?_
        show Steps p.tables e below (T218.setTop (mkF m 147 #[iv p0, iv p1, iv p2, iv p3, iv p4, .val r105, .val r113, rv b118, rv b118, rv b186, rv r201] [(.ref b186)])) _
        exact kont
      have y224 : Fld Z T200.heap b186 "com/example/subsume/subsume/engine/IndividualInequality" "other" "Lcom/example/subsume/subsume/engine/Individual;" (.ref b118) := (y196.keep K200 nin0)
      obtain ⟨cq223, kq223, q223a, q223b, q223c⟩ := isOf hZ e218 y219
      obtain ⟨_, _, ⟨T223, L223, k223, n223⟩, -, X223, ⟨Lc223, hQ223, l223, y223, z223⟩, st223⟩ := X218.virtualBack hx (y := (⟨"com/example/subsume/subsume/engine/IndividualInequality", "other", "()Lcom/example/subsume/subsume/engine/Individual;"⟩ : MethodName)) (z := (⟨"com/example/subsume/subsume/engine/IndividualInequality", "other", "()Lcom/example/subsume/subsume/engine/Individual;"⟩ : MethodName)) hown (mvT hZ (hw _ (List.mem_of_getElem? (i := 124) rfl))) (mvT hZ (hw _ (List.mem_of_getElem? (i := 125) rfl))) (notFace_of_selects (args := #[]) (mvT hZ (hw _ (List.mem_of_getElem? (i := 127) rfl)))) (mvT hZ (hw _ (List.mem_of_getElem? (i := 127) rfl))) (mvT hZ (hw _ (List.mem_of_getElem? (i := 126) rfl))) (by decide) (backOf (W := 0) (rm_rOth l Z a0 hw [] b186 b118 T200.heap n0 O206 y224) hZ (hw _ (List.mem_of_getElem? (i := 128) rfl)) (hw _ (List.mem_of_getElem? (i := 43) rfl)) (by decide) (by decide)) q223a q223c (g := (mkF m 147 #[iv p0, iv p1, iv p2, iv p3, iv p4, .val r105, .val r113, rv b118, rv b118, rv b186, rv r201] [(.ref b186)])) rfl (by rw [hml]; rfl) (Steps.refl _) (argsL := []) (rest := []) (lenOf pd_14 rfl) rfl (by show 2 * 0 + _ ≤ _; exact Nat.le_of_eq rfl) (hb hby at_147) (fun _ _ => ⟨rfl, e218, (by decide : 7 + 0 ≤ _), (by decide : 16 + 0 ≤ _)⟩)
      dsimp only [Pt.U, Pt.locs, Pt.cells, Pt.slots] at X223 l223 y223 z223 st223 hQ223
      subst l223 y223 z223
      obtain ⟨rfl, M223, e223⟩ := hQ223
      have N223 := Fr.app N218 M223
      have g225 : Go p e below T223 (mkF m 150 #[iv p0, iv p1, iv p2, iv p3, iv p4, .val r105, .val r113, rv b118, rv b118, rv b186, rv r201] [(.ref b118)]) A0 := fun t kont => g222 t (st223.trans kont)
      have g226 : Go p e below T223 (mkF m 160 #[iv p0, iv p1, iv p2, iv p3, iv p4, .val r105, .val r113, rv b118, rv b118, rv b186, rv r201] [(.int (1 : Int32))]) A0 := by
        intro t kont
        refine g225 t ?_
        refine XS.aload X223.here hx rfl (hb hby at_150) rfl rfl ?_
        show Steps p.tables e below (T223.setTop (mkF m 152 #[iv p0, iv p1, iv p2, iv p3, iv p4, .val r105, .val r113, rv b118, rv b118, rv b186, rv r201] [(.ref b118), (.ref b118)])) _
        refine Jvm.RoadKit.acmp (g := (mkF m 152 #[iv p0, iv p1, iv p2, iv p3, iv p4, .val r105, .val r113, rv b118, rv b118, rv b186, rv r201] [(.ref b118), (.ref b118)])) X223 hx rfl rfl rfl (pc0 := 152) (pc' := 155) (same := true) rfl (hb hby at_152) rfl (decide_eq_true rfl) (by decide) (by decide) ?_
        show Steps p.tables e below (T223.setTop (mkF m 155 #[iv p0, iv p1, iv p2, iv p3, iv p4, .val r105, .val r113, rv b118, rv b118, rv b186, rv r201] [])) _
        refine XS.iconst X223.here hx rfl (hb hby at_155) ?_
        show Steps p.tables e below (T223.setTop (mkF m 156 #[iv p0, iv p1, iv p2, iv p3, iv p4, .val r105, .val r113, rv b118, rv b118, rv b186, rv r201] [(.int (1 : Int32))])) _
        refine XS.goto X223.here hx rfl (pc0 := 156) (pc' := 160) rfl (hb hby at_156) (by decide) (by decide) ?_
        show Steps p.tables e below (T223.setTop (mkF m 160 #[iv p0, iv p1, iv p2, iv p3, iv p4, .val r105, .val r113, rv b118, rv b118, rv b186, rv r201] [(.int (1 : Int32))])) _
        exact kont
      obtain ⟨fs, hr, hrun, hended, hW, hsame⟩ := X223.leave (v := some (.int (1 : Int32))) (fun h => by rw [Bd.returns] at h; cases h)
      refine ⟨_, _, g226 _ (retN X223 hx (t := .boolean) Bd.returns (by simp) (hb hby at_160) hr), hrun, hended, _, _, rfl, ?_, ⟨_, rfl⟩, hW, hsame.mono (by decide) (by decide)⟩
      show Q_law Z p0 p1 p2 p3 p4 i_COMPACT_STRINGS w_EMPTY h0 n0 _ T223.heap _
      rw [e223]
      exact ⟨rfl, N223⟩
    have g227 : Go p e below T104 (mkF m 31 #[iv p0, iv p1, iv p2, iv p3, iv p4, .val r105, .unset, .unset, .unset, .unset, .unset] [(.int (1 : Int32)), (.int p3)]) A0 := by
      intro t kont
      refine g110 t ?_
      refine XS.ifNo X104.here hx rfl (hb hby at_23) rfl ((if0 _ _).trans (feq c109).1) ?_
      show Steps p.tables e below (T104.setTop (mkF m 26 #[iv p0, iv p1, iv p2, iv p3, iv p4, .val r105, .unset, .unset, .unset, .unset, .unset] [(.int p3)])) _
      refine XS.iconst X104.here hx rfl (hb hby at_26) ?_
      show Steps p.tables e below (T104.setTop (mkF m 27 #[iv p0, iv p1, iv p2, iv p3, iv p4, .val r105, .unset, .unset, .unset, .unset, .unset] [(.int (1 : Int32)), (.int p3)])) _
      refine XS.goto X104.here hx rfl (pc0 := 27) (pc' := 31) rfl (hb hby at_27) (by decide) (by decide) ?_
      show Steps p.tables e below (T104.setTop (mkF m 31 #[iv p0, iv p1, iv p2, iv p3, iv p4, .val r105, .unset, .unset, .unset, .unset, .unset] [(.int (1 : Int32)), (.int p3)])) _
      exact kont
    obtain ⟨_, _, ⟨T228, L228, k228, n228⟩, -, X228, ⟨Lc228, hQ228, l228, y228, z228⟩, st228⟩ := Jvm.LawKit.callS X104 hx (y := (⟨"com/example/subsume/subsume/engine/IndividualInequalityIndividualsPinLaw", "nameOf", "(IZ)Ljava/lang/String;"⟩ : MethodName)) hown (mvT hZ (hw _ (List.mem_of_getElem? (i := 0) rfl))) (mvT hZ (hw _ (List.mem_of_getElem? (i := 1) rfl))) (mvT hZ (hw _ (List.mem_of_getElem? (i := 2) rfl))) (mvT hZ (hw _ (List.mem_of_getElem? (i := 3) rfl))) (by decide) (backOf (W := 0) (rm_nameN l Z a0 hw [] p3 T104.heap n0 O107 ) hZ (hw _ (List.mem_of_getElem? (i := 3) rfl)) (hw _ (List.mem_of_getElem? (i := 2) rfl)) (by decide) (by decide)) (g := (mkF m 31 #[iv p0, iv p1, iv p2, iv p3, iv p4, .val r105, .unset, .unset, .unset, .unset, .unset] [(.int (1 : Int32)), (.int p3)])) rfl (by rw [hml]; rfl) (argsL := [(.int p3), (.int (1 : Int32))]) (rest := []) (lenOf pd_8 rfl) rfl (by show 2 * 0 + _ ≤ _; exact Nat.le_of_eq rfl) (hb hby at_31) (fun _ _ => ⟨rfl, rfl, (by decide : 2 + 0 ≤ _), (by decide : 5 + 0 ≤ _)⟩)
    dsimp only [Pt.U, Pt.locs, Pt.cells, Pt.slots] at X228 l228 y228 z228 st228 hQ228
    subst l228 y228 z228
    obtain ⟨r229, rfl, M228, K228, y230⟩ := hQ228
    have N228 := Fr.app N104 M228
    have O231 := O107.keep K228 all0
    have g232 : Go p e below T228 (mkF m 34 #[iv p0, iv p1, iv p2, iv p3, iv p4, .val r105, .unset, .unset, .unset, .unset, .unset] [r229]) A0 := fun t kont => g227 t (st228 t kont)
    have g233 : Go p e below T228 (mkF m 36 #[iv p0, iv p1, iv p2, iv p3, iv p4, .val r105, .val r229, .unset, .unset, .unset, .unset] []) A0 := by
      intro t kont
      refine g232 t ?_
      refine XS.astore X228.here hx rfl (hb hby at_34) rfl (y230) (l' := #[iv p0, iv p1, iv p2, iv p3, iv p4, .val r105, .val r229, .unset, .unset, .unset, .unset]) (XS.store1 (o := .unset) rfl (Or.inl rfl) (own_catV (y230))) ?_
      show Steps p.tables e below (T228.setTop (mkF m 36 #[iv p0, iv p1, iv p2, iv p3, iv p4, .val r105, .val r229, .unset, .unset, .unset, .unset] [])) _
      exact kont
    obtain ⟨T234, h234, X234, e234, E234, A234, D234, -, st234⟩ := newO X228 hx hZ hown (hw _ (List.mem_of_getElem? (i := 30) rfl)) (hw _ (List.mem_of_getElem? (i := 31) rfl)) (hw _ (List.mem_of_getElem? (i := 32) rfl)) rfl (g := (mkF m 36 #[iv p0, iv p1, iv p2, iv p3, iv p4, .val r105, .val r229, .unset, .unset, .unset, .unset] [])) rfl (hb hby at_36) (by decide) (by decide)
    obtain ⟨b234, gb234⟩ : ∃ z, z = T228.heap.size := ⟨_, rfl⟩
    rw [← gb234] at A234 D234 st234
    have O235 := O231.ext E234
    have y236 : Fld Z h234 b234 "com/example/subsume/subsume/engine/Individual" "name" "Ljava/lang/String;" .null := D234 (Or.inr (hw _ (List.mem_of_getElem? (i := 38) rfl))) (ty := (.object "java/lang/String")) (by decide)
    have y237 : Fld Z h234 b234 "com/example/subsume/subsume/engine/Individual" "id" "I" (.int (0 : Int32)) := D234 (Or.inr (hw _ (List.mem_of_getElem? (i := 40) rfl))) (ty := .int) (by decide)
    have g238 : Go p e below T234 (mkF m 39 #[iv p0, iv p1, iv p2, iv p3, iv p4, .val r105, .val r229, .unset, .unset, .unset, .unset] [(.ref b234)]) A0 := fun t kont => g233 t (st234 t kont)
    have g239 : Go p e below T234 (mkF m 43 #[iv p0, iv p1, iv p2, iv p3, iv p4, .val r105, .val r229, .unset, .unset, .unset, .unset] [(.int p0), r105, (.ref b234), (.ref b234)]) A0 := by
      intro t kont
      refine g238 t ?_
      refine XS.dup X234.here hx rfl (hb hby at_39) rfl rfl ?_
      show Steps p.tables e below (T234.setTop (mkF m 40 #[iv p0, iv p1, iv p2, iv p3, iv p4, .val r105, .val r229, .unset, .unset, .unset, .unset] [(.ref b234), (.ref b234)])) _
      refine XS.aload X234.here hx rfl (hb hby at_40) rfl (y106) ?_
      show Steps p.tables e below (T234.setTop (mkF m 42 #[iv p0, iv p1, iv p2, iv p3, iv p4, .val r105, .val r229, .unset, .unset, .unset, .unset] [r105, (.ref b234), (.ref b234)])) _
      refine XS.iloadN X234.here hx rfl (hb hby at_42) rfl ?_
      show Steps p.tables e below (T234.setTop (mkF m 43 #[iv p0, iv p1, iv p2, iv p3, iv p4, .val r105, .val r229, .unset, .unset, .unset, .unset] [(.int p0), r105, (.ref b234), (.ref b234)])) _
      exact kont
    have ge241 : n0 ≤ b234 := Nat.le_trans (own_old_le O231) (Nat.le_of_eq gb234.symm)
    obtain ⟨_, _, ⟨T240, L240, k240, n240⟩, -, X240, ⟨Lc240, hQ240, l240, y240, z240⟩, st240⟩ := X234.specialBack hx (y := (⟨"com/example/subsume/subsume/engine/Individual", "<init>", "(Ljava/lang/String;I)V"⟩ : MethodName)) rfl hown (mvT hZ (hw _ (List.mem_of_getElem? (i := 33) rfl))) (mvT hZ (hw _ (List.mem_of_getElem? (i := 34) rfl))) (mvT hZ (hw _ (List.mem_of_getElem? (i := 35) rfl))) (by decide) (backOf (W := 1) (rm_indI l Z a0 hw [] b234 r105 p0 h234 n0 O235 y106 y236 y237 A234 ge241) hZ (hw _ (List.mem_of_getElem? (i := 35) rfl)) (hw _ (List.mem_of_getElem? (i := 32) rfl)) (by decide) (by decide)) (g := (mkF m 43 #[iv p0, iv p1, iv p2, iv p3, iv p4, .val r105, .val r229, .unset, .unset, .unset, .unset] [(.int p0), r105, (.ref b234), (.ref b234)])) rfl (by rw [hml]; rfl) (Steps.refl _) (a := b234) (argsL := [r105, (.int p0)]) (rest := [(.ref b234)]) (lenOf pd_9 rfl) rfl (by show 2 * 0 + _ ≤ _; exact Nat.le_of_eq rfl) (hb hby at_43) (fun _ _ => ⟨rfl, e234, (by decide : 3 + 0 ≤ _), (by decide : 7 + 0 ≤ _)⟩)
    dsimp only [Pt.U, Pt.locs, Pt.cells, Pt.slots] at X240 l240 y240 z240 st240 hQ240
    subst l240 y240 z240
    obtain ⟨rfl, M240, K240, y242⟩ := hQ240
    have N240 := Fr.app N228 M240
    have O243 := O235.keep K240 (allS ge241 all0)
    have g244 : Go p e below T240 (mkF m 46 #[iv p0, iv p1, iv p2, iv p3, iv p4, .val r105, .val r229, .unset, .unset, .unset, .unset] [(.ref b234)]) A0 := fun t kont => g239 t (st240.trans kont)
    have g246 : Go p e below T240 (mkF m 52 #[iv p0, iv p1, iv p2, iv p3, iv p4, .val r105, .val r229, rv b234, .unset, .unset, .unset] [(.int (p4 &&& (4 : Int32)))]) A0 := by
      intro t kont
      refine g244 t ?_
      refine XS.astore X240.here hx rfl (hb hby at_46) rfl rfl (l' := #[iv p0, iv p1, iv p2, iv p3, iv p4, .val r105, .val r229, rv b234, .unset, .unset, .unset]) rfl ?_
      show Steps p.tables e below (T240.setTop (mkF m 48 #[iv p0, iv p1, iv p2, iv p3, iv p4, .val r105, .val r229, rv b234, .unset, .unset, .unset] [])) _
      refine XS.iload X240.here hx rfl (hb hby at_48) rfl ?_
      show Steps p.tables e below (T240.setTop (mkF m 50 #[iv p0, iv p1, iv p2, iv p3, iv p4, .val r105, .val r229, rv b234, .unset, .unset, .unset] [(.int p4)])) _
      refine XS.iconst X240.here hx rfl (hb hby at_50) ?_
      show Steps p.tables e below (T240.setTop (mkF m 51 #[iv p0, iv p1, iv p2, iv p3, iv p4, .val r105, .val r229, rv b234, .unset, .unset, .unset] [(.int (4 : Int32)), (.int p4)])) _
      refine XS.iand X240.here hx rfl (hb hby at_51) rfl ?_
      show Steps p.tables e below (T240.setTop (mkF m 52 #[iv p0, iv p1, iv p2, iv p3, iv p4, .val r105, .val r229, rv b234, .unset, .unset, .unset] [(.int (p4 &&& (4 : Int32)))])) _
      exact kont
    by_cases c245 : (p4 &&& (4 : Int32)) = (0 : Int32)
    ·
      have g247 : Go p e below T240 (mkF m 60 #[iv p0, iv p1, iv p2, iv p3, iv p4, .val r105, .val r229, rv b234, .unset, .unset, .unset] []) A0 := by
        intro t kont
        refine g246 t ?_
        refine XS.ifYes X240.here hx rfl (pc0 := 52) (pc' := 60) rfl (hb hby at_52) rfl ((if0 _ _).trans (teq c245).1) (by decide) (by decide) ?_
        show Steps p.tables e below (T240.setTop (mkF m 60 #[iv p0, iv p1, iv p2, iv p3, iv p4, .val r105, .val r229, rv b234, .unset, .unset, .unset] [])) _
        exact kont
      obtain ⟨T248, h248, X248, e248, E248, A248, D248, -, st248⟩ := newO X240 hx hZ hown (hw _ (List.mem_of_getElem? (i := 30) rfl)) (hw _ (List.mem_of_getElem? (i := 31) rfl)) (hw _ (List.mem_of_getElem? (i := 32) rfl)) rfl (g := (mkF m 60 #[iv p0, iv p1, iv p2, iv p3, iv p4, .val r105, .val r229, rv b234, .unset, .unset, .unset] [])) rfl (hb hby at_60) (by decide) (by decide)
      obtain ⟨b248, gb248⟩ : ∃ z, z = T240.heap.size := ⟨_, rfl⟩
      rw [← gb248] at A248 D248 st248
      have O249 := O243.ext E248
      have y250 : Fld Z h248 b248 "com/example/subsume/subsume/engine/Individual" "name" "Ljava/lang/String;" .null := D248 (Or.inr (hw _ (List.mem_of_getElem? (i := 38) rfl))) (ty := (.object "java/lang/String")) (by decide)
      have y251 : Fld Z h248 b248 "com/example/subsume/subsume/engine/Individual" "id" "I" (.int (0 : Int32)) := D248 (Or.inr (hw _ (List.mem_of_getElem? (i := 40) rfl))) (ty := .int) (by decide)
      have g252 : Go p e below T248 (mkF m 63 #[iv p0, iv p1, iv p2, iv p3, iv p4, .val r105, .val r229, rv b234, .unset, .unset, .unset] [(.ref b248)]) A0 := fun t kont => g247 t (st248 t kont)
      have g253 : Go p e below T248 (mkF m 67 #[iv p0, iv p1, iv p2, iv p3, iv p4, .val r105, .val r229, rv b234, .unset, .unset, .unset] [(.int p1), r229, (.ref b248), (.ref b248)]) A0 := by
        intro t kont
        refine g252 t ?_
        refine XS.dup X248.here hx rfl (hb hby at_63) rfl rfl ?_
        show Steps p.tables e below (T248.setTop (mkF m 64 #[iv p0, iv p1, iv p2, iv p3, iv p4, .val r105, .val r229, rv b234, .unset, .unset, .unset] [(.ref b248), (.ref b248)])) _
        refine XS.aload X248.here hx rfl (hb hby at_64) rfl (y230) ?_
        show Steps p.tables e below (T248.setTop (mkF m 66 #[iv p0, iv p1, iv p2, iv p3, iv p4, .val r105, .val r229, rv b234, .unset, .unset, .unset] [r229, (.ref b248), (.ref b248)])) _
        refine XS.iloadN X248.here hx rfl (hb hby at_66) rfl ?_
        show Steps p.tables e below (T248.setTop (mkF m 67 #[iv p0, iv p1, iv p2, iv p3, iv p4, .val r105, .val r229, rv b234, .unset, .unset, .unset] [(.int p1), r229, (.ref b248), (.ref b248)])) _
        exact kont
      have ge255 : n0 ≤ b248 := Nat.le_trans (own_old_le O243) (Nat.le_of_eq gb248.symm)
      obtain ⟨_, _, ⟨T254, L254, k254, n254⟩, -, X254, ⟨Lc254, hQ254, l254, y254, z254⟩, st254⟩ := X248.specialBack hx (y := (⟨"com/example/subsume/subsume/engine/Individual", "<init>", "(Ljava/lang/String;I)V"⟩ : MethodName)) rfl hown (mvT hZ (hw _ (List.mem_of_getElem? (i := 33) rfl))) (mvT hZ (hw _ (List.mem_of_getElem? (i := 34) rfl))) (mvT hZ (hw _ (List.mem_of_getElem? (i := 35) rfl))) (by decide) (backOf (W := 1) (rm_indI l Z a0 hw [] b248 r229 p1 h248 n0 O249 y230 y250 y251 A248 ge255) hZ (hw _ (List.mem_of_getElem? (i := 35) rfl)) (hw _ (List.mem_of_getElem? (i := 32) rfl)) (by decide) (by decide)) (g := (mkF m 67 #[iv p0, iv p1, iv p2, iv p3, iv p4, .val r105, .val r229, rv b234, .unset, .unset, .unset] [(.int p1), r229, (.ref b248), (.ref b248)])) rfl (by rw [hml]; rfl) (Steps.refl _) (a := b248) (argsL := [r229, (.int p1)]) (rest := [(.ref b248)]) (lenOf pd_9 rfl) rfl (by show 2 * 0 + _ ≤ _; exact Nat.le_of_eq rfl) (hb hby at_67) (fun _ _ => ⟨rfl, e248, (by decide : 4 + 0 ≤ _), (by decide : 9 + 0 ≤ _)⟩)
      dsimp only [Pt.U, Pt.locs, Pt.cells, Pt.slots] at X254 l254 y254 z254 st254 hQ254
      subst l254 y254 z254
      obtain ⟨rfl, M254, K254, y256⟩ := hQ254
      have N254 := Fr.app N240 M254
      have O257 := O249.keep K254 (allS ge255 all0)
      have g258 : Go p e below T254 (mkF m 70 #[iv p0, iv p1, iv p2, iv p3, iv p4, .val r105, .val r229, rv b234, .unset, .unset, .unset] [(.ref b248)]) A0 := fun t kont => g253 t (st254.trans kont)
      have g259 : Go p e below T254 (mkF m 72 #[iv p0, iv p1, iv p2, iv p3, iv p4, .val r105, .val r229, rv b234, rv b248, .unset, .unset] []) A0 := by
        intro t kont
        refine g258 t ?_
        refine XS.astore X254.here hx rfl (hb hby at_70) rfl rfl (l' := #[iv p0, iv p1, iv p2, iv p3, iv p4, .val r105, .val r229, rv b234, rv b248, .unset, .unset]) rfl ?_
        show Steps p.tables e below (T254.setTop (mkF m 72 #[iv p0, iv p1, iv p2, iv p3, iv p4, .val r105, .val r229, rv b234, rv b248, .unset, .unset] [])) _
        exact kont
      obtain ⟨T260, h260, X260, e260, E260, A260, D260, -, st260⟩ := newO X254 hx hZ hown (hw _ (List.mem_of_getElem? (i := 41) rfl)) (hw _ (List.mem_of_getElem? (i := 42) rfl)) (hw _ (List.mem_of_getElem? (i := 43) rfl)) rfl (g := (mkF m 72 #[iv p0, iv p1, iv p2, iv p3, iv p4, .val r105, .val r229, rv b234, rv b248, .unset, .unset] [])) rfl (hb hby at_72) (by decide) (by decide)
      obtain ⟨b260, gb260⟩ : ∃ z, z = T254.heap.size := ⟨_, rfl⟩
      rw [← gb260] at A260 D260 st260
      have O261 := O257.ext E260
      have y262 : Fld Z h260 b260 "com/example/subsume/subsume/engine/IndividualInequality" "individual" "Lcom/example/subsume/subsume/engine/Individual;" .null := D260 (Or.inr (hw _ (List.mem_of_getElem? (i := 54) rfl))) (ty := (.object "com/example/subsume/subsume/engine/Individual")) (by decide)
      have y263 : Fld Z h260 b260 "com/example/subsume/subsume/engine/IndividualInequality" "other" "Lcom/example/subsume/subsume/engine/Individual;" .null := D260 (Or.inr (hw _ (List.mem_of_getElem? (i := 56) rfl))) (ty := (.object "com/example/subsume/subsume/engine/Individual")) (by decide)
      have g264 : Go p e below T260 (mkF m 75 #[iv p0, iv p1, iv p2, iv p3, iv p4, .val r105, .val r229, rv b234, rv b248, .unset, .unset] [(.ref b260)]) A0 := fun t kont => g259 t (st260 t kont)
      have g265 : Go p e below T260 (mkF m 80 #[iv p0, iv p1, iv p2, iv p3, iv p4, .val r105, .val r229, rv b234, rv b248, .unset, .unset] [(.ref b248), (.ref b234), (.ref b260), (.ref b260)]) A0 := by
        intro t kont
        refine g264 t ?_
        refine XS.dup X260.here hx rfl (hb hby at_75) rfl rfl ?_
        show Steps p.tables e below (T260.setTop (mkF m 76 #[iv p0, iv p1, iv p2, iv p3, iv p4, .val r105, .val r229, rv b234, rv b248, .unset, .unset] [(.ref b260), (.ref b260)])) _
        refine XS.aload X260.here hx rfl (hb hby at_76) rfl rfl ?_
        show Steps p.tables e below (T260.setTop (mkF m 78 #[iv p0, iv p1, iv p2, iv p3, iv p4, .val r105, .val r229, rv b234, rv b248, .unset, .unset] [(.ref b234), (.ref b260), (.ref b260)])) _
        refine XS.aload X260.here hx rfl (hb hby at_78) rfl rfl ?_
        show Steps p.tables e below (T260.setTop (mkF m 80 #[iv p0, iv p1, iv p2, iv p3, iv p4, .val r105, .val r229, rv b234, rv b248, .unset, .unset] [(.ref b248), (.ref b234), (.ref b260), (.ref b260)])) _
        exact kont
      have ge267 : n0 ≤ b260 := Nat.le_trans (own_old_le O257) (Nat.le_of_eq gb260.symm)
      obtain ⟨_, _, ⟨T266, L266, k266, n266⟩, -, X266, ⟨Lc266, hQ266, l266, y266, z266⟩, st266⟩ := X260.specialBack hx (y := (⟨"com/example/subsume/subsume/engine/IndividualInequality", "<init>", "(Lcom/example/subsume/subsume/engine/Individual;Lcom/example/subsume/subsume/engine/Individual;)V"⟩ : MethodName)) rfl hown (mvT hZ (hw _ (List.mem_of_getElem? (i := 44) rfl))) (mvT hZ (hw _ (List.mem_of_getElem? (i := 45) rfl))) (mvT hZ (hw _ (List.mem_of_getElem? (i := 46) rfl))) (by decide) (backOf (W := 1) (rm_relI l Z a0 hw [] b260 b234 b248 h260 n0 O261 y262 y263 A260 ge267) hZ (hw _ (List.mem_of_getElem? (i := 46) rfl)) (hw _ (List.mem_of_getElem? (i := 43) rfl)) (by decide) (by decide)) (g := (mkF m 80 #[iv p0, iv p1, iv p2, iv p3, iv p4, .val r105, .val r229, rv b234, rv b248, .unset, .unset] [(.ref b248), (.ref b234), (.ref b260), (.ref b260)])) rfl (by rw [hml]; rfl) (Steps.refl _) (a := b260) (argsL := [(.ref b234), (.ref b248)]) (rest := [(.ref b260)]) (lenOf pd_10 rfl) rfl (by show 2 * 0 + _ ≤ _; exact Nat.le_of_eq rfl) (hb hby at_80) (fun _ _ => ⟨rfl, e260, (by decide : 5 + 0 ≤ _), (by decide : 11 + 0 ≤ _)⟩)
      dsimp only [Pt.U, Pt.locs, Pt.cells, Pt.slots] at X266 l266 y266 z266 st266 hQ266
      subst l266 y266 z266
      obtain ⟨rfl, M266, K266, y268, y269, y270⟩ := hQ266
      have N266 := Fr.app N254 M266
      have O271 := O261.keep K266 (allS ge267 all0)
      have g272 : Go p e below T266 (mkF m 83 #[iv p0, iv p1, iv p2, iv p3, iv p4, .val r105, .val r229, rv b234, rv b248, .unset, .unset] [(.ref b260)]) A0 := fun t kont => g265 t (st266.trans kont)
      have g273 : Go p e below T266 (mkF m 87 #[iv p0, iv p1, iv p2, iv p3, iv p4, .val r105, .val r229, rv b234, rv b248, rv b260, .unset] [(.ref b260)]) A0 := by
        intro t kont
        refine g272 t ?_
        refine XS.astore X266.here hx rfl (hb hby at_83) rfl rfl (l' := #[iv p0, iv p1, iv p2, iv p3, iv p4, .val r105, .val r229, rv b234, rv b248, rv b260, .unset]) rfl ?_
        show Steps p.tables e below (T266.setTop (mkF m 85 #[iv p0, iv p1, iv p2, iv p3, iv p4, .val r105, .val r229, rv b234, rv b248, rv b260, .unset] [])) _
        refine XS.aload X266.here hx rfl (hb hby at_85) rfl rfl ?_
        show Steps p.tables e below (T266.setTop (mkF m 87 #[iv p0, iv p1, iv p2, iv p3, iv p4, .val r105, .val r229, rv b234, rv b248, rv b260, .unset] [(.ref b260)])) _
        exact kont
      obtain ⟨cq274, kq274, q274a, q274b, q274c⟩ := isOf hZ rfl y268
      obtain ⟨_, _, ⟨T274, L274, k274, n274⟩, -, X274, ⟨Lc274, hQ274, l274, y274, z274⟩, st274⟩ := X266.virtualBack hx (y := (⟨"com/example/subsume/subsume/engine/IndividualInequality", "individuals", "()Ljava/util/List;"⟩ : MethodName)) (z := (⟨"com/example/subsume/subsume/engine/IndividualInequality", "individuals", "()Ljava/util/List;"⟩ : MethodName)) hown (mvT hZ (hw _ (List.mem_of_getElem? (i := 57) rfl))) (mvT hZ (hw _ (List.mem_of_getElem? (i := 58) rfl))) (notFace_of_selects (args := #[]) (mvT hZ (hw _ (List.mem_of_getElem? (i := 60) rfl)))) (mvT hZ (hw _ (List.mem_of_getElem? (i := 60) rfl))) (mvT hZ (hw _ (List.mem_of_getElem? (i := 59) rfl))) (by decide) (backOf (W := 0) (rm_inds l Z a0 hw [] b260 b234 b248 T266.heap n0 O271 y269 y270) hZ (hw _ (List.mem_of_getElem? (i := 61) rfl)) (hw _ (List.mem_of_getElem? (i := 43) rfl)) (by decide) (by decide)) q274a q274c (g := (mkF m 87 #[iv p0, iv p1, iv p2, iv p3, iv p4, .val r105, .val r229, rv b234, rv b248, rv b260, .unset] [(.ref b260)])) rfl (by rw [hml]; rfl) (Steps.refl _) (argsL := []) (rest := []) (lenOf pd_11 rfl) rfl (by show 2 * 0 + _ ≤ _; exact Nat.le_of_eq rfl) (hb hby at_87) (fun _ _ => ⟨rfl, rfl, (by decide : 5 + 1 ≤ _), (by decide : 11 + 2 ≤ _)⟩)
      dsimp only [Pt.U, Pt.locs, Pt.cells, Pt.slots] at X274 l274 y274 z274 st274 hQ274
      subst l274 y274 z274
      obtain ⟨r275, rfl, M274, K274, y276, y277, y278, y279⟩ := hQ274
      have N274 := Fr.app N266 M274
      have O280 := O271.keep K274 all0
      have g281 : Go p e below T274 (mkF m 90 #[iv p0, iv p1, iv p2, iv p3, iv p4, .val r105, .val r229, rv b234, rv b248, rv b260, .unset] [(.ref r275)]) A0 := fun t kont => g273 t (st274.trans kont)
      have g282 : Go p e below T274 (mkF m 94 #[iv p0, iv p1, iv p2, iv p3, iv p4, .val r105, .val r229, rv b234, rv b248, rv b260, rv r275] [(.ref r275)]) A0 := by
        intro t kont
        refine g281 t ?_
        refine XS.astore X274.here hx rfl (hb hby at_90) rfl rfl (l' := #[iv p0, iv p1, iv p2, iv p3, iv p4, .val r105, .val r229, rv b234, rv b248, rv b260, rv r275]) rfl ?_
        show Steps p.tables e below (T274.setTop (mkF m 92 #[iv p0, iv p1, iv p2, iv p3, iv p4, .val r105, .val r229, rv b234, rv b248, rv b260, rv r275] [])) _
        refine XS.aload X274.here hx rfl (hb hby at_92) rfl rfl ?_
        show Steps p.tables e below (T274.setTop (mkF m 94 #[iv p0, iv p1, iv p2, iv p3, iv p4, .val r105, .val r229, rv b234, rv b248, rv b260, rv r275] [(.ref r275)])) _
        exact kont
      obtain ⟨cq283, kq283, q283a, q283b, q283c⟩ := isOf hZ rfl y277
      obtain ⟨_, _, ⟨T283, L283, k283, n283⟩, -, X283, ⟨Lc283, hQ283, l283, y283, z283⟩, st283⟩ := X274.interfaceBack hx (xi := (⟨"java/util/List", "size", "()I"⟩ : MethodName)) (y := (⟨"java/util/ImmutableCollections$List12", "size", "()I"⟩ : MethodName)) hown (mvT hZ (hw _ (List.mem_of_getElem? (i := 100) rfl))) (mvT hZ (hw _ (List.mem_of_getElem? (i := 101) rfl))) (mvT hZ (hw _ (List.mem_of_getElem? (i := 102) rfl))) (mvT hZ (hw _ (List.mem_of_getElem? (i := 103) rfl))) (mvT hZ (hw _ (List.mem_of_getElem? (i := 104) rfl))) (mvT hZ (hw _ (List.mem_of_getElem? (i := 105) rfl))) (mvT hZ (hw _ (List.mem_of_getElem? (i := 106) rfl))) (mvT hZ (hw _ (List.mem_of_getElem? (i := 107) rfl))) (by decide) (backOf (W := 0) (rm_siz l Z a0 hw [] r275 b248 w_EMPTY T274.heap n0 O280 y279 S1_ (Ne.symm (O280.ne ZE3_.lt ge255))) hZ (hw _ (List.mem_of_getElem? (i := 108) rfl)) (hw _ (List.mem_of_getElem? (i := 68) rfl)) (by decide) (by decide)) q283a q283b q283c (g := (mkF m 94 #[iv p0, iv p1, iv p2, iv p3, iv p4, .val r105, .val r229, rv b234, rv b248, rv b260, rv r275] [(.ref r275)])) rfl (by rw [hml]; rfl) (Steps.refl _) (argsL := []) (rest := []) (lenOf pd_12 rfl) rfl (by show 2 * 0 + _ ≤ _; exact Nat.le_of_eq rfl) (hb hby at_94) (fun _ _ => ⟨rfl, rfl, (by decide : 6 + 0 ≤ _), (by decide : 13 + 0 ≤ _)⟩)
      dsimp only [Pt.U, Pt.locs, Pt.cells, Pt.slots] at X283 l283 y283 z283 st283 hQ283
      subst l283 y283 z283
      obtain ⟨rfl, M283, e283⟩ := hQ283
      have N283 := Fr.app N274 M283
      have g284 : Go p e below T283 (mkF m 99 #[iv p0, iv p1, iv p2, iv p3, iv p4, .val r105, .val r229, rv b234, rv b248, rv b260, rv r275] [(.int (2 : Int32))]) A0 := fun t kont => g282 t (st283.trans kont)
      have g285 : Go p e below T283 (mkF m 108 #[iv p0, iv p1, iv p2, iv p3, iv p4, .val r105, .val r229, rv b234, rv b248, rv b260, rv r275] [(.int (0 : Int32)), (.ref r275)]) A0 := by
        intro t kont
        refine g284 t ?_
        refine XS.iconst X283.here hx rfl (hb hby at_99) ?_
        show Steps p.tables e below (T283.setTop (mkF m 100 #[iv p0, iv p1, iv p2, iv p3, iv p4, .val r105, .val r229, rv b234, rv b248, rv b260, rv r275] [(.int (2 : Int32)), (.int (2 : Int32))])) _
        refine XS.icmpYes X283.here hx rfl (pc0 := 100) (pc' := 105) rfl (hb hby at_100) rfl (teq (by decide : (2 : Int32) = (2 : Int32))).1 (by decide) (by decide) ?_
        show Steps p.tables e below (T283.setTop (mkF m 105 #[iv p0, iv p1, iv p2, iv p3, iv p4, .val r105, .val r229, rv b234, rv b248, rv b260, rv r275] [])) _
        refine XS.aload X283.here hx rfl (hb hby at_105) rfl rfl ?_
        show Steps p.tables e below (T283.setTop (mkF m 107 #[iv p0, iv p1, iv p2, iv p3, iv p4, .val r105, .val r229, rv b234, rv b248, rv b260, rv r275] [(.ref r275)])) _
        refine XS.iconst X283.here hx rfl (hb hby at_107) ?_
        show Steps p.tables e below (T283.setTop (mkF m 108 #[iv p0, iv p1, iv p2, iv p3, iv p4, .val r105, .val r229, rv b234, rv b248, rv b260, rv r275] [(.int (0 : Int32)), (.ref r275)])) _
        exact kont
      obtain ⟨cq286, kq286, q286a, q286b, q286c⟩ := isOf hZ e283 y277
      obtain ⟨_, _, ⟨T286, L286, k286, n286⟩, -, X286, ⟨Lc286, hQ286, l286, y286, z286⟩, st286⟩ := X283.interfaceBack hx (xi := (⟨"java/util/List", "get", "(I)Ljava/lang/Object;"⟩ : MethodName)) (y := (⟨"java/util/ImmutableCollections$List12", "get", "(I)Ljava/lang/Object;"⟩ : MethodName)) hown (mvT hZ (hw _ (List.mem_of_getElem? (i := 111) rfl))) (mvT hZ (hw _ (List.mem_of_getElem? (i := 112) rfl))) (mvT hZ (hw _ (List.mem_of_getElem? (i := 113) rfl))) (mvT hZ (hw _ (List.mem_of_getElem? (i := 114) rfl))) (mvT hZ (hw _ (List.mem_of_getElem? (i := 115) rfl))) (mvT hZ (hw _ (List.mem_of_getElem? (i := 116) rfl))) (mvT hZ (hw _ (List.mem_of_getElem? (i := 117) rfl))) (mvT hZ (hw _ (List.mem_of_getElem? (i := 107) rfl))) (by decide) (backOf (W := 0) (rm_get0 l Z a0 hw [] r275 b234 T274.heap n0 O280 y278) hZ (hw _ (List.mem_of_getElem? (i := 118) rfl)) (hw _ (List.mem_of_getElem? (i := 68) rfl)) (by decide) (by decide)) q286a q286b q286c (g := (mkF m 108 #[iv p0, iv p1, iv p2, iv p3, iv p4, .val r105, .val r229, rv b234, rv b248, rv b260, rv r275] [(.int (0 : Int32)), (.ref r275)])) rfl (by rw [hml]; rfl) (Steps.refl _) (argsL := [(.int (0 : Int32))]) (rest := []) (lenOf pd_13 rfl) rfl (by show 2 * 0 + _ ≤ _; exact Nat.le_of_eq rfl) (hb hby at_108) (fun _ _ => ⟨rfl, e283, (by decide : 6 + 0 ≤ _), (by decide : 13 + 0 ≤ _)⟩)
      dsimp only [Pt.U, Pt.locs, Pt.cells, Pt.slots] at X286 l286 y286 z286 st286 hQ286
      subst l286 y286 z286
      obtain ⟨rfl, M286, e286⟩ := hQ286
      have N286 := Fr.app N283 M286
      have g287 : Go p e below T286 (mkF m 113 #[iv p0, iv p1, iv p2, iv p3, iv p4, .val r105, .val r229, rv b234, rv b248, rv b260, rv r275] [(.ref b234)]) A0 := fun t kont => g285 t (st286.trans kont)
      have g288 : Go p e below T286 (mkF m 123 #[iv p0, iv p1, iv p2, iv p3, iv p4, .val r105, .val r229, rv b234, rv b248, rv b260, rv r275] [(.int (1 : Int32)), (.ref r275)]) A0 := by
        intro t kont
        refine g287 t ?_
        refine XS.aload X286.here hx rfl (hb hby at_113) rfl rfl ?_
        show Steps p.tables e below (T286.setTop (mkF m 115 #[iv p0, iv p1, iv p2, iv p3, iv p4, .val r105, .val r229, rv b234, rv b248, rv b260, rv r275] [(.ref b234), (.ref b234)])) _
        refine Jvm.RoadKit.acmp (g := (mkF m 115 #[iv p0, iv p1, iv p2, iv p3, iv p4, .val r105, .val r229, rv b234, rv b248, rv b260, rv r275] [(.ref b234), (.ref b234)])) X286 hx rfl rfl rfl (pc0 := 115) (pc' := 120) (same := true) rfl (hb hby at_115) rfl (decide_eq_true rfl) (by decide) (by decide) ?_
        show Steps p.tables e below (T286.setTop (mkF m 120 #[iv p0, iv p1, iv p2, iv p3, iv p4, .val r105, .val r229, rv b234, rv b248, rv b260, rv r275] [])) _
        refine XS.aload X286.here hx rfl (hb hby at_120) rfl rfl ?_
        show Steps p.tables e below (T286.setTop (mkF m 122 #[iv p0, iv p1, iv p2, iv p3, iv p4, .val r105, .val r229, rv b234, rv b248, rv b260, rv r275] [(.ref r275)])) _
        refine XS.iconst X286.here hx rfl (hb hby at_122) ?_
        show Steps p.tables e below (T286.setTop (mkF m 123 #[iv p0, iv p1, iv p2, iv p3, iv p4, .val r105, .val r229, rv b234, rv b248, rv b260, rv r275] [(.int (1 : Int32)), (.ref r275)])) _
        exact kont
      obtain ⟨cq289, kq289, q289a, q289b, q289c⟩ := isOf hZ e286 y277
      obtain ⟨_, _, ⟨T289, L289, k289, n289⟩, -, X289, ⟨Lc289, hQ289, l289, y289, z289⟩, st289⟩ := X286.interfaceBack hx (xi := (⟨"java/util/List", "get", "(I)Ljava/lang/Object;"⟩ : MethodName)) (y := (⟨"java/util/ImmutableCollections$List12", "get", "(I)Ljava/lang/Object;"⟩ : MethodName)) hown (mvT hZ (hw _ (List.mem_of_getElem? (i := 111) rfl))) (mvT hZ (hw _ (List.mem_of_getElem? (i := 112) rfl))) (mvT hZ (hw _ (List.mem_of_getElem? (i := 113) rfl))) (mvT hZ (hw _ (List.mem_of_getElem? (i := 114) rfl))) (mvT hZ (hw _ (List.mem_of_getElem? (i := 115) rfl))) (mvT hZ (hw _ (List.mem_of_getElem? (i := 116) rfl))) (mvT hZ (hw _ (List.mem_of_getElem? (i := 117) rfl))) (mvT hZ (hw _ (List.mem_of_getElem? (i := 107) rfl))) (by decide) (backOf (W := 0) (rm_get1 l Z a0 hw [] r275 b248 w_EMPTY T274.heap n0 O280 y279 S1_ (Ne.symm (O280.ne ZE3_.lt ge255))) hZ (hw _ (List.mem_of_getElem? (i := 118) rfl)) (hw _ (List.mem_of_getElem? (i := 68) rfl)) (by decide) (by decide)) q289a q289b q289c (g := (mkF m 123 #[iv p0, iv p1, iv p2, iv p3, iv p4, .val r105, .val r229, rv b234, rv b248, rv b260, rv r275] [(.int (1 : Int32)), (.ref r275)])) rfl (by rw [hml]; rfl) (Steps.refl _) (argsL := [(.int (1 : Int32))]) (rest := []) (lenOf pd_13 rfl) rfl (by show 2 * 0 + _ ≤ _; exact Nat.le_of_eq rfl) (hb hby at_123) (fun _ _ => ⟨rfl, e286, (by decide : 6 + 0 ≤ _), (by decide : 13 + 0 ≤ _)⟩)
      dsimp only [Pt.U, Pt.locs, Pt.cells, Pt.slots] at X289 l289 y289 z289 st289 hQ289
      subst l289 y289 z289
      obtain ⟨rfl, M289, e289⟩ := hQ289
      have N289 := Fr.app N286 M289
      have g290 : Go p e below T289 (mkF m 128 #[iv p0, iv p1, iv p2, iv p3, iv p4, .val r105, .val r229, rv b234, rv b248, rv b260, rv r275] [(.ref b248)]) A0 := fun t kont => g288 t (st289.trans kont)
      have g291 : Go p e below T289 (mkF m 137 #[iv p0, iv p1, iv p2, iv p3, iv p4, .val r105, .val r229, rv b234, rv b248, rv b260, rv r275] [(.ref b260)]) A0 := by
        intro t kont
        refine g290 t ?_
        refine XS.aload X289.here hx rfl (hb hby at_128) rfl rfl ?_
        show Steps p.tables e below (T289.setTop (mkF m 130 #[iv p0, iv p1, iv p2, iv p3, iv p4, .val r105, .val r229, rv b234, rv b248, rv b260, rv r275] [(.ref b248), (.ref b248)])) _
        refine Jvm.RoadKit.acmp (g := (mkF m 130 #[iv p0, iv p1, iv p2, iv p3, iv p4, .val r105, .val r229, rv b234, rv b248, rv b260, rv r275] [(.ref b248), (.ref b248)])) X289 hx rfl rfl rfl (pc0 := 130) (pc' := 135) (same := true) rfl (hb hby at_130) rfl (decide_eq_true rfl) (by decide) (by decide) ?_
        show Steps p.tables e below (T289.setTop (mkF m 135 #[iv p0, iv p1, iv p2, iv p3, iv p4, .val r105, .val r229, rv b234, rv b248, rv b260, rv r275] [])) _
        refine XS.aload X289.here hx rfl (hb hby at_135) rfl rfl ?_
        show Steps p.tables e below (T289.setTop (mkF m 137 #[iv p0, iv p1, iv p2, iv p3, iv p4, .val r105, .val r229, rv b234, rv b248, rv b260, rv r275] [(.ref b260)])) _
        exact kont
      have y293 : Exa Z T274.heap b260 "com/example/subsume/subsume/engine/IndividualInequality" := (y268.keep K274)
      have y294 : Fld Z T274.heap b260 "com/example/subsume/subsume/engine/IndividualInequality" "individual" "Lcom/example/subsume/subsume/engine/Individual;" (.ref b234) := (y269.keep K274 nin0)
      obtain ⟨cq292, kq292, q292a, q292b, q292c⟩ := isOf hZ e289 y293
      obtain ⟨_, _, ⟨T292, L292, k292, n292⟩, -, X292, ⟨Lc292, hQ292, l292, y292, z292⟩, st292⟩ := X289.virtualBack hx (y := (⟨"com/example/subsume/subsume/engine/IndividualInequality", "individual", "()Lcom/example/subsume/subsume/engine/Individual;"⟩ : MethodName)) (z := (⟨"com/example/subsume/subsume/engine/IndividualInequality", "individual", "()Lcom/example/subsume/subsume/engine/Individual;"⟩ : MethodName)) hown (mvT hZ (hw _ (List.mem_of_getElem? (i := 119) rfl))) (mvT hZ (hw _ (List.mem_of_getElem? (i := 120) rfl))) (notFace_of_selects (args := #[]) (mvT hZ (hw _ (List.mem_of_getElem? (i := 122) rfl)))) (mvT hZ (hw _ (List.mem_of_getElem? (i := 122) rfl))) (mvT hZ (hw _ (List.mem_of_getElem? (i := 121) rfl))) (by decide) (backOf (W := 0) (rm_rInd l Z a0 hw [] b260 b234 T274.heap n0 O280 y294) hZ (hw _ (List.mem_of_getElem? (i := 123) rfl)) (hw _ (List.mem_of_getElem? (i := 43) rfl)) (by decide) (by decide)) q292a q292c (g := (mkF m 137 #[iv p0, iv p1, iv p2, iv p3, iv p4, .val r105, .val r229, rv b234, rv b248, rv b260, rv r275] [(.ref b260)])) rfl (by rw [hml]; rfl) (Steps.refl _) (argsL := []) (rest := []) (lenOf pd_14 rfl) rfl (by show 2 * 0 + _ ≤ _; exact Nat.le_of_eq rfl) (hb hby at_137) (fun _ _ => ⟨rfl, e289, (by decide : 6 + 0 ≤ _), (by decide : 13 + 0 ≤ _)⟩)
      dsimp only [Pt.U, Pt.locs, Pt.cells, Pt.slots] at X292 l292 y292 z292 st292 hQ292
      subst l292 y292 z292
      obtain ⟨rfl, M292, e292⟩ := hQ292
      have N292 := Fr.app N289 M292
      have g295 : Go p e below T292 (mkF m 140 #[iv p0, iv p1, iv p2, iv p3, iv p4, .val r105, .val r229, rv b234, rv b248, rv b260, rv r275] [(.ref b234)]) A0 := fun t kont => g291 t (st292.trans kont)
      have g296 : Go p e below T292 (mkF m 147 #[iv p0, iv p1, iv p2, iv p3, iv p4, .val r105, .val r229, rv b234, rv b248, rv b260, rv r275] [(.ref b260)]) A0 := by
        intro t kont
        refine g295 t ?_
        refine XS.aload X292.here hx rfl (hb hby at_140) rfl rfl ?_
        show Steps p.tables e below (T292.setTop (mkF m 142 #[iv p0, iv p1, iv p2, iv p3, iv p4, .val r105, .val r229, rv b234, rv b248, rv b260, rv r275] [(.ref b234), (.ref b234)])) _
        refine Jvm.RoadKit.acmp (g := (mkF m 142 #[iv p0, iv p1, iv p2, iv p3, iv p4, .val r105, .val r229, rv b234, rv b248, rv b260, rv r275] [(.ref b234), (.ref b234)])) X292 hx rfl rfl rfl (pc0 := 142) (pc' := 145) (same := true) rfl (hb hby at_142) rfl (decide_eq_true rfl) (by decide) (by decide) ?_
        show Steps p.tables e below (T292.setTop (mkF m 145 #[iv p0, iv p1, iv p2, iv p3, iv p4, .val r105, .val r229, rv b234, rv b248, rv b260, rv r275] [])) _
        refine XS.aload X292.here hx rfl (hb hby at_145) rfl rfl ?_
        show Steps p.tables e below (T292.setTop (mkF m 147 #[iv p0, iv p1, iv p2, iv p3, iv p4, .val r105, .val r229, rv b234, rv b248, rv b260, rv r275] [(.ref b260)])) _
        exact kont
      have y298 : Fld Z T274.heap b260 "com/example/subsume/subsume/engine/IndividualInequality" "other" "Lcom/example/subsume/subsume/engine/Individual;" (.ref b248) := (y270.keep K274 nin0)
      obtain ⟨cq297, kq297, q297a, q297b, q297c⟩ := isOf hZ e292 y293
      obtain ⟨_, _, ⟨T297, L297, k297, n297⟩, -, X297, ⟨Lc297, hQ297, l297, y297, z297⟩, st297⟩ := X292.virtualBack hx (y := (⟨"com/example/subsume/subsume/engine/IndividualInequality", "other", "()Lcom/example/subsume/subsume/engine/Individual;"⟩ : MethodName)) (z := (⟨"com/example/subsume/subsume/engine/IndividualInequality", "other", "()Lcom/example/subsume/subsume/engine/Individual;"⟩ : MethodName)) hown (mvT hZ (hw _ (List.mem_of_getElem? (i := 124) rfl))) (mvT hZ (hw _ (List.mem_of_getElem? (i := 125) rfl))) (notFace_of_selects (args := #[]) (mvT hZ (hw _ (List.mem_of_getElem? (i := 127) rfl)))) (mvT hZ (hw _ (List.mem_of_getElem? (i := 127) rfl))) (mvT hZ (hw _ (List.mem_of_getElem? (i := 126) rfl))) (by decide) (backOf (W := 0) (rm_rOth l Z a0 hw [] b260 b248 T274.heap n0 O280 y298) hZ (hw _ (List.mem_of_getElem? (i := 128) rfl)) (hw _ (List.mem_of_getElem? (i := 43) rfl)) (by decide) (by decide)) q297a q297c (g := (mkF m 147 #[iv p0, iv p1, iv p2, iv p3, iv p4, .val r105, .val r229, rv b234, rv b248, rv b260, rv r275] [(.ref b260)])) rfl (by rw [hml]; rfl) (Steps.refl _) (argsL := []) (rest := []) (lenOf pd_14 rfl) rfl (by show 2 * 0 + _ ≤ _; exact Nat.le_of_eq rfl) (hb hby at_147) (fun _ _ => ⟨rfl, e292, (by decide : 6 + 0 ≤ _), (by decide : 13 + 0 ≤ _)⟩)
      dsimp only [Pt.U, Pt.locs, Pt.cells, Pt.slots] at X297 l297 y297 z297 st297 hQ297
      subst l297 y297 z297
      obtain ⟨rfl, M297, e297⟩ := hQ297
      have N297 := Fr.app N292 M297
      have g299 : Go p e below T297 (mkF m 150 #[iv p0, iv p1, iv p2, iv p3, iv p4, .val r105, .val r229, rv b234, rv b248, rv b260, rv r275] [(.ref b248)]) A0 := fun t kont => g296 t (st297.trans kont)
      have g300 : Go p e below T297 (mkF m 160 #[iv p0, iv p1, iv p2, iv p3, iv p4, .val r105, .val r229, rv b234, rv b248, rv b260, rv r275] [(.int (1 : Int32))]) A0 := by
        intro t kont
        refine g299 t ?_
        refine XS.aload X297.here hx rfl (hb hby at_150) rfl rfl ?_
        show Steps p.tables e below (T297.setTop (mkF m 152 #[iv p0, iv p1, iv p2, iv p3, iv p4, .val r105, .val r229, rv b234, rv b248, rv b260, rv r275] [(.ref b248), (.ref b248)])) _
        refine Jvm.RoadKit.acmp (g := (mkF m 152 #[iv p0, iv p1, iv p2, iv p3, iv p4, .val r105, .val r229, rv b234, rv b248, rv b260, rv r275] [(.ref b248), (.ref b248)])) X297 hx rfl rfl rfl (pc0 := 152) (pc' := 155) (same := true) rfl (hb hby at_152) rfl (decide_eq_true rfl) (by decide) (by decide) ?_
        show Steps p.tables e below (T297.setTop (mkF m 155 #[iv p0, iv p1, iv p2, iv p3, iv p4, .val r105, .val r229, rv b234, rv b248, rv b260, rv r275] [])) _
        refine XS.iconst X297.here hx rfl (hb hby at_155) ?_
        show Steps p.tables e below (T297.setTop (mkF m 156 #[iv p0, iv p1, iv p2, iv p3, iv p4, .val r105, .val r229, rv b234, rv b248, rv b260, rv r275] [(.int (1 : Int32))])) _
        refine XS.goto X297.here hx rfl (pc0 := 156) (pc' := 160) rfl (hb hby at_156) (by decide) (by decide) ?_
        show Steps p.tables e below (T297.setTop (mkF m 160 #[iv p0, iv p1, iv p2, iv p3, iv p4, .val r105, .val r229, rv b234, rv b248, rv b260, rv r275] [(.int (1 : Int32))])) _
        exact kont
      obtain ⟨fs, hr, hrun, hended, hW, hsame⟩ := X297.leave (v := some (.int (1 : Int32))) (fun h => by rw [Bd.returns] at h; cases h)
      refine ⟨_, _, g300 _ (retN X297 hx (t := .boolean) Bd.returns (by simp) (hb hby at_160) hr), hrun, hended, _, _, rfl, ?_, ⟨_, rfl⟩, hW, hsame.mono (by decide) (by decide)⟩
      show Q_law Z p0 p1 p2 p3 p4 i_COMPACT_STRINGS w_EMPTY h0 n0 _ T297.heap _
      rw [e297]
      exact ⟨rfl, N297⟩
    have g301 : Go p e below T240 (mkF m 72 #[iv p0, iv p1, iv p2, iv p3, iv p4, .val r105, .val r229, rv b234, rv b234, .unset, .unset] []) A0 := by
      intro t kont
      refine g246 t ?_
      refine XS.ifNo X240.here hx rfl (hb hby at_52) rfl ((if0 _ _).trans (feq c245).1) ?_
      show Steps p.tables e below (T240.setTop (mkF m 55 #[iv p0, iv p1, iv p2, iv p3, iv p4, .val r105, .val r229, rv b234, .unset, .unset, .unset] [])) _
      refine XS.aload X240.here hx rfl (hb hby at_55) rfl rfl ?_
      show Steps p.tables e below (T240.setTop (mkF m 57 #[iv p0, iv p1, iv p2, iv p3, iv p4, .val r105, .val r229, rv b234, .unset, .unset, .unset] [(.ref b234)])) _
      refine XS.goto X240.here hx rfl (pc0 := 57) (pc' := 70) rfl (hb hby at_57) (by decide) (by decide) ?_
      show Steps p.tables e below (T240.setTop (mkF m 70 #[iv p0, iv p1, iv p2, iv p3, iv p4, .val r105, .val r229, rv b234, .unset, .unset, .unset] [(.ref b234)])) _
      refine XS.astore X240.here hx rfl (hb hby at_70) rfl rfl (l' := #[iv p0, iv p1, iv p2, iv p3, iv p4, .val r105, .val r229, rv b234, rv b234, .unset, .unset]) rfl ?_
      show Steps p.tables e below (T240.setTop (mkF m 72 #[iv p0, iv p1, iv p2, iv p3, iv p4, .val r105, .val r229, rv b234, rv b234, .unset, .unset] [])) _
      exact kont
    obtain ⟨T302, h302, X302, e302, E302, A302, D302, -, st302⟩ := newO X240 hx hZ hown (hw _ (List.mem_of_getElem? (i := 41) rfl)) (hw _ (List.mem_of_getElem? (i := 42) rfl)) (hw _ (List.mem_of_getElem? (i := 43) rfl)) rfl (g := (mkF m 72 #[iv p0, iv p1, iv p2, iv p3, iv p4, .val r105, .val r229, rv b234, rv b234, .unset, .unset] [])) rfl (hb hby at_72) (by decide) (by decide)
    obtain ⟨b302, gb302⟩ : ∃ z, z = T240.heap.size := ⟨_, rfl⟩
    rw [← gb302] at A302 D302 st302
    have O303 := O243.ext E302
    have y304 : Fld Z h302 b302 "com/example/subsume/subsume/engine/IndividualInequality" "individual" "Lcom/example/subsume/subsume/engine/Individual;" .null := D302 (Or.inr (hw _ (List.mem_of_getElem? (i := 54) rfl))) (ty := (.object "com/example/subsume/subsume/engine/Individual")) (by decide)
    have y305 : Fld Z h302 b302 "com/example/subsume/subsume/engine/IndividualInequality" "other" "Lcom/example/subsume/subsume/engine/Individual;" .null := D302 (Or.inr (hw _ (List.mem_of_getElem? (i := 56) rfl))) (ty := (.object "com/example/subsume/subsume/engine/Individual")) (by decide)
    have g306 : Go p e below T302 (mkF m 75 #[iv p0, iv p1, iv p2, iv p3, iv p4, .val r105, .val r229, rv b234, rv b234, .unset, .unset] [(.ref b302)]) A0 := fun t kont => g301 t (st302 t kont)
    have g307 : Go p e below T302 (mkF m 80 #[iv p0, iv p1, iv p2, iv p3, iv p4, .val r105, .val r229, rv b234, rv b234, .unset, .unset] [(.ref b234), (.ref b234), (.ref b302), (.ref b302)]) A0 := by
      intro t kont
      refine g306 t ?_
      refine XS.dup X302.here hx rfl (hb hby at_75) rfl rfl ?_
      show Steps p.tables e below (T302.setTop (mkF m 76 #[iv p0, iv p1, iv p2, iv p3, iv p4, .val r105, .val r229, rv b234, rv b234, .unset, .unset] [(.ref b302), (.ref b302)])) _
      refine XS.aload X302.here hx rfl (hb hby at_76) rfl rfl ?_
      show Steps p.tables e below (T302.setTop (mkF m 78 #[iv p0, iv p1, iv p2, iv p3, iv p4, .val r105, .val r229, rv b234, rv b234, .unset, .unset] [(.ref b234), (.ref b302), (.ref b302)])) _
      refine XS.aload X302.here hx rfl (hb hby at_78) rfl rfl ?_
      show Steps p.tables e below (T302.setTop (mkF m 80 #[iv p0, iv p1, iv p2, iv p3, iv p4, .val r105, .val r229, rv b234, rv b234, .unset, .unset] [(.ref b234), (.ref b234), (.ref b302), (.ref b302)])) _
      exact kont
    have ge309 : n0 ≤ b302 := Nat.le_trans (own_old_le O243) (Nat.le_of_eq gb302.symm)
    obtain ⟨_, _, ⟨T308, L308, k308, n308⟩, -, X308, ⟨Lc308, hQ308, l308, y308, z308⟩, st308⟩ := X302.specialBack hx (y := (⟨"com/example/subsume/subsume/engine/IndividualInequality", "<init>", "(Lcom/example/subsume/subsume/engine/Individual;Lcom/example/subsume/subsume/engine/Individual;)V"⟩ : MethodName)) rfl hown (mvT hZ (hw _ (List.mem_of_getElem? (i := 44) rfl))) (mvT hZ (hw _ (List.mem_of_getElem? (i := 45) rfl))) (mvT hZ (hw _ (List.mem_of_getElem? (i := 46) rfl))) (by decide) (backOf (W := 1) (rm_relI l Z a0 hw [] b302 b234 b234 h302 n0 O303 y304 y305 A302 ge309) hZ (hw _ (List.mem_of_getElem? (i := 46) rfl)) (hw _ (List.mem_of_getElem? (i := 43) rfl)) (by decide) (by decide)) (g := (mkF m 80 #[iv p0, iv p1, iv p2, iv p3, iv p4, .val r105, .val r229, rv b234, rv b234, .unset, .unset] [(.ref b234), (.ref b234), (.ref b302), (.ref b302)])) rfl (by rw [hml]; rfl) (Steps.refl _) (a := b302) (argsL := [(.ref b234), (.ref b234)]) (rest := [(.ref b302)]) (lenOf pd_10 rfl) rfl (by show 2 * 0 + _ ≤ _; exact Nat.le_of_eq rfl) (hb hby at_80) (fun _ _ => ⟨rfl, e302, (by decide : 4 + 0 ≤ _), (by decide : 9 + 0 ≤ _)⟩)
    dsimp only [Pt.U, Pt.locs, Pt.cells, Pt.slots] at X308 l308 y308 z308 st308 hQ308
    subst l308 y308 z308
    obtain ⟨rfl, M308, K308, y310, y311, y312⟩ := hQ308
    have N308 := Fr.app N240 M308
    have O313 := O303.keep K308 (allS ge309 all0)
    have g314 : Go p e below T308 (mkF m 83 #[iv p0, iv p1, iv p2, iv p3, iv p4, .val r105, .val r229, rv b234, rv b234, .unset, .unset] [(.ref b302)]) A0 := fun t kont => g307 t (st308.trans kont)
    have g315 : Go p e below T308 (mkF m 87 #[iv p0, iv p1, iv p2, iv p3, iv p4, .val r105, .val r229, rv b234, rv b234, rv b302, .unset] [(.ref b302)]) A0 := by
      intro t kont
      refine g314 t ?_
      refine XS.astore X308.here hx rfl (hb hby at_83) rfl rfl (l' := #[iv p0, iv p1, iv p2, iv p3, iv p4, .val r105, .val r229, rv b234, rv b234, rv b302, .unset]) rfl ?_
      show Steps p.tables e below (T308.setTop (mkF m 85 #[iv p0, iv p1, iv p2, iv p3, iv p4, .val r105, .val r229, rv b234, rv b234, rv b302, .unset] [])) _
      refine XS.aload X308.here hx rfl (hb hby at_85) rfl rfl ?_
      show Steps p.tables e below (T308.setTop (mkF m 87 #[iv p0, iv p1, iv p2, iv p3, iv p4, .val r105, .val r229, rv b234, rv b234, rv b302, .unset] [(.ref b302)])) _
      exact kont
    obtain ⟨cq316, kq316, q316a, q316b, q316c⟩ := isOf hZ rfl y310
    obtain ⟨_, _, ⟨T316, L316, k316, n316⟩, -, X316, ⟨Lc316, hQ316, l316, y316, z316⟩, st316⟩ := X308.virtualBack hx (y := (⟨"com/example/subsume/subsume/engine/IndividualInequality", "individuals", "()Ljava/util/List;"⟩ : MethodName)) (z := (⟨"com/example/subsume/subsume/engine/IndividualInequality", "individuals", "()Ljava/util/List;"⟩ : MethodName)) hown (mvT hZ (hw _ (List.mem_of_getElem? (i := 57) rfl))) (mvT hZ (hw _ (List.mem_of_getElem? (i := 58) rfl))) (notFace_of_selects (args := #[]) (mvT hZ (hw _ (List.mem_of_getElem? (i := 60) rfl)))) (mvT hZ (hw _ (List.mem_of_getElem? (i := 60) rfl))) (mvT hZ (hw _ (List.mem_of_getElem? (i := 59) rfl))) (by decide) (backOf (W := 0) (rm_inds l Z a0 hw [] b302 b234 b234 T308.heap n0 O313 y311 y312) hZ (hw _ (List.mem_of_getElem? (i := 61) rfl)) (hw _ (List.mem_of_getElem? (i := 43) rfl)) (by decide) (by decide)) q316a q316c (g := (mkF m 87 #[iv p0, iv p1, iv p2, iv p3, iv p4, .val r105, .val r229, rv b234, rv b234, rv b302, .unset] [(.ref b302)])) rfl (by rw [hml]; rfl) (Steps.refl _) (argsL := []) (rest := []) (lenOf pd_11 rfl) rfl (by show 2 * 0 + _ ≤ _; exact Nat.le_of_eq rfl) (hb hby at_87) (fun _ _ => ⟨rfl, rfl, (by decide : 4 + 1 ≤ _), (by decide : 9 + 2 ≤ _)⟩)
    dsimp only [Pt.U, Pt.locs, Pt.cells, Pt.slots] at X316 l316 y316 z316 st316 hQ316
    subst l316 y316 z316
    obtain ⟨r317, rfl, M316, K316, y318, y319, y320, y321⟩ := hQ316
    have N316 := Fr.app N308 M316
    have O322 := O313.keep K316 all0
    have g323 : Go p e below T316 (mkF m 90 #[iv p0, iv p1, iv p2, iv p3, iv p4, .val r105, .val r229, rv b234, rv b234, rv b302, .unset] [(.ref r317)]) A0 := fun t kont => g315 t (st316.trans kont)
    have g324 : Go p e below T316 (mkF m 94 #[iv p0, iv p1, iv p2, iv p3, iv p4, .val r105, .val r229, rv b234, rv b234, rv b302, rv r317] [(.ref r317)]) A0 := by
      intro t kont
      refine g323 t ?_
      refine XS.astore X316.here hx rfl (hb hby at_90) rfl rfl (l' := #[iv p0, iv p1, iv p2, iv p3, iv p4, .val r105, .val r229, rv b234, rv b234, rv b302, rv r317]) rfl ?_
      show Steps p.tables e below (T316.setTop (mkF m 92 #[iv p0, iv p1, iv p2, iv p3, iv p4, .val r105, .val r229, rv b234, rv b234, rv b302, rv r317] [])) _
      refine XS.aload X316.here hx rfl (hb hby at_92) rfl rfl ?_
      show Steps p.tables e below (T316.setTop (mkF m 94 #[iv p0, iv p1, iv p2, iv p3, iv p4, .val r105, .val r229, rv b234, rv b234, rv b302, rv r317] [(.ref r317)])) _
      exact kont
    obtain ⟨cq325, kq325, q325a, q325b, q325c⟩ := isOf hZ rfl y319
    obtain ⟨_, _, ⟨T325, L325, k325, n325⟩, -, X325, ⟨Lc325, hQ325, l325, y325, z325⟩, st325⟩ := X316.interfaceBack hx (xi := (⟨"java/util/List", "size", "()I"⟩ : MethodName)) (y := (⟨"java/util/ImmutableCollections$List12", "size", "()I"⟩ : MethodName)) hown (mvT hZ (hw _ (List.mem_of_getElem? (i := 100) rfl))) (mvT hZ (hw _ (List.mem_of_getElem? (i := 101) rfl))) (mvT hZ (hw _ (List.mem_of_getElem? (i := 102) rfl))) (mvT hZ (hw _ (List.mem_of_getElem? (i := 103) rfl))) (mvT hZ (hw _ (List.mem_of_getElem? (i := 104) rfl))) (mvT hZ (hw _ (List.mem_of_getElem? (i := 105) rfl))) (mvT hZ (hw _ (List.mem_of_getElem? (i := 106) rfl))) (mvT hZ (hw _ (List.mem_of_getElem? (i := 107) rfl))) (by decide) (backOf (W := 0) (rm_siz l Z a0 hw [] r317 b234 w_EMPTY T316.heap n0 O322 y321 S1_ (Ne.symm (O322.ne ZE3_.lt ge241))) hZ (hw _ (List.mem_of_getElem? (i := 108) rfl)) (hw _ (List.mem_of_getElem? (i := 68) rfl)) (by decide) (by decide)) q325a q325b q325c (g := (mkF m 94 #[iv p0, iv p1, iv p2, iv p3, iv p4, .val r105, .val r229, rv b234, rv b234, rv b302, rv r317] [(.ref r317)])) rfl (by rw [hml]; rfl) (Steps.refl _) (argsL := []) (rest := []) (lenOf pd_12 rfl) rfl (by show 2 * 0 + _ ≤ _; exact Nat.le_of_eq rfl) (hb hby at_94) (fun _ _ => ⟨rfl, rfl, (by decide : 5 + 0 ≤ _), (by decide : 11 + 0 ≤ _)⟩)
    dsimp only [Pt.U, Pt.locs, Pt.cells, Pt.slots] at X325 l325 y325 z325 st325 hQ325
    subst l325 y325 z325
    obtain ⟨rfl, M325, e325⟩ := hQ325
    have N325 := Fr.app N316 M325
    have g326 : Go p e below T325 (mkF m 99 #[iv p0, iv p1, iv p2, iv p3, iv p4, .val r105, .val r229, rv b234, rv b234, rv b302, rv r317] [(.int (2 : Int32))]) A0 := fun t kont => g324 t (st325.trans kont)
    have g327 : Go p e below T325 (mkF m 108 #[iv p0, iv p1, iv p2, iv p3, iv p4, .val r105, .val r229, rv b234, rv b234, rv b302, rv r317] [(.int (0 : Int32)), (.ref r317)]) A0 := by
      intro t kont
      refine g326 t ?_
      refine XS.iconst X325.here hx rfl (hb hby at_99) ?_
      show Steps p.tables e below (T325.setTop (mkF m 100 #[iv p0, iv p1, iv p2, iv p3, iv p4, .val r105, .val r229, rv b234, rv b234, rv b302, rv r317] [(.int (2 : Int32)), (.int (2 : Int32))])) _
      refine XS.icmpYes X325.here hx rfl (pc0 := 100) (pc' := 105) rfl (hb hby at_100) rfl (teq (by decide : (2 : Int32) = (2 : Int32))).1 (by decide) (by decide) ?_
      show Steps p.tables e below (T325.setTop (mkF m 105 #[iv p0, iv p1, iv p2, iv p3, iv p4, .val r105, .val r229, rv b234, rv b234, rv b302, rv r317] [])) _
      refine XS.aload X325.here hx rfl (hb hby at_105) rfl rfl ?_
      show Steps p.tables e below (T325.setTop (mkF m 107 #[iv p0, iv p1, iv p2, iv p3, iv p4, .val r105, .val r229, rv b234, rv b234, rv b302, rv r317] [(.ref r317)])) _
      refine XS.iconst X325.here hx rfl (hb hby at_107) ?_
      show Steps p.tables e below (T325.setTop (mkF m 108 #[iv p0, iv p1, iv p2, iv p3, iv p4, .val r105, .val r229, rv b234, rv b234, rv b302, rv r317] [(.int (0 : Int32)), (.ref r317)])) _
      exact kont
    obtain ⟨cq328, kq328, q328a, q328b, q328c⟩ := isOf hZ e325 y319
    obtain ⟨_, _, ⟨T328, L328, k328, n328⟩, -, X328, ⟨Lc328, hQ328, l328, y328, z328⟩, st328⟩ := X325.interfaceBack hx (xi := (⟨"java/util/List", "get", "(I)Ljava/lang/Object;"⟩ : MethodName)) (y := (⟨"java/util/ImmutableCollections$List12", "get", "(I)Ljava/lang/Object;"⟩ : MethodName)) hown (mvT hZ (hw _ (List.mem_of_getElem? (i := 111) rfl))) (mvT hZ (hw _ (List.mem_of_getElem? (i := 112) rfl))) (mvT hZ (hw _ (List.mem_of_getElem? (i := 113) rfl))) (mvT hZ (hw _ (List.mem_of_getElem? (i := 114) rfl))) (mvT hZ (hw _ (List.mem_of_getElem? (i := 115) rfl))) (mvT hZ (hw _ (List.mem_of_getElem? (i := 116) rfl))) (mvT hZ (hw _ (List.mem_of_getElem? (i := 117) rfl))) (mvT hZ (hw _ (List.mem_of_getElem? (i := 107) rfl))) (by decide) (backOf (W := 0) (rm_get0 l Z a0 hw [] r317 b234 T316.heap n0 O322 y320) hZ (hw _ (List.mem_of_getElem? (i := 118) rfl)) (hw _ (List.mem_of_getElem? (i := 68) rfl)) (by decide) (by decide)) q328a q328b q328c (g := (mkF m 108 #[iv p0, iv p1, iv p2, iv p3, iv p4, .val r105, .val r229, rv b234, rv b234, rv b302, rv r317] [(.int (0 : Int32)), (.ref r317)])) rfl (by rw [hml]; rfl) (Steps.refl _) (argsL := [(.int (0 : Int32))]) (rest := []) (lenOf pd_13 rfl) rfl (by show 2 * 0 + _ ≤ _; exact Nat.le_of_eq rfl) (hb hby at_108) (fun _ _ => ⟨rfl, e325, (by decide : 5 + 0 ≤ _), (by decide : 11 + 0 ≤ _)⟩)
    dsimp only [Pt.U, Pt.locs, Pt.cells, Pt.slots] at X328 l328 y328 z328 st328 hQ328
    subst l328 y328 z328
    obtain ⟨rfl, M328, e328⟩ := hQ328
    have N328 := Fr.app N325 M328
    have g329 : Go p e below T328 (mkF m 113 #[iv p0, iv p1, iv p2, iv p3, iv p4, .val r105, .val r229, rv b234, rv b234, rv b302, rv r317] [(.ref b234)]) A0 := fun t kont => g327 t (st328.trans kont)
    have g330 : Go p e below T328 (mkF m 123 #[iv p0, iv p1, iv p2, iv p3, iv p4, .val r105, .val r229, rv b234, rv b234, rv b302, rv r317] [(.int (1 : Int32)), (.ref r317)]) A0 := by
      intro t kont
      refine g329 t ?_
      refine XS.aload X328.here hx rfl (hb hby at_113) rfl rfl ?_
      show Steps p.tables e below (T328.setTop (mkF m 115 #[iv p0, iv p1, iv p2, iv p3, iv p4, .val r105, .val r229, rv b234, rv b234, rv b302, rv r317] [(.ref b234), (.ref b234)])) _
      refine Jvm.RoadKit.acmp (g := (mkF m 115 #[iv p0, iv p1, iv p2, iv p3, iv p4, .val r105, .val r229, rv b234, rv b234, rv b302, rv r317] [(.ref b234), (.ref b234)])) X328 hx rfl rfl rfl (pc0 := 115) (pc' := 120) (same := true) rfl (hb hby at_115) rfl (decide_eq_true rfl) (by decide) (by decide) ?_
      show Steps p.tables e below (T328.setTop (mkF m 120 #[iv p0, iv p1, iv p2, iv p3, iv p4, .val r105, .val r229, rv b234, rv b234, rv b302, rv r317] [])) _
      refine XS.aload X328.here hx rfl (hb hby at_120) rfl rfl ?_
      show Steps p.tables e below (T328.setTop (mkF m 122 #[iv p0, iv p1, iv p2, iv p3, iv p4, .val r105, .val r229, rv b234, rv b234, rv b302, rv r317] [(.ref r317)])) _
      refine XS.iconst X328.here hx rfl (hb hby at_122) ?_
      show Steps p.tables e below (T328.setTop (mkF m 123 #[iv p0, iv p1, iv p2, iv p3, iv p4, .val r105, .val r229, rv b234, rv b234, rv b302, rv r317] [(.int (1 : Int32)), (.ref r317)])) _
      exact kont
    obtain ⟨cq331, kq331, q331a, q331b, q331c⟩ := isOf hZ e328 y319
    obtain ⟨_, _, ⟨T331, L331, k331, n331⟩, -, X331, ⟨Lc331, hQ331, l331, y331, z331⟩, st331⟩ := X328.interfaceBack hx (xi := (⟨"java/util/List", "get", "(I)Ljava/lang/Object;"⟩ : MethodName)) (y := (⟨"java/util/ImmutableCollections$List12", "get", "(I)Ljava/lang/Object;"⟩ : MethodName)) hown (mvT hZ (hw _ (List.mem_of_getElem? (i := 111) rfl))) (mvT hZ (hw _ (List.mem_of_getElem? (i := 112) rfl))) (mvT hZ (hw _ (List.mem_of_getElem? (i := 113) rfl))) (mvT hZ (hw _ (List.mem_of_getElem? (i := 114) rfl))) (mvT hZ (hw _ (List.mem_of_getElem? (i := 115) rfl))) (mvT hZ (hw _ (List.mem_of_getElem? (i := 116) rfl))) (mvT hZ (hw _ (List.mem_of_getElem? (i := 117) rfl))) (mvT hZ (hw _ (List.mem_of_getElem? (i := 107) rfl))) (by decide) (backOf (W := 0) (rm_get1 l Z a0 hw [] r317 b234 w_EMPTY T316.heap n0 O322 y321 S1_ (Ne.symm (O322.ne ZE3_.lt ge241))) hZ (hw _ (List.mem_of_getElem? (i := 118) rfl)) (hw _ (List.mem_of_getElem? (i := 68) rfl)) (by decide) (by decide)) q331a q331b q331c (g := (mkF m 123 #[iv p0, iv p1, iv p2, iv p3, iv p4, .val r105, .val r229, rv b234, rv b234, rv b302, rv r317] [(.int (1 : Int32)), (.ref r317)])) rfl (by rw [hml]; rfl) (Steps.refl _) (argsL := [(.int (1 : Int32))]) (rest := []) (lenOf pd_13 rfl) rfl (by show 2 * 0 + _ ≤ _; exact Nat.le_of_eq rfl) (hb hby at_123) (fun _ _ => ⟨rfl, e328, (by decide : 5 + 0 ≤ _), (by decide : 11 + 0 ≤ _)⟩)
    dsimp only [Pt.U, Pt.locs, Pt.cells, Pt.slots] at X331 l331 y331 z331 st331 hQ331
    subst l331 y331 z331
    obtain ⟨rfl, M331, e331⟩ := hQ331
    have N331 := Fr.app N328 M331
    have g332 : Go p e below T331 (mkF m 128 #[iv p0, iv p1, iv p2, iv p3, iv p4, .val r105, .val r229, rv b234, rv b234, rv b302, rv r317] [(.ref b234)]) A0 := fun t kont => g330 t (st331.trans kont)
    have g333 : Go p e below T331 (mkF m 137 #[iv p0, iv p1, iv p2, iv p3, iv p4, .val r105, .val r229, rv b234, rv b234, rv b302, rv r317] [(.ref b302)]) A0 := by
      intro t kont
      refine g332 t ?_
      refine XS.aload X331.here hx rfl (hb hby at_128) rfl rfl ?_
      show Steps p.tables e below (T331.setTop (mkF m 130 #[iv p0, iv p1, iv p2, iv p3, iv p4, .val r105, .val r229, rv b234, rv b234, rv b302, rv r317] [(.ref b234), (.ref b234)])) _
      refine Jvm.RoadKit.acmp (g := (mkF m 130 #[iv p0, iv p1, iv p2, iv p3, iv p4, .val r105, .val r229, rv b234, rv b234, rv b302, rv r317] [(.ref b234), (.ref b234)])) X331 hx rfl rfl rfl (pc0 := 130) (pc' := 135) (same := true) rfl (hb hby at_130) rfl (decide_eq_true rfl) (by decide) (by decide) ?_
      show Steps p.tables e below (T331.setTop (mkF m 135 #[iv p0, iv p1, iv p2, iv p3, iv p4, .val r105, .val r229, rv b234, rv b234, rv b302, rv r317] [])) _
      refine XS.aload X331.here hx rfl (hb hby at_135) rfl rfl ?_
      show Steps p.tables e below (T331.setTop (mkF m 137 #[iv p0, iv p1, iv p2, iv p3, iv p4, .val r105, .val r229, rv b234, rv b234, rv b302, rv r317] [(.ref b302)])) _
      exact kont
    have y335 : Exa Z T316.heap b302 "com/example/subsume/subsume/engine/IndividualInequality" := (y310.keep K316)
    have y336 : Fld Z T316.heap b302 "com/example/subsume/subsume/engine/IndividualInequality" "individual" "Lcom/example/subsume/subsume/engine/Individual;" (.ref b234) := (y311.keep K316 nin0)
    obtain ⟨cq334, kq334, q334a, q334b, q334c⟩ := isOf hZ e331 y335
    obtain ⟨_, _, ⟨T334, L334, k334, n334⟩, -, X334, ⟨Lc334, hQ334, l334, y334, z334⟩, st334⟩ := X331.virtualBack hx (y := (⟨"com/example/subsume/subsume/engine/IndividualInequality", "individual", "()Lcom/example/subsume/subsume/engine/Individual;"⟩ : MethodName)) (z := (⟨"com/example/subsume/subsume/engine/IndividualInequality", "individual", "()Lcom/example/subsume/subsume/engine/Individual;"⟩ : MethodName)) hown (mvT hZ (hw _ (List.mem_of_getElem? (i := 119) rfl))) (mvT hZ (hw _ (List.mem_of_getElem? (i := 120) rfl))) (notFace_of_selects (args := #[]) (mvT hZ (hw _ (List.mem_of_getElem? (i := 122) rfl)))) (mvT hZ (hw _ (List.mem_of_getElem? (i := 122) rfl))) (mvT hZ (hw _ (List.mem_of_getElem? (i := 121) rfl))) (by decide) (backOf (W := 0) (rm_rInd l Z a0 hw [] b302 b234 T316.heap n0 O322 y336) hZ (hw _ (List.mem_of_getElem? (i := 123) rfl)) (hw _ (List.mem_of_getElem? (i := 43) rfl)) (by decide) (by decide)) q334a q334c (g := (mkF m 137 #[iv p0, iv p1, iv p2, iv p3, iv p4, .val r105, .val r229, rv b234, rv b234, rv b302, rv r317] [(.ref b302)])) rfl (by rw [hml]; rfl) (Steps.refl _) (argsL := []) (rest := []) (lenOf pd_14 rfl) rfl (by show 2 * 0 + _ ≤ _; exact Nat.le_of_eq rfl) (hb hby at_137) (fun _ _ => ⟨rfl, e331, (by decide : 5 + 0 ≤ _), (by decide : 11 + 0 ≤ _)⟩)
    dsimp only [Pt.U, Pt.locs, Pt.cells, Pt.slots] at X334 l334 y334 z334 st334 hQ334
    subst l334 y334 z334
    obtain ⟨rfl, M334, e334⟩ := hQ334
    have N334 := Fr.app N331 M334
    have g337 : Go p e below T334 (mkF m 140 #[iv p0, iv p1, iv p2, iv p3, iv p4, .val r105, .val r229, rv b234, rv b234, rv b302, rv r317] [(.ref b234)]) A0 := fun t kont => g333 t (st334.trans kont)
    have g338 : Go p e below T334 (mkF m 147 #[iv p0, iv p1, iv p2, iv p3, iv p4, .val r105, .val r229, rv b234, rv b234, rv b302, rv r317] [(.ref b302)]) A0 := by
      intro t kont
      refine g337 t ?_
      refine XS.aload X334.here hx rfl (hb hby at_140) rfl rfl ?_
      show Steps p.tables e below (T334.setTop (mkF m 142 #[iv p0, iv p1, iv p2, iv p3, iv p4, .val r105, .val r229, rv b234, rv b234, rv b302, rv r317] [(.ref b234), (.ref b234)])) _
      refine Jvm.RoadKit.acmp (g := (mkF m 142 #[iv p0, iv p1, iv p2, iv p3, iv p4, .val r105, .val r229, rv b234, rv b234, rv b302, rv r317] [(.ref b234), (.ref b234)])) X334 hx rfl rfl rfl (pc0 := 142) (pc' := 145) (same := true) rfl (hb hby at_142) rfl (decide_eq_true rfl) (by decide) (by decide) ?_
      show Steps p.tables e below (T334.setTop (mkF m 145 #[iv p0, iv p1, iv p2, iv p3, iv p4, .val r105, .val r229, rv b234, rv b234, rv b302, rv r317] [])) _
      refine XS.aload X334.here hx rfl (hb hby at_145) rfl rfl ?_
      show Steps p.tables e below (T334.setTop (mkF m 147 #[iv p0, iv p1, iv p2, iv p3, iv p4, .val r105, .val r229, rv b234, rv b234, rv b302, rv r317] [(.ref b302)])) _
      exact kont
    have y340 : Fld Z T316.heap b302 "com/example/subsume/subsume/engine/IndividualInequality" "other" "Lcom/example/subsume/subsume/engine/Individual;" (.ref b234) := (y312.keep K316 nin0)
    obtain ⟨cq339, kq339, q339a, q339b, q339c⟩ := isOf hZ e334 y335
    obtain ⟨_, _, ⟨T339, L339, k339, n339⟩, -, X339, ⟨Lc339, hQ339, l339, y339, z339⟩, st339⟩ := X334.virtualBack hx (y := (⟨"com/example/subsume/subsume/engine/IndividualInequality", "other", "()Lcom/example/subsume/subsume/engine/Individual;"⟩ : MethodName)) (z := (⟨"com/example/subsume/subsume/engine/IndividualInequality", "other", "()Lcom/example/subsume/subsume/engine/Individual;"⟩ : MethodName)) hown (mvT hZ (hw _ (List.mem_of_getElem? (i := 124) rfl))) (mvT hZ (hw _ (List.mem_of_getElem? (i := 125) rfl))) (notFace_of_selects (args := #[]) (mvT hZ (hw _ (List.mem_of_getElem? (i := 127) rfl)))) (mvT hZ (hw _ (List.mem_of_getElem? (i := 127) rfl))) (mvT hZ (hw _ (List.mem_of_getElem? (i := 126) rfl))) (by decide) (backOf (W := 0) (rm_rOth l Z a0 hw [] b302 b234 T316.heap n0 O322 y340) hZ (hw _ (List.mem_of_getElem? (i := 128) rfl)) (hw _ (List.mem_of_getElem? (i := 43) rfl)) (by decide) (by decide)) q339a q339c (g := (mkF m 147 #[iv p0, iv p1, iv p2, iv p3, iv p4, .val r105, .val r229, rv b234, rv b234, rv b302, rv r317] [(.ref b302)])) rfl (by rw [hml]; rfl) (Steps.refl _) (argsL := []) (rest := []) (lenOf pd_14 rfl) rfl (by show 2 * 0 + _ ≤ _; exact Nat.le_of_eq rfl) (hb hby at_147) (fun _ _ => ⟨rfl, e334, (by decide : 5 + 0 ≤ _), (by decide : 11 + 0 ≤ _)⟩)
    dsimp only [Pt.U, Pt.locs, Pt.cells, Pt.slots] at X339 l339 y339 z339 st339 hQ339
    subst l339 y339 z339
    obtain ⟨rfl, M339, e339⟩ := hQ339
    have N339 := Fr.app N334 M339
    have g341 : Go p e below T339 (mkF m 150 #[iv p0, iv p1, iv p2, iv p3, iv p4, .val r105, .val r229, rv b234, rv b234, rv b302, rv r317] [(.ref b234)]) A0 := fun t kont => g338 t (st339.trans kont)
    have g342 : Go p e below T339 (mkF m 160 #[iv p0, iv p1, iv p2, iv p3, iv p4, .val r105, .val r229, rv b234, rv b234, rv b302, rv r317] [(.int (1 : Int32))]) A0 := by
      intro t kont
      refine g341 t ?_
      refine XS.aload X339.here hx rfl (hb hby at_150) rfl rfl ?_
      show Steps p.tables e below (T339.setTop (mkF m 152 #[iv p0, iv p1, iv p2, iv p3, iv p4, .val r105, .val r229, rv b234, rv b234, rv b302, rv r317] [(.ref b234), (.ref b234)])) _
      refine Jvm.RoadKit.acmp (g := (mkF m 152 #[iv p0, iv p1, iv p2, iv p3, iv p4, .val r105, .val r229, rv b234, rv b234, rv b302, rv r317] [(.ref b234), (.ref b234)])) X339 hx rfl rfl rfl (pc0 := 152) (pc' := 155) (same := true) rfl (hb hby at_152) rfl (decide_eq_true rfl) (by decide) (by decide) ?_
      show Steps p.tables e below (T339.setTop (mkF m 155 #[iv p0, iv p1, iv p2, iv p3, iv p4, .val r105, .val r229, rv b234, rv b234, rv b302, rv r317] [])) _
      refine XS.iconst X339.here hx rfl (hb hby at_155) ?_
      show Steps p.tables e below (T339.setTop (mkF m 156 #[iv p0, iv p1, iv p2, iv p3, iv p4, .val r105, .val r229, rv b234, rv b234, rv b302, rv r317] [(.int (1 : Int32))])) _
      refine XS.goto X339.here hx rfl (pc0 := 156) (pc' := 160) rfl (hb hby at_156) (by decide) (by decide) ?_
      show Steps p.tables e below (T339.setTop (mkF m 160 #[iv p0, iv p1, iv p2, iv p3, iv p4, .val r105, .val r229, rv b234, rv b234, rv b302, rv r317] [(.int (1 : Int32))])) _
      exact kont
    obtain ⟨fs, hr, hrun, hended, hW, hsame⟩ := X339.leave (v := some (.int (1 : Int32))) (fun h => by rw [Bd.returns] at h; cases h)
    refine ⟨_, _, g342 _ (retN X339 hx (t := .boolean) Bd.returns (by simp) (hb hby at_160) hr), hrun, hended, _, _, rfl, ?_, ⟨_, rfl⟩, hW, hsame.mono (by decide) (by decide)⟩
    show Q_law Z p0 p1 p2 p3 p4 i_COMPACT_STRINGS w_EMPTY h0 n0 _ T339.heap _
    rw [e339]
    exact ⟨rfl, N339⟩
  have g343 : Go p e below s₁ (mkF m 13 #[iv p0, iv p1, iv p2, iv p3, iv p4, .unset, .unset, .unset, .unset, .unset, .unset] [(.int (1 : Int32)), (.int p2)]) A0 := by
    intro t kont
    refine g102 t ?_
    refine XS.ifNo X0.here hx rfl (hb hby at_5) rfl ((if0 _ _).trans (feq c101).1) ?_
    show Steps p.tables e below (s₁.setTop (mkF m 8 #[iv p0, iv p1, iv p2, iv p3, iv p4, .unset, .unset, .unset, .unset, .unset, .unset] [(.int p2)])) _
    refine XS.iconst X0.here hx rfl (hb hby at_8) ?_
    show Steps p.tables e below (s₁.setTop (mkF m 9 #[iv p0, iv p1, iv p2, iv p3, iv p4, .unset, .unset, .unset, .unset, .unset, .unset] [(.int (1 : Int32)), (.int p2)])) _
    refine XS.goto X0.here hx rfl (pc0 := 9) (pc' := 13) rfl (hb hby at_9) (by decide) (by decide) ?_
    show Steps p.tables e below (s₁.setTop (mkF m 13 #[iv p0, iv p1, iv p2, iv p3, iv p4, .unset, .unset, .unset, .unset, .unset, .unset] [(.int (1 : Int32)), (.int p2)])) _
    exact kont
  obtain ⟨_, _, ⟨T344, L344, k344, n344⟩, -, X344, ⟨Lc344, hQ344, l344, y344, z344⟩, st344⟩ := Jvm.LawKit.callS X0 hx (y := (⟨"com/example/subsume/subsume/engine/IndividualInequalityIndividualsPinLaw", "nameOf", "(IZ)Ljava/lang/String;"⟩ : MethodName)) hown (mvT hZ (hw _ (List.mem_of_getElem? (i := 0) rfl))) (mvT hZ (hw _ (List.mem_of_getElem? (i := 1) rfl))) (mvT hZ (hw _ (List.mem_of_getElem? (i := 2) rfl))) (mvT hZ (hw _ (List.mem_of_getElem? (i := 3) rfl))) (by decide) (backOf (W := 0) (rm_nameN l Z a0 hw [] p2 h0 n0 O0 ) hZ (hw _ (List.mem_of_getElem? (i := 3) rfl)) (hw _ (List.mem_of_getElem? (i := 2) rfl)) (by decide) (by decide)) (g := (mkF m 13 #[iv p0, iv p1, iv p2, iv p3, iv p4, .unset, .unset, .unset, .unset, .unset, .unset] [(.int (1 : Int32)), (.int p2)])) rfl (by rw [hml]; rfl) (argsL := [(.int p2), (.int (1 : Int32))]) (rest := []) (lenOf pd_8 rfl) rfl (by show 2 * 0 + _ ≤ _; exact Nat.le_of_eq rfl) (hb hby at_13) (fun _ _ => ⟨rfl, e0, (by decide : 0 + 0 ≤ _), (by decide : 0 + 0 ≤ _)⟩)
  dsimp only [Pt.U, Pt.locs, Pt.cells, Pt.slots] at X344 l344 y344 z344 st344 hQ344
  subst l344 y344 z344
  obtain ⟨r345, rfl, M344, K344, y346⟩ := hQ344
  have N344 := Fr.app N0 M344
  have O347 := O0.keep K344 all0
  have g348 : Go p e below T344 (mkF m 16 #[iv p0, iv p1, iv p2, iv p3, iv p4, .unset, .unset, .unset, .unset, .unset, .unset] [r345]) A0 := fun t kont => g343 t (st344 t kont)
  have g350 : Go p e below T344 (mkF m 23 #[iv p0, iv p1, iv p2, iv p3, iv p4, .val r345, .unset, .unset, .unset, .unset, .unset] [(.int (p4 &&& (2 : Int32))), (.int p3)]) A0 := by
    intro t kont
    refine g348 t ?_
    refine XS.astore X344.here hx rfl (hb hby at_16) rfl (y346) (l' := #[iv p0, iv p1, iv p2, iv p3, iv p4, .val r345, .unset, .unset, .unset, .unset, .unset]) (XS.store1 (o := .unset) rfl (Or.inl rfl) (own_catV (y346))) ?_
    show Steps p.tables e below (T344.setTop (mkF m 18 #[iv p0, iv p1, iv p2, iv p3, iv p4, .val r345, .unset, .unset, .unset, .unset, .unset] [])) _
    refine XS.iloadN X344.here hx rfl (hb hby at_18) rfl ?_
    show Steps p.tables e below (T344.setTop (mkF m 19 #[iv p0, iv p1, iv p2, iv p3, iv p4, .val r345, .unset, .unset, .unset, .unset, .unset] [(.int p3)])) _
    refine XS.iload X344.here hx rfl (hb hby at_19) rfl ?_
    show Steps p.tables e below (T344.setTop (mkF m 21 #[iv p0, iv p1, iv p2, iv p3, iv p4, .val r345, .unset, .unset, .unset, .unset, .unset] [(.int p4), (.int p3)])) _
    refine XS.iconst X344.here hx rfl (hb hby at_21) ?_
    show Steps p.tables e below (T344.setTop (mkF m 22 #[iv p0, iv p1, iv p2, iv p3, iv p4, .val r345, .unset, .unset, .unset, .unset, .unset] [(.int (2 : Int32)), (.int p4), (.int p3)])) _
    refine XS.iand X344.here hx rfl (hb hby at_22) rfl ?_
    show Steps p.tables e below (T344.setTop (mkF m 23 #[iv p0, iv p1, iv p2, iv p3, iv p4, .val r345, .unset, .unset, .unset, .unset, .unset] [(.int (p4 &&& (2 : Int32))), (.int p3)])) _
    exact kont
  by_cases c349 : (p4 &&& (2 : Int32)) = (0 : Int32)
  ·
    have g351 : Go p e below T344 (mkF m 31 #[iv p0, iv p1, iv p2, iv p3, iv p4, .val r345, .unset, .unset, .unset, .unset, .unset] [(.int (0 : Int32)), (.int p3)]) A0 := by
      intro t kont
      refine g350 t ?_
      refine XS.ifYes X344.here hx rfl (pc0 := 23) (pc' := 30) rfl (hb hby at_23) rfl ((if0 _ _).trans (teq c349).1) (by decide) (by decide) ?_
      show Steps p.tables e below (T344.setTop (mkF m 30 #[iv p0, iv p1, iv p2, iv p3, iv p4, .val r345, .unset, .unset, .unset, .unset, .unset] [(.int p3)])) _
      refine XS.iconst X344.here hx rfl (hb hby at_30) ?_
      show Steps p.tables e below (T344.setTop (mkF m 31 #[iv p0, iv p1, iv p2, iv p3, iv p4, .val r345, .unset, .unset, .unset, .unset, .unset] [(.int (0 : Int32)), (.int p3)])) _
      exact kont
    obtain ⟨_, _, ⟨T352, L352, k352, n352⟩, -, X352, ⟨Lc352, hQ352, l352, y352, z352⟩, st352⟩ := Jvm.LawKit.callS X344 hx (y := (⟨"com/example/subsume/subsume/engine/IndividualInequalityIndividualsPinLaw", "nameOf", "(IZ)Ljava/lang/String;"⟩ : MethodName)) hown (mvT hZ (hw _ (List.mem_of_getElem? (i := 0) rfl))) (mvT hZ (hw _ (List.mem_of_getElem? (i := 1) rfl))) (mvT hZ (hw _ (List.mem_of_getElem? (i := 2) rfl))) (mvT hZ (hw _ (List.mem_of_getElem? (i := 3) rfl))) (by decide) (backOf (W := 0) (rm_nameS l Z a0 hw [] p3 i_COMPACT_STRINGS T344.heap n0 O347 S0_ hcs) hZ (hw _ (List.mem_of_getElem? (i := 3) rfl)) (hw _ (List.mem_of_getElem? (i := 2) rfl)) (by decide) (by decide)) (g := (mkF m 31 #[iv p0, iv p1, iv p2, iv p3, iv p4, .val r345, .unset, .unset, .unset, .unset, .unset] [(.int (0 : Int32)), (.int p3)])) rfl (by rw [hml]; rfl) (argsL := [(.int p3), (.int (0 : Int32))]) (rest := []) (lenOf pd_8 rfl) rfl (by show 2 * 0 + _ ≤ _; exact Nat.le_of_eq rfl) (hb hby at_31) (fun _ _ => ⟨rfl, rfl, (by decide : 0 + 2 ≤ _), (by decide : 0 + 5 ≤ _)⟩)
    dsimp only [Pt.U, Pt.locs, Pt.cells, Pt.slots] at X352 l352 y352 z352 st352 hQ352
    subst l352 y352 z352
    obtain ⟨r353, rfl, M352, K352, y354⟩ := hQ352
    have N352 := Fr.app N344 M352
    have O355 := O347.keep K352 all0
    have g356 : Go p e below T352 (mkF m 34 #[iv p0, iv p1, iv p2, iv p3, iv p4, .val r345, .unset, .unset, .unset, .unset, .unset] [r353]) A0 := fun t kont => g351 t (st352 t kont)
    have g357 : Go p e below T352 (mkF m 36 #[iv p0, iv p1, iv p2, iv p3, iv p4, .val r345, .val r353, .unset, .unset, .unset, .unset] []) A0 := by
      intro t kont
      refine g356 t ?_
      refine XS.astore X352.here hx rfl (hb hby at_34) rfl (y354) (l' := #[iv p0, iv p1, iv p2, iv p3, iv p4, .val r345, .val r353, .unset, .unset, .unset, .unset]) (XS.store1 (o := .unset) rfl (Or.inl rfl) (own_catV (y354))) ?_
      show Steps p.tables e below (T352.setTop (mkF m 36 #[iv p0, iv p1, iv p2, iv p3, iv p4, .val r345, .val r353, .unset, .unset, .unset, .unset] [])) _
      exact kont
    obtain ⟨T358, h358, X358, e358, E358, A358, D358, -, st358⟩ := newO X352 hx hZ hown (hw _ (List.mem_of_getElem? (i := 30) rfl)) (hw _ (List.mem_of_getElem? (i := 31) rfl)) (hw _ (List.mem_of_getElem? (i := 32) rfl)) rfl (g := (mkF m 36 #[iv p0, iv p1, iv p2, iv p3, iv p4, .val r345, .val r353, .unset, .unset, .unset, .unset] [])) rfl (hb hby at_36) (by decide) (by decide)
    obtain ⟨b358, gb358⟩ : ∃ z, z = T352.heap.size := ⟨_, rfl⟩
    rw [← gb358] at A358 D358 st358
    have O359 := O355.ext E358
    have y360 : Fld Z h358 b358 "com/example/subsume/subsume/engine/Individual" "name" "Ljava/lang/String;" .null := D358 (Or.inr (hw _ (List.mem_of_getElem? (i := 38) rfl))) (ty := (.object "java/lang/String")) (by decide)
    have y361 : Fld Z h358 b358 "com/example/subsume/subsume/engine/Individual" "id" "I" (.int (0 : Int32)) := D358 (Or.inr (hw _ (List.mem_of_getElem? (i := 40) rfl))) (ty := .int) (by decide)
    have g362 : Go p e below T358 (mkF m 39 #[iv p0, iv p1, iv p2, iv p3, iv p4, .val r345, .val r353, .unset, .unset, .unset, .unset] [(.ref b358)]) A0 := fun t kont => g357 t (st358 t kont)
    have g363 : Go p e below T358 (mkF m 43 #[iv p0, iv p1, iv p2, iv p3, iv p4, .val r345, .val r353, .unset, .unset, .unset, .unset] [(.int p0), r345, (.ref b358), (.ref b358)]) A0 := by
      intro t kont
      refine g362 t ?_
      refine XS.dup X358.here hx rfl (hb hby at_39) rfl rfl ?_
      show Steps p.tables e below (T358.setTop (mkF m 40 #[iv p0, iv p1, iv p2, iv p3, iv p4, .val r345, .val r353, .unset, .unset, .unset, .unset] [(.ref b358), (.ref b358)])) _
      refine XS.aload X358.here hx rfl (hb hby at_40) rfl (y346) ?_
      show Steps p.tables e below (T358.setTop (mkF m 42 #[iv p0, iv p1, iv p2, iv p3, iv p4, .val r345, .val r353, .unset, .unset, .unset, .unset] [r345, (.ref b358), (.ref b358)])) _
      refine XS.iloadN X358.here hx rfl (hb hby at_42) rfl ?_
      show Steps p.tables e below (T358.setTop (mkF m 43 #[iv p0, iv p1, iv p2, iv p3, iv p4, .val r345, .val r353, .unset, .unset, .unset, .unset] [(.int p0), r345, (.ref b358), (.ref b358)])) _
      exact kont
    have ge365 : n0 ≤ b358 := Nat.le_trans (own_old_le O355) (Nat.le_of_eq gb358.symm)
    obtain ⟨_, _, ⟨T364, L364, k364, n364⟩, -, X364, ⟨Lc364, hQ364, l364, y364, z364⟩, st364⟩ := X358.specialBack hx (y := (⟨"com/example/subsume/subsume/engine/Individual", "<init>", "(Ljava/lang/String;I)V"⟩ : MethodName)) rfl hown (mvT hZ (hw _ (List.mem_of_getElem? (i := 33) rfl))) (mvT hZ (hw _ (List.mem_of_getElem? (i := 34) rfl))) (mvT hZ (hw _ (List.mem_of_getElem? (i := 35) rfl))) (by decide) (backOf (W := 1) (rm_indI l Z a0 hw [] b358 r345 p0 h358 n0 O359 y346 y360 y361 A358 ge365) hZ (hw _ (List.mem_of_getElem? (i := 35) rfl)) (hw _ (List.mem_of_getElem? (i := 32) rfl)) (by decide) (by decide)) (g := (mkF m 43 #[iv p0, iv p1, iv p2, iv p3, iv p4, .val r345, .val r353, .unset, .unset, .unset, .unset] [(.int p0), r345, (.ref b358), (.ref b358)])) rfl (by rw [hml]; rfl) (Steps.refl _) (a := b358) (argsL := [r345, (.int p0)]) (rest := [(.ref b358)]) (lenOf pd_9 rfl) rfl (by show 2 * 0 + _ ≤ _; exact Nat.le_of_eq rfl) (hb hby at_43) (fun _ _ => ⟨rfl, e358, (by decide : 3 + 0 ≤ _), (by decide : 7 + 0 ≤ _)⟩)
    dsimp only [Pt.U, Pt.locs, Pt.cells, Pt.slots] at X364 l364 y364 z364 st364 hQ364
    subst l364 y364 z364
    obtain ⟨rfl, M364, K364, y366⟩ := hQ364
    have N364 := Fr.app N352 M364
    have O367 := O359.keep K364 (allS ge365 all0)
    have g368 : Go p e below T364 (mkF m 46 #[iv p0, iv p1, iv p2, iv p3, iv p4, .val r345, .val r353, .unset, .unset, .unset, .unset] [(.ref b358)]) A0 := fun t kont => g363 t (st364.trans kont)
    have g370 : Go p e below T364 (mkF m 52 #[iv p0, iv p1, iv p2, iv p3, iv p4, .val r345, .val r353, rv b358, .unset, .unset, .unset] [(.int (p4 &&& (4 : Int32)))]) A0 := by
      intro t kont
      refine g368 t ?_
      refine XS.astore X364.here hx rfl (hb hby at_46) rfl rfl (l' := #[iv p0, iv p1, iv p2, iv p3, iv p4, .val r345, .val r353, rv b358, .unset, .unset, .unset]) rfl ?_
      show Steps p.tables e below (T364.setTop (mkF m 48 #[iv p0, iv p1, iv p2, iv p3, iv p4, .val r345, .val r353, rv b358, .unset, .unset, .unset] [])) _
      refine XS.iload X364.here hx rfl (hb hby at_48) rfl ?_
      show Steps p.tables e below (T364.setTop (mkF m 50 #[iv p0, iv p1, iv p2, iv p3, iv p4, .val r345, .val r353, rv b358, .unset, .unset, .unset] [(.int p4)])) _
      refine XS.iconst X364.here hx rfl (hb hby at_50) ?_
      show Steps p.tables e below (T364.setTop (mkF m 51 #[iv p0, iv p1, iv p2, iv p3, iv p4, .val r345, .val r353, rv b358, .unset, .unset, .unset] [(.int (4 : Int32)), (.int p4)])) _
      refine XS.iand X364.here hx rfl (hb hby at_51) rfl ?_
      show Steps p.tables e below (T364.setTop (mkF m 52 #[iv p0, iv p1, iv p2, iv p3, iv p4, .val r345, .val r353, rv b358, .unset, .unset, .unset] [(.int (p4 &&& (4 : Int32)))])) _
      exact kont
    by_cases c369 : (p4 &&& (4 : Int32)) = (0 : Int32)
    ·
      have g371 : Go p e below T364 (mkF m 60 #[iv p0, iv p1, iv p2, iv p3, iv p4, .val r345, .val r353, rv b358, .unset, .unset, .unset] []) A0 := by
        intro t kont
        refine g370 t ?_
        refine XS.ifYes X364.here hx rfl (pc0 := 52) (pc' := 60) rfl (hb hby at_52) rfl ((if0 _ _).trans (teq c369).1) (by decide) (by decide) ?_
        show Steps p.tables e below (T364.setTop (mkF m 60 #[iv p0, iv p1, iv p2, iv p3, iv p4, .val r345, .val r353, rv b358, .unset, .unset, .unset] [])) _
        exact kont
      obtain ⟨T372, h372, X372, e372, E372, A372, D372, -, st372⟩ := newO X364 hx hZ hown (hw _ (List.mem_of_getElem? (i := 30) rfl)) (hw _ (List.mem_of_getElem? (i := 31) rfl)) (hw _ (List.mem_of_getElem? (i := 32) rfl)) rfl (g := (mkF m 60 #[iv p0, iv p1, iv p2, iv p3, iv p4, .val r345, .val r353, rv b358, .unset, .unset, .unset] [])) rfl (hb hby at_60) (by decide) (by decide)
      obtain ⟨b372, gb372⟩ : ∃ z, z = T364.heap.size := ⟨_, rfl⟩
      rw [← gb372] at A372 D372 st372
      have O373 := O367.ext E372
      have y374 : Fld Z h372 b372 "com/example/subsume/subsume/engine/Individual" "name" "Ljava/lang/String;" .null := D372 (Or.inr (hw _ (List.mem_of_getElem? (i := 38) rfl))) (ty := (.object "java/lang/String")) (by decide)
      have y375 : Fld Z h372 b372 "com/example/subsume/subsume/engine/Individual" "id" "I" (.int (0 : Int32)) := D372 (Or.inr (hw _ (List.mem_of_getElem? (i := 40) rfl))) (ty := .int) (by decide)
      have g376 : Go p e below T372 (mkF m 63 #[iv p0, iv p1, iv p2, iv p3, iv p4, .val r345, .val r353, rv b358, .unset, .unset, .unset] [(.ref b372)]) A0 := fun t kont => g371 t (st372 t kont)
      have g377 : Go p e below T372 (mkF m 67 #[iv p0, iv p1, iv p2, iv p3, iv p4, .val r345, .val r353, rv b358, .unset, .unset, .unset] [(.int p1), r353, (.ref b372), (.ref b372)]) A0 := by
        intro t kont
        refine g376 t ?_
        refine XS.dup X372.here hx rfl (hb hby at_63) rfl rfl ?_
        show Steps p.tables e below (T372.setTop (mkF m 64 #[iv p0, iv p1, iv p2, iv p3, iv p4, .val r345, .val r353, rv b358, .unset, .unset, .unset] [(.ref b372), (.ref b372)])) _
        refine XS.aload X372.here hx rfl (hb hby at_64) rfl (y354) ?_
        show Steps p.tables e below (T372.setTop (mkF m 66 #[iv p0, iv p1, iv p2, iv p3, iv p4, .val r345, .val r353, rv b358, .unset, .unset, .unset] [r353, (.ref b372), (.ref b372)])) _
        refine XS.iloadN X372.here hx rfl (hb hby at_66) rfl ?_
        show Steps p.tables e below (T372.setTop (mkF m 67 #[iv p0, iv p1, iv p2, iv p3, iv p4, .val r345, .val r353, rv b358, .unset, .unset, .unset] [(.int p1), r353, (.ref b372), (.ref b372)])) _
        exact kont
      have ge379 : n0 ≤ b372 := Nat.le_trans (own_old_le O367) (Nat.le_of_eq gb372.symm)
      obtain ⟨_, _, ⟨T378, L378, k378, n378⟩, -, X378, ⟨Lc378, hQ378, l378, y378, z378⟩, st378⟩ := X372.specialBack hx (y := (⟨"com/example/subsume/subsume/engine/Individual", "<init>", "(Ljava/lang/String;I)V"⟩ : MethodName)) rfl hown (mvT hZ (hw _ (List.mem_of_getElem? (i := 33) rfl))) (mvT hZ (hw _ (List.mem_of_getElem? (i := 34) rfl))) (mvT hZ (hw _ (List.mem_of_getElem? (i := 35) rfl))) (by decide) (backOf (W := 1) (rm_indI l Z a0 hw [] b372 r353 p1 h372 n0 O373 y354 y374 y375 A372 ge379) hZ (hw _ (List.mem_of_getElem? (i := 35) rfl)) (hw _ (List.mem_of_getElem? (i := 32) rfl)) (by decide) (by decide)) (g := (mkF m 67 #[iv p0, iv p1, iv p2, iv p3, iv p4, .val r345, .val r353, rv b358, .unset, .unset, .unset] [(.int p1), r353, (.ref b372), (.ref b372)])) rfl (by rw [hml]; rfl) (Steps.refl _) (a := b372) (argsL := [r353, (.int p1)]) (rest := [(.ref b372)]) (lenOf pd_9 rfl) rfl (by show 2 * 0 + _ ≤ _; exact Nat.le_of_eq rfl) (hb hby at_67) (fun _ _ => ⟨rfl, e372, (by decide : 4 + 0 ≤ _), (by decide : 9 + 0 ≤ _)⟩)
      dsimp only [Pt.U, Pt.locs, Pt.cells, Pt.slots] at X378 l378 y378 z378 st378 hQ378
      subst l378 y378 z378
      obtain ⟨rfl, M378, K378, y380⟩ := hQ378
      have N378 := Fr.app N364 M378
      have O381 := O373.keep K378 (allS ge379 all0)
      have g382 : Go p e below T378 (mkF m 70 #[iv p0, iv p1, iv p2, iv p3, iv p4, .val r345, .val r353, rv b358, .unset, .unset, .unset] [(.ref b372)]) A0 := fun t kont => g377 t (st378.trans kont)
      have g383 : Go p e below T378 (mkF m 72 #[iv p0, iv p1, iv p2, iv p3, iv p4, .val r345, .val r353, rv b358, rv b372, .unset, .unset] []) A0 := by
        intro t kont
        refine g382 t ?_
        refine XS.astore X378.here hx rfl (hb hby at_70) rfl rfl (l' := #[iv p0, iv p1, iv p2, iv p3, iv p4, .val r345, .val r353, rv b358, rv b372, .unset, .unset]) rfl ?_
        show Steps p.tables e below (T378.setTop (mkF m 72 #[iv p0, iv p1, iv p2, iv p3, iv p4, .val r345, .val r353, rv b358, rv b372, .unset, .unset] [])) _
        exact kont
      obtain ⟨T384, h384, X384, e384, E384, A384, D384, -, st384⟩ := newO X378 hx hZ hown (hw _ (List.mem_of_getElem? (i := 41) rfl)) (hw _ (List.mem_of_getElem? (i := 42) rfl)) (hw _ (List.mem_of_getElem? (i := 43) rfl)) rfl (g := (mkF m 72 #[iv p0, iv p1, iv p2, iv p3, iv p4, .val r345, .val r353, rv b358, rv b372, .unset, .unset] [])) rfl (hb hby at_72) (by decide) (by decide)
      obtain ⟨b384, gb384⟩ : ∃ z, z = T378.heap.size := ⟨_, rfl⟩
      rw [← gb384] at A384 D384 st384
      have O385 := O381.ext E384
      have y386 : Fld Z h384 b384 "com/example/subsume/subsume/engine/IndividualInequality" "individual" "Lcom/example/subsume/subsume/engine/Individual;" .null := D384 (Or.inr (hw _ (List.mem_of_getElem? (i := 54) rfl))) (ty := (.object "com/example/subsume/subsume/engine/Individual")) (by decide)
      have y387 : Fld Z h384 b384 "com/example/subsume/subsume/engine/IndividualInequality" "other" "Lcom/example/subsume/subsume/engine/Individual;" .null := D384 (Or.inr (hw _ (List.mem_of_getElem? (i := 56) rfl))) (ty := (.object "com/example/subsume/subsume/engine/Individual")) (by decide)
      have g388 : Go p e below T384 (mkF m 75 #[iv p0, iv p1, iv p2, iv p3, iv p4, .val r345, .val r353, rv b358, rv b372, .unset, .unset] [(.ref b384)]) A0 := fun t kont => g383 t (st384 t kont)
      have g389 : Go p e below T384 (mkF m 80 #[iv p0, iv p1, iv p2, iv p3, iv p4, .val r345, .val r353, rv b358, rv b372, .unset, .unset] [(.ref b372), (.ref b358), (.ref b384), (.ref b384)]) A0 := by
        intro t kont
        refine g388 t ?_
        refine XS.dup X384.here hx rfl (hb hby at_75) rfl rfl ?_
        show Steps p.tables e below (T384.setTop (mkF m 76 #[iv p0, iv p1, iv p2, iv p3, iv p4, .val r345, .val r353, rv b358, rv b372, .unset, .unset] [(.ref b384), (.ref b384)])) _
        refine XS.aload X384.here hx rfl (hb hby at_76) rfl rfl ?_
        show Steps p.tables e below (T384.setTop (mkF m 78 #[iv p0, iv p1, iv p2, iv p3, iv p4, .val r345, .val r353, rv b358, rv b372, .unset, .unset] [(.ref b358), (.ref b384), (.ref b384)])) _
        refine XS.aload X384.here hx rfl (hb hby at_78) rfl rfl ?_
        show Steps p.tables e below (T384.setTop (mkF m 80 #[iv p0, iv p1, iv p2, iv p3, iv p4, .val r345, .val r353, rv b358, rv b372, .unset, .unset] [(.ref b372), (.ref b358), (.ref b384), (.ref b384)])) _
        exact kont
      have ge391 : n0 ≤ b384 := Nat.le_trans (own_old_le O381) (Nat.le_of_eq gb384.symm)
      obtain ⟨_, _, ⟨T390, L390, k390, n390⟩, -, X390, ⟨Lc390, hQ390, l390, y390, z390⟩, st390⟩ := X384.specialBack hx (y := (⟨"com/example/subsume/subsume/engine/IndividualInequality", "<init>", "(Lcom/example/subsume/subsume/engine/Individual;Lcom/example/subsume/subsume/engine/Individual;)V"⟩ : MethodName)) rfl hown (mvT hZ (hw _ (List.mem_of_getElem? (i := 44) rfl))) (mvT hZ (hw _ (List.mem_of_getElem? (i := 45) rfl))) (mvT hZ (hw _ (List.mem_of_getElem? (i := 46) rfl))) (by decide) (backOf (W := 1) (rm_relI l Z a0 hw [] b384 b358 b372 h384 n0 O385 y386 y387 A384 ge391) hZ (hw _ (List.mem_of_getElem? (i := 46) rfl)) (hw _ (List.mem_of_getElem? (i := 43) rfl)) (by decide) (by decide)) (g := (mkF m 80 #[iv p0, iv p1, iv p2, iv p3, iv p4, .val r345, .val r353, rv b358, rv b372, .unset, .unset] [(.ref b372), (.ref b358), (.ref b384), (.ref b384)])) rfl (by rw [hml]; rfl) (Steps.refl _) (a := b384) (argsL := [(.ref b358), (.ref b372)]) (rest := [(.ref b384)]) (lenOf pd_10 rfl) rfl (by show 2 * 0 + _ ≤ _; exact Nat.le_of_eq rfl) (hb hby at_80) (fun _ _ => ⟨rfl, e384, (by decide : 5 + 0 ≤ _), (by decide : 11 + 0 ≤ _)⟩)
      dsimp only [Pt.U, Pt.locs, Pt.cells, Pt.slots] at X390 l390 y390 z390 st390 hQ390
      subst l390 y390 z390
      obtain ⟨rfl, M390, K390, y392, y393, y394⟩ := hQ390
      have N390 := Fr.app N378 M390
      have O395 := O385.keep K390 (allS ge391 all0)
      have g396 : Go p e below T390 (mkF m 83 #[iv p0, iv p1, iv p2, iv p3, iv p4, .val r345, .val r353, rv b358, rv b372, .unset, .unset] [(.ref b384)]) A0 := fun t kont => g389 t (st390.trans kont)
      have g397 : Go p e below T390 (mkF m 87 #[iv p0, iv p1, iv p2, iv p3, iv p4, .val r345, .val r353, rv b358, rv b372, rv b384, .unset] [(.ref b384)]) A0 := by
        intro t kont
        refine g396 t ?_
        refine XS.astore X390.here hx rfl (hb hby at_83) rfl rfl (l' := #[iv p0, iv p1, iv p2, iv p3, iv p4, .val r345, .val r353, rv b358, rv b372, rv b384, .unset]) rfl ?_
        show Steps p.tables e below (T390.setTop (mkF m 85 #[iv p0, iv p1, iv p2, iv p3, iv p4, .val r345, .val r353, rv b358, rv b372, rv b384, .unset] [])) _
        refine XS.aload X390.here hx rfl (hb hby at_85) rfl rfl ?_
        show Steps p.tables e below (T390.setTop (mkF m 87 #[iv p0, iv p1, iv p2, iv p3, iv p4, .val r345, .val r353, rv b358, rv b372, rv b384, .unset] [(.ref b384)])) _
        exact kont
      obtain ⟨cq398, kq398, q398a, q398b, q398c⟩ := isOf hZ rfl y392
      obtain ⟨_, _, ⟨T398, L398, k398, n398⟩, -, X398, ⟨Lc398, hQ398, l398, y398, z398⟩, st398⟩ := X390.virtualBack hx (y := (⟨"com/example/subsume/subsume/engine/IndividualInequality", "individuals", "()Ljava/util/List;"⟩ : MethodName)) (z := (⟨"com/example/subsume/subsume/engine/IndividualInequality", "individuals", "()Ljava/util/List;"⟩ : MethodName)) hown (mvT hZ (hw _ (List.mem_of_getElem? (i := 57) rfl))) (mvT hZ (hw _ (List.mem_of_getElem? (i := 58) rfl))) (notFace_of_selects (args := #[]) (mvT hZ (hw _ (List.mem_of_getElem? (i := 60) rfl)))) (mvT hZ (hw _ (List.mem_of_getElem? (i := 60) rfl))) (mvT hZ (hw _ (List.mem_of_getElem? (i := 59) rfl))) (by decide) (backOf (W := 0) (rm_inds l Z a0 hw [] b384 b358 b372 T390.heap n0 O395 y393 y394) hZ (hw _ (List.mem_of_getElem? (i := 61) rfl)) (hw _ (List.mem_of_getElem? (i := 43) rfl)) (by decide) (by decide)) q398a q398c (g := (mkF m 87 #[iv p0, iv p1, iv p2, iv p3, iv p4, .val r345, .val r353, rv b358, rv b372, rv b384, .unset] [(.ref b384)])) rfl (by rw [hml]; rfl) (Steps.refl _) (argsL := []) (rest := []) (lenOf pd_11 rfl) rfl (by show 2 * 0 + _ ≤ _; exact Nat.le_of_eq rfl) (hb hby at_87) (fun _ _ => ⟨rfl, rfl, (by decide : 5 + 1 ≤ _), (by decide : 11 + 2 ≤ _)⟩)
      dsimp only [Pt.U, Pt.locs, Pt.cells, Pt.slots] at X398 l398 y398 z398 st398 hQ398
      subst l398 y398 z398
      obtain ⟨r399, rfl, M398, K398, y400, y401, y402, y403⟩ := hQ398
      have N398 := Fr.app N390 M398
      have O404 := O395.keep K398 all0
      have g405 : Go p e below T398 (mkF m 90 #[iv p0, iv p1, iv p2, iv p3, iv p4, .val r345, .val r353, rv b358, rv b372, rv b384, .unset] [(.ref r399)]) A0 := fun t kont => g397 t (st398.trans kont)
      have g406 : Go p e below T398 (mkF m 94 #[iv p0, iv p1, iv p2, iv p3, iv p4, .val r345, .val r353, rv b358, rv b372, rv b384, rv r399] [(.ref r399)]) A0 := by
        intro t kont
        refine g405 t ?_
        refine XS.astore X398.here hx rfl (hb hby at_90) rfl rfl (l' := #[iv p0, iv p1, iv p2, iv p3, iv p4, .val r345, .val r353, rv b358, rv b372, rv b384, rv r399]) rfl ?_
        show Steps p.tables e below (T398.setTop (mkF m 92 #[iv p0, iv p1, iv p2, iv p3, iv p4, .val r345, .val r353, rv b358, rv b372, rv b384, rv r399] [])) _
        refine XS.aload X398.here hx rfl (hb hby at_92) rfl rfl ?_
        show Steps p.tables e below (T398.setTop (mkF m 94 #[iv p0, iv p1, iv p2, iv p3, iv p4, .val r345, .val r353, rv b358, rv b372, rv b384, rv r399] [(.ref r399)])) _
        exact kont
      obtain ⟨cq407, kq407, q407a, q407b, q407c⟩ := isOf hZ rfl y401
      obtain ⟨_, _, ⟨T407, L407, k407, n407⟩, -, X407, ⟨Lc407, hQ407, l407, y407, z407⟩, st407⟩ := X398.interfaceBack hx (xi := (⟨"java/util/List", "size", "()I"⟩ : MethodName)) (y := (⟨"java/util/ImmutableCollections$List12", "size", "()I"⟩ : MethodName)) hown (mvT hZ (hw _ (List.mem_of_getElem? (i := 100) rfl))) (mvT hZ (hw _ (List.mem_of_getElem? (i := 101) rfl))) (mvT hZ (hw _ (List.mem_of_getElem? (i := 102) rfl))) (mvT hZ (hw _ (List.mem_of_getElem? (i := 103) rfl))) (mvT hZ (hw _ (List.mem_of_getElem? (i := 104) rfl))) (mvT hZ (hw _ (List.mem_of_getElem? (i := 105) rfl))) (mvT hZ (hw _ (List.mem_of_getElem? (i := 106) rfl))) (mvT hZ (hw _ (List.mem_of_getElem? (i := 107) rfl))) (by decide) (backOf (W := 0) (rm_siz l Z a0 hw [] r399 b372 w_EMPTY T398.heap n0 O404 y403 S1_ (Ne.symm (O404.ne ZE3_.lt ge379))) hZ (hw _ (List.mem_of_getElem? (i := 108) rfl)) (hw _ (List.mem_of_getElem? (i := 68) rfl)) (by decide) (by decide)) q407a q407b q407c (g := (mkF m 94 #[iv p0, iv p1, iv p2, iv p3, iv p4, .val r345, .val r353, rv b358, rv b372, rv b384, rv r399] [(.ref r399)])) rfl (by rw [hml]; rfl) (Steps.refl _) (argsL := []) (rest := []) (lenOf pd_12 rfl) rfl (by show 2 * 0 + _ ≤ _; exact Nat.le_of_eq rfl) (hb hby at_94) (fun _ _ => ⟨rfl, rfl, (by decide : 6 + 0 ≤ _), (by decide : 13 + 0 ≤ _)⟩)
      dsimp only [Pt.U, Pt.locs, Pt.cells, Pt.slots] at X407 l407 y407 z407 st407 hQ407
      subst l407 y407 z407
      obtain ⟨rfl, M407, e407⟩ := hQ407
      have N407 := Fr.app N398 M407
      have g408 : Go p e below T407 (mkF m 99 #[iv p0, iv p1, iv p2, iv p3, iv p4, .val r345, .val r353, rv b358, rv b372, rv b384, rv r399] [(.int (2 : Int32))]) A0 := fun t kont => g406 t (st407.trans kont)
      have g409 : Go p e below T407 (mkF m 108 #[iv p0, iv p1, iv p2, iv p3, iv p4, .val r345, .val r353, rv b358, rv b372, rv b384, rv r399] [(.int (0 : Int32)), (.ref r399)]) A0 := by
        intro t kont
        refine g408 t ?_
        refine XS.iconst X407.here hx rfl (hb hby at_99) ?_
        show Steps p.tables e below (T407.setTop (mkF m 100 #[iv p0, iv p1, iv p2, iv p3, iv p4, .val r345, .val r353, rv b358, rv b372, rv b384, rv r399] [(.int (2 : Int32)), (.int (2 : Int32))])) _
        refine XS.icmpYes X407.here hx rfl (pc0 := 100) (pc' := 105) rfl (hb hby at_100) rfl (teq (by decide : (2 : Int32) = (2 : Int32))).1 (by decide) (by decide) ?_
        show Steps p.tables e below (T407.setTop (mkF m 105 #[iv p0, iv p1, iv p2, iv p3, iv p4, .val r345, .val r353, rv b358, rv b372, rv b384, rv r399] [])) _
        refine XS.aload X407.here hx rfl (hb hby at_105) rfl rfl ?_
        show Steps p.tables e below (T407.setTop (mkF m 107 #[iv p0, iv p1, iv p2, iv p3, iv p4, .val r345, .val r353, rv b358, rv b372, rv b384, rv r399] [(.ref r399)])) _
        refine XS.iconst X407.here hx rfl (hb hby at_107) ?_
        show Steps p.tables e below (T407.setTop (mkF m 108 #[iv p0, iv p1, iv p2, iv p3, iv p4, .val r345, .val r353, rv b358, rv b372, rv b384, rv r399] [(.int (0 : Int32)), (.ref r399)])) _
        exact kont
      obtain ⟨cq410, kq410, q410a, q410b, q410c⟩ := isOf hZ e407 y401
      obtain ⟨_, _, ⟨T410, L410, k410, n410⟩, -, X410, ⟨Lc410, hQ410, l410, y410, z410⟩, st410⟩ := X407.interfaceBack hx (xi := (⟨"java/util/List", "get", "(I)Ljava/lang/Object;"⟩ : MethodName)) (y := (⟨"java/util/ImmutableCollections$List12", "get", "(I)Ljava/lang/Object;"⟩ : MethodName)) hown (mvT hZ (hw _ (List.mem_of_getElem? (i := 111) rfl))) (mvT hZ (hw _ (List.mem_of_getElem? (i := 112) rfl))) (mvT hZ (hw _ (List.mem_of_getElem? (i := 113) rfl))) (mvT hZ (hw _ (List.mem_of_getElem? (i := 114) rfl))) (mvT hZ (hw _ (List.mem_of_getElem? (i := 115) rfl))) (mvT hZ (hw _ (List.mem_of_getElem? (i := 116) rfl))) (mvT hZ (hw _ (List.mem_of_getElem? (i := 117) rfl))) (mvT hZ (hw _ (List.mem_of_getElem? (i := 107) rfl))) (by decide) (backOf (W := 0) (rm_get0 l Z a0 hw [] r399 b358 T398.heap n0 O404 y402) hZ (hw _ (List.mem_of_getElem? (i := 118) rfl)) (hw _ (List.mem_of_getElem? (i := 68) rfl)) (by decide) (by decide)) q410a q410b q410c (g := (mkF m 108 #[iv p0, iv p1, iv p2, iv p3, iv p4, .val r345, .val r353, rv b358, rv b372, rv b384, rv r399] [(.int (0 : Int32)), (.ref r399)])) rfl (by rw [hml]; rfl) (Steps.refl _) (argsL := [(.int (0 : Int32))]) (rest := []) (lenOf pd_13 rfl) rfl (by show 2 * 0 + _ ≤ _; exact Nat.le_of_eq rfl) (hb hby at_108) (fun _ _ => ⟨rfl, e407, (by decide : 6 + 0 ≤ _), (by decide : 13 + 0 ≤ _)⟩)
      dsimp only [Pt.U, Pt.locs, Pt.cells, Pt.slots] at X410 l410 y410 z410 st410 hQ410
      subst l410 y410 z410
      obtain ⟨rfl, M410, e410⟩ := hQ410
      have N410 := Fr.app N407 M410
      have g411 : Go p e below T410 (mkF m 113 #[iv p0, iv p1, iv p2, iv p3, iv p4, .val r345, .val r353, rv b358, rv b372, rv b384, rv r399] [(.ref b358)]) A0 := fun t kont => g409 t (st410.trans kont)
      have g412 : Go p e below T410 (mkF m 123 #[iv p0, iv p1, iv p2, iv p3, iv p4, .val r345, .val r353, rv b358, rv b372, rv b384, rv r399] [(.int (1 : Int32)), (.ref r399)]) A0 := by
        intro t kont
        refine g411 t ?_
        refine XS.aload X410.here hx rfl (hb hby at_113) rfl rfl ?_
        show Steps p.tables e below (T410.setTop (mkF m 115 #[iv p0, iv p1, iv p2, iv p3, iv p4, .val r345, .val r353, rv b358, rv b372, rv b384, rv r399] [(.ref b358), (.ref b358)])) _
        refine Jvm.RoadKit.acmp (g := (mkF m 115 #[iv p0, iv p1, iv p2, iv p3, iv p4, .val r345, .val r353, rv b358, rv b372, rv b384, rv r399] [(.ref b358), (.ref b358)])) X410 hx rfl rfl rfl (pc0 := 115) (pc' := 120) (same := true) rfl (hb hby at_115) rfl (decide_eq_true rfl) (by decide) (by decide) ?_
        show Steps p.tables e below (T410.setTop (mkF m 120 #[iv p0, iv p1, iv p2, iv p3, iv p4, .val r345, .val r353, rv b358, rv b372, rv b384, rv r399] [])) _
        refine XS.aload X410.here hx rfl (hb hby at_120) rfl rfl ?_
        show Steps p.tables e below (T410.setTop (mkF m 122 #[iv p0, iv p1, iv p2, iv p3, iv p4, .val r345, .val r353, rv b358, rv b372, rv b384, rv r399] [(.ref r399)])) _
        refine XS.iconst X410.here hx rfl (hb hby at_122) ?_
        show Steps p.tables e below (T410.setTop (mkF m 123 #[iv p0, iv p1, iv p2, iv p3, iv p4, .val r345, .val r353, rv b358, rv b372, rv b384, rv r399] [(.int (1 : Int32)), (.ref r399)])) _
        exact kont
      obtain ⟨cq413, kq413, q413a, q413b, q413c⟩ := isOf hZ e410 y401
      obtain ⟨_, _, ⟨T413, L413, k413, n413⟩, -, X413, ⟨Lc413, hQ413, l413, y413, z413⟩, st413⟩ := X410.interfaceBack hx (xi := (⟨"java/util/List", "get", "(I)Ljava/lang/Object;"⟩ : MethodName)) (y := (⟨"java/util/ImmutableCollections$List12", "get", "(I)Ljava/lang/Object;"⟩ : MethodName)) hown (mvT hZ (hw _ (List.mem_of_getElem? (i := 111) rfl))) (mvT hZ (hw _ (List.mem_of_getElem? (i := 112) rfl))) (mvT hZ (hw _ (List.mem_of_getElem? (i := 113) rfl))) (mvT hZ (hw _ (List.mem_of_getElem? (i := 114) rfl))) (mvT hZ (hw _ (List.mem_of_getElem? (i := 115) rfl))) (mvT hZ (hw _ (List.mem_of_getElem? (i := 116) rfl))) (mvT hZ (hw _ (List.mem_of_getElem? (i := 117) rfl))) (mvT hZ (hw _ (List.mem_of_getElem? (i := 107) rfl))) (by decide) (backOf (W := 0) (rm_get1 l Z a0 hw [] r399 b372 w_EMPTY T398.heap n0 O404 y403 S1_ (Ne.symm (O404.ne ZE3_.lt ge379))) hZ (hw _ (List.mem_of_getElem? (i := 118) rfl)) (hw _ (List.mem_of_getElem? (i := 68) rfl)) (by decide) (by decide)) q413a q413b q413c (g := (mkF m 123 #[iv p0, iv p1, iv p2, iv p3, iv p4, .val r345, .val r353, rv b358, rv b372, rv b384, rv r399] [(.int (1 : Int32)), (.ref r399)])) rfl (by rw [hml]; rfl) (Steps.refl _) (argsL := [(.int (1 : Int32))]) (rest := []) (lenOf pd_13 rfl) rfl (by show 2 * 0 + _ ≤ _; exact Nat.le_of_eq rfl) (hb hby at_123) (fun _ _ => ⟨rfl, e410, (by decide : 6 + 0 ≤ _), (by decide : 13 + 0 ≤ _)⟩)
      dsimp only [Pt.U, Pt.locs, Pt.cells, Pt.slots] at X413 l413 y413 z413 st413 hQ413
      subst l413 y413 z413
      obtain ⟨rfl, M413, e413⟩ := hQ413
      have N413 := Fr.app N410 M413
      have g414 : Go p e below T413 (mkF m 128 #[iv p0, iv p1, iv p2, iv p3, iv p4, .val r345, .val r353, rv b358, rv b372, rv b384, rv r399] [(.ref b372)]) A0 := fun t kont => g412 t (st413.trans kont)
      have g415 : Go p e below T413 (mkF m 137 #[iv p0, iv p1, iv p2, iv p3, iv p4, .val r345, .val r353, rv b358, rv b372, rv b384, rv r399] [(.ref b384)]) A0 := by
        intro t kont
        refine g414 t ?_
        refine XS.aload X413.here hx rfl (hb hby at_128) rfl rfl ?_
        show Steps p.tables e below (T413.setTop (mkF m 130 #[iv p0, iv p1, iv p2, iv p3, iv p4, .val r345, .val r353, rv b358, rv b372, rv b384, rv r399] [(.ref b372), (.ref b372)])) _
        refine Jvm.RoadKit.acmp (g := (mkF m 130 #[iv p0, iv p1, iv p2, iv p3, iv p4, .val r345, .val r353, rv b358, rv b372, rv b384, rv r399] [(.ref b372), (.ref b372)])) X413 hx rfl rfl rfl (pc0 := 130) (pc' := 135) (same := true) rfl (hb hby at_130) rfl (decide_eq_true rfl) (by decide) (by decide) ?_
        show Steps p.tables e below (T413.setTop (mkF m 135 #[iv p0, iv p1, iv p2, iv p3, iv p4, .val r345, .val r353, rv b358, rv b372, rv b384, rv r399] [])) _
        refine XS.aload X413.here hx rfl (hb hby at_135) rfl rfl ?_
        show Steps p.tables e below (T413.setTop (mkF m 137 #[iv p0, iv p1, iv p2, iv p3, iv p4, .val r345, .val r353, rv b358, rv b372, rv b384, rv r399] [(.ref b384)])) _
        exact kont
      have y417 : Exa Z T398.heap b384 "com/example/subsume/subsume/engine/IndividualInequality" := (y392.keep K398)
      have y418 : Fld Z T398.heap b384 "com/example/subsume/subsume/engine/IndividualInequality" "individual" "Lcom/example/subsume/subsume/engine/Individual;" (.ref b358) := (y393.keep K398 nin0)
      obtain ⟨cq416, kq416, q416a, q416b, q416c⟩ := isOf hZ e413 y417
      obtain ⟨_, _, ⟨T416, L416, k416, n416⟩, -, X416, ⟨Lc416, hQ416, l416, y416, z416⟩, st416⟩ := X413.virtualBack hx (y := (⟨"com/example/subsume/subsume/engine/IndividualInequality", "individual", "()Lcom/example/subsume/subsume/engine/Individual;"⟩ : MethodName)) (z := (⟨"com/example/subsume/subsume/engine/IndividualInequality", "individual", "()Lcom/example/subsume/subsume/engine/Individual;"⟩ : MethodName)) hown (mvT hZ (hw _ (List.mem_of_getElem? (i := 119) rfl))) (mvT hZ (hw _ (List.mem_of_getElem? (i := 120) rfl))) (notFace_of_selects (args := #[]) (mvT hZ (hw _ (List.mem_of_getElem? (i := 122) rfl)))) (mvT hZ (hw _ (List.mem_of_getElem? (i := 122) rfl))) (mvT hZ (hw _ (List.mem_of_getElem? (i := 121) rfl))) (by decide) (backOf (W := 0) (rm_rInd l Z a0 hw [] b384 b358 T398.heap n0 O404 y418) hZ (hw _ (List.mem_of_getElem? (i := 123) rfl)) (hw _ (List.mem_of_getElem? (i := 43) rfl)) (by decide) (by decide)) q416a q416c (g := (mkF m 137 #[iv p0, iv p1, iv p2, iv p3, iv p4, .val r345, .val r353, rv b358, rv b372, rv b384, rv r399] [(.ref b384)])) rfl (by rw [hml]; rfl) (Steps.refl _) (argsL := []) (rest := []) (lenOf pd_14 rfl) rfl (by show 2 * 0 + _ ≤ _; exact Nat.le_of_eq rfl) (hb hby at_137) (fun _ _ => ⟨rfl, e413, (by decide : 6 + 0 ≤ _), (by decide : 13 + 0 ≤ _)⟩)
      dsimp only [Pt.U, Pt.locs, Pt.cells, Pt.slots] at X416 l416 y416 z416 st416 hQ416
      subst l416 y416 z416
      obtain ⟨rfl, M416, e416⟩ := hQ416
      have N416 := Fr.app N413 M416
      have g419 : Go p e below T416 (mkF m 140 #[iv p0, iv p1, iv p2, iv p3, iv p4, .val r345, .val r353, rv b358, rv b372, rv b384, rv r399] [(.ref b358)]) A0 := fun t kont => g415 t (st416.trans kont)
      have g420 : Go p e below T416 (mkF m 147 #[iv p0, iv p1, iv p2, iv p3, iv p4, .val r345, .val r353, rv b358, rv b372, rv b384, rv r399] [(.ref b384)]) A0 := by
        intro t kont
        refine g419 t ?_
        refine XS.aload X416.here hx rfl (hb hby at_140) rfl rfl ?_
        show Steps p.tables e below (T416.setTop (mkF m 142 #[iv p0, iv p1, iv p2, iv p3, iv p4, .val r345, .val r353, rv b358, rv b372, rv b384, rv r399] [(.ref b358), (.ref b358)])) _
        refine Jvm.RoadKit.acmp (g := (mkF m 142 #[iv p0, iv p1, iv p2, iv p3, iv p4, .val r345, .val r353, rv b358, rv b372, rv b384, rv r399] [(.ref b358), (.ref b358)])) X416 hx rfl rfl rfl (pc0 := 142) (pc' := 145) (same := true) rfl (hb hby at_142) rfl (decide_eq_true rfl) (by decide) (by decide) ?_
        show Steps p.tables e below (T416.setTop (mkF m 145 #[iv p0, iv p1, iv p2, iv p3, iv p4, .val r345, .val r353, rv b358, rv b372, rv b384, rv r399] [])) _
        refine XS.aload X416.here hx rfl (hb hby at_145) rfl rfl ?_
        show Steps p.tables e below (T416.setTop (mkF m 147 #[iv p0, iv p1, iv p2, iv p3, iv p4, .val r345, .val r353, rv b358, rv b372, rv b384, rv r399] [(.ref b384)])) _
        exact kont
      have y422 : Fld Z T398.heap b384 "com/example/subsume/subsume/engine/IndividualInequality" "other" "Lcom/example/subsume/subsume/engine/Individual;" (.ref b372) := (y394.keep K398 nin0)
      obtain ⟨cq421, kq421, q421a, q421b, q421c⟩ := isOf hZ e416 y417
      obtain ⟨_, _, ⟨T421, L421, k421, n421⟩, -, X421, ⟨Lc421, hQ421, l421, y421, z421⟩, st421⟩ := X416.virtualBack hx (y := (⟨"com/example/subsume/subsume/engine/IndividualInequality", "other", "()Lcom/example/subsume/subsume/engine/Individual;"⟩ : MethodName)) (z := (⟨"com/example/subsume/subsume/engine/IndividualInequality", "other", "()Lcom/example/subsume/subsume/engine/Individual;"⟩ : MethodName)) hown (mvT hZ (hw _ (List.mem_of_getElem? (i := 124) rfl))) (mvT hZ (hw _ (List.mem_of_getElem? (i := 125) rfl))) (notFace_of_selects (args := #[]) (mvT hZ (hw _ (List.mem_of_getElem? (i := 127) rfl)))) (mvT hZ (hw _ (List.mem_of_getElem? (i := 127) rfl))) (mvT hZ (hw _ (List.mem_of_getElem? (i := 126) rfl))) (by decide) (backOf (W := 0) (rm_rOth l Z a0 hw [] b384 b372 T398.heap n0 O404 y422) hZ (hw _ (List.mem_of_getElem? (i := 128) rfl)) (hw _ (List.mem_of_getElem? (i := 43) rfl)) (by decide) (by decide)) q421a q421c (g := (mkF m 147 #[iv p0, iv p1, iv p2, iv p3, iv p4, .val r345, .val r353, rv b358, rv b372, rv b384, rv r399] [(.ref b384)])) rfl (by rw [hml]; rfl) (Steps.refl _) (argsL := []) (rest := []) (lenOf pd_14 rfl) rfl (by show 2 * 0 + _ ≤ _; exact Nat.le_of_eq rfl) (hb hby at_147) (fun _ _ => ⟨rfl, e416, (by decide : 6 + 0 ≤ _), (by decide : 13 + 0 ≤ _)⟩)
      dsimp only [Pt.U, Pt.locs, Pt.cells, Pt.slots] at X421 l421 y421 z421 st421 hQ421
      subst l421 y421 z421
      obtain ⟨rfl, M421, e421⟩ := hQ421
      have N421 := Fr.app N416 M421
      have g423 : Go p e below T421 (mkF m 150 #[iv p0, iv p1, iv p2, iv p3, iv p4, .val r345, .val r353, rv b358, rv b372, rv b384, rv r399] [(.ref b372)]) A0 := fun t kont => g420 t (st421.trans kont)
      have g424 : Go p e below T421 (mkF m 160 #[iv p0, iv p1, iv p2, iv p3, iv p4, .val r345, .val r353, rv b358, rv b372, rv b384, rv r399] [(.int (1 : Int32))]) A0 := by
        intro t kont
        refine g423 t ?_
        refine XS.aload X421.here hx rfl (hb hby at_150) rfl rfl ?_
        show Steps p.tables e below (T421.setTop (mkF m 152 #[iv p0, iv p1, iv p2, iv p3, iv p4, .val r345, .val r353, rv b358, rv b372, rv b384, rv r399] [(.ref b372), (.ref b372)])) _
        refine Jvm.RoadKit.acmp (g := (mkF m 152 #[iv p0, iv p1, iv p2, iv p3, iv p4, .val r345, .val r353, rv b358, rv b372, rv b384, rv r399] [(.ref b372), (.ref b372)])) X421 hx rfl rfl rfl (pc0 := 152) (pc' := 155) (same := true) rfl (hb hby at_152) rfl (decide_eq_true rfl) (by decide) (by decide) ?_
        show Steps p.tables e below (T421.setTop (mkF m 155 #[iv p0, iv p1, iv p2, iv p3, iv p4, .val r345, .val r353, rv b358, rv b372, rv b384, rv r399] [])) _
        refine XS.iconst X421.here hx rfl (hb hby at_155) ?_
        show Steps p.tables e below (T421.setTop (mkF m 156 #[iv p0, iv p1, iv p2, iv p3, iv p4, .val r345, .val r353, rv b358, rv b372, rv b384, rv r399] [(.int (1 : Int32))])) _
        refine XS.goto X421.here hx rfl (pc0 := 156) (pc' := 160) rfl (hb hby at_156) (by decide) (by decide) ?_
        show Steps p.tables e below (T421.setTop (mkF m 160 #[iv p0, iv p1, iv p2, iv p3, iv p4, .val r345, .val r353, rv b358, rv b372, rv b384, rv r399] [(.int (1 : Int32))])) _
        exact kont
      obtain ⟨fs, hr, hrun, hended, hW, hsame⟩ := X421.leave (v := some (.int (1 : Int32))) (fun h => by rw [Bd.returns] at h; cases h)
      refine ⟨_, _, g424 _ (retN X421 hx (t := .boolean) Bd.returns (by simp) (hb hby at_160) hr), hrun, hended, _, _, rfl, ?_, ⟨_, rfl⟩, hW, hsame.mono (by decide) (by decide)⟩
      show Q_law Z p0 p1 p2 p3 p4 i_COMPACT_STRINGS w_EMPTY h0 n0 _ T421.heap _
      rw [e421]
      exact ⟨rfl, N421⟩
    have g425 : Go p e below T364 (mkF m 72 #[iv p0, iv p1, iv p2, iv p3, iv p4, .val r345, .val r353, rv b358, rv b358, .unset, .unset] []) A0 := by
      intro t kont
      refine g370 t ?_
      refine XS.ifNo X364.here hx rfl (hb hby at_52) rfl ((if0 _ _).trans (feq c369).1) ?_
      show Steps p.tables e below (T364.setTop (mkF m 55 #[iv p0, iv p1, iv p2, iv p3, iv p4, .val r345, .val r353, rv b358, .unset, .unset, .unset] [])) _
      refine XS.aload X364.here hx rfl (hb hby at_55) rfl rfl ?_
      show Steps p.tables e below (T364.setTop (mkF m 57 #[iv p0, iv p1, iv p2, iv p3, iv p4, .val r345, .val r353, rv b358, .unset, .unset, .unset] [(.ref b358)])) _
      refine XS.goto X364.here hx rfl (pc0 := 57) (pc' := 70) rfl (hb hby at_57) (by decide) (by decide) ?_
      show Steps p.tables e below (T364.setTop (mkF m 70 #[iv p0, iv p1, iv p2, iv p3, iv p4, .val r345, .val r353, rv b358, .unset, .unset, .unset] [(.ref b358)])) _
      refine XS.astore X364.here hx rfl (hb hby at_70) rfl rfl (l' := #[iv p0, iv p1, iv p2, iv p3, iv p4, .val r345, .val r353, rv b358, rv b358, .unset, .unset]) rfl ?_
      show Steps p.tables e below (T364.setTop (mkF m 72 #[iv p0, iv p1, iv p2, iv p3, iv p4, .val r345, .val r353, rv b358, rv b358, .unset, .unset] [])) _
      exact kont
    obtain ⟨T426, h426, X426, e426, E426, A426, D426, -, st426⟩ := newO X364 hx hZ hown (hw _ (List.mem_of_getElem? (i := 41) rfl)) (hw _ (List.mem_of_getElem? (i := 42) rfl)) (hw _ (List.mem_of_getElem? (i := 43) rfl)) rfl (g := (mkF m 72 #[iv p0, iv p1, iv p2, iv p3, iv p4, .val r345, .val r353, rv b358, rv b358, .unset, .unset] [])) rfl (hb hby at_72) (by decide) (by decide)
    obtain ⟨b426, gb426⟩ : ∃ z, z = T364.heap.size := ⟨_, rfl⟩
    rw [← gb426] at A426 D426 st426
    have O427 := O367.ext E426
    have y428 : Fld Z h426 b426 "com/example/subsume/subsume/engine/IndividualInequality" "individual" "Lcom/example/subsume/subsume/engine/Individual;" .null := D426 (Or.inr (hw _ (List.mem_of_getElem? (i := 54) rfl))) (ty := (.object "com/example/subsume/subsume/engine/Individual")) (by decide)
    have y429 : Fld Z h426 b426 "com/example/subsume/subsume/engine/IndividualInequality" "other" "Lcom/example/subsume/subsume/engine/Individual;" .null := D426 (Or.inr (hw _ (List.mem_of_getElem? (i := 56) rfl))) (ty := (.object "com/example/subsume/subsume/engine/Individual")) (by decide)
    have g430 : Go p e below T426 (mkF m 75 #[iv p0, iv p1, iv p2, iv p3, iv p4, .val r345, .val r353, rv b358, rv b358, .unset, .unset] [(.ref b426)]) A0 := fun t kont => g425 t (st426 t kont)
    have g431 : Go p e below T426 (mkF m 80 #[iv p0, iv p1, iv p2, iv p3, iv p4, .val r345, .val r353, rv b358, rv b358, .unset, .unset] [(.ref b358), (.ref b358), (.ref b426), (.ref b426)]) A0 := by
      intro t kont
      refine g430 t ?_
      refine XS.dup X426.here hx rfl (hb hby at_75) rfl rfl ?_
      show Steps p.tables e below (T426.setTop (mkF m 76 #[iv p0, iv p1, iv p2, iv p3, iv p4, .val r345, .val r353, rv b358, rv b358, .unset, .unset] [(.ref b426), (.ref b426)])) _
      refine XS.aload X426.here hx rfl (hb hby at_76) rfl rfl ?_
      show Steps p.tables e below (T426.setTop (mkF m 78 #[iv p0, iv p1, iv p2, iv p3, iv p4, .val r345, .val r353, rv b358, rv b358, .unset, .unset] [(.ref b358), (.ref b426), (.ref b426)])) _
      refine XS.aload X426.here hx rfl (hb hby at_78) rfl rfl ?_
      show Steps p.tables e below (T426.setTop (mkF m 80 #[iv p0, iv p1, iv p2, iv p3, iv p4, .val r345, .val r353, rv b358, rv b358, .unset, .unset] [(.ref b358), (.ref b358), (.ref b426), (.ref b426)])) _
      exact kont
    have ge433 : n0 ≤ b426 := Nat.le_trans (own_old_le O367) (Nat.le_of_eq gb426.symm)
    obtain ⟨_, _, ⟨T432, L432, k432, n432⟩, -, X432, ⟨Lc432, hQ432, l432, y432, z432⟩, st432⟩ := X426.specialBack hx (y := (⟨"com/example/subsume/subsume/engine/IndividualInequality", "<init>", "(Lcom/example/subsume/subsume/engine/Individual;Lcom/example/subsume/subsume/engine/Individual;)V"⟩ : MethodName)) rfl hown (mvT hZ (hw _ (List.mem_of_getElem? (i := 44) rfl))) (mvT hZ (hw _ (List.mem_of_getElem? (i := 45) rfl))) (mvT hZ (hw _ (List.mem_of_getElem? (i := 46) rfl))) (by decide) (backOf (W := 1) (rm_relI l Z a0 hw [] b426 b358 b358 h426 n0 O427 y428 y429 A426 ge433) hZ (hw _ (List.mem_of_getElem? (i := 46) rfl)) (hw _ (List.mem_of_getElem? (i := 43) rfl)) (by decide) (by decide)) (g := (mkF m 80 #[iv p0, iv p1, iv p2, iv p3, iv p4, .val r345, .val r353, rv b358, rv b358, .unset, .unset] [(.ref b358), (.ref b358), (.ref b426), (.ref b426)])) rfl (by rw [hml]; rfl) (Steps.refl _) (a := b426) (argsL := [(.ref b358), (.ref b358)]) (rest := [(.ref b426)]) (lenOf pd_10 rfl) rfl (by show 2 * 0 + _ ≤ _; exact Nat.le_of_eq rfl) (hb hby at_80) (fun _ _ => ⟨rfl, e426, (by decide : 4 + 0 ≤ _), (by decide : 9 + 0 ≤ _)⟩)
    dsimp only [Pt.U, Pt.locs, Pt.cells, Pt.slots] at X432 l432 y432 z432 st432 hQ432
    subst l432 y432 z432
    obtain ⟨rfl, M432, K432, y434, y435, y436⟩ := hQ432
    have N432 := Fr.app N364 M432
    have O437 := O427.keep K432 (allS ge433 all0)
    have g438 : Go p e below T432 (mkF m 83 #[iv p0, iv p1, iv p2, iv p3, iv p4, .val r345, .val r353, rv b358, rv b358, .unset, .unset] [(.ref b426)]) A0 := fun t kont => g431 t (st432.trans kont)
    have g439 : Go p e below T432 (mkF m 87 #[iv p0, iv p1, iv p2, iv p3, iv p4, .val r345, .val r353, rv b358, rv b358, rv b426, .unset] [(.ref b426)]) A0 := by
      intro t kont
      refine g438 t ?_
      refine XS.astore X432.here hx rfl (hb hby at_83) rfl rfl (l' := #[iv p0, iv p1, iv p2, iv p3, iv p4, .val r345, .val r353, rv b358, rv b358, rv b426, .unset]) rfl ?_
      show Steps p.tables e below (T432.setTop (mkF m 85 #[iv p0, iv p1, iv p2, iv p3, iv p4, .val r345, .val r353, rv b358, rv b358, rv b426, .unset] [])) _
      refine XS.aload X432.here hx rfl (hb hby at_85) rfl rfl ?_
      show Steps p.tables e below (T432.setTop (mkF m 87 #[iv p0, iv p1, iv p2, iv p3, iv p4, .val r345, .val r353, rv b358, rv b358, rv b426, .unset] [(.ref b426)])) _
      exact kont
    obtain ⟨cq440, kq440, q440a, q440b, q440c⟩ := isOf hZ rfl y434
    obtain ⟨_, _, ⟨T440, L440, k440, n440⟩, -, X440, ⟨Lc440, hQ440, l440, y440, z440⟩, st440⟩ := X432.virtualBack hx (y := (⟨"com/example/subsume/subsume/engine/IndividualInequality", "individuals", "()Ljava/util/List;"⟩ : MethodName)) (z := (⟨"com/example/subsume/subsume/engine/IndividualInequality", "individuals", "()Ljava/util/List;"⟩ : MethodName)) hown (mvT hZ (hw _ (List.mem_of_getElem? (i := 57) rfl))) (mvT hZ (hw _ (List.mem_of_getElem? (i := 58) rfl))) (notFace_of_selects (args := #[]) (mvT hZ (hw _ (List.mem_of_getElem? (i := 60) rfl)))) (mvT hZ (hw _ (List.mem_of_getElem? (i := 60) rfl))) (mvT hZ (hw _ (List.mem_of_getElem? (i := 59) rfl))) (by decide) (backOf (W := 0) (rm_inds l Z a0 hw [] b426 b358 b358 T432.heap n0 O437 y435 y436) hZ (hw _ (List.mem_of_getElem? (i := 61) rfl)) (hw _ (List.mem_of_getElem? (i := 43) rfl)) (by decide) (by decide)) q440a q440c (g := (mkF m 87 #[iv p0, iv p1, iv p2, iv p3, iv p4, .val r345, .val r353, rv b358, rv b358, rv b426, .unset] [(.ref b426)])) rfl (by rw [hml]; rfl) (Steps.refl _) (argsL := []) (rest := []) (lenOf pd_11 rfl) rfl (by show 2 * 0 + _ ≤ _; exact Nat.le_of_eq rfl) (hb hby at_87) (fun _ _ => ⟨rfl, rfl, (by decide : 4 + 1 ≤ _), (by decide : 9 + 2 ≤ _)⟩)
    dsimp only [Pt.U, Pt.locs, Pt.cells, Pt.slots] at X440 l440 y440 z440 st440 hQ440
    subst l440 y440 z440
    obtain ⟨r441, rfl, M440, K440, y442, y443, y444, y445⟩ := hQ440
    have N440 := Fr.app N432 M440
    have O446 := O437.keep K440 all0
    have g447 : Go p e below T440 (mkF m 90 #[iv p0, iv p1, iv p2, iv p3, iv p4, .val r345, .val r353, rv b358, rv b358, rv b426, .unset] [(.ref r441)]) A0 := fun t kont => g439 t (st440.trans kont)
    have g448 : Go p e below T440 (mkF m 94 #[iv p0, iv p1, iv p2, iv p3, iv p4, .val r345, .val r353, rv b358, rv b358, rv b426, rv r441] [(.ref r441)]) A0 := by
      intro t kont
      refine g447 t ?_
      refine XS.astore X440.here hx rfl (hb hby at_90) rfl rfl (l' := #[iv p0, iv p1, iv p2, iv p3, iv p4, .val r345, .val r353, rv b358, rv b358, rv b426, rv r441]) rfl ?_
      show Steps p.tables e below (T440.setTop (mkF m 92 #[iv p0, iv p1, iv p2, iv p3, iv p4, .val r345, .val r353, rv b358, rv b358, rv b426, rv r441] [])) _
      refine XS.aload X440.here hx rfl (hb hby at_92) rfl rfl ?_
      show Steps p.tables e below (T440.setTop (mkF m 94 #[iv p0, iv p1, iv p2, iv p3, iv p4, .val r345, .val r353, rv b358, rv b358, rv b426, rv r441] [(.ref r441)])) _
      exact kont
    obtain ⟨cq449, kq449, q449a, q449b, q449c⟩ := isOf hZ rfl y443
    obtain ⟨_, _, ⟨T449, L449, k449, n449⟩, -, X449, ⟨Lc449, hQ449, l449, y449, z449⟩, st449⟩ := X440.interfaceBack hx (xi := (⟨"java/util/List", "size", "()I"⟩ : MethodName)) (y := (⟨"java/util/ImmutableCollections$List12", "size", "()I"⟩ : MethodName)) hown (mvT hZ (hw _ (List.mem_of_getElem? (i := 100) rfl))) (mvT hZ (hw _ (List.mem_of_getElem? (i := 101) rfl))) (mvT hZ (hw _ (List.mem_of_getElem? (i := 102) rfl))) (mvT hZ (hw _ (List.mem_of_getElem? (i := 103) rfl))) (mvT hZ (hw _ (List.mem_of_getElem? (i := 104) rfl))) (mvT hZ (hw _ (List.mem_of_getElem? (i := 105) rfl))) (mvT hZ (hw _ (List.mem_of_getElem? (i := 106) rfl))) (mvT hZ (hw _ (List.mem_of_getElem? (i := 107) rfl))) (by decide) (backOf (W := 0) (rm_siz l Z a0 hw [] r441 b358 w_EMPTY T440.heap n0 O446 y445 S1_ (Ne.symm (O446.ne ZE3_.lt ge365))) hZ (hw _ (List.mem_of_getElem? (i := 108) rfl)) (hw _ (List.mem_of_getElem? (i := 68) rfl)) (by decide) (by decide)) q449a q449b q449c (g := (mkF m 94 #[iv p0, iv p1, iv p2, iv p3, iv p4, .val r345, .val r353, rv b358, rv b358, rv b426, rv r441] [(.ref r441)])) rfl (by rw [hml]; rfl) (Steps.refl _) (argsL := []) (rest := []) (lenOf pd_12 rfl) rfl (by show 2 * 0 + _ ≤ _; exact Nat.le_of_eq rfl) (hb hby at_94) (fun _ _ => ⟨rfl, rfl, (by decide : 5 + 0 ≤ _), (by decide : 11 + 0 ≤ _)⟩)
    dsimp only [Pt.U, Pt.locs, Pt.cells, Pt.slots] at X449 l449 y449 z449 st449 hQ449
    subst l449 y449 z449
    obtain ⟨rfl, M449, e449⟩ := hQ449
    have N449 := Fr.app N440 M449
    have g450 : Go p e below T449 (mkF m 99 #[iv p0, iv p1, iv p2, iv p3, iv p4, .val r345, .val r353, rv b358, rv b358, rv b426, rv r441] [(.int (2 : Int32))]) A0 := fun t kont => g448 t (st449.trans kont)
    have g451 : Go p e below T449 (mkF m 108 #[iv p0, iv p1, iv p2, iv p3, iv p4, .val r345, .val r353, rv b358, rv b358, rv b426, rv r441] [(.int (0 : Int32)), (.ref r441)]) A0 := by
      intro t kont
      refine g450 t ?_
      refine XS.iconst X449.here hx rfl (hb hby at_99) ?_
      show Steps p.tables e below (T449.setTop (mkF m 100 #[iv p0, iv p1, iv p2, iv p3, iv p4, .val r345, .val r353, rv b358, rv b358, rv b426, rv r441] [(.int (2 : Int32)), (.int (2 : Int32))])) _
      refine XS.icmpYes X449.here hx rfl (pc0 := 100) (pc' := 105) rfl (hb hby at_100) rfl (teq (by decide : (2 : Int32) = (2 : Int32))).1 (by decide) (by decide) ?_
      show Steps p.tables e below (T449.setTop (mkF m 105 #[iv p0, iv p1, iv p2, iv p3, iv p4, .val r345, .val r353, rv b358, rv b358, rv b426, rv r441] [])) _
      refine XS.aload X449.here hx rfl (hb hby at_105) rfl rfl ?_
      show Steps p.tables e below (T449.setTop (mkF m 107 #[iv p0, iv p1, iv p2, iv p3, iv p4, .val r345, .val r353, rv b358, rv b358, rv b426, rv r441] [(.ref r441)])) _
      refine XS.iconst X449.here hx rfl (hb hby at_107) ?_
      show Steps p.tables e below (T449.setTop (mkF m 108 #[iv p0, iv p1, iv p2, iv p3, iv p4, .val r345, .val r353, rv b358, rv b358, rv b426, rv r441] [(.int (0 : Int32)), (.ref r441)])) _
      exact kont
    obtain ⟨cq452, kq452, q452a, q452b, q452c⟩ := isOf hZ e449 y443
    obtain ⟨_, _, ⟨T452, L452, k452, n452⟩, -, X452, ⟨Lc452, hQ452, l452, y452, z452⟩, st452⟩ := X449.interfaceBack hx (xi := (⟨"java/util/List", "get", "(I)Ljava/lang/Object;"⟩ : MethodName)) (y := (⟨"java/util/ImmutableCollections$List12", "get", "(I)Ljava/lang/Object;"⟩ : MethodName)) hown (mvT hZ (hw _ (List.mem_of_getElem? (i := 111) rfl))) (mvT hZ (hw _ (List.mem_of_getElem? (i := 112) rfl))) (mvT hZ (hw _ (List.mem_of_getElem? (i := 113) rfl))) (mvT hZ (hw _ (List.mem_of_getElem? (i := 114) rfl))) (mvT hZ (hw _ (List.mem_of_getElem? (i := 115) rfl))) (mvT hZ (hw _ (List.mem_of_getElem? (i := 116) rfl))) (mvT hZ (hw _ (List.mem_of_getElem? (i := 117) rfl))) (mvT hZ (hw _ (List.mem_of_getElem? (i := 107) rfl))) (by decide) (backOf (W := 0) (rm_get0 l Z a0 hw [] r441 b358 T440.heap n0 O446 y444) hZ (hw _ (List.mem_of_getElem? (i := 118) rfl)) (hw _ (List.mem_of_getElem? (i := 68) rfl)) (by decide) (by decide)) q452a q452b q452c (g := (mkF m 108 #[iv p0, iv p1, iv p2, iv p3, iv p4, .val r345, .val r353, rv b358, rv b358, rv b426, rv r441] [(.int (0 : Int32)), (.ref r441)])) rfl (by rw [hml]; rfl) (Steps.refl _) (argsL := [(.int (0 : Int32))]) (rest := []) (lenOf pd_13 rfl) rfl (by show 2 * 0 + _ ≤ _; exact Nat.le_of_eq rfl) (hb hby at_108) (fun _ _ => ⟨rfl, e449, (by decide : 5 + 0 ≤ _), (by decide : 11 + 0 ≤ _)⟩)
    dsimp only [Pt.U, Pt.locs, Pt.cells, Pt.slots] at X452 l452 y452 z452 st452 hQ452
    subst l452 y452 z452
    obtain ⟨rfl, M452, e452⟩ := hQ452
    have N452 := Fr.app N449 M452
    have g453 : Go p e below T452 (mkF m 113 #[iv p0, iv p1, iv p2, iv p3, iv p4, .val r345, .val r353, rv b358, rv b358, rv b426, rv r441] [(.ref b358)]) A0 := fun t kont => g451 t (st452.trans kont)
    have g454 : Go p e below T452 (mkF m 123 #[iv p0, iv p1, iv p2, iv p3, iv p4, .val r345, .val r353, rv b358, rv b358, rv b426, rv r441] [(.int (1 : Int32)), (.ref r441)]) A0 := by
      intro t kont
      refine g453 t ?_
      refine XS.aload X452.here hx rfl (hb hby at_113) rfl rfl ?_
      show Steps p.tables e below (T452.setTop (mkF m 115 #[iv p0, iv p1, iv p2, iv p3, iv p4, .val r345, .val r353, rv b358, rv b358, rv b426, rv r441] [(.ref b358), (.ref b358)])) _
      refine Jvm.RoadKit.acmp (g := (mkF m 115 #[iv p0, iv p1, iv p2, iv p3, iv p4, .val r345, .val r353, rv b358, rv b358, rv b426, rv r441] [(.ref b358), (.ref b358)])) X452 hx rfl rfl rfl (pc0 := 115) (pc' := 120) (same := true) rfl (hb hby at_115) rfl (decide_eq_true rfl) (by decide) (by decide) ?_
      show Steps p.tables e below (T452.setTop (mkF m 120 #[iv p0, iv p1, iv p2, iv p3, iv p4, .val r345, .val r353, rv b358, rv b358, rv b426, rv r441] [])) _
      refine XS.aload X452.here hx rfl (hb hby at_120) rfl rfl ?_
      show Steps p.tables e below (T452.setTop (mkF m 122 #[iv p0, iv p1, iv p2, iv p3, iv p4, .val r345, .val r353, rv b358, rv b358, rv b426, rv r441] [(.ref r441)])) _
      refine XS.iconst X452.here hx rfl (hb hby at_122) ?_
      show Steps p.tables e below (T452.setTop (mkF m 123 #[iv p0, iv p1, iv p2, iv p3, iv p4, .val r345, .val r353, rv b358, rv b358, rv b426, rv r441] [(.int (1 : Int32)), (.ref r441)])) _
      exact kont
    obtain ⟨cq455, kq455, q455a, q455b, q455c⟩ := isOf hZ e452 y443
    obtain ⟨_, _, ⟨T455, L455, k455, n455⟩, -, X455, ⟨Lc455, hQ455, l455, y455, z455⟩, st455⟩ := X452.interfaceBack hx (xi := (⟨"java/util/List", "get", "(I)Ljava/lang/Object;"⟩ : MethodName)) (y := (⟨"java/util/ImmutableCollections$List12", "get", "(I)Ljava/lang/Object;"⟩ : MethodName)) hown (mvT hZ (hw _ (List.mem_of_getElem? (i := 111) rfl))) (mvT hZ (hw _ (List.mem_of_getElem? (i := 112) rfl))) (mvT hZ (hw _ (List.mem_of_getElem? (i := 113) rfl))) (mvT hZ (hw _ (List.mem_of_getElem? (i := 114) rfl))) (mvT hZ (hw _ (List.mem_of_getElem? (i := 115) rfl))) (mvT hZ (hw _ (List.mem_of_getElem? (i := 116) rfl))) (mvT hZ (hw _ (List.mem_of_getElem? (i := 117) rfl))) (mvT hZ (hw _ (List.mem_of_getElem? (i := 107) rfl))) (by decide) (backOf (W := 0) (rm_get1 l Z a0 hw [] r441 b358 w_EMPTY T440.heap n0 O446 y445 S1_ (Ne.symm (O446.ne ZE3_.lt ge365))) hZ (hw _ (List.mem_of_getElem? (i := 118) rfl)) (hw _ (List.mem_of_getElem? (i := 68) rfl)) (by decide) (by decide)) q455a q455b q455c (g := (mkF m 123 #[iv p0, iv p1, iv p2, iv p3, iv p4, .val r345, .val r353, rv b358, rv b358, rv b426, rv r441] [(.int (1 : Int32)), (.ref r441)])) rfl (by rw [hml]; rfl) (Steps.refl _) (argsL := [(.int (1 : Int32))]) (rest := []) (lenOf pd_13 rfl) rfl (by show 2 * 0 + _ ≤ _; exact Nat.le_of_eq rfl) (hb hby at_123) (fun _ _ => ⟨rfl, e452, (by decide : 5 + 0 ≤ _), (by decide : 11 + 0 ≤ _)⟩)
    dsimp only [Pt.U, Pt.locs, Pt.cells, Pt.slots] at X455 l455 y455 z455 st455 hQ455
    subst l455 y455 z455
    obtain ⟨rfl, M455, e455⟩ := hQ455
    have N455 := Fr.app N452 M455
    have g456 : Go p e below T455 (mkF m 128 #[iv p0, iv p1, iv p2, iv p3, iv p4, .val r345, .val r353, rv b358, rv b358, rv b426, rv r441] [(.ref b358)]) A0 := fun t kont => g454 t (st455.trans kont)
    have g457 : Go p e below T455 (mkF m 137 #[iv p0, iv p1, iv p2, iv p3, iv p4, .val r345, .val r353, rv b358, rv b358, rv b426, rv r441] [(.ref b426)]) A0 := by
      intro t kont
      refine g456 t ?_
      refine XS.aload X455.here hx rfl (hb hby at_128) rfl rfl ?_
      show Steps p.tables e below (T455.setTop (mkF m 130 #[iv p0, iv p1, iv p2, iv p3, iv p4, .val r345, .val r353, rv b358, rv b358, rv b426, rv r441] [(.ref b358), (.ref b358)])) _
      refine Jvm.RoadKit.acmp (g := (mkF m 130 #[iv p0, iv p1, iv p2, iv p3, iv p4, .val r345, .val r353, rv b358, rv b358, rv b426, rv r441] [(.ref b358), (.ref b358)])) X455 hx rfl rfl rfl (pc0 := 130) (pc' := 135) (same := true) rfl (hb hby at_130) rfl (decide_eq_true rfl) (by decide) (by decide) ?_
      show Steps p.tables e below (T455.setTop (mkF m 135 #[iv p0, iv p1, iv p2, iv p3, iv p4, .val r345, .val r353, rv b358, rv b358, rv b426, rv r441] [])) _
      refine XS.aload X455.here hx rfl (hb hby at_135) rfl rfl ?_
      show Steps p.tables e below (T455.setTop (mkF m 137 #[iv p0, iv p1, iv p2, iv p3, iv p4, .val r345, .val r353, rv b358, rv b358, rv b426, rv r441] [(.ref b426)])) _
      exact kont
    have y459 : Exa Z T440.heap b426 "com/example/subsume/subsume/engine/IndividualInequality" := (y434.keep K440)
    have y460 : Fld Z T440.heap b426 "com/example/subsume/subsume/engine/IndividualInequality" "individual" "Lcom/example/subsume/subsume/engine/Individual;" (.ref b358) := (y435.keep K440 nin0)
    obtain ⟨cq458, kq458, q458a, q458b, q458c⟩ := isOf hZ e455 y459
    obtain ⟨_, _, ⟨T458, L458, k458, n458⟩, -, X458, ⟨Lc458, hQ458, l458, y458, z458⟩, st458⟩ := X455.virtualBack hx (y := (⟨"com/example/subsume/subsume/engine/IndividualInequality", "individual", "()Lcom/example/subsume/subsume/engine/Individual;"⟩ : MethodName)) (z := (⟨"com/example/subsume/subsume/engine/IndividualInequality", "individual", "()Lcom/example/subsume/subsume/engine/Individual;"⟩ : MethodName)) hown (mvT hZ (hw _ (List.mem_of_getElem? (i := 119) rfl))) (mvT hZ (hw _ (List.mem_of_getElem? (i := 120) rfl))) (notFace_of_selects (args := #[]) (mvT hZ (hw _ (List.mem_of_getElem? (i := 122) rfl)))) (mvT hZ (hw _ (List.mem_of_getElem? (i := 122) rfl))) (mvT hZ (hw _ (List.mem_of_getElem? (i := 121) rfl))) (by decide) (backOf (W := 0) (rm_rInd l Z a0 hw [] b426 b358 T440.heap n0 O446 y460) hZ (hw _ (List.mem_of_getElem? (i := 123) rfl)) (hw _ (List.mem_of_getElem? (i := 43) rfl)) (by decide) (by decide)) q458a q458c (g := (mkF m 137 #[iv p0, iv p1, iv p2, iv p3, iv p4, .val r345, .val r353, rv b358, rv b358, rv b426, rv r441] [(.ref b426)])) rfl (by rw [hml]; rfl) (Steps.refl _) (argsL := []) (rest := []) (lenOf pd_14 rfl) rfl (by show 2 * 0 + _ ≤ _; exact Nat.le_of_eq rfl) (hb hby at_137) (fun _ _ => ⟨rfl, e455, (by decide : 5 + 0 ≤ _), (by decide : 11 + 0 ≤ _)⟩)
    dsimp only [Pt.U, Pt.locs, Pt.cells, Pt.slots] at X458 l458 y458 z458 st458 hQ458
    subst l458 y458 z458
    obtain ⟨rfl, M458, e458⟩ := hQ458
    have N458 := Fr.app N455 M458
    have g461 : Go p e below T458 (mkF m 140 #[iv p0, iv p1, iv p2, iv p3, iv p4, .val r345, .val r353, rv b358, rv b358, rv b426, rv r441] [(.ref b358)]) A0 := fun t kont => g457 t (st458.trans kont)
    have g462 : Go p e below T458 (mkF m 147 #[iv p0, iv p1, iv p2, iv p3, iv p4, .val r345, .val r353, rv b358, rv b358, rv b426, rv r441] [(.ref b426)]) A0 := by
      intro t kont
      refine g461 t ?_
      refine XS.aload X458.here hx rfl (hb hby at_140) rfl rfl ?_
      show Steps p.tables e below (T458.setTop (mkF m 142 #[iv p0, iv p1, iv p2, iv p3, iv p4, .val r345, .val r353, rv b358, rv b358, rv b426, rv r441] [(.ref b358), (.ref b358)])) _
      refine Jvm.RoadKit.acmp (g := (mkF m 142 #[iv p0, iv p1, iv p2, iv p3, iv p4, .val r345, .val r353, rv b358, rv b358, rv b426, rv r441] [(.ref b358), (.ref b358)])) X458 hx rfl rfl rfl (pc0 := 142) (pc' := 145) (same := true) rfl (hb hby at_142) rfl (decide_eq_true rfl) (by decide) (by decide) ?_
      show Steps p.tables e below (T458.setTop (mkF m 145 #[iv p0, iv p1, iv p2, iv p3, iv p4, .val r345, .val r353, rv b358, rv b358, rv b426, rv r441] [])) _
      refine XS.aload X458.here hx rfl (hb hby at_145) rfl rfl ?_
      show Steps p.tables e below (T458.setTop (mkF m 147 #[iv p0, iv p1, iv p2, iv p3, iv p4, .val r345, .val r353, rv b358, rv b358, rv b426, rv r441] [(.ref b426)])) _
      exact kont
    have y464 : Fld Z T440.heap b426 "com/example/subsume/subsume/engine/IndividualInequality" "other" "Lcom/example/subsume/subsume/engine/Individual;" (.ref b358) := (y436.keep K440 nin0)
    obtain ⟨cq463, kq463, q463a, q463b, q463c⟩ := isOf hZ e458 y459
    obtain ⟨_, _, ⟨T463, L463, k463, n463⟩, -, X463, ⟨Lc463, hQ463, l463, y463, z463⟩, st463⟩ := X458.virtualBack hx (y := (⟨"com/example/subsume/subsume/engine/IndividualInequality", "other", "()Lcom/example/subsume/subsume/engine/Individual;"⟩ : MethodName)) (z := (⟨"com/example/subsume/subsume/engine/IndividualInequality", "other", "()Lcom/example/subsume/subsume/engine/Individual;"⟩ : MethodName)) hown (mvT hZ (hw _ (List.mem_of_getElem? (i := 124) rfl))) (mvT hZ (hw _ (List.mem_of_getElem? (i := 125) rfl))) (notFace_of_selects (args := #[]) (mvT hZ (hw _ (List.mem_of_getElem? (i := 127) rfl)))) (mvT hZ (hw _ (List.mem_of_getElem? (i := 127) rfl))) (mvT hZ (hw _ (List.mem_of_getElem? (i := 126) rfl))) (by decide) (backOf (W := 0) (rm_rOth l Z a0 hw [] b426 b358 T440.heap n0 O446 y464) hZ (hw _ (List.mem_of_getElem? (i := 128) rfl)) (hw _ (List.mem_of_getElem? (i := 43) rfl)) (by decide) (by decide)) q463a q463c (g := (mkF m 147 #[iv p0, iv p1, iv p2, iv p3, iv p4, .val r345, .val r353, rv b358, rv b358, rv b426, rv r441] [(.ref b426)])) rfl (by rw [hml]; rfl) (Steps.refl _) (argsL := []) (rest := []) (lenOf pd_14 rfl) rfl (by show 2 * 0 + _ ≤ _; exact Nat.le_of_eq rfl) (hb hby at_147) (fun _ _ => ⟨rfl, e458, (by decide : 5 + 0 ≤ _), (by decide : 11 + 0 ≤ _)⟩)
    dsimp only [Pt.U, Pt.locs, Pt.cells, Pt.slots] at X463 l463 y463 z463 st463 hQ463
    subst l463 y463 z463
    obtain ⟨rfl, M463, e463⟩ := hQ463
    have N463 := Fr.app N458 M463
    have g465 : Go p e below T463 (mkF m 150 #[iv p0, iv p1, iv p2, iv p3, iv p4, .val r345, .val r353, rv b358, rv b358, rv b426, rv r441] [(.ref b358)]) A0 := fun t kont => g462 t (st463.trans kont)
    have g466 : Go p e below T463 (mkF m 160 #[iv p0, iv p1, iv p2, iv p3, iv p4, .val r345, .val r353, rv b358, rv b358, rv b426, rv r441] [(.int (1 : Int32))]) A0 := by
      intro t kont
      refine g465 t ?_
      refine XS.aload X463.here hx rfl (hb hby at_150) rfl rfl ?_
      show Steps p.tables e below (T463.setTop (mkF m 152 #[iv p0, iv p1, iv p2, iv p3, iv p4, .val r345, .val r353, rv b358, rv b358, rv b426, rv r441] [(.ref b358), (.ref b358)])) _
      refine Jvm.RoadKit.acmp (g := (mkF m 152 #[iv p0, iv p1, iv p2, iv p3, iv p4, .val r345, .val r353, rv b358, rv b358, rv b426, rv r441] [(.ref b358), (.ref b358)])) X463 hx rfl rfl rfl (pc0 := 152) (pc' := 155) (same := true) rfl (hb hby at_152) rfl (decide_eq_true rfl) (by decide) (by decide) ?_
      show Steps p.tables e below (T463.setTop (mkF m 155 #[iv p0, iv p1, iv p2, iv p3, iv p4, .val r345, .val r353, rv b358, rv b358, rv b426, rv r441] [])) _
      refine XS.iconst X463.here hx rfl (hb hby at_155) ?_
      show Steps p.tables e below (T463.setTop (mkF m 156 #[iv p0, iv p1, iv p2, iv p3, iv p4, .val r345, .val r353, rv b358, rv b358, rv b426, rv r441] [(.int (1 : Int32))])) _
      refine XS.goto X463.here hx rfl (pc0 := 156) (pc' := 160) rfl (hb hby at_156) (by decide) (by decide) ?_
      show Steps p.tables e below (T463.setTop (mkF m 160 #[iv p0, iv p1, iv p2, iv p3, iv p4, .val r345, .val r353, rv b358, rv b358, rv b426, rv r441] [(.int (1 : Int32))])) _
      exact kont
    obtain ⟨fs, hr, hrun, hended, hW, hsame⟩ := X463.leave (v := some (.int (1 : Int32))) (fun h => by rw [Bd.returns] at h; cases h)
    refine ⟨_, _, g466 _ (retN X463 hx (t := .boolean) Bd.returns (by simp) (hb hby at_160) hr), hrun, hended, _, _, rfl, ?_, ⟨_, rfl⟩, hW, hsame.mono (by decide) (by decide)⟩
    show Q_law Z p0 p1 p2 p3 p4 i_COMPACT_STRINGS w_EMPTY h0 n0 _ T463.heap _
    rw [e463]
    exact ⟨rfl, N463⟩
  have g467 : Go p e below T344 (mkF m 31 #[iv p0, iv p1, iv p2, iv p3, iv p4, .val r345, .unset, .unset, .unset, .unset, .unset] [(.int (1 : Int32)), (.int p3)]) A0 := by
    intro t kont
    refine g350 t ?_
    refine XS.ifNo X344.here hx rfl (hb hby at_23) rfl ((if0 _ _).trans (feq c349).1) ?_
    show Steps p.tables e below (T344.setTop (mkF m 26 #[iv p0, iv p1, iv p2, iv p3, iv p4, .val r345, .unset, .unset, .unset, .unset, .unset] [(.int p3)])) _
    refine XS.iconst X344.here hx rfl (hb hby at_26) ?_
    show Steps p.tables e below (T344.setTop (mkF m 27 #[iv p0, iv p1, iv p2, iv p3, iv p4, .val r345, .unset, .unset, .unset, .unset, .unset] [(.int (1 : Int32)), (.int p3)])) _
    refine XS.goto X344.here hx rfl (pc0 := 27) (pc' := 31) rfl (hb hby at_27) (by decide) (by decide) ?_
    show Steps p.tables e below (T344.setTop (mkF m 31 #[iv p0, iv p1, iv p2, iv p3, iv p4, .val r345, .unset, .unset, .unset, .unset, .unset] [(.int (1 : Int32)), (.int p3)])) _
    exact kont
  obtain ⟨_, _, ⟨T468, L468, k468, n468⟩, -, X468, ⟨Lc468, hQ468, l468, y468, z468⟩, st468⟩ := Jvm.LawKit.callS X344 hx (y := (⟨"com/example/subsume/subsume/engine/IndividualInequalityIndividualsPinLaw", "nameOf", "(IZ)Ljava/lang/String;"⟩ : MethodName)) hown (mvT hZ (hw _ (List.mem_of_getElem? (i := 0) rfl))) (mvT hZ (hw _ (List.mem_of_getElem? (i := 1) rfl))) (mvT hZ (hw _ (List.mem_of_getElem? (i := 2) rfl))) (mvT hZ (hw _ (List.mem_of_getElem? (i := 3) rfl))) (by decide) (backOf (W := 0) (rm_nameN l Z a0 hw [] p3 T344.heap n0 O347 ) hZ (hw _ (List.mem_of_getElem? (i := 3) rfl)) (hw _ (List.mem_of_getElem? (i := 2) rfl)) (by decide) (by decide)) (g := (mkF m 31 #[iv p0, iv p1, iv p2, iv p3, iv p4, .val r345, .unset, .unset, .unset, .unset, .unset] [(.int (1 : Int32)), (.int p3)])) rfl (by rw [hml]; rfl) (argsL := [(.int p3), (.int (1 : Int32))]) (rest := []) (lenOf pd_8 rfl) rfl (by show 2 * 0 + _ ≤ _; exact Nat.le_of_eq rfl) (hb hby at_31) (fun _ _ => ⟨rfl, rfl, (by decide : 0 + 0 ≤ _), (by decide : 0 + 0 ≤ _)⟩)
  dsimp only [Pt.U, Pt.locs, Pt.cells, Pt.slots] at X468 l468 y468 z468 st468 hQ468
  subst l468 y468 z468
  obtain ⟨r469, rfl, M468, K468, y470⟩ := hQ468
  have N468 := Fr.app N344 M468
  have O471 := O347.keep K468 all0
  have g472 : Go p e below T468 (mkF m 34 #[iv p0, iv p1, iv p2, iv p3, iv p4, .val r345, .unset, .unset, .unset, .unset, .unset] [r469]) A0 := fun t kont => g467 t (st468 t kont)
  have g473 : Go p e below T468 (mkF m 36 #[iv p0, iv p1, iv p2, iv p3, iv p4, .val r345, .val r469, .unset, .unset, .unset, .unset] []) A0 := by
    intro t kont
    refine g472 t ?_
    refine XS.astore X468.here hx rfl (hb hby at_34) rfl (y470) (l' := #[iv p0, iv p1, iv p2, iv p3, iv p4, .val r345, .val r469, .unset, .unset, .unset, .unset]) (XS.store1 (o := .unset) rfl (Or.inl rfl) (own_catV (y470))) ?_
    show Steps p.tables e below (T468.setTop (mkF m 36 #[iv p0, iv p1, iv p2, iv p3, iv p4, .val r345, .val r469, .unset, .unset, .unset, .unset] [])) _
    exact kont
  obtain ⟨T474, h474, X474, e474, E474, A474, D474, -, st474⟩ := newO X468 hx hZ hown (hw _ (List.mem_of_getElem? (i := 30) rfl)) (hw _ (List.mem_of_getElem? (i := 31) rfl)) (hw _ (List.mem_of_getElem? (i := 32) rfl)) rfl (g := (mkF m 36 #[iv p0, iv p1, iv p2, iv p3, iv p4, .val r345, .val r469, .unset, .unset, .unset, .unset] [])) rfl (hb hby at_36) (by decide) (by decide)
  obtain ⟨b474, gb474⟩ : ∃ z, z = T468.heap.size := ⟨_, rfl⟩
  rw [← gb474] at A474 D474 st474
  have O475 := O471.ext E474
  have y476 : Fld Z h474 b474 "com/example/subsume/subsume/engine/Individual" "name" "Ljava/lang/String;" .null := D474 (Or.inr (hw _ (List.mem_of_getElem? (i := 38) rfl))) (ty := (.object "java/lang/String")) (by decide)
  have y477 : Fld Z h474 b474 "com/example/subsume/subsume/engine/Individual" "id" "I" (.int (0 : Int32)) := D474 (Or.inr (hw _ (List.mem_of_getElem? (i := 40) rfl))) (ty := .int) (by decide)
  have g478 : Go p e below T474 (mkF m 39 #[iv p0, iv p1, iv p2, iv p3, iv p4, .val r345, .val r469, .unset, .unset, .unset, .unset] [(.ref b474)]) A0 := fun t kont => g473 t (st474 t kont)
  have g479 : Go p e below T474 (mkF m 43 #[iv p0, iv p1, iv p2, iv p3, iv p4, .val r345, .val r469, .unset, .unset, .unset, .unset] [(.int p0), r345, (.ref b474), (.ref b474)]) A0 := by
    intro t kont
    refine g478 t ?_
    refine XS.dup X474.here hx rfl (hb hby at_39) rfl rfl ?_
    show Steps p.tables e below (T474.setTop (mkF m 40 #[iv p0, iv p1, iv p2, iv p3, iv p4, .val r345, .val r469, .unset, .unset, .unset, .unset] [(.ref b474), (.ref b474)])) _
    refine XS.aload X474.here hx rfl (hb hby at_40) rfl (y346) ?_
    show Steps p.tables e below (T474.setTop (mkF m 42 #[iv p0, iv p1, iv p2, iv p3, iv p4, .val r345, .val r469, .unset, .unset, .unset, .unset] [r345, (.ref b474), (.ref b474)])) _
    refine XS.iloadN X474.here hx rfl (hb hby at_42) rfl ?_
    show Steps p.tables e below (T474.setTop (mkF m 43 #[iv p0, iv p1, iv p2, iv p3, iv p4, .val r345, .val r469, .unset, .unset, .unset, .unset] [(.int p0), r345, (.ref b474), (.ref b474)])) _
    exact kont
  have ge481 : n0 ≤ b474 := Nat.le_trans (own_old_le O471) (Nat.le_of_eq gb474.symm)
  obtain ⟨_, _, ⟨T480, L480, k480, n480⟩, -, X480, ⟨Lc480, hQ480, l480, y480, z480⟩, st480⟩ := X474.specialBack hx (y := (⟨"com/example/subsume/subsume/engine/Individual", "<init>", "(Ljava/lang/String;I)V"⟩ : MethodName)) rfl hown (mvT hZ (hw _ (List.mem_of_getElem? (i := 33) rfl))) (mvT hZ (hw _ (List.mem_of_getElem? (i := 34) rfl))) (mvT hZ (hw _ (List.mem_of_getElem? (i := 35) rfl))) (by decide) (backOf (W := 1) (rm_indI l Z a0 hw [] b474 r345 p0 h474 n0 O475 y346 y476 y477 A474 ge481) hZ (hw _ (List.mem_of_getElem? (i := 35) rfl)) (hw _ (List.mem_of_getElem? (i := 32) rfl)) (by decide) (by decide)) (g := (mkF m 43 #[iv p0, iv p1, iv p2, iv p3, iv p4, .val r345, .val r469, .unset, .unset, .unset, .unset] [(.int p0), r345, (.ref b474), (.ref b474)])) rfl (by rw [hml]; rfl) (Steps.refl _) (a := b474) (argsL := [r345, (.int p0)]) (rest := [(.ref b474)]) (lenOf pd_9 rfl) rfl (by show 2 * 0 + _ ≤ _; exact Nat.le_of_eq rfl) (hb hby at_43) (fun _ _ => ⟨rfl, e474, (by decide : 1 + 0 ≤ _), (by decide : 2 + 0 ≤ _)⟩)
  dsimp only [Pt.U, Pt.locs, Pt.cells, Pt.slots] at X480 l480 y480 z480 st480 hQ480
  subst l480 y480 z480
  obtain ⟨rfl, M480, K480, y482⟩ := hQ480
  have N480 := Fr.app N468 M480
  have O483 := O475.keep K480 (allS ge481 all0)
  have g484 : Go p e below T480 (mkF m 46 #[iv p0, iv p1, iv p2, iv p3, iv p4, .val r345, .val r469, .unset, .unset, .unset, .unset] [(.ref b474)]) A0 := fun t kont => g479 t (st480.trans kont)
  have g486 : Go p e below T480 (mkF m 52 #[iv p0, iv p1, iv p2, iv p3, iv p4, .val r345, .val r469, rv b474, .unset, .unset, .unset] [(.int (p4 &&& (4 : Int32)))]) A0 := by
    intro t kont
    refine g484 t ?_
    refine XS.astore X480.here hx rfl (hb hby at_46) rfl rfl (l' := #[iv p0, iv p1, iv p2, iv p3, iv p4, .val r345, .val r469, rv b474, .unset, .unset, .unset]) rfl ?_
    show Steps p.tables e below (T480.setTop (mkF m 48 #[iv p0, iv p1, iv p2, iv p3, iv p4, .val r345, .val r469, rv b474, .unset, .unset, .unset] [])) _
    refine XS.iload X480.here hx rfl (hb hby at_48) rfl ?_
    show Steps p.tables e below (T480.setTop (mkF m 50 #[iv p0, iv p1, iv p2, iv p3, iv p4, .val r345, .val r469, rv b474, .unset, .unset, .unset] [(.int p4)])) _
    refine XS.iconst X480.here hx rfl (hb hby at_50) ?_
    show Steps p.tables e below (T480.setTop (mkF m 51 #[iv p0, iv p1, iv p2, iv p3, iv p4, .val r345, .val r469, rv b474, .unset, .unset, .unset] [(.int (4 : Int32)), (.int p4)])) _
    refine XS.iand X480.here hx rfl (hb hby at_51) rfl ?_
    show Steps p.tables e below (T480.setTop (mkF m 52 #[iv p0, iv p1, iv p2, iv p3, iv p4, .val r345, .val r469, rv b474, .unset, .unset, .unset] [(.int (p4 &&& (4 : Int32)))])) _
    exact kont
  by_cases c485 : (p4 &&& (4 : Int32)) = (0 : Int32)
  ·
    have g487 : Go p e below T480 (mkF m 60 #[iv p0, iv p1, iv p2, iv p3, iv p4, .val r345, .val r469, rv b474, .unset, .unset, .unset] []) A0 := by
      intro t kont
      refine g486 t ?_
      refine XS.ifYes X480.here hx rfl (pc0 := 52) (pc' := 60) rfl (hb hby at_52) rfl ((if0 _ _).trans (teq c485).1) (by decide) (by decide) ?_
      show Steps p.tables e below (T480.setTop (mkF m 60 #[iv p0, iv p1, iv p2, iv p3, iv p4, .val r345, .val r469, rv b474, .unset, .unset, .unset] [])) _
      exact kont
    obtain ⟨T488, h488, X488, e488, E488, A488, D488, -, st488⟩ := newO X480 hx hZ hown (hw _ (List.mem_of_getElem? (i := 30) rfl)) (hw _ (List.mem_of_getElem? (i := 31) rfl)) (hw _ (List.mem_of_getElem? (i := 32) rfl)) rfl (g := (mkF m 60 #[iv p0, iv p1, iv p2, iv p3, iv p4, .val r345, .val r469, rv b474, .unset, .unset, .unset] [])) rfl (hb hby at_60) (by decide) (by decide)
    obtain ⟨b488, gb488⟩ : ∃ z, z = T480.heap.size := ⟨_, rfl⟩
    rw [← gb488] at A488 D488 st488
    have O489 := O483.ext E488
    have y490 : Fld Z h488 b488 "com/example/subsume/subsume/engine/Individual" "name" "Ljava/lang/String;" .null := D488 (Or.inr (hw _ (List.mem_of_getElem? (i := 38) rfl))) (ty := (.object "java/lang/String")) (by decide)
    have y491 : Fld Z h488 b488 "com/example/subsume/subsume/engine/Individual" "id" "I" (.int (0 : Int32)) := D488 (Or.inr (hw _ (List.mem_of_getElem? (i := 40) rfl))) (ty := .int) (by decide)
    have g492 : Go p e below T488 (mkF m 63 #[iv p0, iv p1, iv p2, iv p3, iv p4, .val r345, .val r469, rv b474, .unset, .unset, .unset] [(.ref b488)]) A0 := fun t kont => g487 t (st488 t kont)
    have g493 : Go p e below T488 (mkF m 67 #[iv p0, iv p1, iv p2, iv p3, iv p4, .val r345, .val r469, rv b474, .unset, .unset, .unset] [(.int p1), r469, (.ref b488), (.ref b488)]) A0 := by
      intro t kont
      refine g492 t ?_
      refine XS.dup X488.here hx rfl (hb hby at_63) rfl rfl ?_
      show Steps p.tables e below (T488.setTop (mkF m 64 #[iv p0, iv p1, iv p2, iv p3, iv p4, .val r345, .val r469, rv b474, .unset, .unset, .unset] [(.ref b488), (.ref b488)])) _
      refine XS.aload X488.here hx rfl (hb hby at_64) rfl (y470) ?_
      show Steps p.tables e below (T488.setTop (mkF m 66 #[iv p0, iv p1, iv p2, iv p3, iv p4, .val r345, .val r469, rv b474, .unset, .unset, .unset] [r469, (.ref b488), (.ref b488)])) _
      refine XS.iloadN X488.here hx rfl (hb hby at_66) rfl ?_
      show Steps p.tables e below (T488.setTop (mkF m 67 #[iv p0, iv p1, iv p2, iv p3, iv p4, .val r345, .val r469, rv b474, .unset, .unset, .unset] [(.int p1), r469, (.ref b488), (.ref b488)])) _
      exact kont
    have ge495 : n0 ≤ b488 := Nat.le_trans (own_old_le O483) (Nat.le_of_eq gb488.symm)
    obtain ⟨_, _, ⟨T494, L494, k494, n494⟩, -, X494, ⟨Lc494, hQ494, l494, y494, z494⟩, st494⟩ := X488.specialBack hx (y := (⟨"com/example/subsume/subsume/engine/Individual", "<init>", "(Ljava/lang/String;I)V"⟩ : MethodName)) rfl hown (mvT hZ (hw _ (List.mem_of_getElem? (i := 33) rfl))) (mvT hZ (hw _ (List.mem_of_getElem? (i := 34) rfl))) (mvT hZ (hw _ (List.mem_of_getElem? (i := 35) rfl))) (by decide) (backOf (W := 1) (rm_indI l Z a0 hw [] b488 r469 p1 h488 n0 O489 y470 y490 y491 A488 ge495) hZ (hw _ (List.mem_of_getElem? (i := 35) rfl)) (hw _ (List.mem_of_getElem? (i := 32) rfl)) (by decide) (by decide)) (g := (mkF m 67 #[iv p0, iv p1, iv p2, iv p3, iv p4, .val r345, .val r469, rv b474, .unset, .unset, .unset] [(.int p1), r469, (.ref b488), (.ref b488)])) rfl (by rw [hml]; rfl) (Steps.refl _) (a := b488) (argsL := [r469, (.int p1)]) (rest := [(.ref b488)]) (lenOf pd_9 rfl) rfl (by show 2 * 0 + _ ≤ _; exact Nat.le_of_eq rfl) (hb hby at_67) (fun _ _ => ⟨rfl, e488, (by decide : 2 + 0 ≤ _), (by decide : 4 + 0 ≤ _)⟩)
    dsimp only [Pt.U, Pt.locs, Pt.cells, Pt.slots] at X494 l494 y494 z494 st494 hQ494
    subst l494 y494 z494
    obtain ⟨rfl, M494, K494, y496⟩ := hQ494
    have N494 := Fr.app N480 M494
    have O497 := O489.keep K494 (allS ge495 all0)
    have g498 : Go p e below T494 (mkF m 70 #[iv p0, iv p1, iv p2, iv p3, iv p4, .val r345, .val r469, rv b474, .unset, .unset, .unset] [(.ref b488)]) A0 := fun t kont => g493 t (st494.trans kont)
    have g499 : Go p e below T494 (mkF m 72 #[iv p0, iv p1, iv p2, iv p3, iv p4, .val r345, .val r469, rv b474, rv b488, .unset, .unset] []) A0 := by
      intro t kont
      refine g498 t ?_
      refine XS.astore X494.here hx rfl (hb hby at_70) rfl rfl (l' := #[iv p0, iv p1, iv p2, iv p3, iv p4, .val r345, .val r469, rv b474, rv b488, .unset, .unset]) rfl ?_
      show Steps p.tables e below (T494.setTop (mkF m 72 #[iv p0, iv p1, iv p2, iv p3, iv p4, .val r345, .val r469, rv b474, rv b488, .unset, .unset] [])) _
      exact kont
    obtain ⟨T500, h500, X500, e500, E500, A500, D500, -, st500⟩ := newO X494 hx hZ hown (hw _ (List.mem_of_getElem? (i := 41) rfl)) (hw _ (List.mem_of_getElem? (i := 42) rfl)) (hw _ (List.mem_of_getElem? (i := 43) rfl)) rfl (g := (mkF m 72 #[iv p0, iv p1, iv p2, iv p3, iv p4, .val r345, .val r469, rv b474, rv b488, .unset, .unset] [])) rfl (hb hby at_72) (by decide) (by decide)
    obtain ⟨b500, gb500⟩ : ∃ z, z = T494.heap.size := ⟨_, rfl⟩
    rw [← gb500] at A500 D500 st500
    have O501 := O497.ext E500
    have y502 : Fld Z h500 b500 "com/example/subsume/subsume/engine/IndividualInequality" "individual" "Lcom/example/subsume/subsume/engine/Individual;" .null := D500 (Or.inr (hw _ (List.mem_of_getElem? (i := 54) rfl))) (ty := (.object "com/example/subsume/subsume/engine/Individual")) (by decide)
    have y503 : Fld Z h500 b500 "com/example/subsume/subsume/engine/IndividualInequality" "other" "Lcom/example/subsume/subsume/engine/Individual;" .null := D500 (Or.inr (hw _ (List.mem_of_getElem? (i := 56) rfl))) (ty := (.object "com/example/subsume/subsume/engine/Individual")) (by decide)
    have g504 : Go p e below T500 (mkF m 75 #[iv p0, iv p1, iv p2, iv p3, iv p4, .val r345, .val r469, rv b474, rv b488, .unset, .unset] [(.ref b500)]) A0 := fun t kont => g499 t (st500 t kont)
    have g505 : Go p e below T500 (mkF m 80 #[iv p0, iv p1, iv p2, iv p3, iv p4, .val r345, .val r469, rv b474, rv b488, .unset, .unset] [(.ref b488), (.ref b474), (.ref b500), (.ref b500)]) A0 := by
      intro t kont
      refine g504 t ?_
      refine XS.dup X500.here hx rfl (hb hby at_75) rfl rfl ?_
      show Steps p.tables e below (T500.setTop (mkF m 76 #[iv p0, iv p1, iv p2, iv p3, iv p4, .val r345, .val r469, rv b474, rv b488, .unset, .unset] [(.ref b500), (.ref b500)])) _
      refine XS.aload X500.here hx rfl (hb hby at_76) rfl rfl ?_
      show Steps p.tables e below (T500.setTop (mkF m 78 #[iv p0, iv p1, iv p2, iv p3, iv p4, .val r345, .val r469, rv b474, rv b488, .unset, .unset] [(.ref b474), (.ref b500), (.ref b500)])) _
      refine XS.aload X500.here hx rfl (hb hby at_78) rfl rfl ?_
      show Steps p.tables e below (T500.setTop (mkF m 80 #[iv p0, iv p1, iv p2, iv p3, iv p4, .val r345, .val r469, rv b474, rv b488, .unset, .unset] [(.ref b488), (.ref b474), (.ref b500), (.ref b500)])) _
      exact kont
    have ge507 : n0 ≤ b500 := Nat.le_trans (own_old_le O497) (Nat.le_of_eq gb500.symm)
    obtain ⟨_, _, ⟨T506, L506, k506, n506⟩, -, X506, ⟨Lc506, hQ506, l506, y506, z506⟩, st506⟩ := X500.specialBack hx (y := (⟨"com/example/subsume/subsume/engine/IndividualInequality", "<init>", "(Lcom/example/subsume/subsume/engine/Individual;Lcom/example/subsume/subsume/engine/Individual;)V"⟩ : MethodName)) rfl hown (mvT hZ (hw _ (List.mem_of_getElem? (i := 44) rfl))) (mvT hZ (hw _ (List.mem_of_getElem? (i := 45) rfl))) (mvT hZ (hw _ (List.mem_of_getElem? (i := 46) rfl))) (by decide) (backOf (W := 1) (rm_relI l Z a0 hw [] b500 b474 b488 h500 n0 O501 y502 y503 A500 ge507) hZ (hw _ (List.mem_of_getElem? (i := 46) rfl)) (hw _ (List.mem_of_getElem? (i := 43) rfl)) (by decide) (by decide)) (g := (mkF m 80 #[iv p0, iv p1, iv p2, iv p3, iv p4, .val r345, .val r469, rv b474, rv b488, .unset, .unset] [(.ref b488), (.ref b474), (.ref b500), (.ref b500)])) rfl (by rw [hml]; rfl) (Steps.refl _) (a := b500) (argsL := [(.ref b474), (.ref b488)]) (rest := [(.ref b500)]) (lenOf pd_10 rfl) rfl (by show 2 * 0 + _ ≤ _; exact Nat.le_of_eq rfl) (hb hby at_80) (fun _ _ => ⟨rfl, e500, (by decide : 3 + 0 ≤ _), (by decide : 6 + 0 ≤ _)⟩)
    dsimp only [Pt.U, Pt.locs, Pt.cells, Pt.slots] at X506 l506 y506 z506 st506 hQ506
    subst l506 y506 z506
    obtain ⟨rfl, M506, K506, y508, y509, y510⟩ := hQ506
    have N506 := Fr.app N494 M506
    have O511 := O501.keep K506 (allS ge507 all0)
    have g512 : Go p e below T506 (mkF m 83 #[iv p0, iv p1, iv p2, iv p3, iv p4, .val r345, .val r469, rv b474, rv b488, .unset, .unset] [(.ref b500)]) A0 := fun t kont => g505 t (st506.trans kont)
    have g513 : Go p e below T506 (mkF m 87 #[iv p0, iv p1, iv p2, iv p3, iv p4, .val r345, .val r469, rv b474, rv b488, rv b500, .unset] [(.ref b500)]) A0 := by
      intro t kont
      refine g512 t ?_
      refine XS.astore X506.here hx rfl (hb hby at_83) rfl rfl (l' := #[iv p0, iv p1, iv p2, iv p3, iv p4, .val r345, .val r469, rv b474, rv b488, rv b500, .unset]) rfl ?_
      show Steps p.tables e below (T506.setTop (mkF m 85 #[iv p0, iv p1, iv p2, iv p3, iv p4, .val r345, .val r469, rv b474, rv b488, rv b500, .unset] [])) _
      refine XS.aload X506.here hx rfl (hb hby at_85) rfl rfl ?_
      show Steps p.tables e below (T506.setTop (mkF m 87 #[iv p0, iv p1, iv p2, iv p3, iv p4, .val r345, .val r469, rv b474, rv b488, rv b500, .unset] [(.ref b500)])) _
      exact kont
    obtain ⟨cq514, kq514, q514a, q514b, q514c⟩ := isOf hZ rfl y508
    obtain ⟨_, _, ⟨T514, L514, k514, n514⟩, -, X514, ⟨Lc514, hQ514, l514, y514, z514⟩, st514⟩ := X506.virtualBack hx (y := (⟨"com/example/subsume/subsume/engine/IndividualInequality", "individuals", "()Ljava/util/List;"⟩ : MethodName)) (z := (⟨"com/example/subsume/subsume/engine/IndividualInequality", "individuals", "()Ljava/util/List;"⟩ : MethodName)) hown (mvT hZ (hw _ (List.mem_of_getElem? (i := 57) rfl))) (mvT hZ (hw _ (List.mem_of_getElem? (i := 58) rfl))) (notFace_of_selects (args := #[]) (mvT hZ (hw _ (List.mem_of_getElem? (i := 60) rfl)))) (mvT hZ (hw _ (List.mem_of_getElem? (i := 60) rfl))) (mvT hZ (hw _ (List.mem_of_getElem? (i := 59) rfl))) (by decide) (backOf (W := 0) (rm_inds l Z a0 hw [] b500 b474 b488 T506.heap n0 O511 y509 y510) hZ (hw _ (List.mem_of_getElem? (i := 61) rfl)) (hw _ (List.mem_of_getElem? (i := 43) rfl)) (by decide) (by decide)) q514a q514c (g := (mkF m 87 #[iv p0, iv p1, iv p2, iv p3, iv p4, .val r345, .val r469, rv b474, rv b488, rv b500, .unset] [(.ref b500)])) rfl (by rw [hml]; rfl) (Steps.refl _) (argsL := []) (rest := []) (lenOf pd_11 rfl) rfl (by show 2 * 0 + _ ≤ _; exact Nat.le_of_eq rfl) (hb hby at_87) (fun _ _ => ⟨rfl, rfl, (by decide : 3 + 1 ≤ _), (by decide : 6 + 2 ≤ _)⟩)
    dsimp only [Pt.U, Pt.locs, Pt.cells, Pt.slots] at X514 l514 y514 z514 st514 hQ514
    subst l514 y514 z514
    obtain ⟨r515, rfl, M514, K514, y516, y517, y518, y519⟩ := hQ514
    have N514 := Fr.app N506 M514
    have O520 := O511.keep K514 all0
    have g521 : Go p e below T514 (mkF m 90 #[iv p0, iv p1, iv p2, iv p3, iv p4, .val r345, .val r469, rv b474, rv b488, rv b500, .unset] [(.ref r515)]) A0 := fun t kont => g513 t (st514.trans kont)
    have g522 : Go p e below T514 (mkF m 94 #[iv p0, iv p1, iv p2, iv p3, iv p4, .val r345, .val r469, rv b474, rv b488, rv b500, rv r515] [(.ref r515)]) A0 := by
      intro t kont
      refine g521 t ?_
      refine XS.astore X514.here hx rfl (hb hby at_90) rfl rfl (l' := #[iv p0, iv p1, iv p2, iv p3, iv p4, .val r345, .val r469, rv b474, rv b488, rv b500, rv r515]) rfl ?_
      show Steps p.tables e below (T514.setTop (mkF m 92 #[iv p0, iv p1, iv p2, iv p3, iv p4, .val r345, .val r469, rv b474, rv b488, rv b500, rv r515] [])) _
      refine XS.aload X514.here hx rfl (hb hby at_92) rfl rfl ?_
      show Steps p.tables e below (T514.setTop (mkF m 94 #[iv p0, iv p1, iv p2, iv p3, iv p4, .val r345, .val r469, rv b474, rv b488, rv b500, rv r515] [(.ref r515)])) _
      exact kont
    obtain ⟨cq523, kq523, q523a, q523b, q523c⟩ := isOf hZ rfl y517
    obtain ⟨_, _, ⟨T523, L523, k523, n523⟩, -, X523, ⟨Lc523, hQ523, l523, y523, z523⟩, st523⟩ := X514.interfaceBack hx (xi := (⟨"java/util/List", "size", "()I"⟩ : MethodName)) (y := (⟨"java/util/ImmutableCollections$List12", "size", "()I"⟩ : MethodName)) hown (mvT hZ (hw _ (List.mem_of_getElem? (i := 100) rfl))) (mvT hZ (hw _ (List.mem_of_getElem? (i := 101) rfl))) (mvT hZ (hw _ (List.mem_of_getElem? (i := 102) rfl))) (mvT hZ (hw _ (List.mem_of_getElem? (i := 103) rfl))) (mvT hZ (hw _ (List.mem_of_getElem? (i := 104) rfl))) (mvT hZ (hw _ (List.mem_of_getElem? (i := 105) rfl))) (mvT hZ (hw _ (List.mem_of_getElem? (i := 106) rfl))) (mvT hZ (hw _ (List.mem_of_getElem? (i := 107) rfl))) (by decide) (backOf (W := 0) (rm_siz l Z a0 hw [] r515 b488 w_EMPTY T514.heap n0 O520 y519 S1_ (Ne.symm (O520.ne ZE3_.lt ge495))) hZ (hw _ (List.mem_of_getElem? (i := 108) rfl)) (hw _ (List.mem_of_getElem? (i := 68) rfl)) (by decide) (by decide)) q523a q523b q523c (g := (mkF m 94 #[iv p0, iv p1, iv p2, iv p3, iv p4, .val r345, .val r469, rv b474, rv b488, rv b500, rv r515] [(.ref r515)])) rfl (by rw [hml]; rfl) (Steps.refl _) (argsL := []) (rest := []) (lenOf pd_12 rfl) rfl (by show 2 * 0 + _ ≤ _; exact Nat.le_of_eq rfl) (hb hby at_94) (fun _ _ => ⟨rfl, rfl, (by decide : 4 + 0 ≤ _), (by decide : 8 + 0 ≤ _)⟩)
    dsimp only [Pt.U, Pt.locs, Pt.cells, Pt.slots] at X523 l523 y523 z523 st523 hQ523
    subst l523 y523 z523
    obtain ⟨rfl, M523, e523⟩ := hQ523
    have N523 := Fr.app N514 M523
    have g524 : Go p e below T523 (mkF m 99 #[iv p0, iv p1, iv p2, iv p3, iv p4, .val r345, .val r469, rv b474, rv b488, rv b500, rv r515] [(.int (2 : Int32))]) A0 := fun t kont => g522 t (st523.trans kont)
    have g525 : Go p e below T523 (mkF m 108 #[iv p0, iv p1, iv p2, iv p3, iv p4, .val r345, .val r469, rv b474, rv b488, rv b500, rv r515] [(.int (0 : Int32)), (.ref r515)]) A0 := by
      intro t kont
      refine g524 t ?_
      refine XS.iconst X523.here hx rfl (hb hby at_99) ?_
      show Steps p.tables e below (T523.setTop (mkF m 100 #[iv p0, iv p1, iv p2, iv p3, iv p4, .val r345, .val r469, rv b474, rv b488, rv b500, rv r515] [(.int (2 : Int32)), (.int (2 : Int32))])) _
      refine XS.icmpYes X523.here hx rfl (pc0 := 100) (pc' := 105) rfl (hb hby at_100) rfl (teq (by decide : (2 : Int32) = (2 : Int32))).1 (by decide) (by decide) ?_
      show Steps p.tables e below (T523.setTop (mkF m 105 #[iv p0, iv p1, iv p2, iv p3, iv p4, .val r345, .val r469, rv b474, rv b488, rv b500, rv r515] [])) _
      refine XS.aload X523.here hx rfl (hb hby at_105) rfl rfl ?_
      show Steps p.tables e below (T523.setTop (mkF m 107 #[iv p0, iv p1, iv p2, iv p3, iv p4, .val r345, .val r469, rv b474, rv b488, rv b500, rv r515] [(.ref r515)])) _
      refine XS.iconst X523.here hx rfl (hb hby at_107) ?_
      show Steps p.tables e below (T523.setTop (mkF m 108 #[iv p0, iv p1, iv p2, iv p3, iv p4, .val r345, .val r469, rv b474, rv b488, rv b500, rv r515] [(.int (0 : Int32)), (.ref r515)])) _
      exact kont
    obtain ⟨cq526, kq526, q526a, q526b, q526c⟩ := isOf hZ e523 y517
    obtain ⟨_, _, ⟨T526, L526, k526, n526⟩, -, X526, ⟨Lc526, hQ526, l526, y526, z526⟩, st526⟩ := X523.interfaceBack hx (xi := (⟨"java/util/List", "get", "(I)Ljava/lang/Object;"⟩ : MethodName)) (y := (⟨"java/util/ImmutableCollections$List12", "get", "(I)Ljava/lang/Object;"⟩ : MethodName)) hown (mvT hZ (hw _ (List.mem_of_getElem? (i := 111) rfl))) (mvT hZ (hw _ (List.mem_of_getElem? (i := 112) rfl))) (mvT hZ (hw _ (List.mem_of_getElem? (i := 113) rfl))) (mvT hZ (hw _ (List.mem_of_getElem? (i := 114) rfl))) (mvT hZ (hw _ (List.mem_of_getElem? (i := 115) rfl))) (mvT hZ (hw _ (List.mem_of_getElem? (i := 116) rfl))) (mvT hZ (hw _ (List.mem_of_getElem? (i := 117) rfl))) (mvT hZ (hw _ (List.mem_of_getElem? (i := 107) rfl))) (by decide) (backOf (W := 0) (rm_get0 l Z a0 hw [] r515 b474 T514.heap n0 O520 y518) hZ (hw _ (List.mem_of_getElem? (i := 118) rfl)) (hw _ (List.mem_of_getElem? (i := 68) rfl)) (by decide) (by decide)) q526a q526b q526c (g := (mkF m 108 #[iv p0, iv p1, iv p2, iv p3, iv p4, .val r345, .val r469, rv b474, rv b488, rv b500, rv r515] [(.int (0 : Int32)), (.ref r515)])) rfl (by rw [hml]; rfl) (Steps.refl _) (argsL := [(.int (0 : Int32))]) (rest := []) (lenOf pd_13 rfl) rfl (by show 2 * 0 + _ ≤ _; exact Nat.le_of_eq rfl) (hb hby at_108) (fun _ _ => ⟨rfl, e523, (by decide : 4 + 0 ≤ _), (by decide : 8 + 0 ≤ _)⟩)
    dsimp only [Pt.U, Pt.locs, Pt.cells, Pt.slots] at X526 l526 y526 z526 st526 hQ526
    subst l526 y526 z526
    obtain ⟨rfl, M526, e526⟩ := hQ526
    have N526 := Fr.app N523 M526
    have g527 : Go p e below T526 (mkF m 113 #[iv p0, iv p1, iv p2, iv p3, iv p4, .val r345, .val r469, rv b474, rv b488, rv b500, rv r515] [(.ref b474)]) A0 := fun t kont => g525 t (st526.trans kont)
    have g528 : Go p e below T526 (mkF m 123 #[iv p0, iv p1, iv p2, iv p3, iv p4, .val r345, .val r469, rv b474, rv b488, rv b500, rv r515] [(.int (1 : Int32)), (.ref r515)]) A0 := by
      intro t kont
      refine g527 t ?_
      refine XS.aload X526.here hx rfl (hb hby at_113) rfl rfl ?_
      show Steps p.tables e below (T526.setTop (mkF m 115 #[iv p0, iv p1, iv p2, iv p3, iv p4, .val r345, .val r469, rv b474, rv b488, rv b500, rv r515] [(.ref b474), (.ref b474)])) _
      refine Jvm.RoadKit.acmp (g := (mkF m 115 #[iv p0, iv p1, iv p2, iv p3, iv p4, .val r345, .val r469, rv b474, rv b488, rv b500, rv r515] [(.ref b474), (.ref b474)])) X526 hx rfl rfl rfl (pc0 := 115) (pc' := 120) (same := true) rfl (hb hby at_115) rfl (decide_eq_true rfl) (by decide) (by decide) ?_
      show Steps p.tables e below (T526.setTop (mkF m 120 #[iv p0, iv p1, iv p2, iv p3, iv p4, .val r345, .val r469, rv b474, rv b488, rv b500, rv r515] [])) _
      refine XS.aload X526.here hx rfl (hb hby at_120) rfl rfl ?_
      show Steps p.tables e below (T526.setTop (mkF m 122 #[iv p0, iv p1, iv p2, iv p3, iv p4, .val r345, .val r469, rv b474, rv b488, rv b500, rv r515] [(.ref r515)])) _
      refine XS.iconst X526.here hx rfl (hb hby at_122) ?_
      show Steps p.tables e below (T526.setTop (mkF m 123 #[iv p0, iv p1, iv p2, iv p3, iv p4, .val r345, .val r469, rv b474, rv b488, rv b500, rv r515] [(.int (1 : Int32)), (.ref r515)])) _
      exact kont
    obtain ⟨cq529, kq529, q529a, q529b, q529c⟩ := isOf hZ e526 y517
    obtain ⟨_, _, ⟨T529, L529, k529, n529⟩, -, X529, ⟨Lc529, hQ529, l529, y529, z529⟩, st529⟩ := X526.interfaceBack hx (xi := (⟨"java/util/List", "get", "(I)Ljava/lang/Object;"⟩ : MethodName)) (y := (⟨"java/util/ImmutableCollections$List12", "get", "(I)Ljava/lang/Object;"⟩ : MethodName)) hown (mvT hZ (hw _ (List.mem_of_getElem? (i := 111) rfl))) (mvT hZ (hw _ (List.mem_of_getElem? (i := 112) rfl))) (mvT hZ (hw _ (List.mem_of_getElem? (i := 113) rfl))) (mvT hZ (hw _ (List.mem_of_getElem? (i := 114) rfl))) (mvT hZ (hw _ (List.mem_of_getElem? (i := 115) rfl))) (mvT hZ (hw _ (List.mem_of_getElem? (i := 116) rfl))) (mvT hZ (hw _ (List.mem_of_getElem? (i := 117) rfl))) (mvT hZ (hw _ (List.mem_of_getElem? (i := 107) rfl))) (by decide) (backOf (W := 0) (rm_get1 l Z a0 hw [] r515 b488 w_EMPTY T514.heap n0 O520 y519 S1_ (Ne.symm (O520.ne ZE3_.lt ge495))) hZ (hw _ (List.mem_of_getElem? (i := 118) rfl)) (hw _ (List.mem_of_getElem? (i := 68) rfl)) (by decide) (by decide)) q529a q529b q529c (g := (mkF m 123 #[iv p0, iv p1, iv p2, iv p3, iv p4, .val r345, .val r469, rv b474, rv b488, rv b500, rv r515] [(.int (1 : Int32)), (.ref r515)])) rfl (by rw [hml]; rfl) (Steps.refl _) (argsL := [(.int (1 : Int32))]) (rest := []) (lenOf pd_13 rfl) rfl (by show 2 * 0 + _ ≤ _; exact Nat.le_of_eq rfl) (hb hby at_123) (fun _ _ => ⟨rfl, e526, (by decide : 4 + 0 ≤ _), (by decide : 8 + 0 ≤ _)⟩)
    dsimp only [Pt.U, Pt.locs, Pt.cells, Pt.slots] at X529 l529 y529 z529 st529 hQ529
    subst l529 y529 z529
    obtain ⟨rfl, M529, e529⟩ := hQ529
    have N529 := Fr.app N526 M529
    have g530 : Go p e below T529 (mkF m 128 #[iv p0, iv p1, iv p2, iv p3, iv p4, .val r345, .val r469, rv b474, rv b488, rv b500, rv r515] [(.ref b488)]) A0 := fun t kont => g528 t (st529.trans kont)
    have g531 : Go p e below T529 (mkF m 137 #[iv p0, iv p1, iv p2, iv p3, iv p4, .val r345, .val r469, rv b474, rv b488, rv b500, rv r515] [(.ref b500)]) A0 := by
      intro t kont
      refine g530 t ?_
      refine XS.aload X529.here hx rfl (hb hby at_128) rfl rfl ?_
      show Steps p.tables e below (T529.setTop (mkF m 130 #[iv p0, iv p1, iv p2, iv p3, iv p4, .val r345, .val r469, rv b474, rv b488, rv b500, rv r515] [(.ref b488), (.ref b488)])) _
      refine Jvm.RoadKit.acmp (g := (mkF m 130 #[iv p0, iv p1, iv p2, iv p3, iv p4, .val r345, .val r469, rv b474, rv b488, rv b500, rv r515] [(.ref b488), (.ref b488)])) X529 hx rfl rfl rfl (pc0 := 130) (pc' := 135) (same := true) rfl (hb hby at_130) rfl (decide_eq_true rfl) (by decide) (by decide) ?_
      show Steps p.tables e below (T529.setTop (mkF m 135 #[iv p0, iv p1, iv p2, iv p3, iv p4, .val r345, .val r469, rv b474, rv b488, rv b500, rv r515] [])) _
      refine XS.aload X529.here hx rfl (hb hby at_135) rfl rfl ?_
      show Steps p.tables e below (T529.setTop (mkF m 137 #[iv p0, iv p1, iv p2, iv p3, iv p4, .val r345, .val r469, rv b474, rv b488, rv b500, rv r515] [(.ref b500)])) _
      exact kont
    have y533 : Exa Z T514.heap b500 "com/example/subsume/subsume/engine/IndividualInequality" := (y508.keep K514)
    have y534 : Fld Z T514.heap b500 "com/example/subsume/subsume/engine/IndividualInequality" "individual" "Lcom/example/subsume/subsume/engine/Individual;" (.ref b474) := (y509.keep K514 nin0)
    obtain ⟨cq532, kq532, q532a, q532b, q532c⟩ := isOf hZ e529 y533
    obtain ⟨_, _, ⟨T532, L532, k532, n532⟩, -, X532, ⟨Lc532, hQ532, l532, y532, z532⟩, st532⟩ := X529.virtualBack hx (y := (⟨"com/example/subsume/subsume/engine/IndividualInequality", "individual", "()Lcom/example/subsume/subsume/engine/Individual;"⟩ : MethodName)) (z := (⟨"com/example/subsume/subsume/engine/IndividualInequality", "individual", "()Lcom/example/subsume/subsume/engine/Individual;"⟩ : MethodName)) hown (mvT hZ (hw _ (List.mem_of_getElem? (i := 119) rfl))) (mvT hZ (hw _ (List.mem_of_getElem? (i := 120) rfl))) (notFace_of_selects (args := #[]) (mvT hZ (hw _ (List.mem_of_getElem? (i := 122) rfl)))) (mvT hZ (hw _ (List.mem_of_getElem? (i := 122) rfl))) (mvT hZ (hw _ (List.mem_of_getElem? (i := 121) rfl))) (by decide) (backOf (W := 0) (rm_rInd l Z a0 hw [] b500 b474 T514.heap n0 O520 y534) hZ (hw _ (List.mem_of_getElem? (i := 123) rfl)) (hw _ (List.mem_of_getElem? (i := 43) rfl)) (by decide) (by decide)) q532a q532c (g := (mkF m 137 #[iv p0, iv p1, iv p2, iv p3, iv p4, .val r345, .val r469, rv b474, rv b488, rv b500, rv r515] [(.ref b500)])) rfl (by rw [hml]; rfl) (Steps.refl _) (argsL := []) (rest := []) (lenOf pd_14 rfl) rfl (by show 2 * 0 + _ ≤ _; exact Nat.le_of_eq rfl) (hb hby at_137) (fun _ _ => ⟨rfl, e529, (by decide : 4 + 0 ≤ _), (by decide : 8 + 0 ≤ _)⟩)
    dsimp only [Pt.U, Pt.locs, Pt.cells, Pt.slots] at X532 l532 y532 z532 st532 hQ532
    subst l532 y532 z532
    obtain ⟨rfl, M532, e532⟩ := hQ532
    have N532 := Fr.app N529 M532
    have g535 : Go p e below T532 (mkF m 140 #[iv p0, iv p1, iv p2, iv p3, iv p4, .val r345, .val r469, rv b474, rv b488, rv b500, rv r515] [(.ref b474)]) A0 := fun t kont => g531 t (st532.trans kont)
    have g536 : Go p e below T532 (mkF m 147 #[iv p0, iv p1, iv p2, iv p3, iv p4, .val r345, .val r469, rv b474, rv b488, rv b500, rv r515] [(.ref b500)]) A0 := by
      intro t kont
      refine g535 t ?_
      refine XS.aload X532.here hx rfl (hb hby at_140) rfl rfl ?_
      show Steps p.tables e below (T532.setTop (mkF m 142 #[iv p0, iv p1, iv p2, iv p3, iv p4, .val r345, .val r469, rv b474, rv b488, rv b500, rv r515] [(.ref b474), (.ref b474)])) _
      refine Jvm.RoadKit.acmp (g := (mkF m 142 #[iv p0, iv p1, iv p2, iv p3, iv p4, .val r345, .val r469, rv b474, rv b488, rv b500, rv r515] [(.ref b474), (.ref b474)])) X532 hx rfl rfl rfl (pc0 := 142) (pc' := 145) (same := true) rfl (hb hby at_142) rfl (decide_eq_true rfl) (by decide) (by decide) ?_
      show Steps p.tables e below (T532.setTop (mkF m 145 #[iv p0, iv p1, iv p2, iv p3, iv p4, .val r345, .val r469, rv b474, rv b488, rv b500, rv r515] [])) _
      refine XS.aload X532.here hx rfl (hb hby at_145) rfl rfl ?_
      show Steps p.tables e below (T532.setTop (mkF m 147 #[iv p0, iv p1, iv p2, iv p3, iv p4, .val r345, .val r469, rv b474, rv b488, rv b500, rv r515] [(.ref b500)])) _
      exact kont
    have y538 : Fld Z T514.heap b500 "com/example/subsume/subsume/engine/IndividualInequality" "other" "Lcom/example/subsume/subsume/engine/Individual;" (.ref b488) := (y510.keep K514 nin0)
    obtain ⟨cq537, kq537, q537a, q537b, q537c⟩ := isOf hZ e532 y533
    obtain ⟨_, _, ⟨T537, L537, k537, n537⟩, -, X537, ⟨Lc537, hQ537, l537, y537, z537⟩, st537⟩ := X532.virtualBack hx (y := (⟨"com/example/subsume/subsume/engine/IndividualInequality", "other", "()Lcom/example/subsume/subsume/engine/Individual;"⟩ : MethodName)) (z := (⟨"com/example/subsume/subsume/engine/IndividualInequality", "other", "()Lcom/example/subsume/subsume/engine/Individual;"⟩ : MethodName)) hown (mvT hZ (hw _ (List.mem_of_getElem? (i := 124) rfl))) (mvT hZ (hw _ (List.mem_of_getElem? (i := 125) rfl))) (notFace_of_selects (args := #[]) (mvT hZ (hw _ (List.mem_of_getElem? (i := 127) rfl)))) (mvT hZ (hw _ (List.mem_of_getElem? (i := 127) rfl))) (mvT hZ (hw _ (List.mem_of_getElem? (i := 126) rfl))) (by decide) (backOf (W := 0) (rm_rOth l Z a0 hw [] b500 b488 T514.heap n0 O520 y538) hZ (hw _ (List.mem_of_getElem? (i := 128) rfl)) (hw _ (List.mem_of_getElem? (i := 43) rfl)) (by decide) (by decide)) q537a q537c (g := (mkF m 147 #[iv p0, iv p1, iv p2, iv p3, iv p4, .val r345, .val r469, rv b474, rv b488, rv b500, rv r515] [(.ref b500)])) rfl (by rw [hml]; rfl) (Steps.refl _) (argsL := []) (rest := []) (lenOf pd_14 rfl) rfl (by show 2 * 0 + _ ≤ _; exact Nat.le_of_eq rfl) (hb hby at_147) (fun _ _ => ⟨rfl, e532, (by decide : 4 + 0 ≤ _), (by decide : 8 + 0 ≤ _)⟩)
    dsimp only [Pt.U, Pt.locs, Pt.cells, Pt.slots] at X537 l537 y537 z537 st537 hQ537
    subst l537 y537 z537
    obtain ⟨rfl, M537, e537⟩ := hQ537
    have N537 := Fr.app N532 M537
    have g539 : Go p e below T537 (mkF m 150 #[iv p0, iv p1, iv p2, iv p3, iv p4, .val r345, .val r469, rv b474, rv b488, rv b500, rv r515] [(.ref b488)]) A0 := fun t kont => g536 t (st537.trans kont)
    have g540 : Go p e below T537 (mkF m 160 #[iv p0, iv p1, iv p2, iv p3, iv p4, .val r345, .val r469, rv b474, rv b488, rv b500, rv r515] [(.int (1 : Int32))]) A0 := by
      intro t kont
      refine g539 t ?_
      refine XS.aload X537.here hx rfl (hb hby at_150) rfl rfl ?_
      show Steps p.tables e below (T537.setTop (mkF m 152 #[iv p0, iv p1, iv p2, iv p3, iv p4, .val r345, .val r469, rv b474, rv b488, rv b500, rv r515] [(.ref b488), (.ref b488)])) _
      refine Jvm.RoadKit.acmp (g := (mkF m 152 #[iv p0, iv p1, iv p2, iv p3, iv p4, .val r345, .val r469, rv b474, rv b488, rv b500, rv r515] [(.ref b488), (.ref b488)])) X537 hx rfl rfl rfl (pc0 := 152) (pc' := 155) (same := true) rfl (hb hby at_152) rfl (decide_eq_true rfl) (by decide) (by decide) ?_
      show Steps p.tables e below (T537.setTop (mkF m 155 #[iv p0, iv p1, iv p2, iv p3, iv p4, .val r345, .val r469, rv b474, rv b488, rv b500, rv r515] [])) _
      refine XS.iconst X537.here hx rfl (hb hby at_155) ?_
      show Steps p.tables e below (T537.setTop (mkF m 156 #[iv p0, iv p1, iv p2, iv p3, iv p4, .val r345, .val r469, rv b474, rv b488, rv b500, rv r515] [(.int (1 : Int32))])) _
      refine XS.goto X537.here hx rfl (pc0 := 156) (pc' := 160) rfl (hb hby at_156) (by decide) (by decide) ?_
      show Steps p.tables e below (T537.setTop (mkF m 160 #[iv p0, iv p1, iv p2, iv p3, iv p4, .val r345, .val r469, rv b474, rv b488, rv b500, rv r515] [(.int (1 : Int32))])) _
      exact kont
    obtain ⟨fs, hr, hrun, hended, hW, hsame⟩ := X537.leave (v := some (.int (1 : Int32))) (fun h => by rw [Bd.returns] at h; cases h)
    refine ⟨_, _, g540 _ (retN X537 hx (t := .boolean) Bd.returns (by simp) (hb hby at_160) hr), hrun, hended, _, _, rfl, ?_, ⟨_, rfl⟩, hW, hsame.mono (by decide) (by decide)⟩
    show Q_law Z p0 p1 p2 p3 p4 i_COMPACT_STRINGS w_EMPTY h0 n0 _ T537.heap _
    rw [e537]
    exact ⟨rfl, N537⟩
  have g541 : Go p e below T480 (mkF m 72 #[iv p0, iv p1, iv p2, iv p3, iv p4, .val r345, .val r469, rv b474, rv b474, .unset, .unset] []) A0 := by
    intro t kont
    refine g486 t ?_
    refine XS.ifNo X480.here hx rfl (hb hby at_52) rfl ((if0 _ _).trans (feq c485).1) ?_
    show Steps p.tables e below (T480.setTop (mkF m 55 #[iv p0, iv p1, iv p2, iv p3, iv p4, .val r345, .val r469, rv b474, .unset, .unset, .unset] [])) _
    refine XS.aload X480.here hx rfl (hb hby at_55) rfl rfl ?_
    show Steps p.tables e below (T480.setTop (mkF m 57 #[iv p0, iv p1, iv p2, iv p3, iv p4, .val r345, .val r469, rv b474, .unset, .unset, .unset] [(.ref b474)])) _
    refine XS.goto X480.here hx rfl (pc0 := 57) (pc' := 70) rfl (hb hby at_57) (by decide) (by decide) ?_
    show Steps p.tables e below (T480.setTop (mkF m 70 #[iv p0, iv p1, iv p2, iv p3, iv p4, .val r345, .val r469, rv b474, .unset, .unset, .unset] [(.ref b474)])) _
    refine XS.astore X480.here hx rfl (hb hby at_70) rfl rfl (l' := #[iv p0, iv p1, iv p2, iv p3, iv p4, .val r345, .val r469, rv b474, rv b474, .unset, .unset]) rfl ?_
    show Steps p.tables e below (T480.setTop (mkF m 72 #[iv p0, iv p1, iv p2, iv p3, iv p4, .val r345, .val r469, rv b474, rv b474, .unset, .unset] [])) _
    exact kont
  obtain ⟨T542, h542, X542, e542, E542, A542, D542, -, st542⟩ := newO X480 hx hZ hown (hw _ (List.mem_of_getElem? (i := 41) rfl)) (hw _ (List.mem_of_getElem? (i := 42) rfl)) (hw _ (List.mem_of_getElem? (i := 43) rfl)) rfl (g := (mkF m 72 #[iv p0, iv p1, iv p2, iv p3, iv p4, .val r345, .val r469, rv b474, rv b474, .unset, .unset] [])) rfl (hb hby at_72) (by decide) (by decide)
  obtain ⟨b542, gb542⟩ : ∃ z, z = T480.heap.size := ⟨_, rfl⟩
  rw [← gb542] at A542 D542 st542
  have O543 := O483.ext E542
  have y544 : Fld Z h542 b542 "com/example/subsume/subsume/engine/IndividualInequality" "individual" "Lcom/example/subsume/subsume/engine/Individual;" .null := D542 (Or.inr (hw _ (List.mem_of_getElem? (i := 54) rfl))) (ty := (.object "com/example/subsume/subsume/engine/Individual")) (by decide)
  have y545 : Fld Z h542 b542 "com/example/subsume/subsume/engine/IndividualInequality" "other" "Lcom/example/subsume/subsume/engine/Individual;" .null := D542 (Or.inr (hw _ (List.mem_of_getElem? (i := 56) rfl))) (ty := (.object "com/example/subsume/subsume/engine/Individual")) (by decide)
  have g546 : Go p e below T542 (mkF m 75 #[iv p0, iv p1, iv p2, iv p3, iv p4, .val r345, .val r469, rv b474, rv b474, .unset, .unset] [(.ref b542)]) A0 := fun t kont => g541 t (st542 t kont)
  have g547 : Go p e below T542 (mkF m 80 #[iv p0, iv p1, iv p2, iv p3, iv p4, .val r345, .val r469, rv b474, rv b474, .unset, .unset] [(.ref b474), (.ref b474), (.ref b542), (.ref b542)]) A0 := by
    intro t kont
    refine g546 t ?_
    refine XS.dup X542.here hx rfl (hb hby at_75) rfl rfl ?_
    show Steps p.tables e below (T542.setTop (mkF m 76 #[iv p0, iv p1, iv p2, iv p3, iv p4, .val r345, .val r469, rv b474, rv b474, .unset, .unset] [(.ref b542), (.ref b542)])) _
    refine XS.aload X542.here hx rfl (hb hby at_76) rfl rfl ?_
    show Steps p.tables e below (T542.setTop (mkF m 78 #[iv p0, iv p1, iv p2, iv p3, iv p4, .val r345, .val r469, rv b474, rv b474, .unset, .unset] [(.ref b474), (.ref b542), (.ref b542)])) _
    refine XS.aload X542.here hx rfl (hb hby at_78) rfl rfl ?_
    show Steps p.tables e below (T542.setTop (mkF m 80 #[iv p0, iv p1, iv p2, iv p3, iv p4, .val r345, .val r469, rv b474, rv b474, .unset, .unset] [(.ref b474), (.ref b474), (.ref b542), (.ref b542)])) _
    exact kont
  have ge549 : n0 ≤ b542 := Nat.le_trans (own_old_le O483) (Nat.le_of_eq gb542.symm)
  obtain ⟨_, _, ⟨T548, L548, k548, n548⟩, -, X548, ⟨Lc548, hQ548, l548, y548, z548⟩, st548⟩ := X542.specialBack hx (y := (⟨"com/example/subsume/subsume/engine/IndividualInequality", "<init>", "(Lcom/example/subsume/subsume/engine/Individual;Lcom/example/subsume/subsume/engine/Individual;)V"⟩ : MethodName)) rfl hown (mvT hZ (hw _ (List.mem_of_getElem? (i := 44) rfl))) (mvT hZ (hw _ (List.mem_of_getElem? (i := 45) rfl))) (mvT hZ (hw _ (List.mem_of_getElem? (i := 46) rfl))) (by decide) (backOf (W := 1) (rm_relI l Z a0 hw [] b542 b474 b474 h542 n0 O543 y544 y545 A542 ge549) hZ (hw _ (List.mem_of_getElem? (i := 46) rfl)) (hw _ (List.mem_of_getElem? (i := 43) rfl)) (by decide) (by decide)) (g := (mkF m 80 #[iv p0, iv p1, iv p2, iv p3, iv p4, .val r345, .val r469, rv b474, rv b474, .unset, .unset] [(.ref b474), (.ref b474), (.ref b542), (.ref b542)])) rfl (by rw [hml]; rfl) (Steps.refl _) (a := b542) (argsL := [(.ref b474), (.ref b474)]) (rest := [(.ref b542)]) (lenOf pd_10 rfl) rfl (by show 2 * 0 + _ ≤ _; exact Nat.le_of_eq rfl) (hb hby at_80) (fun _ _ => ⟨rfl, e542, (by decide : 2 + 0 ≤ _), (by decide : 4 + 0 ≤ _)⟩)
  dsimp only [Pt.U, Pt.locs, Pt.cells, Pt.slots] at X548 l548 y548 z548 st548 hQ548
  subst l548 y548 z548
  obtain ⟨rfl, M548, K548, y550, y551, y552⟩ := hQ548
  have N548 := Fr.app N480 M548
  have O553 := O543.keep K548 (allS ge549 all0)
  have g554 : Go p e below T548 (mkF m 83 #[iv p0, iv p1, iv p2, iv p3, iv p4, .val r345, .val r469, rv b474, rv b474, .unset, .unset] [(.ref b542)]) A0 := fun t kont => g547 t (st548.trans kont)
  have g555 : Go p e below T548 (mkF m 87 #[iv p0, iv p1, iv p2, iv p3, iv p4, .val r345, .val r469, rv b474, rv b474, rv b542, .unset] [(.ref b542)]) A0 := by
    intro t kont
    refine g554 t ?_
    refine XS.astore X548.here hx rfl (hb hby at_83) rfl rfl (l' := #[iv p0, iv p1, iv p2, iv p3, iv p4, .val r345, .val r469, rv b474, rv b474, rv b542, .unset]) rfl ?_
    show Steps p.tables e below (T548.setTop (mkF m 85 #[iv p0, iv p1, iv p2, iv p3, iv p4, .val r345, .val r469, rv b474, rv b474, rv b542, .unset] [])) _
    refine XS.aload X548.here hx rfl (hb hby at_85) rfl rfl ?_
    show Steps p.tables e below (T548.setTop (mkF m 87 #[iv p0, iv p1, iv p2, iv p3, iv p4, .val r345, .val r469, rv b474, rv b474, rv b542, .unset] [(.ref b542)])) _
    exact kont
  obtain ⟨cq556, kq556, q556a, q556b, q556c⟩ := isOf hZ rfl y550
  obtain ⟨_, _, ⟨T556, L556, k556, n556⟩, -, X556, ⟨Lc556, hQ556, l556, y556, z556⟩, st556⟩ := X548.virtualBack hx (y := (⟨"com/example/subsume/subsume/engine/IndividualInequality", "individuals", "()Ljava/util/List;"⟩ : MethodName)) (z := (⟨"com/example/subsume/subsume/engine/IndividualInequality", "individuals", "()Ljava/util/List;"⟩ : MethodName)) hown (mvT hZ (hw _ (List.mem_of_getElem? (i := 57) rfl))) (mvT hZ (hw _ (List.mem_of_getElem? (i := 58) rfl))) (notFace_of_selects (args := #[]) (mvT hZ (hw _ (List.mem_of_getElem? (i := 60) rfl)))) (mvT hZ (hw _ (List.mem_of_getElem? (i := 60) rfl))) (mvT hZ (hw _ (List.mem_of_getElem? (i := 59) rfl))) (by decide) (backOf (W := 0) (rm_inds l Z a0 hw [] b542 b474 b474 T548.heap n0 O553 y551 y552) hZ (hw _ (List.mem_of_getElem? (i := 61) rfl)) (hw _ (List.mem_of_getElem? (i := 43) rfl)) (by decide) (by decide)) q556a q556c (g := (mkF m 87 #[iv p0, iv p1, iv p2, iv p3, iv p4, .val r345, .val r469, rv b474, rv b474, rv b542, .unset] [(.ref b542)])) rfl (by rw [hml]; rfl) (Steps.refl _) (argsL := []) (rest := []) (lenOf pd_11 rfl) rfl (by show 2 * 0 + _ ≤ _; exact Nat.le_of_eq rfl) (hb hby at_87) (fun _ _ => ⟨rfl, rfl, (by decide : 2 + 1 ≤ _), (by decide : 4 + 2 ≤ _)⟩)
  dsimp only [Pt.U, Pt.locs, Pt.cells, Pt.slots] at X556 l556 y556 z556 st556 hQ556
  subst l556 y556 z556
  obtain ⟨r557, rfl, M556, K556, y558, y559, y560, y561⟩ := hQ556
  have N556 := Fr.app N548 M556
  have O562 := O553.keep K556 all0
  have g563 : Go p e below T556 (mkF m 90 #[iv p0, iv p1, iv p2, iv p3, iv p4, .val r345, .val r469, rv b474, rv b474, rv b542, .unset] [(.ref r557)]) A0 := fun t kont => g555 t (st556.trans kont)
  have g564 : Go p e below T556 (mkF m 94 #[iv p0, iv p1, iv p2, iv p3, iv p4, .val r345, .val r469, rv b474, rv b474, rv b542, rv r557] [(.ref r557)]) A0 := by
    intro t kont
    refine g563 t ?_
    refine XS.astore X556.here hx rfl (hb hby at_90) rfl rfl (l' := #[iv p0, iv p1, iv p2, iv p3, iv p4, .val r345, .val r469, rv b474, rv b474, rv b542, rv r557]) rfl ?_
    show Steps p.tables e below (T556.setTop (mkF m 92 #[iv p0, iv p1, iv p2, iv p3, iv p4, .val r345, .val r469, rv b474, rv b474, rv b542, rv r557] [])) _
    refine XS.aload X556.here hx rfl (hb hby at_92) rfl rfl ?_
    show Steps p.tables e below (T556.setTop (mkF m 94 #[iv p0, iv p1, iv p2, iv p3, iv p4, .val r345, .val r469, rv b474, rv b474, rv b542, rv r557] [(.ref r557)])) _
    exact kont
  obtain ⟨cq565, kq565, q565a, q565b, q565c⟩ := isOf hZ rfl y559
  obtain ⟨_, _, ⟨T565, L565, k565, n565⟩, -, X565, ⟨Lc565, hQ565, l565, y565, z565⟩, st565⟩ := X556.interfaceBack hx (xi := (⟨"java/util/List", "size", "()I"⟩ : MethodName)) (y := (⟨"java/util/ImmutableCollections$List12", "size", "()I"⟩ : MethodName)) hown (mvT hZ (hw _ (List.mem_of_getElem? (i := 100) rfl))) (mvT hZ (hw _ (List.mem_of_getElem? (i := 101) rfl))) (mvT hZ (hw _ (List.mem_of_getElem? (i := 102) rfl))) (mvT hZ (hw _ (List.mem_of_getElem? (i := 103) rfl))) (mvT hZ (hw _ (List.mem_of_getElem? (i := 104) rfl))) (mvT hZ (hw _ (List.mem_of_getElem? (i := 105) rfl))) (mvT hZ (hw _ (List.mem_of_getElem? (i := 106) rfl))) (mvT hZ (hw _ (List.mem_of_getElem? (i := 107) rfl))) (by decide) (backOf (W := 0) (rm_siz l Z a0 hw [] r557 b474 w_EMPTY T556.heap n0 O562 y561 S1_ (Ne.symm (O562.ne ZE3_.lt ge481))) hZ (hw _ (List.mem_of_getElem? (i := 108) rfl)) (hw _ (List.mem_of_getElem? (i := 68) rfl)) (by decide) (by decide)) q565a q565b q565c (g := (mkF m 94 #[iv p0, iv p1, iv p2, iv p3, iv p4, .val r345, .val r469, rv b474, rv b474, rv b542, rv r557] [(.ref r557)])) rfl (by rw [hml]; rfl) (Steps.refl _) (argsL := []) (rest := []) (lenOf pd_12 rfl) rfl (by show 2 * 0 + _ ≤ _; exact Nat.le_of_eq rfl) (hb hby at_94) (fun _ _ => ⟨rfl, rfl, (by decide : 3 + 0 ≤ _), (by decide : 6 + 0 ≤ _)⟩)
  dsimp only [Pt.U, Pt.locs, Pt.cells, Pt.slots] at X565 l565 y565 z565 st565 hQ565
  subst l565 y565 z565
  obtain ⟨rfl, M565, e565⟩ := hQ565
  have N565 := Fr.app N556 M565
  have g566 : Go p e below T565 (mkF m 99 #[iv p0, iv p1, iv p2, iv p3, iv p4, .val r345, .val r469, rv b474, rv b474, rv b542, rv r557] [(.int (2 : Int32))]) A0 := fun t kont => g564 t (st565.trans kont)
  have g567 : Go p e below T565 (mkF m 108 #[iv p0, iv p1, iv p2, iv p3, iv p4, .val r345, .val r469, rv b474, rv b474, rv b542, rv r557] [(.int (0 : Int32)), (.ref r557)]) A0 := by
    intro t kont
    refine g566 t ?_
    refine XS.iconst X565.here hx rfl (hb hby at_99) ?_
    show Steps p.tables e below (T565.setTop (mkF m 100 #[iv p0, iv p1, iv p2, iv p3, iv p4, .val r345, .val r469, rv b474, rv b474, rv b542, rv r557] [(.int (2 : Int32)), (.int (2 : Int32))])) _
    refine XS.icmpYes X565.here hx rfl (pc0 := 100) (pc' := 105) rfl (hb hby at_100) rfl (teq (by decide : (2 : Int32) = (2 : Int32))).1 (by decide) (by decide) ?_
    show Steps p.tables e below (T565.setTop (mkF m 105 #[iv p0, iv p1, iv p2, iv p3, iv p4, .val r345, .val r469, rv b474, rv b474, rv b542, rv r557] [])) _
    refine XS.aload X565.here hx rfl (hb hby at_105) rfl rfl ?_
    show Steps p.tables e below (T565.setTop (mkF m 107 #[iv p0, iv p1, iv p2, iv p3, iv p4, .val r345, .val r469, rv b474, rv b474, rv b542, rv r557] [(.ref r557)])) _
    refine XS.iconst X565.here hx rfl (hb hby at_107) ?_
    show Steps p.tables e below (T565.setTop (mkF m 108 #[iv p0, iv p1, iv p2, iv p3, iv p4, .val r345, .val r469, rv b474, rv b474, rv b542, rv r557] [(.int (0 : Int32)), (.ref r557)])) _
    exact kont
  obtain ⟨cq568, kq568, q568a, q568b, q568c⟩ := isOf hZ e565 y559
  obtain ⟨_, _, ⟨T568, L568, k568, n568⟩, -, X568, ⟨Lc568, hQ568, l568, y568, z568⟩, st568⟩ := X565.interfaceBack hx (xi := (⟨"java/util/List", "get", "(I)Ljava/lang/Object;"⟩ : MethodName)) (y := (⟨"java/util/ImmutableCollections$List12", "get", "(I)Ljava/lang/Object;"⟩ : MethodName)) hown (mvT hZ (hw _ (List.mem_of_getElem? (i := 111) rfl))) (mvT hZ (hw _ (List.mem_of_getElem? (i := 112) rfl))) (mvT hZ (hw _ (List.mem_of_getElem? (i := 113) rfl))) (mvT hZ (hw _ (List.mem_of_getElem? (i := 114) rfl))) (mvT hZ (hw _ (List.mem_of_getElem? (i := 115) rfl))) (mvT hZ (hw _ (List.mem_of_getElem? (i := 116) rfl))) (mvT hZ (hw _ (List.mem_of_getElem? (i := 117) rfl))) (mvT hZ (hw _ (List.mem_of_getElem? (i := 107) rfl))) (by decide) (backOf (W := 0) (rm_get0 l Z a0 hw [] r557 b474 T556.heap n0 O562 y560) hZ (hw _ (List.mem_of_getElem? (i := 118) rfl)) (hw _ (List.mem_of_getElem? (i := 68) rfl)) (by decide) (by decide)) q568a q568b q568c (g := (mkF m 108 #[iv p0, iv p1, iv p2, iv p3, iv p4, .val r345, .val r469, rv b474, rv b474, rv b542, rv r557] [(.int (0 : Int32)), (.ref r557)])) rfl (by rw [hml]; rfl) (Steps.refl _) (argsL := [(.int (0 : Int32))]) (rest := []) (lenOf pd_13 rfl) rfl (by show 2 * 0 + _ ≤ _; exact Nat.le_of_eq rfl) (hb hby at_108) (fun _ _ => ⟨rfl, e565, (by decide : 3 + 0 ≤ _), (by decide : 6 + 0 ≤ _)⟩)
  dsimp only [Pt.U, Pt.locs, Pt.cells, Pt.slots] at X568 l568 y568 z568 st568 hQ568
  subst l568 y568 z568
  obtain ⟨rfl, M568, e568⟩ := hQ568
  have N568 := Fr.app N565 M568
  have g569 : Go p e below T568 (mkF m 113 #[iv p0, iv p1, iv p2, iv p3, iv p4, .val r345, .val r469, rv b474, rv b474, rv b542, rv r557] [(.ref b474)]) A0 := fun t kont => g567 t (st568.trans kont)
  have g570 : Go p e below T568 (mkF m 123 #[iv p0, iv p1, iv p2, iv p3, iv p4, .val r345, .val r469, rv b474, rv b474, rv b542, rv r557] [(.int (1 : Int32)), (.ref r557)]) A0 := by
    intro t kont
    refine g569 t ?_
    refine XS.aload X568.here hx rfl (hb hby at_113) rfl rfl ?_
    show Steps p.tables e below (T568.setTop (mkF m 115 #[iv p0, iv p1, iv p2, iv p3, iv p4, .val r345, .val r469, rv b474, rv b474, rv b542, rv r557] [(.ref b474), (.ref b474)])) _
    refine Jvm.RoadKit.acmp (g := (mkF m 115 #[iv p0, iv p1, iv p2, iv p3, iv p4, .val r345, .val r469, rv b474, rv b474, rv b542, rv r557] [(.ref b474), (.ref b474)])) X568 hx rfl rfl rfl (pc0 := 115) (pc' := 120) (same := true) rfl (hb hby at_115) rfl (decide_eq_true rfl) (by decide) (by decide) ?_
    show Steps p.tables e below (T568.setTop (mkF m 120 #[iv p0, iv p1, iv p2, iv p3, iv p4, .val r345, .val r469, rv b474, rv b474, rv b542, rv r557] [])) _
    refine XS.aload X568.here hx rfl (hb hby at_120) rfl rfl ?_
    show Steps p.tables e below (T568.setTop (mkF m 122 #[iv p0, iv p1, iv p2, iv p3, iv p4, .val r345, .val r469, rv b474, rv b474, rv b542, rv r557] [(.ref r557)])) _
    refine XS.iconst X568.here hx rfl (hb hby at_122) ?_
    show Steps p.tables e below (T568.setTop (mkF m 123 #[iv p0, iv p1, iv p2, iv p3, iv p4, .val r345, .val r469, rv b474, rv b474, rv b542, rv r557] [(.int (1 : Int32)), (.ref r557)])) _
    exact kont
  obtain ⟨cq571, kq571, q571a, q571b, q571c⟩ := isOf hZ e568 y559
  obtain ⟨_, _, ⟨T571, L571, k571, n571⟩, -, X571, ⟨Lc571, hQ571, l571, y571, z571⟩, st571⟩ := X568.interfaceBack hx (xi := (⟨"java/util/List", "get", "(I)Ljava/lang/Object;"⟩ : MethodName)) (y := (⟨"java/util/ImmutableCollections$List12", "get", "(I)Ljava/lang/Object;"⟩ : MethodName)) hown (mvT hZ (hw _ (List.mem_of_getElem? (i := 111) rfl))) (mvT hZ (hw _ (List.mem_of_getElem? (i := 112) rfl))) (mvT hZ (hw _ (List.mem_of_getElem? (i := 113) rfl))) (mvT hZ (hw _ (List.mem_of_getElem? (i := 114) rfl))) (mvT hZ (hw _ (List.mem_of_getElem? (i := 115) rfl))) (mvT hZ (hw _ (List.mem_of_getElem? (i := 116) rfl))) (mvT hZ (hw _ (List.mem_of_getElem? (i := 117) rfl))) (mvT hZ (hw _ (List.mem_of_getElem? (i := 107) rfl))) (by decide) (backOf (W := 0) (rm_get1 l Z a0 hw [] r557 b474 w_EMPTY T556.heap n0 O562 y561 S1_ (Ne.symm (O562.ne ZE3_.lt ge481))) hZ (hw _ (List.mem_of_getElem? (i := 118) rfl)) (hw _ (List.mem_of_getElem? (i := 68) rfl)) (by decide) (by decide)) q571a q571b q571c (g := (mkF m 123 #[iv p0, iv p1, iv p2, iv p3, iv p4, .val r345, .val r469, rv b474, rv b474, rv b542, rv r557] [(.int (1 : Int32)), (.ref r557)])) rfl (by rw [hml]; rfl) (Steps.refl _) (argsL := [(.int (1 : Int32))]) (rest := []) (lenOf pd_13 rfl) rfl (by show 2 * 0 + _ ≤ _; exact Nat.le_of_eq rfl) (hb hby at_123) (fun _ _ => ⟨rfl, e568, (by decide : 3 + 0 ≤ _), (by decide : 6 + 0 ≤ _)⟩)
  dsimp only [Pt.U, Pt.locs, Pt.cells, Pt.slots] at X571 l571 y571 z571 st571 hQ571
  subst l571 y571 z571
  obtain ⟨rfl, M571, e571⟩ := hQ571
  have N571 := Fr.app N568 M571
  have g572 : Go p e below T571 (mkF m 128 #[iv p0, iv p1, iv p2, iv p3, iv p4, .val r345, .val r469, rv b474, rv b474, rv b542, rv r557] [(.ref b474)]) A0 := fun t kont => g570 t (st571.trans kont)
  have g573 : Go p e below T571 (mkF m 137 #[iv p0, iv p1, iv p2, iv p3, iv p4, .val r345, .val r469, rv b474, rv b474, rv b542, rv r557] [(.ref b542)]) A0 := by
    intro t kont
    refine g572 t ?_
    refine XS.aload X571.here hx rfl (hb hby at_128) rfl rfl ?_
    show Steps p.tables e below (T571.setTop (mkF m 130 #[iv p0, iv p1, iv p2, iv p3, iv p4, .val r345, .val r469, rv b474, rv b474, rv b542, rv r557] [(.ref b474), (.ref b474)])) _
    refine Jvm.RoadKit.acmp (g := (mkF m 130 #[iv p0, iv p1, iv p2, iv p3, iv p4, .val r345, .val r469, rv b474, rv b474, rv b542, rv r557] [(.ref b474), (.ref b474)])) X571 hx rfl rfl rfl (pc0 := 130) (pc' := 135) (same := true) rfl (hb hby at_130) rfl (decide_eq_true rfl) (by decide) (by decide) ?_
    show Steps p.tables e below (T571.setTop (mkF m 135 #[iv p0, iv p1, iv p2, iv p3, iv p4, .val r345, .val r469, rv b474, rv b474, rv b542, rv r557] [])) _
    refine XS.aload X571.here hx rfl (hb hby at_135) rfl rfl ?_
    show Steps p.tables e below (T571.setTop (mkF m 137 #[iv p0, iv p1, iv p2, iv p3, iv p4, .val r345, .val r469, rv b474, rv b474, rv b542, rv r557] [(.ref b542)])) _
    exact kont
  have y575 : Exa Z T556.heap b542 "com/example/subsume/subsume/engine/IndividualInequality" := (y550.keep K556)
  have y576 : Fld Z T556.heap b542 "com/example/subsume/subsume/engine/IndividualInequality" "individual" "Lcom/example/subsume/subsume/engine/Individual;" (.ref b474) := (y551.keep K556 nin0)
  obtain ⟨cq574, kq574, q574a, q574b, q574c⟩ := isOf hZ e571 y575
  obtain ⟨_, _, ⟨T574, L574, k574, n574⟩, -, X574, ⟨Lc574, hQ574, l574, y574, z574⟩, st574⟩ := X571.virtualBack hx (y := (⟨"com/example/subsume/subsume/engine/IndividualInequality", "individual", "()Lcom/example/subsume/subsume/engine/Individual;"⟩ : MethodName)) (z := (⟨"com/example/subsume/subsume/engine/IndividualInequality", "individual", "()Lcom/example/subsume/subsume/engine/Individual;"⟩ : MethodName)) hown (mvT hZ (hw _ (List.mem_of_getElem? (i := 119) rfl))) (mvT hZ (hw _ (List.mem_of_getElem? (i := 120) rfl))) (notFace_of_selects (args := #[]) (mvT hZ (hw _ (List.mem_of_getElem? (i := 122) rfl)))) (mvT hZ (hw _ (List.mem_of_getElem? (i := 122) rfl))) (mvT hZ (hw _ (List.mem_of_getElem? (i := 121) rfl))) (by decide) (backOf (W := 0) (rm_rInd l Z a0 hw [] b542 b474 T556.heap n0 O562 y576) hZ (hw _ (List.mem_of_getElem? (i := 123) rfl)) (hw _ (List.mem_of_getElem? (i := 43) rfl)) (by decide) (by decide)) q574a q574c (g := (mkF m 137 #[iv p0, iv p1, iv p2, iv p3, iv p4, .val r345, .val r469, rv b474, rv b474, rv b542, rv r557] [(.ref b542)])) rfl (by rw [hml]; rfl) (Steps.refl _) (argsL := []) (rest := []) (lenOf pd_14 rfl) rfl (by show 2 * 0 + _ ≤ _; exact Nat.le_of_eq rfl) (hb hby at_137) (fun _ _ => ⟨rfl, e571, (by decide : 3 + 0 ≤ _), (by decide : 6 + 0 ≤ _)⟩)
  dsimp only [Pt.U, Pt.locs, Pt.cells, Pt.slots] at X574 l574 y574 z574 st574 hQ574
  subst l574 y574 z574
  obtain ⟨rfl, M574, e574⟩ := hQ574
  have N574 := Fr.app N571 M574
  have g577 : Go p e below T574 (mkF m 140 #[iv p0, iv p1, iv p2, iv p3, iv p4, .val r345, .val r469, rv b474, rv b474, rv b542, rv r557] [(.ref b474)]) A0 := fun t kont => g573 t (st574.trans kont)
  have g578 : Go p e below T574 (mkF m 147 #[iv p0, iv p1, iv p2, iv p3, iv p4, .val r345, .val r469, rv b474, rv b474, rv b542, rv r557] [(.ref b542)]) A0 := by
    intro t kont
    refine g577 t ?_
    refine XS.aload X574.here hx rfl (hb hby at_140) rfl rfl ?_
    show Steps p.tables e below (T574.setTop (mkF m 142 #[iv p0, iv p1, iv p2, iv p3, iv p4, .val r345, .val r469, rv b474, rv b474, rv b542, rv r557] [(.ref b474), (.ref b474)])) _
    refine Jvm.RoadKit.acmp (g := (mkF m 142 #[iv p0, iv p1, iv p2, iv p3, iv p4, .val r345, .val r469, rv b474, rv b474, rv b542, rv r557] [(.ref b474), (.ref b474)])) X574 hx rfl rfl rfl (pc0 := 142) (pc' := 145) (same := true) rfl (hb hby at_142) rfl (decide_eq_true rfl) (by decide) (by decide) ?_
    show Steps p.tables e below (T574.setTop (mkF m 145 #[iv p0, iv p1, iv p2, iv p3, iv p4, .val r345, .val r469, rv b474, rv b474, rv b542, rv r557] [])) _
    refine XS.aload X574.here hx rfl (hb hby at_145) rfl rfl ?_
    show Steps p.tables e below (T574.setTop (mkF m 147 #[iv p0, iv p1, iv p2, iv p3, iv p4, .val r345, .val r469, rv b474, rv b474, rv b542, rv r557] [(.ref b542)])) _
    exact kont
  have y580 : Fld Z T556.heap b542 "com/example/subsume/subsume/engine/IndividualInequality" "other" "Lcom/example/subsume/subsume/engine/Individual;" (.ref b474) := (y552.keep K556 nin0)
  obtain ⟨cq579, kq579, q579a, q579b, q579c⟩ := isOf hZ e574 y575
  obtain ⟨_, _, ⟨T579, L579, k579, n579⟩, -, X579, ⟨Lc579, hQ579, l579, y579, z579⟩, st579⟩ := X574.virtualBack hx (y := (⟨"com/example/subsume/subsume/engine/IndividualInequality", "other", "()Lcom/example/subsume/subsume/engine/Individual;"⟩ : MethodName)) (z := (⟨"com/example/subsume/subsume/engine/IndividualInequality", "other", "()Lcom/example/subsume/subsume/engine/Individual;"⟩ : MethodName)) hown (mvT hZ (hw _ (List.mem_of_getElem? (i := 124) rfl))) (mvT hZ (hw _ (List.mem_of_getElem? (i := 125) rfl))) (notFace_of_selects (args := #[]) (mvT hZ (hw _ (List.mem_of_getElem? (i := 127) rfl)))) (mvT hZ (hw _ (List.mem_of_getElem? (i := 127) rfl))) (mvT hZ (hw _ (List.mem_of_getElem? (i := 126) rfl))) (by decide) (backOf (W := 0) (rm_rOth l Z a0 hw [] b542 b474 T556.heap n0 O562 y580) hZ (hw _ (List.mem_of_getElem? (i := 128) rfl)) (hw _ (List.mem_of_getElem? (i := 43) rfl)) (by decide) (by decide)) q579a q579c (g := (mkF m 147 #[iv p0, iv p1, iv p2, iv p3, iv p4, .val r345, .val r469, rv b474, rv b474, rv b542, rv r557] [(.ref b542)])) rfl (by rw [hml]; rfl) (Steps.refl _) (argsL := []) (rest := []) (lenOf pd_14 rfl) rfl (by show 2 * 0 + _ ≤ _; exact Nat.le_of_eq rfl) (hb hby at_147) (fun _ _ => ⟨rfl, e574, (by decide : 3 + 0 ≤ _), (by decide : 6 + 0 ≤ _)⟩)
  dsimp only [Pt.U, Pt.locs, Pt.cells, Pt.slots] at X579 l579 y579 z579 st579 hQ579
  subst l579 y579 z579
  obtain ⟨rfl, M579, e579⟩ := hQ579
  have N579 := Fr.app N574 M579
  have g581 : Go p e below T579 (mkF m 150 #[iv p0, iv p1, iv p2, iv p3, iv p4, .val r345, .val r469, rv b474, rv b474, rv b542, rv r557] [(.ref b474)]) A0 := fun t kont => g578 t (st579.trans kont)
  have g582 : Go p e below T579 (mkF m 160 #[iv p0, iv p1, iv p2, iv p3, iv p4, .val r345, .val r469, rv b474, rv b474, rv b542, rv r557] [(.int (1 : Int32))]) A0 := by
    intro t kont
    refine g581 t ?_
    refine XS.aload X579.here hx rfl (hb hby at_150) rfl rfl ?_
    show Steps p.tables e below (T579.setTop (mkF m 152 #[iv p0, iv p1, iv p2, iv p3, iv p4, .val r345, .val r469, rv b474, rv b474, rv b542, rv r557] [(.ref b474), (.ref b474)])) _
    refine Jvm.RoadKit.acmp (g := (mkF m 152 #[iv p0, iv p1, iv p2, iv p3, iv p4, .val r345, .val r469, rv b474, rv b474, rv b542, rv r557] [(.ref b474), (.ref b474)])) X579 hx rfl rfl rfl (pc0 := 152) (pc' := 155) (same := true) rfl (hb hby at_152) rfl (decide_eq_true rfl) (by decide) (by decide) ?_
    show Steps p.tables e below (T579.setTop (mkF m 155 #[iv p0, iv p1, iv p2, iv p3, iv p4, .val r345, .val r469, rv b474, rv b474, rv b542, rv r557] [])) _
    refine XS.iconst X579.here hx rfl (hb hby at_155) ?_
    show Steps p.tables e below (T579.setTop (mkF m 156 #[iv p0, iv p1, iv p2, iv p3, iv p4, .val r345, .val r469, rv b474, rv b474, rv b542, rv r557] [(.int (1 : Int32))])) _
    refine XS.goto X579.here hx rfl (pc0 := 156) (pc' := 160) rfl (hb hby at_156) (by decide) (by decide) ?_
    show Steps p.tables e below (T579.setTop (mkF m 160 #[iv p0, iv p1, iv p2, iv p3, iv p4, .val r345, .val r469, rv b474, rv b474, rv b542, rv r557] [(.int (1 : Int32))])) _
    exact kont
  obtain ⟨fs, hr, hrun, hended, hW, hsame⟩ := X579.leave (v := some (.int (1 : Int32))) (fun h => by rw [Bd.returns] at h; cases h)
  refine ⟨_, _, g582 _ (retN X579 hx (t := .boolean) Bd.returns (by simp) (hb hby at_160) hr), hrun, hended, _, _, rfl, ?_, ⟨_, rfl⟩, hW, hsame.mono (by decide) (by decide)⟩
  show Q_law Z p0 p1 p2 p3 p4 i_COMPACT_STRINGS w_EMPTY h0 n0 _ T579.heap _
  rw [e579]
  exact ⟨rfl, N579⟩
set_option maxRecDepth 65536 in
set_option maxHeartbeats 40000000 in
theorem comes_1 {Post : Tables → Env → Array Value → State → Outcome → State → Prop} (hpost : ∀ tb e args s v u, (limb_1_1.after args s (.returned v) u = true ∧ limb_1_2.after args s (.returned v) u = true ∧ True) → FrameEnd s (.returned v) u (Jvm.fieldLocs frame_1_writes args s ++ Jvm.arrayLocs frame_1_arrays args s ++ Jvm.staticLocs frame_1_statics s) 24 128 → Post tb e args s (.returned v) u) :
    ArmFor flags0 classFile x code maxLocals ret World_1 tables_1 room_1 Calls_1 rest_1 Pre_1 Post := by
  intro l hfl _ _ p e ha hc hk s m args below hf hA hF happ hP
  obtain ⟨hcalls, hrest, hpre⟩ := hP
  obtain ⟨-, -, -, hnamed, -, -, -, hat⟩ := (Spec.applies_iff hf).mp happ
  obtain ⟨hg, hn⟩ := and_e (Cond.before_iff.mp (show (Jvm.Cond.and given_1 narrow_1).before args s = true from hpre))
  obtain ⟨hcount, hg⟩ := and_e hg
  obtain ⟨ha0, hg⟩ := and_e hg
  obtain ⟨ha1, hg⟩ := and_e hg
  obtain ⟨ha2, hg⟩ := and_e hg
  obtain ⟨ha3, hg⟩ := and_e hg
  have ha4 := hg
  obtain ⟨w0, w1, w2, w3, w4, rfl⟩ : ∃ w0 w1 w2 w3 w4 : Value, args = #[w0, w1, w2, w3, w4] := by
    have hs : args.size = 5 := by simpa [Cond.value, given_1] using hcount
    obtain ⟨L⟩ := args
    match L, hs with
    | [w0, w1, w2, w3, w4], _ => exact ⟨w0, w1, w2, w3, w4, rfl⟩
  have hw := fun d (hd : d ∈ tables_1) => atoms_spec (ws := Jvm.Cond.code x code maxLocals ret :: tables_1) hat d (List.mem_cons_of_mem _ hd)
  obtain ⟨hsets, hown0⟩ := atoms_of _ (rest_1_c_eq ▸ (show rest_1_c.before _ s = true from hrest))
  have hfit : Fit s := fun {y c} hc i hi => by
    obtain ⟨ha, rfl⟩ := Array.getElem?_eq_some_iff.mp hc
    have q := List.all_eq_true.mp ((Array.all_eq_true_iff_forall_mem.mp hF) _ (Array.getElem_mem ha)) i (List.mem_range.mpr hi)
    simpa [Array.getElem?_eq_getElem hi] using q
  obtain ⟨p0, ea0⟩ := is_v ha0
  obtain rfl : w0 = (.int p0) := Option.some.inj ea0
  obtain ⟨p1, ea1⟩ := is_v ha1
  obtain rfl : w1 = (.int p1) := Option.some.inj ea1
  obtain ⟨p2, ea2⟩ := is_v ha2
  obtain rfl : w2 = (.int p2) := Option.some.inj ea2
  obtain ⟨p3, ea3⟩ := is_v ha3
  obtain rfl : w3 = (.int p3) := Option.some.inj ea3
  obtain ⟨p4, ea4⟩ := is_v ha4
  obtain rfl : w4 = (.int p4) := Option.some.inj ea4
  obtain ⟨i_COMPACT_STRINGS, ev_COMPACT_STRINGS⟩ := is_v (Cond.before_iff.mp (hsets _ (List.mem_of_getElem? (i := 1) rfl)))
  obtain ⟨v_SIOOBE_FORMATTER, ev_SIOOBE_FORMATTER, r_SIOOBE_FORMATTER⟩ := isR_v (Cond.before_iff.mp (hsets _ (List.mem_of_getElem? (i := 8) rfl)))
  obtain ⟨w_EMPTY, ev_EMPTY⟩ := exa_v (Cond.before_iff.mp (hsets _ (List.mem_of_getElem? (i := 11) rfl)))
  have E_EMPTY : Exa s s.heap w_EMPTY "java/lang/Object" := Exa.start ev_EMPTY (Cond.before_iff.mp (hsets _ (List.mem_of_getElem? (i := 11) rfl)))
  have ev_ImmutableCollections__assertionsDisabled := own_eqint (Cond.before_iff.mp (hsets _ (List.mem_of_getElem? (i := 14) rfl)))
  obtain ⟨w_EMPTY_LIST, ev_EMPTY_LIST⟩ := exa_v (Cond.before_iff.mp (hsets _ (List.mem_of_getElem? (i := 17) rfl)))
  have E_EMPTY_LIST : Exa s s.heap w_EMPTY_LIST "java/util/ImmutableCollections$ListN" := Exa.start ev_EMPTY_LIST (Cond.before_iff.mp (hsets _ (List.mem_of_getElem? (i := 17) rfl)))
  have S_COMPACT_STRINGS : Sta s s.heap "java/lang/String" "COMPACT_STRINGS" "Z" (.int i_COMPACT_STRINGS) := Sta.start ev_COMPACT_STRINGS (Or.inl (hsets _ (List.mem_of_getElem? (i := 0) rfl)))
  have S_SIOOBE_FORMATTER : Sta s s.heap "jdk/internal/util/Preconditions" "SIOOBE_FORMATTER" "Ljava/util/function/BiFunction;" v_SIOOBE_FORMATTER := Sta.start ev_SIOOBE_FORMATTER (Or.inl (hsets _ (List.mem_of_getElem? (i := 7) rfl)))
  have S_EMPTY : Sta s s.heap "java/util/ImmutableCollections" "EMPTY" "Ljava/lang/Object;" (.ref w_EMPTY) := Sta.start ev_EMPTY (Or.inl (hsets _ (List.mem_of_getElem? (i := 10) rfl)))
  have S_ImmutableCollections__assertionsDisabled : Sta s s.heap "java/util/ImmutableCollections" "$assertionsDisabled" "Z" (.int (1 : Int32)) := Sta.start ev_ImmutableCollections__assertionsDisabled (Or.inl (hsets _ (List.mem_of_getElem? (i := 13) rfl)))
  have S_EMPTY_LIST : Sta s s.heap "java/util/ImmutableCollections" "EMPTY_LIST" "Ljava/util/ImmutableCollections$ListN;" (.ref w_EMPTY_LIST) := Sta.start ev_EMPTY_LIST (Or.inl (hsets _ (List.mem_of_getElem? (i := 16) rfl)))
  have c_COMPACT_STRINGS : ¬ (i_COMPACT_STRINGS = (0 : Int32)) := gotF (Cond.eq_ints ev_COMPACT_STRINGS (Term.int_eval (0))) (not_v (Cond.before_iff.mp (hsets _ (List.mem_of_getElem? (i := 2) rfl))))
  obtain ⟨n, o, h1, h2, h3, _, L, rfl, ⟨rfl, N⟩, hq⟩ := rm_law l s _ hw tables_1 p0 p1 p2 p3 p4 i_COMPACT_STRINGS w_EMPTY s.heap s.heap.size (Old.start s) S_COMPACT_STRINGS S_EMPTY c_COMPACT_STRINGS E_EMPTY p e ha hc hk s m _ below hf ((Spec.applies_iff_loose hf).mp happ).1 ⟨rfl, State.Warmed39.refl s, rfl⟩ trivial
  refine ⟨n, _, h1, h2, h3, hpost _ _ _ _ _ _ ⟨Cond.after_iff.mpr rfl, Cond.after_iff.mpr (eq_i res_at (Term.int_eval (1)) rfl), trivial⟩ ⟨hq.1, hq.2.1, (hq.2.2.sift fun y hy => Or.inr (N y hy)).mono (by decide) (by decide)⟩⟩
theorem main_1_1 : Claimed_1_1 := comes_1 fun _ _ _ _ _ _ h hF => ⟨h.1, hF⟩
theorem main_1_2 : Claimed_1_2 := comes_1 fun _ _ _ _ _ _ h hF => ⟨h.2.1, hF⟩
end Jvm.Pilot.@@N@@
namespace Jvm.Pilot.@@N@@
open Jvm Jvm.ClassFile Sem Op Lib Jvm.Free Jvm.Stand Jvm.Pilot.@@N@@.Jvm.D
/-! MADE BY PROGRAM (witnessworld.py) out of the Statement's table words and the real class files: 33 classes; the members and pool entries that the words name. The judged class is class 1, her method 2. -/
namespace start1
open Jvm.ClassFile
def u (s : String) : CpInfo := .utf8 (stringToUtf16 s)
/-- a pool by its gaps: so many unusable entries, then the entry; so many at the end -/
def gap : Nat → List CpInfo → List CpInfo
  | 0, r => r
  | n + 1, r => .unusable :: gap n r
def poolList (es : List (Nat × CpInfo)) (last : Nat) : List CpInfo := es.foldr (fun e r => gap e.1 (e.2 :: r)) (gap last [])
def pool (es : List (Nat × CpInfo)) (last : Nat) : Array CpInfo := ⟨poolList es last⟩
def fileOf (pool : Array CpInfo) (this : Nat) (attrs : Array Attribute := #[]) (ms : Array MethodInfo := #[]) (fl : Nat := 33) (sup : Nat := 0) (ifs : Array Nat := #[]) (fds : Array FieldInfo := #[]) : ClassFile where
  minorVersion := 0
  majorVersion := 65
  constantPool := pool
  accessFlags := fl
  thisClass := this
  superClass := sup
  interfaces := ifs
  fields := fds
  methods := ms
  attributes := attrs
def plain (name : String) (sup : Option ClassId) : Class where
  name := name
  kind := .ordinary
  loader := none
  accessFlags := 33
  super := sup
  interfaces := #[]
  cf := none
  fields := #[]
  methods := #[]
  instanceTypes := #[]
  staticTypes := #[]
  resolved := #[]
  callSites := []
  init := .initialized
  statics := none
  mirror := none

def pool0 : Array CpInfo := pool [(5, u "<init>"), (0, u "()V"), (1, .class_ 10), (1, u "java/lang/Object")] 113

def k0c0 : Code := { maxStack := 0, maxLocals := 1, code := object_method_1_code, exceptionTable := #[], attributes := #[] }
def k0m0 : Method := { name := "<init>", desc := "()V", sig := { parameters := [], returnType := none }, accessFlags := 1, code := some k0c0 }
/-- java/lang/Object -/
def k0 : Class := { plain "java/lang/Object" none with
  accessFlags := 33
  interfaces := #[]
  cf := some (fileOf pool0 8 #[] #[{ accessFlags := 1, nameIndex := 5, descriptorIndex := 6, attributes := #[] }] 33 0 #[] #[])
  fields := #[]
  methods := #[k0m0]
  instanceTypes := #[]
  staticTypes := #[]
  resolved := Array.replicate 124 none
  statics := none }

def pool1 : Array CpInfo := pool [(2, .class_ 4), (1, u "java/lang/Object"), (0, u "<init>"), (0, u "()V"), (0, .methodref 8 9), (0, .class_ 10), (0, .nameAndType 11 12), (0, u "java/lang/String"), (0, u "valueOf"), (0, u "(C)Ljava/lang/String;"), (0, .methodref 14 15), (0, .class_ 16), (0, .nameAndType 17 18), (0, u "com/example/subsume/subsume/engine/IndividualInequalityIndividualsPinLaw"), (0, u "nameOf"), (0, u "(IZ)Ljava/lang/String;"), (0, .class_ 20), (0, u "com/example/subsume/subsume/engine/Individual"), (0, .methodref 19 22), (0, .nameAndType 5 23), (0, u "(Ljava/lang/String;I)V"), (0, .class_ 25), (0, u "com/example/subsume/subsume/engine/IndividualInequality"), (0, .methodref 24 27), (0, .nameAndType 5 28), (0, u "(Lcom/example/subsume/subsume/engine/Individual;Lcom/example/subsume/subsume/engine/Individual;)V"), (0, .methodref 24 30), (0, .nameAndType 31 32), (0, u "individuals"), (0, u "()Ljava/util/List;"), (0, .interfaceMethodref 34 35), (0, .class_ 36), (0, .nameAndType 37 38), (0, u "java/util/List"), (0, u "size"), (0, u "()I"), (0, .interfaceMethodref 34 40), (0, .nameAndType 41 42), (0, u "get"), (0, u "(I)Ljava/lang/Object;"), (0, .methodref 24 44), (0, .nameAndType 45 46), (0, u "individual"), (0, u "()Lcom/example/subsume/subsume/engine/Individual;"), (0, .methodref 24 48), (0, .nameAndType 49 46), (0, u "other"), (3, u "law"), (0, u "(IIIII)Z")] 2

def k1m0 : Method := { name := "<init>", desc := "()V", sig := { parameters := [], returnType := none }, accessFlags := 1, code := none }
def k1c1 : Code := { maxStack := 2, maxLocals := 2, code := method_2_code, exceptionTable := #[], attributes := #[] }
def k1m1 : Method := { name := "nameOf", desc := "(IZ)Ljava/lang/String;", sig := { parameters := [.int, .boolean], returnType := some (.object "java/lang/String") }, accessFlags := 10, code := some k1c1 }
def k1c2 : Code := { maxStack := 4, maxLocals := 11, code := code, exceptionTable := #[], attributes := #[] }
def k1m2 : Method := { name := "law", desc := "(IIIII)Z", sig := { parameters := [.int, .int, .int, .int, .int], returnType := some .boolean }, accessFlags := 9, code := some k1c2 }
/-- com/example/subsume/subsume/engine/IndividualInequalityIndividualsPinLaw -/
def k1 : Class := { plain "com/example/subsume/subsume/engine/IndividualInequalityIndividualsPinLaw" (some 0) with
  accessFlags := 49
  interfaces := #[]
  cf := some (fileOf pool1 14 #[] #[{ accessFlags := 1, nameIndex := 5, descriptorIndex := 6, attributes := #[] }, { accessFlags := 10, nameIndex := 17, descriptorIndex := 18, attributes := #[] }, { accessFlags := 9, nameIndex := 53, descriptorIndex := 54, attributes := #[] }] 49 2 #[] #[])
  fields := #[]
  methods := #[k1m0, k1m1, k1m2]
  instanceTypes := #[]
  staticTypes := #[]
  resolved := Array.replicate 57 none
  statics := none }

def pool2 : Array CpInfo := pool [(1, .class_ 2), (0, u "java/io/Serializable"), (0, .class_ 4), (0, u "java/lang/Object")] 2

/-- java/io/Serializable -/
def k2 : Class := { plain "java/io/Serializable" (some 0) with
  accessFlags := 1537
  interfaces := #[]
  cf := some (fileOf pool2 1 #[] #[] 1537 3 #[] #[])
  fields := #[]
  methods := #[]
  instanceTypes := #[]
  staticTypes := #[]
  resolved := Array.replicate 7 none
  statics := none }

def pool3 : Array CpInfo := pool [(1, .class_ 2), (0, u "java/lang/Comparable"), (0, .class_ 4), (0, u "java/lang/Object")] 7

/-- java/lang/Comparable -/
def k3 : Class := { plain "java/lang/Comparable" (some 0) with
  accessFlags := 1537
  interfaces := #[]
  cf := some (fileOf pool3 1 #[] #[] 1537 3 #[] #[])
  fields := #[]
  methods := #[]
  instanceTypes := #[]
  staticTypes := #[]
  resolved := Array.replicate 12 none
  statics := none }

def pool4 : Array CpInfo := pool [(2, .class_ 4), (1, u "java/lang/CharSequence"), (42, .class_ 48), (0, u "java/lang/CharSequence$1CodePointIterator"), (10, .class_ 60), (0, u "java/lang/CharSequence$1CharIterator"), (5, .class_ 67), (0, u "java/lang/Object")] 63

/-- java/lang/CharSequence -/
def k4 : Class := { plain "java/lang/CharSequence" (some 0) with
  accessFlags := 1537
  interfaces := #[]
  cf := some (fileOf pool4 2 #[.nestMembers #[47, 59]] #[] 1537 66 #[] #[])
  fields := #[]
  methods := #[]
  instanceTypes := #[]
  staticTypes := #[]
  resolved := Array.replicate 131 none
  statics := none }

def pool5 : Array CpInfo := pool [(1, .class_ 2), (0, u "java/lang/constant/Constable"), (0, .class_ 4), (0, u "java/lang/Object")] 6

/-- java/lang/constant/Constable -/
def k5 : Class := { plain "java/lang/constant/Constable" (some 0) with
  accessFlags := 1537
  interfaces := #[]
  cf := some (fileOf pool5 1 #[] #[] 1537 3 #[] #[])
  fields := #[]
  methods := #[]
  instanceTypes := #[]
  staticTypes := #[]
  resolved := Array.replicate 11 none
  statics := none }

def pool6 : Array CpInfo := pool [(1, .class_ 2), (0, u "java/lang/constant/ConstantDesc"), (0, .class_ 4), (0, u "java/lang/Object")] 32

/-- java/lang/constant/ConstantDesc -/
def k6 : Class := { plain "java/lang/constant/ConstantDesc" (some 0) with
  accessFlags := 1537
  interfaces := #[]
  cf := some (fileOf pool6 1 #[] #[] 1537 3 #[] #[])
  fields := #[]
  methods := #[]
  instanceTypes := #[]
  staticTypes := #[]
  resolved := Array.replicate 37 none
  statics := none }

def pool7 : Array CpInfo := pool [(1, .methodref 2 3), (0, .class_ 4), (0, .nameAndType 5 6), (0, u "java/lang/Object"), (0, u "<init>"), (0, u "()V"), (2, .fieldref 10 11), (0, .class_ 12), (0, .nameAndType 13 14), (0, u "java/lang/String"), (0, u "value"), (0, u "[B"), (0, .fieldref 10 16), (0, .nameAndType 17 18), (0, u "coder"), (0, u "B"), (2, u "hash"), (0, u "I"), (2, u "hashIsZero"), (0, u "Z"), (11, .fieldref 10 39), (0, .nameAndType 40 26), (0, u "COMPACT_STRINGS"), (12, u "toBytes"), (53, .class_ 109), (1, u "java/lang/StringLatin1"), (99, .methodref 10 210), (0, .nameAndType 5 211), (0, u "([BB)V"), (157, u "(C)Z"), (205, .class_ 576), (0, u "java/lang/CharSequence"), (22, u "CASE_INSENSITIVE_ORDER"), (0, u "Ljava/util/Comparator;"), (181, u "valueOf"), (0, u "(C)Ljava/lang/String;"), (231, .methodref 107 1016), (0, .nameAndType 1017 369), (0, u "canEncode"), (0, .methodref 107 1019), (0, .nameAndType 53 1020), (0, u "(C)[B"), (80, u "serialPersistentFields"), (0, u "[Ljava/io/ObjectStreamField;"), (0, .class_ 1104), (0, u "java/lang/String$CaseInsensitiveComparator"), (1, .class_ 1107), (0, u "java/io/Serializable"), (0, .class_ 1109), (0, u "java/lang/Comparable"), (0, .class_ 1111), (0, u "java/lang/constant/Constable"), (0, .class_ 1113), (0, u "java/lang/constant/ConstantDesc"), (2, u "serialVersionUID"), (0, u "J"), (3, u "REPL"), (0, u "C"), (2, u "LATIN1"), (1, u "UTF16")] 323

def k7m0 : Method := { name := "<init>", desc := "()V", sig := { parameters := [], returnType := none }, accessFlags := 1, code := none }
def k7c1 : Code := { maxStack := 4, maxLocals := 1, code := jdk_42_method_139_code, exceptionTable := #[], attributes := #[] }
def k7m1 : Method := { name := "valueOf", desc := "(C)Ljava/lang/String;", sig := { parameters := [.char], returnType := some (.object "java/lang/String") }, accessFlags := 9, code := some k7c1 }
def k7c2 : Code := { maxStack := 2, maxLocals := 3, code := jdk_42_method_151_code, exceptionTable := #[], attributes := #[] }
def k7m2 : Method := { name := "<init>", desc := "([BB)V", sig := { parameters := [(.array .byte), .byte], returnType := none }, accessFlags := 0, code := some k7c2 }
/-- java/lang/String -/
def k7 : Class := { plain "java/lang/String" (some 0) with
  accessFlags := 49
  interfaces := #[2, 3, 4, 5, 6]
  cf := some (fileOf pool7 10 #[.nestMembers #[1103]] #[{ accessFlags := 1, nameIndex := 5, descriptorIndex := 6, attributes := #[] }, { accessFlags := 9, nameIndex := 782, descriptorIndex := 783, attributes := #[] }, { accessFlags := 0, nameIndex := 5, descriptorIndex := 211, attributes := #[] }] 49 2 #[1106, 1108, 575, 1110, 1112] #[{ accessFlags := 18, nameIndex := 13, descriptorIndex := 14, attributes := #[] }, { accessFlags := 18, nameIndex := 17, descriptorIndex := 18, attributes := #[] }, { accessFlags := 2, nameIndex := 21, descriptorIndex := 22, attributes := #[] }, { accessFlags := 2, nameIndex := 25, descriptorIndex := 26, attributes := #[] }, { accessFlags := 26, nameIndex := 1116, descriptorIndex := 1117, attributes := #[] }, { accessFlags := 24, nameIndex := 40, descriptorIndex := 26, attributes := #[] }, { accessFlags := 26, nameIndex := 1101, descriptorIndex := 1102, attributes := #[] }, { accessFlags := 26, nameIndex := 1121, descriptorIndex := 1122, attributes := #[] }, { accessFlags := 25, nameIndex := 599, descriptorIndex := 600, attributes := #[] }, { accessFlags := 24, nameIndex := 1125, descriptorIndex := 18, attributes := #[] }, { accessFlags := 24, nameIndex := 1127, descriptorIndex := 18, attributes := #[] }])
  fields := #[{ name := "value", type := (.array .byte), accessFlags := 18, slot := 0, constantValue := 0 }, { name := "coder", type := .byte, accessFlags := 18, slot := 1, constantValue := 0 }, { name := "hash", type := .int, accessFlags := 2, slot := 2, constantValue := 0 }, { name := "hashIsZero", type := .boolean, accessFlags := 2, slot := 3, constantValue := 0 }, { name := "serialVersionUID", type := .long, accessFlags := 26, slot := 0, constantValue := 0 }, { name := "COMPACT_STRINGS", type := .boolean, accessFlags := 24, slot := 1, constantValue := 0 }, { name := "serialPersistentFields", type := (.array (.object "java/io/ObjectStreamField")), accessFlags := 26, slot := 2, constantValue := 0 }, { name := "REPL", type := .char, accessFlags := 26, slot := 3, constantValue := 0 }, { name := "CASE_INSENSITIVE_ORDER", type := (.object "java/util/Comparator"), accessFlags := 25, slot := 4, constantValue := 0 }, { name := "LATIN1", type := .byte, accessFlags := 24, slot := 5, constantValue := 0 }, { name := "UTF16", type := .byte, accessFlags := 24, slot := 6, constantValue := 0 }]
  methods := #[k7m0, k7m1, k7m2]
  instanceTypes := #[(.array .byte), .byte, .int, .boolean]
  staticTypes := #[.long, .boolean, (.array (.object "java/io/ObjectStreamField")), .char, (.object "java/util/Comparator"), .byte, .byte]
  resolved := Array.replicate 1451 none
  statics := some 0 }

def pool8 : Array CpInfo := pool [(4, .class_ 6), (1, u "java/lang/Object"), (0, u "<init>"), (0, u "()V"), (5, .class_ 16), (1, u "java/lang/StringLatin1"), (73, u "canEncode"), (14, u "(C)Z"), (15, u "$assertionsDisabled"), (0, u "Z"), (98, .class_ 223), (1, u "java/lang/StringLatin1$LinesSpliterator"), (156, u "toBytes"), (1, u "(C)[B"), (7, .class_ 391), (0, u "java/lang/StringLatin1$CharsSpliterator")] 3

def k8m0 : Method := { name := "<init>", desc := "()V", sig := { parameters := [], returnType := none }, accessFlags := 0, code := none }
def k8c1 : Code := { maxStack := 2, maxLocals := 1, code := jdk_43_method_3_code, exceptionTable := #[], attributes := #[] }
def k8m1 : Method := { name := "canEncode", desc := "(C)Z", sig := { parameters := [.char], returnType := some .boolean }, accessFlags := 9, code := some k8c1 }
def k8c2 : Code := { maxStack := 4, maxLocals := 1, code := jdk_43_method_46_code, exceptionTable := #[], attributes := #[] }
def k8m2 : Method := { name := "toBytes", desc := "(C)[B", sig := { parameters := [.char], returnType := some (.array .byte) }, accessFlags := 9, code := some k8c2 }
/-- java/lang/StringLatin1 -/
def k8 : Class := { plain "java/lang/StringLatin1" (some 0) with
  accessFlags := 48
  interfaces := #[]
  cf := some (fileOf pool8 14 #[.nestMembers #[390, 221]] #[{ accessFlags := 0, nameIndex := 7, descriptorIndex := 8, attributes := #[] }, { accessFlags := 9, nameIndex := 90, descriptorIndex := 105, attributes := #[] }, { accessFlags := 9, nameIndex := 380, descriptorIndex := 382, attributes := #[] }] 48 4 #[] #[{ accessFlags := 4120, nameIndex := 121, descriptorIndex := 122, attributes := #[] }])
  fields := #[{ name := "$assertionsDisabled", type := .boolean, accessFlags := 4120, slot := 0, constantValue := 0 }]
  methods := #[k8m0, k8m1, k8m2]
  instanceTypes := #[]
  staticTypes := #[.boolean]
  resolved := Array.replicate 395 none
  statics := none }

def pool9 : Array CpInfo := pool [(1, .methodref 2 3), (0, .class_ 4), (0, .nameAndType 5 6), (0, u "java/lang/Object"), (0, u "<init>"), (0, u "()V"), (0, .fieldref 8 9), (0, .class_ 10), (0, .nameAndType 11 12), (0, u "com/example/subsume/subsume/engine/Individual"), (0, u "name"), (0, u "Ljava/lang/String;"), (0, .fieldref 8 14), (0, .nameAndType 15 16), (0, u "id"), (0, u "I"), (7, u "(Ljava/lang/String;I)V")] 32

def k9c0 : Code := { maxStack := 2, maxLocals := 3, code := prog_13_method_1_code, exceptionTable := #[], attributes := #[] }
def k9m0 : Method := { name := "<init>", desc := "(Ljava/lang/String;I)V", sig := { parameters := [(.object "java/lang/String"), .int], returnType := none }, accessFlags := 0, code := some k9c0 }
/-- com/example/subsume/subsume/engine/Individual -/
def k9 : Class := { plain "com/example/subsume/subsume/engine/Individual" (some 0) with
  accessFlags := 49
  interfaces := #[]
  cf := some (fileOf pool9 8 #[] #[{ accessFlags := 0, nameIndex := 5, descriptorIndex := 24, attributes := #[] }] 49 2 #[] #[{ accessFlags := 18, nameIndex := 11, descriptorIndex := 12, attributes := #[] }, { accessFlags := 18, nameIndex := 15, descriptorIndex := 16, attributes := #[] }])
  fields := #[{ name := "name", type := (.object "java/lang/String"), accessFlags := 18, slot := 0, constantValue := 0 }, { name := "id", type := .int, accessFlags := 18, slot := 1, constantValue := 0 }]
  methods := #[k9m0]
  instanceTypes := #[(.object "java/lang/String"), .int]
  staticTypes := #[]
  resolved := Array.replicate 57 none
  statics := none }

def pool10 : Array CpInfo := pool [(1, .methodref 2 3), (0, .class_ 4), (0, .nameAndType 5 6), (0, u "java/lang/Object"), (0, u "<init>"), (0, u "()V"), (0, .class_ 8), (0, u "java/lang/Record")] 13

def k10c0 : Code := { maxStack := 1, maxLocals := 1, code := jdk_30_method_1_code, exceptionTable := #[], attributes := #[] }
def k10m0 : Method := { name := "<init>", desc := "()V", sig := { parameters := [], returnType := none }, accessFlags := 4, code := some k10c0 }
/-- java/lang/Record -/
def k10 : Class := { plain "java/lang/Record" (some 0) with
  accessFlags := 1057
  interfaces := #[]
  cf := some (fileOf pool10 7 #[] #[{ accessFlags := 4, nameIndex := 5, descriptorIndex := 6, attributes := #[] }] 1057 2 #[] #[])
  fields := #[]
  methods := #[k10m0]
  instanceTypes := #[]
  staticTypes := #[]
  resolved := Array.replicate 22 none
  statics := none }

def pool11 : Array CpInfo := pool [(1, .class_ 2), (0, u "com/example/subsume/subsume/engine/Axiom"), (0, .class_ 4), (0, u "java/lang/Object")] 11

/-- com/example/subsume/subsume/engine/Axiom -/
def k11 : Class := { plain "com/example/subsume/subsume/engine/Axiom" (some 0) with
  accessFlags := 1537
  interfaces := #[]
  cf := some (fileOf pool11 1 #[] #[] 1537 3 #[] #[])
  fields := #[]
  methods := #[]
  instanceTypes := #[]
  staticTypes := #[]
  resolved := Array.replicate 16 none
  statics := none }

def pool12 : Array CpInfo := pool [(1, .class_ 2), (0, u "com/example/subsume/subsume/engine/Assertion"), (0, .class_ 4), (0, u "java/lang/Object"), (0, .class_ 6), (0, u "com/example/subsume/subsume/engine/Axiom")] 19

/-- com/example/subsume/subsume/engine/Assertion -/
def k12 : Class := { plain "com/example/subsume/subsume/engine/Assertion" (some 0) with
  accessFlags := 1537
  interfaces := #[11]
  cf := some (fileOf pool12 1 #[] #[] 1537 3 #[5] #[])
  fields := #[]
  methods := #[]
  instanceTypes := #[]
  staticTypes := #[]
  resolved := Array.replicate 26 none
  statics := none }

def pool13 : Array CpInfo := pool [(1, .methodref 2 3), (0, .class_ 4), (0, .nameAndType 5 6), (0, u "java/lang/Record"), (0, u "<init>"), (0, u "()V"), (0, .fieldref 8 9), (0, .class_ 10), (0, .nameAndType 11 12), (0, u "com/example/subsume/subsume/engine/IndividualInequality"), (0, u "individual"), (0, u "Lcom/example/subsume/subsume/engine/Individual;"), (0, .fieldref 8 14), (0, .nameAndType 15 12), (0, u "other"), (0, .interfaceMethodref 17 18), (0, .class_ 19), (0, .nameAndType 20 21), (0, u "java/util/List"), (0, u "of"), (0, u "(Ljava/lang/Object;Ljava/lang/Object;)Ljava/util/List;"), (4, u "(Lcom/example/subsume/subsume/engine/Individual;Lcom/example/subsume/subsume/engine/Individual;)V"), (16, .class_ 44), (0, u "com/example/subsume/subsume/engine/Assertion"), (3, u "individuals"), (0, u "()Ljava/util/List;"), (5, u "()Lcom/example/subsume/subsume/engine/Individual;")] 22

def k13c0 : Code := { maxStack := 2, maxLocals := 3, code := prog_15_method_1_code, exceptionTable := #[], attributes := #[] }
def k13m0 : Method := { name := "<init>", desc := "(Lcom/example/subsume/subsume/engine/Individual;Lcom/example/subsume/subsume/engine/Individual;)V", sig := { parameters := [(.object "com/example/subsume/subsume/engine/Individual"), (.object "com/example/subsume/subsume/engine/Individual")], returnType := none }, accessFlags := 1, code := some k13c0 }
def k13c1 : Code := { maxStack := 2, maxLocals := 1, code := prog_15_method_2_code, exceptionTable := #[], attributes := #[] }
def k13m1 : Method := { name := "individuals", desc := "()Ljava/util/List;", sig := { parameters := [], returnType := some (.object "java/util/List") }, accessFlags := 1, code := some k13c1 }
def k13c2 : Code := { maxStack := 1, maxLocals := 1, code := prog_15_method_7_code, exceptionTable := #[], attributes := #[] }
def k13m2 : Method := { name := "individual", desc := "()Lcom/example/subsume/subsume/engine/Individual;", sig := { parameters := [], returnType := some (.object "com/example/subsume/subsume/engine/Individual") }, accessFlags := 1, code := some k13c2 }
def k13c3 : Code := { maxStack := 1, maxLocals := 1, code := prog_15_method_8_code, exceptionTable := #[], attributes := #[] }
def k13m3 : Method := { name := "other", desc := "()Lcom/example/subsume/subsume/engine/Individual;", sig := { parameters := [], returnType := some (.object "com/example/subsume/subsume/engine/Individual") }, accessFlags := 1, code := some k13c3 }
/-- com/example/subsume/subsume/engine/IndividualInequality -/
def k13 : Class := { plain "com/example/subsume/subsume/engine/IndividualInequality" (some 10) with
  accessFlags := 49
  interfaces := #[12]
  cf := some (fileOf pool13 8 #[] #[{ accessFlags := 1, nameIndex := 5, descriptorIndex := 26, attributes := #[] }, { accessFlags := 1, nameIndex := 48, descriptorIndex := 49, attributes := #[] }, { accessFlags := 1, nameIndex := 11, descriptorIndex := 55, attributes := #[] }, { accessFlags := 1, nameIndex := 15, descriptorIndex := 55, attributes := #[] }] 49 2 #[43] #[{ accessFlags := 18, nameIndex := 11, descriptorIndex := 12, attributes := #[] }, { accessFlags := 18, nameIndex := 15, descriptorIndex := 12, attributes := #[] }])
  fields := #[{ name := "individual", type := (.object "com/example/subsume/subsume/engine/Individual"), accessFlags := 18, slot := 0, constantValue := 0 }, { name := "other", type := (.object "com/example/subsume/subsume/engine/Individual"), accessFlags := 18, slot := 1, constantValue := 0 }]
  methods := #[k13m0, k13m1, k13m2, k13m3]
  instanceTypes := #[(.object "com/example/subsume/subsume/engine/Individual"), (.object "com/example/subsume/subsume/engine/Individual")]
  staticTypes := #[]
  resolved := Array.replicate 78 none
  statics := none }

def pool14 : Array CpInfo := pool [(8, .class_ 10), (1, u "java/lang/Iterable"), (24, .class_ 36), (0, u "java/lang/Object")] 25

/-- java/lang/Iterable -/
def k14 : Class := { plain "java/lang/Iterable" (some 0) with
  accessFlags := 1537
  interfaces := #[]
  cf := some (fileOf pool14 8 #[] #[] 1537 35 #[] #[])
  fields := #[]
  methods := #[]
  instanceTypes := #[]
  staticTypes := #[]
  resolved := Array.replicate 62 none
  statics := none }

def pool15 : Array CpInfo := pool [(10, .class_ 12), (1, u "java/util/Collection"), (47, .class_ 61), (0, u "java/lang/Object"), (0, .class_ 63), (0, u "java/lang/Iterable")] 51

/-- java/util/Collection -/
def k15 : Class := { plain "java/util/Collection" (some 0) with
  accessFlags := 1537
  interfaces := #[14]
  cf := some (fileOf pool15 10 #[] #[] 1537 60 #[62] #[])
  fields := #[]
  methods := #[]
  instanceTypes := #[]
  staticTypes := #[]
  resolved := Array.replicate 115 none
  statics := none }

def pool16 : Array CpInfo := pool [(8, .class_ 10), (1, u "java/util/SequencedCollection"), (15, .class_ 27), (0, u "java/lang/Object"), (0, .class_ 29), (0, u "java/util/Collection")] 27

/-- java/util/SequencedCollection -/
def k16 : Class := { plain "java/util/SequencedCollection" (some 0) with
  accessFlags := 1537
  interfaces := #[15]
  cf := some (fileOf pool16 8 #[] #[] 1537 26 #[28] #[])
  fields := #[]
  methods := #[]
  instanceTypes := #[]
  staticTypes := #[]
  resolved := Array.replicate 57 none
  statics := none }

def pool17 : Array CpInfo := pool [(8, .class_ 10), (1, u "java/util/List"), (37, u "<init>"), (26, u "get"), (0, u "(I)Ljava/lang/Object;"), (2, u "size"), (0, u "()I"), (7, u "of"), (7, .class_ 97), (0, u "java/util/ImmutableCollections$List12"), (2, .methodref 96 101), (0, .nameAndType 48 102), (0, u "(Ljava/lang/Object;Ljava/lang/Object;)V"), (0, .class_ 104), (0, u "java/lang/Object"), (15, .class_ 121), (0, u "java/util/SequencedCollection"), (79, u "(Ljava/lang/Object;Ljava/lang/Object;)Ljava/util/List;")] 49

def k17m0 : Method := { name := "size", desc := "()I", sig := { parameters := [], returnType := some .int }, accessFlags := 1025, code := none }
def k17m1 : Method := { name := "get", desc := "(I)Ljava/lang/Object;", sig := { parameters := [.int], returnType := some (.object "java/lang/Object") }, accessFlags := 1025, code := none }
def k17c2 : Code := { maxStack := 4, maxLocals := 2, code := jdk_40_method_38_code, exceptionTable := #[], attributes := #[] }
def k17m2 : Method := { name := "of", desc := "(Ljava/lang/Object;Ljava/lang/Object;)Ljava/util/List;", sig := { parameters := [(.object "java/lang/Object"), (.object "java/lang/Object")], returnType := some (.object "java/util/List") }, accessFlags := 9, code := some k17c2 }
/-- java/util/List -/
def k17 : Class := { plain "java/util/List" (some 0) with
  accessFlags := 1537
  interfaces := #[16]
  cf := some (fileOf pool17 8 #[] #[{ accessFlags := 1025, nameIndex := 79, descriptorIndex := 80, attributes := #[] }, { accessFlags := 1025, nameIndex := 75, descriptorIndex := 76, attributes := #[] }, { accessFlags := 9, nameIndex := 88, descriptorIndex := 201, attributes := #[] }] 1537 103 #[120] #[])
  fields := #[]
  methods := #[k17m0, k17m1, k17m2]
  instanceTypes := #[]
  staticTypes := #[]
  resolved := Array.replicate 251 none
  statics := none }

def pool18 : Array CpInfo := pool [(1, .methodref 2 3), (0, .class_ 4), (0, .nameAndType 5 6), (0, u "java/lang/Object"), (0, u "<init>"), (0, u "()V"), (1, .class_ 10), (1, u "java/util/AbstractCollection"), (66, .class_ 78), (0, u "java/util/Collection")] 81

def k18c0 : Code := { maxStack := 1, maxLocals := 1, code := jdk_22_method_1_code, exceptionTable := #[], attributes := #[] }
def k18m0 : Method := { name := "<init>", desc := "()V", sig := { parameters := [], returnType := none }, accessFlags := 4, code := some k18c0 }
/-- java/util/AbstractCollection -/
def k18 : Class := { plain "java/util/AbstractCollection" (some 0) with
  accessFlags := 1057
  interfaces := #[15]
  cf := some (fileOf pool18 8 #[] #[{ accessFlags := 4, nameIndex := 5, descriptorIndex := 6, attributes := #[] }] 1057 2 #[77] #[])
  fields := #[]
  methods := #[k18m0]
  instanceTypes := #[]
  staticTypes := #[]
  resolved := Array.replicate 160 none
  statics := none }

def pool19 : Array CpInfo := pool [(1, .methodref 2 3), (0, .class_ 4), (0, .nameAndType 5 6), (0, u "java/util/AbstractCollection"), (0, u "<init>"), (0, u "()V"), (1, .class_ 10), (1, u "java/util/ImmutableCollections"), (2, .class_ 14), (0, u "java/util/ImmutableCollections$AbstractImmutableCollection")] 41

def k19c0 : Code := { maxStack := 1, maxLocals := 1, code := jdk_47_method_1_code, exceptionTable := #[], attributes := #[] }
def k19m0 : Method := { name := "<init>", desc := "()V", sig := { parameters := [], returnType := none }, accessFlags := 0, code := some k19c0 }
/-- java/util/ImmutableCollections$AbstractImmutableCollection -/
def k19 : Class := { plain "java/util/ImmutableCollections$AbstractImmutableCollection" (some 18) with
  accessFlags := 1056
  interfaces := #[]
  cf := some (fileOf pool19 13 #[.nestHost 8] #[{ accessFlags := 0, nameIndex := 5, descriptorIndex := 6, attributes := #[] }] 1056 2 #[] #[])
  fields := #[]
  methods := #[k19m0]
  instanceTypes := #[]
  staticTypes := #[]
  resolved := Array.replicate 56 none
  statics := none }

def pool20 : Array CpInfo := pool [(1, .class_ 2), (0, u "java/util/RandomAccess"), (0, .class_ 4), (0, u "java/lang/Object")] 2

/-- java/util/RandomAccess -/
def k20 : Class := { plain "java/util/RandomAccess" (some 0) with
  accessFlags := 1537
  interfaces := #[]
  cf := some (fileOf pool20 1 #[] #[] 1537 3 #[] #[])
  fields := #[]
  methods := #[]
  instanceTypes := #[]
  staticTypes := #[]
  resolved := Array.replicate 7 none
  statics := none }

def pool21 : Array CpInfo := pool [(1, .methodref 2 3), (0, .class_ 4), (0, .nameAndType 5 6), (0, u "java/util/ImmutableCollections$AbstractImmutableCollection"), (0, u "<init>"), (0, u "()V"), (1, .class_ 10), (1, u "java/util/ImmutableCollections"), (3, .class_ 16), (1, u "java/util/ImmutableCollections$AbstractImmutableList"), (60, .class_ 78), (0, u "java/util/List"), (45, .class_ 125), (0, u "java/util/RandomAccess")] 70

def k21c0 : Code := { maxStack := 1, maxLocals := 1, code := jdk_46_method_1_code, exceptionTable := #[], attributes := #[] }
def k21m0 : Method := { name := "<init>", desc := "()V", sig := { parameters := [], returnType := none }, accessFlags := 0, code := some k21c0 }
/-- java/util/ImmutableCollections$AbstractImmutableList -/
def k21 : Class := { plain "java/util/ImmutableCollections$AbstractImmutableList" (some 19) with
  accessFlags := 1056
  interfaces := #[17, 20]
  cf := some (fileOf pool21 14 #[.nestHost 8] #[{ accessFlags := 0, nameIndex := 5, descriptorIndex := 6, attributes := #[] }] 1056 2 #[77, 124] #[])
  fields := #[]
  methods := #[k21m0]
  instanceTypes := #[]
  staticTypes := #[]
  resolved := Array.replicate 196 none
  statics := none }

def pool22 : Array CpInfo := pool [(1, .methodref 2 3), (0, .class_ 4), (0, .nameAndType 5 6), (0, u "java/util/ImmutableCollections$AbstractImmutableList"), (0, u "<init>"), (0, u "()V"), (0, .methodref 8 9), (0, .class_ 10), (0, .nameAndType 11 12), (0, u "java/util/Objects"), (0, u "requireNonNull"), (0, u "(Ljava/lang/Object;)Ljava/lang/Object;"), (0, .fieldref 14 15), (0, .class_ 16), (0, .nameAndType 17 18), (0, u "java/util/ImmutableCollections$List12"), (0, u "e0"), (0, u "Ljava/lang/Object;"), (0, .fieldref 20 21), (0, .class_ 22), (0, .nameAndType 23 18), (0, u "java/util/ImmutableCollections"), (0, u "EMPTY"), (0, .fieldref 14 25), (0, .nameAndType 26 18), (0, u "e1"), (24, u "size"), (0, u "()I"), (17, .class_ 71), (0, u "java/io/Serializable"), (13, u "(Ljava/lang/Object;Ljava/lang/Object;)V"), (4, u "get"), (0, u "(I)Ljava/lang/Object;")] 33

def k22c0 : Code := { maxStack := 2, maxLocals := 3, code := jdk_44_method_2_code, exceptionTable := #[], attributes := #[] }
def k22m0 : Method := { name := "<init>", desc := "(Ljava/lang/Object;Ljava/lang/Object;)V", sig := { parameters := [(.object "java/lang/Object"), (.object "java/lang/Object")], returnType := none }, accessFlags := 0, code := some k22c0 }
def k22c1 : Code := { maxStack := 2, maxLocals := 1, code := jdk_44_method_3_code, exceptionTable := #[], attributes := #[] }
def k22m1 : Method := { name := "size", desc := "()I", sig := { parameters := [], returnType := some .int }, accessFlags := 1, code := some k22c1 }
def k22c2 : Code := { maxStack := 2, maxLocals := 2, code := jdk_44_method_5_code, exceptionTable := #[], attributes := #[] }
def k22m2 : Method := { name := "get", desc := "(I)Ljava/lang/Object;", sig := { parameters := [.int], returnType := some (.object "java/lang/Object") }, accessFlags := 1, code := some k22c2 }
/-- java/util/ImmutableCollections$List12 -/
def k22 : Class := { plain "java/util/ImmutableCollections$List12" (some 21) with
  accessFlags := 48
  interfaces := #[2]
  cf := some (fileOf pool22 14 #[.nestHost 20] #[{ accessFlags := 0, nameIndex := 5, descriptorIndex := 85, attributes := #[] }, { accessFlags := 1, nameIndex := 51, descriptorIndex := 52, attributes := #[] }, { accessFlags := 1, nameIndex := 90, descriptorIndex := 91, attributes := #[] }] 48 2 #[70] #[{ accessFlags := 18, nameIndex := 17, descriptorIndex := 18, attributes := #[] }, { accessFlags := 18, nameIndex := 26, descriptorIndex := 18, attributes := #[] }])
  fields := #[{ name := "e0", type := (.object "java/lang/Object"), accessFlags := 18, slot := 0, constantValue := 0 }, { name := "e1", type := (.object "java/lang/Object"), accessFlags := 18, slot := 1, constantValue := 0 }]
  methods := #[k22m0, k22m1, k22m2]
  instanceTypes := #[(.object "java/lang/Object"), (.object "java/lang/Object")]
  staticTypes := #[]
  resolved := Array.replicate 125 none
  statics := none }

def pool23 : Array CpInfo := pool [(2, .class_ 4), (1, u "java/lang/Object"), (0, u "<init>"), (0, u "()V"), (35, .class_ 44), (1, u "java/util/Objects"), (0, u "requireNonNull"), (0, u "(Ljava/lang/Object;)Ljava/lang/Object;")] 137

def k23m0 : Method := { name := "<init>", desc := "()V", sig := { parameters := [], returnType := none }, accessFlags := 2, code := none }
def k23c1 : Code := { maxStack := 2, maxLocals := 1, code := jdk_31_method_10_code, exceptionTable := #[], attributes := #[] }
def k23m1 : Method := { name := "requireNonNull", desc := "(Ljava/lang/Object;)Ljava/lang/Object;", sig := { parameters := [(.object "java/lang/Object")], returnType := some (.object "java/lang/Object") }, accessFlags := 9, code := some k23c1 }
/-- java/util/Objects -/
def k23 : Class := { plain "java/util/Objects" (some 0) with
  accessFlags := 49
  interfaces := #[]
  cf := some (fileOf pool23 42 #[] #[{ accessFlags := 2, nameIndex := 5, descriptorIndex := 6, attributes := #[] }, { accessFlags := 9, nameIndex := 45, descriptorIndex := 46, attributes := #[] }] 49 2 #[] #[])
  fields := #[]
  methods := #[k23m0, k23m1]
  instanceTypes := #[]
  staticTypes := #[]
  resolved := Array.replicate 184 none
  statics := none }

def pool24 : Array CpInfo := pool [(2, .class_ 4), (1, u "java/lang/Object"), (0, u "<init>"), (0, u "()V"), (3, .class_ 11), (0, u "java/util/ImmutableCollections$List12"), (0, .class_ 13), (0, u "java/util/ImmutableCollections$ListN"), (3, u "Z"), (29, .class_ 49), (1, u "java/util/ImmutableCollections"), (0, u "$assertionsDisabled"), (5, u "[Ljava/lang/Object;"), (5, u "EMPTY_LIST"), (0, u "Ljava/util/ImmutableCollections$ListN;"), (8, u "EMPTY_LIST_NULLS"), (22, u "SALT32L"), (0, u "J"), (2, u "REVERSE"), (6, u "archivedObjects"), (2, u "EMPTY"), (0, u "Ljava/lang/Object;"), (0, .class_ 112), (0, u "java/util/ImmutableCollections$SetN"), (5, u "EMPTY_SET"), (0, u "Ljava/util/ImmutableCollections$SetN;"), (0, .class_ 121), (0, u "java/util/ImmutableCollections$MapN"), (3, u "EMPTY_MAP"), (0, u "Ljava/util/ImmutableCollections$MapN;"), (4, u "EXPAND_FACTOR"), (0, u "I"), (36, .class_ 170), (0, u "java/util/ImmutableCollections$MapN$MapNIterator"), (0, .class_ 172), (0, u "java/util/ImmutableCollections$MapN$1"), (0, .class_ 174), (0, u "java/util/ImmutableCollections$Map1"), (0, .class_ 176), (0, u "java/util/ImmutableCollections$AbstractImmutableMap"), (0, .class_ 178), (0, u "java/util/ImmutableCollections$SetN$SetNIterator"), (0, .class_ 180), (0, u "java/util/ImmutableCollections$Set12"), (0, .class_ 182), (0, u "java/util/ImmutableCollections$Set12$1"), (0, .class_ 184), (0, u "java/util/ImmutableCollections$AbstractImmutableSet"), (0, .class_ 186), (0, u "java/util/ImmutableCollections$SubList"), (0, .class_ 188), (0, u "java/util/ImmutableCollections$ListItr"), (0, .class_ 190), (0, u "java/util/ImmutableCollections$AbstractImmutableList"), (0, .class_ 192), (0, u "java/util/ImmutableCollections$AbstractImmutableCollection"), (0, .class_ 194), (0, u "java/util/ImmutableCollections$Access"), (0, .class_ 196), (0, u "java/util/ImmutableCollections$Access$1")] 16

def k24m0 : Method := { name := "<init>", desc := "()V", sig := { parameters := [], returnType := none }, accessFlags := 2, code := none }
/-- java/util/ImmutableCollections -/
def k24 : Class := { plain "java/util/ImmutableCollections" (some 0) with
  accessFlags := 32
  interfaces := #[]
  cf := some (fileOf pool24 47 #[.nestMembers #[120, 169, 171, 173, 175, 111, 177, 179, 181, 183, 12, 10, 185, 187, 189, 191, 193, 195]] #[{ accessFlags := 2, nameIndex := 5, descriptorIndex := 6, attributes := #[] }] 32 2 #[] #[{ accessFlags := 26, nameIndex := 95, descriptorIndex := 96, attributes := #[] }, { accessFlags := 26, nameIndex := 99, descriptorIndex := 17, attributes := #[] }, { accessFlags := 10, nameIndex := 106, descriptorIndex := 56, attributes := #[] }, { accessFlags := 26, nameIndex := 109, descriptorIndex := 110, attributes := #[] }, { accessFlags := 24, nameIndex := 62, descriptorIndex := 63, attributes := #[] }, { accessFlags := 24, nameIndex := 72, descriptorIndex := 63, attributes := #[] }, { accessFlags := 24, nameIndex := 118, descriptorIndex := 119, attributes := #[] }, { accessFlags := 24, nameIndex := 125, descriptorIndex := 126, attributes := #[] }, { accessFlags := 24, nameIndex := 131, descriptorIndex := 132, attributes := #[] }, { accessFlags := 4120, nameIndex := 50, descriptorIndex := 17, attributes := #[] }])
  fields := #[{ name := "SALT32L", type := .long, accessFlags := 26, slot := 0, constantValue := 0 }, { name := "REVERSE", type := .boolean, accessFlags := 26, slot := 1, constantValue := 0 }, { name := "archivedObjects", type := (.array (.object "java/lang/Object")), accessFlags := 10, slot := 2, constantValue := 0 }, { name := "EMPTY", type := (.object "java/lang/Object"), accessFlags := 26, slot := 3, constantValue := 0 }, { name := "EMPTY_LIST", type := (.object "java/util/ImmutableCollections$ListN"), accessFlags := 24, slot := 4, constantValue := 0 }, { name := "EMPTY_LIST_NULLS", type := (.object "java/util/ImmutableCollections$ListN"), accessFlags := 24, slot := 5, constantValue := 0 }, { name := "EMPTY_SET", type := (.object "java/util/ImmutableCollections$SetN"), accessFlags := 24, slot := 6, constantValue := 0 }, { name := "EMPTY_MAP", type := (.object "java/util/ImmutableCollections$MapN"), accessFlags := 24, slot := 7, constantValue := 0 }, { name := "EXPAND_FACTOR", type := .int, accessFlags := 24, slot := 8, constantValue := 0 }, { name := "$assertionsDisabled", type := .boolean, accessFlags := 4120, slot := 9, constantValue := 0 }]
  methods := #[k24m0]
  instanceTypes := #[]
  staticTypes := #[.long, .boolean, (.array (.object "java/lang/Object")), (.object "java/lang/Object"), (.object "java/util/ImmutableCollections$ListN"), (.object "java/util/ImmutableCollections$ListN"), (.object "java/util/ImmutableCollections$SetN"), (.object "java/util/ImmutableCollections$MapN"), .int, .boolean]
  resolved := Array.replicate 213 none
  statics := some 1 }

def pool25 : Array CpInfo := pool [(2, .class_ 4), (1, u "java/lang/Object"), (0, u "<init>"), (0, u "()V"), (17, .class_ 26), (1, u "jdk/internal/util/Preconditions"), (28, .class_ 56), (0, u "jdk/internal/util/Preconditions$4"), (57, .class_ 115), (0, u "jdk/internal/util/Preconditions$1"), (7, u "SIOOBE_FORMATTER"), (0, u "Ljava/util/function/BiFunction;"), (0, .class_ 126), (0, u "jdk/internal/util/Preconditions$2"), (3, u "AIOOBE_FORMATTER"), (0, .class_ 132), (0, u "jdk/internal/util/Preconditions$3"), (3, u "IOOBE_FORMATTER")] 57

def k25m0 : Method := { name := "<init>", desc := "()V", sig := { parameters := [], returnType := none }, accessFlags := 1, code := none }
/-- jdk/internal/util/Preconditions -/
def k25 : Class := { plain "jdk/internal/util/Preconditions" (some 0) with
  accessFlags := 33
  interfaces := #[]
  cf := some (fileOf pool25 24 #[.nestMembers #[55, 131, 125, 114]] #[{ accessFlags := 1, nameIndex := 5, descriptorIndex := 6, attributes := #[] }] 33 2 #[] #[{ accessFlags := 25, nameIndex := 123, descriptorIndex := 124, attributes := #[] }, { accessFlags := 25, nameIndex := 130, descriptorIndex := 124, attributes := #[] }, { accessFlags := 25, nameIndex := 136, descriptorIndex := 124, attributes := #[] }])
  fields := #[{ name := "SIOOBE_FORMATTER", type := (.object "java/util/function/BiFunction"), accessFlags := 25, slot := 0, constantValue := 0 }, { name := "AIOOBE_FORMATTER", type := (.object "java/util/function/BiFunction"), accessFlags := 25, slot := 1, constantValue := 0 }, { name := "IOOBE_FORMATTER", type := (.object "java/util/function/BiFunction"), accessFlags := 25, slot := 2, constantValue := 0 }]
  methods := #[k25m0]
  instanceTypes := #[]
  staticTypes := #[(.object "java/util/function/BiFunction"), (.object "java/util/function/BiFunction"), (.object "java/util/function/BiFunction")]
  resolved := Array.replicate 194 none
  statics := some 2 }

def pool26 : Array CpInfo := pool [(9, u "<init>"), (6, .class_ 18), (1, u "java/lang/Object"), (0, u "()V"), (1, .class_ 23), (1, u "jdk/internal/util/ArraysSupport"), (0, u "LOG2_ARRAY_LONG_INDEX_SCALE"), (0, u "I"), (2, u "U"), (0, u "Ljdk/internal/misc/Unsafe;"), (8, u "BIG_ENDIAN"), (0, u "Z"), (8, u "LOG2_BYTE_BIT_SIZE"), (4, u "LOG2_ARRAY_INT_INDEX_SCALE"), (54, u "JLA"), (0, u "Ljdk/internal/access/JavaLangAccess;"), (11, u "LOG2_ARRAY_BOOLEAN_INDEX_SCALE"), (9, u "LOG2_ARRAY_BYTE_INDEX_SCALE"), (5, u "LOG2_ARRAY_CHAR_INDEX_SCALE"), (5, u "LOG2_ARRAY_SHORT_INDEX_SCALE"), (18, u "LOG2_ARRAY_FLOAT_INDEX_SCALE"), (24, u "LOG2_ARRAY_DOUBLE_INDEX_SCALE"), (89, u "T_BOOLEAN"), (2, u "T_CHAR"), (1, u "T_FLOAT"), (1, u "T_DOUBLE"), (1, u "T_BYTE"), (1, u "T_SHORT"), (1, u "T_INT"), (1, u "T_LONG"), (1, u "SOFT_MAX_ARRAY_LENGTH")] 83

def k26m0 : Method := { name := "<init>", desc := "()V", sig := { parameters := [], returnType := none }, accessFlags := 2, code := none }
/-- jdk/internal/util/ArraysSupport -/
def k26 : Class := { plain "jdk/internal/util/ArraysSupport" (some 0) with
  accessFlags := 33
  interfaces := #[]
  cf := some (fileOf pool26 21 #[] #[{ accessFlags := 2, nameIndex := 9, descriptorIndex := 19, attributes := #[] }] 33 16 #[] #[{ accessFlags := 24, nameIndex := 28, descriptorIndex := 29, attributes := #[] }, { accessFlags := 26, nameIndex := 38, descriptorIndex := 39, attributes := #[] }, { accessFlags := 25, nameIndex := 121, descriptorIndex := 25, attributes := #[] }, { accessFlags := 25, nameIndex := 131, descriptorIndex := 25, attributes := #[] }, { accessFlags := 25, nameIndex := 137, descriptorIndex := 25, attributes := #[] }, { accessFlags := 25, nameIndex := 143, descriptorIndex := 25, attributes := #[] }, { accessFlags := 25, nameIndex := 53, descriptorIndex := 25, attributes := #[] }, { accessFlags := 25, nameIndex := 24, descriptorIndex := 25, attributes := #[] }, { accessFlags := 25, nameIndex := 162, descriptorIndex := 25, attributes := #[] }, { accessFlags := 25, nameIndex := 187, descriptorIndex := 25, attributes := #[] }, { accessFlags := 26, nameIndex := 48, descriptorIndex := 25, attributes := #[] }, { accessFlags := 25, nameIndex := 277, descriptorIndex := 25, attributes := #[] }, { accessFlags := 25, nameIndex := 280, descriptorIndex := 25, attributes := #[] }, { accessFlags := 25, nameIndex := 282, descriptorIndex := 25, attributes := #[] }, { accessFlags := 25, nameIndex := 284, descriptorIndex := 25, attributes := #[] }, { accessFlags := 25, nameIndex := 286, descriptorIndex := 25, attributes := #[] }, { accessFlags := 25, nameIndex := 288, descriptorIndex := 25, attributes := #[] }, { accessFlags := 25, nameIndex := 290, descriptorIndex := 25, attributes := #[] }, { accessFlags := 25, nameIndex := 292, descriptorIndex := 25, attributes := #[] }, { accessFlags := 26, nameIndex := 108, descriptorIndex := 109, attributes := #[] }, { accessFlags := 25, nameIndex := 294, descriptorIndex := 25, attributes := #[] }])
  fields := #[{ name := "U", type := (.object "jdk/internal/misc/Unsafe"), accessFlags := 24, slot := 0, constantValue := 0 }, { name := "BIG_ENDIAN", type := .boolean, accessFlags := 26, slot := 1, constantValue := 0 }, { name := "LOG2_ARRAY_BOOLEAN_INDEX_SCALE", type := .int, accessFlags := 25, slot := 2, constantValue := 0 }, { name := "LOG2_ARRAY_BYTE_INDEX_SCALE", type := .int, accessFlags := 25, slot := 3, constantValue := 0 }, { name := "LOG2_ARRAY_CHAR_INDEX_SCALE", type := .int, accessFlags := 25, slot := 4, constantValue := 0 }, { name := "LOG2_ARRAY_SHORT_INDEX_SCALE", type := .int, accessFlags := 25, slot := 5, constantValue := 0 }, { name := "LOG2_ARRAY_INT_INDEX_SCALE", type := .int, accessFlags := 25, slot := 6, constantValue := 0 }, { name := "LOG2_ARRAY_LONG_INDEX_SCALE", type := .int, accessFlags := 25, slot := 7, constantValue := 0 }, { name := "LOG2_ARRAY_FLOAT_INDEX_SCALE", type := .int, accessFlags := 25, slot := 8, constantValue := 0 }, { name := "LOG2_ARRAY_DOUBLE_INDEX_SCALE", type := .int, accessFlags := 25, slot := 9, constantValue := 0 }, { name := "LOG2_BYTE_BIT_SIZE", type := .int, accessFlags := 26, slot := 10, constantValue := 0 }, { name := "T_BOOLEAN", type := .int, accessFlags := 25, slot := 11, constantValue := 0 }, { name := "T_CHAR", type := .int, accessFlags := 25, slot := 12, constantValue := 0 }, { name := "T_FLOAT", type := .int, accessFlags := 25, slot := 13, constantValue := 0 }, { name := "T_DOUBLE", type := .int, accessFlags := 25, slot := 14, constantValue := 0 }, { name := "T_BYTE", type := .int, accessFlags := 25, slot := 15, constantValue := 0 }, { name := "T_SHORT", type := .int, accessFlags := 25, slot := 16, constantValue := 0 }, { name := "T_INT", type := .int, accessFlags := 25, slot := 17, constantValue := 0 }, { name := "T_LONG", type := .int, accessFlags := 25, slot := 18, constantValue := 0 }, { name := "JLA", type := (.object "jdk/internal/access/JavaLangAccess"), accessFlags := 26, slot := 19, constantValue := 0 }, { name := "SOFT_MAX_ARRAY_LENGTH", type := .int, accessFlags := 25, slot := 20, constantValue := 0 }]
  methods := #[k26m0]
  instanceTypes := #[]
  staticTypes := #[(.object "jdk/internal/misc/Unsafe"), .boolean, .int, .int, .int, .int, .int, .int, .int, .int, .int, .int, .int, .int, .int, .int, .int, .int, .int, (.object "jdk/internal/access/JavaLangAccess"), .int]
  resolved := Array.replicate 378 none
  statics := none }

def pool27 : Array CpInfo := pool [(2, .class_ 4), (1, u "java/util/ImmutableCollections$AbstractImmutableList"), (3, .class_ 10), (1, u "java/util/ImmutableCollections$ListN"), (0, u "elements"), (0, u "[Ljava/lang/Object;"), (2, u "allowNulls"), (0, u "Z"), (42, .class_ 60), (0, u "java/io/Serializable"), (53, .class_ 115), (0, u "java/util/ImmutableCollections")] 3

/-- java/util/ImmutableCollections$ListN -/
def k27 : Class := { plain "java/util/ImmutableCollections$ListN" (some 21) with
  accessFlags := 48
  interfaces := #[2]
  cf := some (fileOf pool27 8 #[.nestHost 114] #[] 48 2 #[59] #[{ accessFlags := 18, nameIndex := 11, descriptorIndex := 12, attributes := #[] }, { accessFlags := 18, nameIndex := 15, descriptorIndex := 16, attributes := #[] }])
  fields := #[{ name := "elements", type := (.array (.object "java/lang/Object")), accessFlags := 18, slot := 0, constantValue := 0 }, { name := "allowNulls", type := .boolean, accessFlags := 18, slot := 1, constantValue := 0 }]
  methods := #[]
  instanceTypes := #[(.array (.object "java/lang/Object")), .boolean]
  staticTypes := #[]
  resolved := Array.replicate 119 none
  statics := none }

def pool28 : Array CpInfo := pool [(1, u "java/lang/Cloneable"), (0, .class_ 1), (0, u "java/lang/Object"), (0, .class_ 3)] 3

/-- java/lang/Cloneable -/
def k28 : Class := { plain "java/lang/Cloneable" (some 0) with
  accessFlags := 1537
  interfaces := #[]
  cf := some (fileOf pool28 2 #[] #[] 1537 4 #[] #[])
  fields := #[]
  methods := #[]
  instanceTypes := #[]
  staticTypes := #[]
  resolved := Array.replicate 8 none
  statics := none }

/-- the primitive byte -/
def k29 : Class := { plain "byte" none with kind := .primitive 'B', accessFlags := 0x411 }
/-- [B -/
def k30 : Class := { plain "[B" (some 0) with kind := .array 29 .byte, interfaces := #[28, 2], accessFlags := 1041 }

/-- the primitive int -/
def k31 : Class := { plain "int" none with kind := .primitive 'I', accessFlags := 0x411 }
/-- [I -/
def k32 : Class := { plain "[I" (some 0) with kind := .array 31 .int, interfaces := #[28, 2], accessFlags := 1041 }

def heap : Heap := #[{ cls := 7, slots := #[.long 0, .int 1, .null, .int 0, .null, .int 0, .int 0], vm := .statics 7 },
  { cls := 24, slots := #[.long 0, .int 0, .null, .ref 3, .ref 4, .null, .null, .null, .int 0, .int 1], vm := .statics 24 },
  { cls := 25, slots := #[.null, .null, .null], vm := .statics 25 },
  { cls := 0, slots := #[], vm := .none },
  { cls := 27, slots := #[.null, .int 0], vm := .none }]
def classes : Array Class := #[k0, k1, k2, k3, k4, k5, k6, k7, k8, k9, k10, k11, k12, k13, k14, k15, k16, k17, k18, k19, k20, k21, k22, k23, k24, k25, k26, k27, k28, k29, k30, k31, k32]
def interned : List (Array UInt16 × Addr) := []
def slotsUsed : Nat := 22
def theMethod : MethodId := ⟨1, 2⟩
def args0 : Array Value := #[.int 1, .int 2, .int 65, .int 66, .int 0]
def aboutOver (below : List Frame) : State where
  vm := { classes := classes, interned := interned.toArray }
  heap := heap
  slotsUsed := slotsUsed
  threads := #[{ frames := .invoking theMethod args0 :: below }]
def below0 : List Frame := [.native { method := ⟨0, 0⟩, args := #[] }]
def about1 : State := aboutOver below0
def p0 : Program := .bare "" "" ""
def e0 : Env := launch0.env 0 0 0
theorem w_frames : about1.frames = Frame.invoking theMethod args0 :: below0 := rfl
set_option maxRecDepth 65536 in
theorem w_args : argsFit about1.vm theMethod args0 = true := by decide +kernel
set_option maxRecDepth 65536 in
theorem w_heap : heapFits about1 = true := by decide +kernel
set_option maxRecDepth 65536 in
theorem w_runnable : about1.curStatus? = some .runnable := by decide +kernel
set_option maxRecDepth 65536 in
theorem w_alone : about1.alone = true := by decide +kernel
set_option maxRecDepth 65536 in
theorem w_named : about1.methodNamed? x = some theMethod := by decide +kernel
set_option maxRecDepth 65536 in
theorem w_hears : about1.hears theMethod below0 = true := by decide +kernel
set_option maxRecDepth 65536 in
theorem w_ripe : about1.ripe theMethod args0 below0 = true := by decide +kernel
theorem w_running : about1.status = .running := rfl
set_option maxRecDepth 65536 in
theorem w_room : about1.hasRoom e0.platform room_1 = true :=
  launch0.hasRoom_least _ room_1 (by decide +kernel) (by decide +kernel) (by decide +kernel) (by decide +kernel) (by decide +kernel) (by decide +kernel)
theorem allAtoms_all (ts : List Jvm.Cond) (a : Array Jvm.Value) (st : Jvm.State) : (allAtoms ts).before a st = ts.all (fun c => c.before a st) := by
  induction ts with
  | nil => rfl
  | cons c t ih =>
    show (Jvm.Cond.and c (allAtoms t)).before a st = _
    rw [Jvm.Cond.before_and, ih, List.all_cons]
def words1 : List Jvm.Cond := Jvm.Cond.code x code maxLocals ret :: tables_1
/-- a 'code' word, met by the world's own term for the bytes: nothing is compared byte by byte -/
theorem code_word {y : MethodName} {bytes : ByteArray} {mx : Nat} {rt : Option FieldType} {a : Array Value} {s : State} {m : MethodId} {meth : Method} {c : Code} (h1 : s.methodNamed? y = some m) (h2 : s.vm.method? m = some meth) (h3 : meth.code = some c) (h4 : c.code = bytes)
    (h5 : (c.maxLocals == mx && c.exceptionTable.isEmpty && decide (c.maxStack ≤ mostOperands) && decide (meth.sig.returnType = rt) && !meth.locks && decide (parseMethodDescriptor y.desc = some meth.sig)) = true) : (Jvm.Cond.code y bytes mx rt).before a s = true := by
  simp only [Bool.and_eq_true, beq_iff_eq, Bool.not_eq_true', decide_eq_true_eq] at h5
  obtain ⟨⟨⟨⟨⟨g1, g2⟩, g3⟩, g4⟩, g5⟩, g6⟩ := h5
  simp [Cond.before, Cond.holds, Cond.value, h1, h2, h3, h4, g1, g2, g3, g4, g5, g6]
def isCode : Jvm.Cond → Bool
  | .code _ _ _ _ => true
  | _ => false
theorem all_split {L : List Jvm.Cond} {P : Jvm.Cond → Bool} (h1 : L.all (fun c => isCode c || P c) = true) (h2 : ∀ c ∈ L.filter isCode, P c = true) : L.all P = true := by
  refine List.all_eq_true.mpr fun c hc => ?_
  have h := List.all_eq_true.mp h1 c hc
  rcases Bool.eq_false_or_eq_true (isCode c) with hi | hi
  · exact h2 c (List.mem_filter.mpr ⟨hc, hi⟩)
  · simpa [hi] using h
set_option maxRecDepth 65536 in
theorem w_c0 : (Jvm.Cond.code x code maxLocals ret).before args0 about1 = true := code_word (m := ⟨1, 2⟩) (meth := k1m2) (c := k1c2) (by decide +kernel) rfl rfl rfl (by decide +kernel)
set_option maxRecDepth 65536 in
theorem w_c1 : (Jvm.Cond.code ({ cls := "com/example/subsume/subsume/engine/IndividualInequalityIndividualsPinLaw", name := "nameOf", desc := "(IZ)Ljava/lang/String;" } : Jvm.MethodName) method_2_code (2 : Nat) (Option.some (Jvm.ClassFile.FieldType.object "java/lang/String"))).before args0 about1 = true := code_word (m := ⟨1, 1⟩) (meth := k1m1) (c := k1c1) (by decide +kernel) rfl rfl rfl (by decide +kernel)
set_option maxRecDepth 65536 in
theorem w_c2 : (Jvm.Cond.code ({ cls := "java/lang/String", name := "valueOf", desc := "(C)Ljava/lang/String;" } : Jvm.MethodName) jdk_42_method_139_code (1 : Nat) (Option.some (Jvm.ClassFile.FieldType.object "java/lang/String"))).before args0 about1 = true := code_word (m := ⟨7, 1⟩) (meth := k7m1) (c := k7c1) (by decide +kernel) rfl rfl rfl (by decide +kernel)
set_option maxRecDepth 65536 in
theorem w_c3 : (Jvm.Cond.code ({ cls := "java/lang/StringLatin1", name := "canEncode", desc := "(C)Z" } : Jvm.MethodName) jdk_43_method_3_code (1 : Nat) (Option.some Jvm.ClassFile.FieldType.boolean)).before args0 about1 = true := code_word (m := ⟨8, 1⟩) (meth := k8m1) (c := k8c1) (by decide +kernel) rfl rfl rfl (by decide +kernel)
set_option maxRecDepth 65536 in
theorem w_c4 : (Jvm.Cond.code ({ cls := "java/lang/StringLatin1", name := "toBytes", desc := "(C)[B" } : Jvm.MethodName) jdk_43_method_46_code (1 : Nat) (Option.some (Jvm.ClassFile.FieldType.array Jvm.ClassFile.FieldType.byte))).before args0 about1 = true := code_word (m := ⟨8, 2⟩) (meth := k8m2) (c := k8c2) (by decide +kernel) rfl rfl rfl (by decide +kernel)
set_option maxRecDepth 65536 in
theorem w_c5 : (Jvm.Cond.code ({ cls := "java/lang/String", name := "<init>", desc := "([BB)V" } : Jvm.MethodName) jdk_42_method_151_code (3 : Nat) (Option.none : Option Jvm.ClassFile.FieldType)).before args0 about1 = true := code_word (m := ⟨7, 2⟩) (meth := k7m2) (c := k7c2) (by decide +kernel) rfl rfl rfl (by decide +kernel)
set_option maxRecDepth 65536 in
theorem w_c6 : (Jvm.Cond.code ({ cls := "java/lang/Object", name := "<init>", desc := "()V" } : Jvm.MethodName) object_method_1_code (1 : Nat) (Option.none : Option Jvm.ClassFile.FieldType)).before args0 about1 = true := code_word (m := ⟨0, 0⟩) (meth := k0m0) (c := k0c0) (by decide +kernel) rfl rfl rfl (by decide +kernel)
set_option maxRecDepth 65536 in
theorem w_c7 : (Jvm.Cond.code ({ cls := "com/example/subsume/subsume/engine/Individual", name := "<init>", desc := "(Ljava/lang/String;I)V" } : Jvm.MethodName) prog_13_method_1_code (3 : Nat) (Option.none : Option Jvm.ClassFile.FieldType)).before args0 about1 = true := code_word (m := ⟨9, 0⟩) (meth := k9m0) (c := k9c0) (by decide +kernel) rfl rfl rfl (by decide +kernel)
set_option maxRecDepth 65536 in
theorem w_c8 : (Jvm.Cond.code ({ cls := "com/example/subsume/subsume/engine/IndividualInequality", name := "<init>", desc := "(Lcom/example/subsume/subsume/engine/Individual;Lcom/example/subsume/subsume/engine/Individual;)V" } : Jvm.MethodName) prog_15_method_1_code (3 : Nat) (Option.none : Option Jvm.ClassFile.FieldType)).before args0 about1 = true := code_word (m := ⟨13, 0⟩) (meth := k13m0) (c := k13c0) (by decide +kernel) rfl rfl rfl (by decide +kernel)
set_option maxRecDepth 65536 in
theorem w_c9 : (Jvm.Cond.code ({ cls := "java/lang/Record", name := "<init>", desc := "()V" } : Jvm.MethodName) jdk_30_method_1_code (1 : Nat) (Option.none : Option Jvm.ClassFile.FieldType)).before args0 about1 = true := code_word (m := ⟨10, 0⟩) (meth := k10m0) (c := k10c0) (by decide +kernel) rfl rfl rfl (by decide +kernel)
set_option maxRecDepth 65536 in
theorem w_c10 : (Jvm.Cond.code ({ cls := "com/example/subsume/subsume/engine/IndividualInequality", name := "individuals", desc := "()Ljava/util/List;" } : Jvm.MethodName) prog_15_method_2_code (1 : Nat) (Option.some (Jvm.ClassFile.FieldType.object "java/util/List"))).before args0 about1 = true := code_word (m := ⟨13, 1⟩) (meth := k13m1) (c := k13c1) (by decide +kernel) rfl rfl rfl (by decide +kernel)
set_option maxRecDepth 65536 in
theorem w_c11 : (Jvm.Cond.code ({ cls := "java/util/List", name := "of", desc := "(Ljava/lang/Object;Ljava/lang/Object;)Ljava/util/List;" } : Jvm.MethodName) jdk_40_method_38_code (2 : Nat) (Option.some (Jvm.ClassFile.FieldType.object "java/util/List"))).before args0 about1 = true := code_word (m := ⟨17, 2⟩) (meth := k17m2) (c := k17c2) (by decide +kernel) rfl rfl rfl (by decide +kernel)
set_option maxRecDepth 65536 in
theorem w_c12 : (Jvm.Cond.code ({ cls := "java/util/ImmutableCollections$List12", name := "<init>", desc := "(Ljava/lang/Object;Ljava/lang/Object;)V" } : Jvm.MethodName) jdk_44_method_2_code (3 : Nat) (Option.none : Option Jvm.ClassFile.FieldType)).before args0 about1 = true := code_word (m := ⟨22, 0⟩) (meth := k22m0) (c := k22c0) (by decide +kernel) rfl rfl rfl (by decide +kernel)
set_option maxRecDepth 65536 in
theorem w_c13 : (Jvm.Cond.code ({ cls := "java/util/ImmutableCollections$AbstractImmutableList", name := "<init>", desc := "()V" } : Jvm.MethodName) jdk_46_method_1_code (1 : Nat) (Option.none : Option Jvm.ClassFile.FieldType)).before args0 about1 = true := code_word (m := ⟨21, 0⟩) (meth := k21m0) (c := k21c0) (by decide +kernel) rfl rfl rfl (by decide +kernel)
set_option maxRecDepth 65536 in
theorem w_c14 : (Jvm.Cond.code ({ cls := "java/util/ImmutableCollections$AbstractImmutableCollection", name := "<init>", desc := "()V" } : Jvm.MethodName) jdk_47_method_1_code (1 : Nat) (Option.none : Option Jvm.ClassFile.FieldType)).before args0 about1 = true := code_word (m := ⟨19, 0⟩) (meth := k19m0) (c := k19c0) (by decide +kernel) rfl rfl rfl (by decide +kernel)
set_option maxRecDepth 65536 in
theorem w_c15 : (Jvm.Cond.code ({ cls := "java/util/AbstractCollection", name := "<init>", desc := "()V" } : Jvm.MethodName) jdk_22_method_1_code (1 : Nat) (Option.none : Option Jvm.ClassFile.FieldType)).before args0 about1 = true := code_word (m := ⟨18, 0⟩) (meth := k18m0) (c := k18c0) (by decide +kernel) rfl rfl rfl (by decide +kernel)
set_option maxRecDepth 65536 in
theorem w_c16 : (Jvm.Cond.code ({ cls := "java/util/Objects", name := "requireNonNull", desc := "(Ljava/lang/Object;)Ljava/lang/Object;" } : Jvm.MethodName) jdk_31_method_10_code (1 : Nat) (Option.some (Jvm.ClassFile.FieldType.object "java/lang/Object"))).before args0 about1 = true := code_word (m := ⟨23, 1⟩) (meth := k23m1) (c := k23c1) (by decide +kernel) rfl rfl rfl (by decide +kernel)
set_option maxRecDepth 65536 in
theorem w_c17 : (Jvm.Cond.code ({ cls := "java/util/ImmutableCollections$List12", name := "size", desc := "()I" } : Jvm.MethodName) jdk_44_method_3_code (1 : Nat) (Option.some Jvm.ClassFile.FieldType.int)).before args0 about1 = true := code_word (m := ⟨22, 1⟩) (meth := k22m1) (c := k22c1) (by decide +kernel) rfl rfl rfl (by decide +kernel)
set_option maxRecDepth 65536 in
theorem w_c18 : (Jvm.Cond.code ({ cls := "java/util/ImmutableCollections$List12", name := "get", desc := "(I)Ljava/lang/Object;" } : Jvm.MethodName) jdk_44_method_5_code (2 : Nat) (Option.some (Jvm.ClassFile.FieldType.object "java/lang/Object"))).before args0 about1 = true := code_word (m := ⟨22, 2⟩) (meth := k22m2) (c := k22c2) (by decide +kernel) rfl rfl rfl (by decide +kernel)
set_option maxRecDepth 65536 in
theorem w_c19 : (Jvm.Cond.code ({ cls := "com/example/subsume/subsume/engine/IndividualInequality", name := "individual", desc := "()Lcom/example/subsume/subsume/engine/Individual;" } : Jvm.MethodName) prog_15_method_7_code (1 : Nat) (Option.some (Jvm.ClassFile.FieldType.object "com/example/subsume/subsume/engine/Individual"))).before args0 about1 = true := code_word (m := ⟨13, 2⟩) (meth := k13m2) (c := k13c2) (by decide +kernel) rfl rfl rfl (by decide +kernel)
set_option maxRecDepth 65536 in
theorem w_c20 : (Jvm.Cond.code ({ cls := "com/example/subsume/subsume/engine/IndividualInequality", name := "other", desc := "()Lcom/example/subsume/subsume/engine/Individual;" } : Jvm.MethodName) prog_15_method_8_code (1 : Nat) (Option.some (Jvm.ClassFile.FieldType.object "com/example/subsume/subsume/engine/Individual"))).before args0 about1 = true := code_word (m := ⟨13, 3⟩) (meth := k13m3) (c := k13c3) (by decide +kernel) rfl rfl rfl (by decide +kernel)
def codes1 : List Jvm.Cond := [Jvm.Cond.code x code maxLocals ret, Jvm.Cond.code ({ cls := "com/example/subsume/subsume/engine/IndividualInequalityIndividualsPinLaw", name := "nameOf", desc := "(IZ)Ljava/lang/String;" } : Jvm.MethodName) method_2_code (2 : Nat) (Option.some (Jvm.ClassFile.FieldType.object "java/lang/String")), Jvm.Cond.code ({ cls := "java/lang/String", name := "valueOf", desc := "(C)Ljava/lang/String;" } : Jvm.MethodName) jdk_42_method_139_code (1 : Nat) (Option.some (Jvm.ClassFile.FieldType.object "java/lang/String")), Jvm.Cond.code ({ cls := "java/lang/StringLatin1", name := "canEncode", desc := "(C)Z" } : Jvm.MethodName) jdk_43_method_3_code (1 : Nat) (Option.some Jvm.ClassFile.FieldType.boolean), Jvm.Cond.code ({ cls := "java/lang/StringLatin1", name := "toBytes", desc := "(C)[B" } : Jvm.MethodName) jdk_43_method_46_code (1 : Nat) (Option.some (Jvm.ClassFile.FieldType.array Jvm.ClassFile.FieldType.byte)), Jvm.Cond.code ({ cls := "java/lang/String", name := "<init>", desc := "([BB)V" } : Jvm.MethodName) jdk_42_method_151_code (3 : Nat) (Option.none : Option Jvm.ClassFile.FieldType), Jvm.Cond.code ({ cls := "java/lang/Object", name := "<init>", desc := "()V" } : Jvm.MethodName) object_method_1_code (1 : Nat) (Option.none : Option Jvm.ClassFile.FieldType), Jvm.Cond.code ({ cls := "com/example/subsume/subsume/engine/Individual", name := "<init>", desc := "(Ljava/lang/String;I)V" } : Jvm.MethodName) prog_13_method_1_code (3 : Nat) (Option.none : Option Jvm.ClassFile.FieldType), Jvm.Cond.code ({ cls := "com/example/subsume/subsume/engine/IndividualInequality", name := "<init>", desc := "(Lcom/example/subsume/subsume/engine/Individual;Lcom/example/subsume/subsume/engine/Individual;)V" } : Jvm.MethodName) prog_15_method_1_code (3 : Nat) (Option.none : Option Jvm.ClassFile.FieldType), Jvm.Cond.code ({ cls := "java/lang/Record", name := "<init>", desc := "()V" } : Jvm.MethodName) jdk_30_method_1_code (1 : Nat) (Option.none : Option Jvm.ClassFile.FieldType), Jvm.Cond.code ({ cls := "com/example/subsume/subsume/engine/IndividualInequality", name := "individuals", desc := "()Ljava/util/List;" } : Jvm.MethodName) prog_15_method_2_code (1 : Nat) (Option.some (Jvm.ClassFile.FieldType.object "java/util/List")), Jvm.Cond.code ({ cls := "java/util/List", name := "of", desc := "(Ljava/lang/Object;Ljava/lang/Object;)Ljava/util/List;" } : Jvm.MethodName) jdk_40_method_38_code (2 : Nat) (Option.some (Jvm.ClassFile.FieldType.object "java/util/List")), Jvm.Cond.code ({ cls := "java/util/ImmutableCollections$List12", name := "<init>", desc := "(Ljava/lang/Object;Ljava/lang/Object;)V" } : Jvm.MethodName) jdk_44_method_2_code (3 : Nat) (Option.none : Option Jvm.ClassFile.FieldType), Jvm.Cond.code ({ cls := "java/util/ImmutableCollections$AbstractImmutableList", name := "<init>", desc := "()V" } : Jvm.MethodName) jdk_46_method_1_code (1 : Nat) (Option.none : Option Jvm.ClassFile.FieldType), Jvm.Cond.code ({ cls := "java/util/ImmutableCollections$AbstractImmutableCollection", name := "<init>", desc := "()V" } : Jvm.MethodName) jdk_47_method_1_code (1 : Nat) (Option.none : Option Jvm.ClassFile.FieldType), Jvm.Cond.code ({ cls := "java/util/AbstractCollection", name := "<init>", desc := "()V" } : Jvm.MethodName) jdk_22_method_1_code (1 : Nat) (Option.none : Option Jvm.ClassFile.FieldType), Jvm.Cond.code ({ cls := "java/util/Objects", name := "requireNonNull", desc := "(Ljava/lang/Object;)Ljava/lang/Object;" } : Jvm.MethodName) jdk_31_method_10_code (1 : Nat) (Option.some (Jvm.ClassFile.FieldType.object "java/lang/Object")), Jvm.Cond.code ({ cls := "java/util/ImmutableCollections$List12", name := "size", desc := "()I" } : Jvm.MethodName) jdk_44_method_3_code (1 : Nat) (Option.some Jvm.ClassFile.FieldType.int), Jvm.Cond.code ({ cls := "java/util/ImmutableCollections$List12", name := "get", desc := "(I)Ljava/lang/Object;" } : Jvm.MethodName) jdk_44_method_5_code (2 : Nat) (Option.some (Jvm.ClassFile.FieldType.object "java/lang/Object")), Jvm.Cond.code ({ cls := "com/example/subsume/subsume/engine/IndividualInequality", name := "individual", desc := "()Lcom/example/subsume/subsume/engine/Individual;" } : Jvm.MethodName) prog_15_method_7_code (1 : Nat) (Option.some (Jvm.ClassFile.FieldType.object "com/example/subsume/subsume/engine/Individual")), Jvm.Cond.code ({ cls := "com/example/subsume/subsume/engine/IndividualInequality", name := "other", desc := "()Lcom/example/subsume/subsume/engine/Individual;" } : Jvm.MethodName) prog_15_method_8_code (1 : Nat) (Option.some (Jvm.ClassFile.FieldType.object "com/example/subsume/subsume/engine/Individual"))]
set_option maxRecDepth 65536 in
theorem codes_eq : words1.filter isCode = codes1 := rfl
theorem w_codes : ∀ c ∈ words1.filter isCode, c.before args0 about1 = true := by
  rw [codes_eq]
  intro c hc
  simp only [codes1, List.mem_cons, List.not_mem_nil, or_false] at hc
  rcases hc with rfl | rfl | rfl | rfl | rfl | rfl | rfl | rfl | rfl | rfl | rfl | rfl | rfl | rfl | rfl | rfl | rfl | rfl | rfl | rfl | rfl
  · exact w_c0
  · exact w_c1
  · exact w_c2
  · exact w_c3
  · exact w_c4
  · exact w_c5
  · exact w_c6
  · exact w_c7
  · exact w_c8
  · exact w_c9
  · exact w_c10
  · exact w_c11
  · exact w_c12
  · exact w_c13
  · exact w_c14
  · exact w_c15
  · exact w_c16
  · exact w_c17
  · exact w_c18
  · exact w_c19
  · exact w_c20
set_option maxRecDepth 65536 in
theorem w_t1 : (words1.take 24).all (fun c => isCode c || c.before args0 about1) = true := by decide +kernel
set_option maxRecDepth 65536 in
theorem w_t2 : ((words1.drop 24).take 24).all (fun c => isCode c || c.before args0 about1) = true := by decide +kernel
set_option maxRecDepth 65536 in
theorem w_t3 : (((words1.drop 24).drop 24).take 24).all (fun c => isCode c || c.before args0 about1) = true := by decide +kernel
set_option maxRecDepth 65536 in
theorem w_t4 : ((((words1.drop 24).drop 24).drop 24).take 24).all (fun c => isCode c || c.before args0 about1) = true := by decide +kernel
set_option maxRecDepth 65536 in
theorem w_t5 : (((((words1.drop 24).drop 24).drop 24).drop 24).take 24).all (fun c => isCode c || c.before args0 about1) = true := by decide +kernel
set_option maxRecDepth 65536 in
theorem w_t6 : (((((words1.drop 24).drop 24).drop 24).drop 24).drop 24).all (fun c => isCode c || c.before args0 about1) = true := by decide +kernel
theorem w_tables : (allAtoms (Jvm.Cond.code x code maxLocals ret :: tables_1)).before args0 about1 = true := by
  rw [allAtoms_all]
  show words1.all (fun c => c.before args0 about1) = true
  refine all_split ?_ w_codes
  rw [← List.take_append_drop 24 words1, List.all_append, w_t1, ← List.take_append_drop 24 (words1.drop 24), List.all_append, w_t2, ← List.take_append_drop 24 ((words1.drop 24).drop 24), List.all_append, w_t3, ← List.take_append_drop 24 (((words1.drop 24).drop 24).drop 24), List.all_append, w_t4, ← List.take_append_drop 24 ((((words1.drop 24).drop 24).drop 24).drop 24), List.all_append, w_t5, w_t6]
  rfl
set_option maxRecDepth 65536 in
theorem w_rest : rest_1_c.before args0 about1 = true := by decide +kernel
set_option maxRecDepth 65536 in
theorem w_case : (Jvm.Cond.and given_1 narrow_1).before args0 about1 = true := by decide +kernel
theorem w_applies : (headSpec (Jvm.Cond.code x code maxLocals ret :: tables_1) room_1).applies x e0.platform about1 = true :=
  (Spec.applies_iff w_frames).mpr ⟨w_running, w_runnable, w_alone, w_named, w_hears, w_ripe, w_room, w_tables⟩
theorem atStart : AtStart classFile x code maxLocals ret World_1 tables_1 room_1 Calls_1 rest_1 Pre_1 launch0 p0 e0 about1 theMethod args0 below0 :=
  ⟨lists_1, trivial, launch0.admits_env _ _ _, launch0.least_env, fairChoices_fair.cas, fairChoices_fair.clock, w_frames, w_args, w_heap, w_applies, trivial, w_rest, w_case⟩
end start1
theorem witness_1 : WitnessClaimed_1 := ⟨start1.p0, start1.e0, start1.about1, start1.theMethod, start1.args0, start1.below0, start1.atStart⟩
end Jvm.Pilot.@@N@@
