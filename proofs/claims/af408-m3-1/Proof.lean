import JvmDerived
import JvmDerived.Pilot.@@N@@Statement
import JvmDerived.Pilot.@@N@@Code
set_option linter.unusedVariables false
set_option linter.unusedSimpArgs false
namespace Jvm.RoadKit
open Sem ClassFile Op Lib Jvm.Stand Jvm.Free Jvm.LawKit
section New
variable {p : Program} {l : Launch} {e : Env} {R : Room} {s : State} {m : MethodId} {args : Array Value} {below : List Frame} {meth : Method} {c : Code} {T : State} {locs : List Loc} {cells slots : Nat}
theorem retI (X : Stand p l e R s m args below meth c T locs cells slots) (hx : p.tables.exec = Jvm.exec) {pc : Nat} {Ls : Array Slot} {z : Int32} {rest : List Value} (hret : meth.sig.returnType = some .int) (hd : decode c.code pc = .ok (.ireturn, 1)) {fs : List Frame}
    (hl : ∀ (f : JFrame) (acts : List Action), f.method = m → f.locked = none → f.entered = [] → (doReturn e (T.setTop f) acts (some (.int z))).1 = T.setFrames fs) : Steps p.tables e below (T.setTop (mkF m pc Ls (.int z :: rest))) (T.setFrames fs) := by
  have hm' : T.vm.method? m = some meth := X.method'
  have hn : narrow .int (.int z) = .int z := rfl
  show Steps p.tables e below (T.setTop { method := m, pc := pc, locals := Ls, stack := _ :: rest, locked := none }) _
  jvm_step X.here [X.here.top, hx, hd, hm', hret, hn]
  first | (intro acts; rw [hl _ acts rfl rfl rfl]) | rw [hl _ _ rfl rfl rfl]
  exact Steps.refl _
end New
abbrev Go (p : Program) (e : Env) (below : List Frame) (T : State) (f : JFrame) (A : State) : Prop := ∀ t, Steps p.tables e below (T.setTop f) t → Steps p.tables e below A t
theorem own_retA (w : Value) (h : w.isRef = true) (t : FieldType) (ht : t.isReference = true) : narrow t w = w := by
  cases w <;> simp [Value.isRef] at h <;> cases t <;> simp [FieldType.isReference] at ht <;> rfl
theorem own_fitA (w : Value) (h : w.isRef = true) (t : FieldType) (ht : t.isReference = true) : fits t w = true := by
  cases w <;> simp [Value.isRef] at h <;> cases t <;> simp [FieldType.isReference] at ht <;> rfl
theorem own_narb (x : Int32) : nar .byte (x.toInt8.toInt32) = x.toInt8.toInt32 := by
  show x.toInt8.toInt32.toInt8.toInt32 = _
  simp
theorem own_ft_byte {z y : Int32} (e : nar .byte z = y) : fits .byte (.int y) = true := by rw [← e]; exact fits_nar_byte z
theorem own_ft_char {z y : Int32} (e : nar .char z = y) : fits .char (.int y) = true := by rw [← e]; exact fits_nar_char z
theorem own_ft_short {z y : Int32} (e : nar .short z = y) : fits .short (.int y) = true := by rw [← e]; exact fits_nar_short z
theorem own_ft_boolean {z y : Int32} (e : nar .boolean z = y) : fits .boolean (.int y) = true := by rw [← e]; exact fits_nar_bool z
theorem own_nw_byte {z y : Int32} (e : nar .byte z = y) : narrow .byte (.int z) = .int y := by rw [← e]; rfl
theorem own_nw_char {z y : Int32} (e : nar .char z = y) : narrow .char (.int z) = .int y := by rw [← e]; rfl
theorem own_nw_short {z y : Int32} (e : nar .short z = y) : narrow .short (.int z) = .int y := by rw [← e]; rfl
theorem own_nw_boolean {z y : Int32} (e : nar .boolean z = y) : narrow .boolean (.int z) = .int y := by rw [← e]; rfl
theorem own_narc (x : Int32) : nar .char (x.toUInt32.toUInt16.toUInt32.toInt32) = x.toUInt32.toUInt16.toUInt32.toInt32 := by
  show x.toUInt32.toUInt16.toUInt32.toInt32.toUInt32.toUInt16.toUInt32.toInt32 = _
  have q := c_i2c x
  have r := c_i2c x.toUInt32.toUInt16.toUInt32.toInt32
  apply Int32.toInt_inj.mp
  omega
theorem own_ext_refl {h : Heap} : Ext h h := ⟨Nat.le_refl _, fun _ _ q => q⟩
theorem own_ext_trans {h h' h2 : Heap} (A : Ext h h') (B : Ext h' h2) : Ext h h2 := ⟨Nat.le_trans A.1 B.1, fun a c q => B.2 a c (A.2 a c q)⟩
theorem own_ext_keep {h h' : Heap} (K : Keep h h' []) : Ext h h' := ⟨K.1, fun a c q => K.2.1 a c q nin0⟩
theorem own_lcmp_self (x : Int64) : lcmpW x x = (0 : Int32) := by rw [lcW]; exact (lc_eq x x).mpr rfl
theorem own_catV {v : Value} (h : v.isRef = true) : v.category = 1 := by cases v <;> simp [Value.isRef] at h <;> rfl
end Jvm.RoadKit
namespace Jvm.RoadKit
open Sem ClassFile Op Lib Jvm.Stand Jvm.Free Jvm.LawKit
theorem own_old_le {Z : State} {n0 : Nat} {h : Heap} (O : Old Z n0 h) : n0 ≤ h.size := O.1 ▸ O.2.1
theorem own_fld_int {args : Array Value} {s : State} {t : Term} {C n d : String} {k : Int32} {a : Addr} (h : (Cond.eq (.field t C n d) (.int k)).value args s none s [] = some true) (ev : t.eval args s none [] s = some (.ref a)) : Fld s s.heap a C n d (.int k) := by
  obtain ⟨x, y, h1, h2, -, k2⟩ := cmp_v (Or.inl h)
  cases h2.symm.trans (Term.int_eval k)
  obtain ⟨z, rfl⟩ := k2
  have e : z = k := gotT (Cond.eq_ints h1 h2) h
  subst e
  exact Fld.start ((fld_at ev).symm.trans h1)
theorem own_eqint {args : Array Value} {s : State} {t : Term} {k : Int32} (h : (Cond.eq t (.int k)).value args s none s [] = some true) : t.eval args s none [] s = some (.int k) := by
  obtain ⟨x, y, h1, h2, -, k2⟩ := cmp_v (Or.inl h)
  cases h2.symm.trans (Term.int_eval k)
  obtain ⟨z, rfl⟩ := k2
  have e : z = k := gotT (Cond.eq_ints h1 h2) h
  subst e
  exact h1
end Jvm.RoadKit
namespace Jvm.RoadKit
open Sem ClassFile Op Lib Jvm.Stand Jvm.Free Jvm.LawKit
theorem own_c255 (x : Int32) : ¬ ((255 : Int32) < ((x &&& (255 : Int32)).toUInt32.toUInt16.toUInt32.toInt32)) := by
  rw [i2c_mask, Int32.lt_iff_toInt_lt]
  have h : (x &&& 255).toInt ≤ 255 := (c_and x 255 (by decide)).2
  show ¬ (255 < (x &&& 255).toInt)
  omega
theorem own_c0 (x : Int32) : ¬ (((x &&& (255 : Int32)).toUInt32.toUInt16.toUInt32.toInt32) < (0 : Int32)) := by
  rw [i2c_mask, Int32.lt_iff_toInt_lt]
  have h : 0 ≤ (x &&& 255).toInt := (c_and x 255 (by decide)).1
  show ¬ ((x &&& 255).toInt < 0)
  omega
end Jvm.RoadKit
namespace Jvm.RoadKit
open Sem ClassFile Op Lib Jvm.Stand Jvm.Free Jvm.LawKit
theorem own_safe_null {Z : State} {EL : List (String × Nat)} {vm : Vm} {h : Heap} {x : Addr} (hal : Z.vm.Alike vm) (E : Exa Z h x "java/lang/String") (F : Fld Z h x "java/lang/String" "value" "[B" .null) : Safe Z EL vm h x := fun B => by
  obtain ⟨p, -, u, a, -, q, -, G, rfl | rfl⟩ := B
  · obtain ⟨cS, ⟨⟨s1, s2, s3, ⟨cv, kv, iv, s4, s4'⟩, -, s6, s7, s8, -⟩, hfS, hcS⟩, -⟩ := G
    obtain ⟨cell, cf, k, i, f, h1, h2, h3, h4, h5, h6, h7⟩ := F
    obtain ⟨k', z4⟩ := ff_back (U := Wst Z vm h) hal s4
    cases (show h[q.sa]? = some q.sC from s1).symm.trans h1
    cases h2.symm.trans z4
    cases h7.symm.trans s8
  · obtain ⟨cell, k, e1, e2, e3, -, -⟩ := E
    cases (show h[q.sd]? = some q.SA from G.hd).symm.trans e1
    obtain ⟨cS, -, -, f, -⟩ := G
    have f : vm.findClass "[B" = some q.SA.cls := f
    rw [hal.findClass] at f
    obtain ⟨k1, q1, q2⟩ := Vm.findClass_spec f
    obtain ⟨k2, q3, q4⟩ := Vm.findClass_spec e2
    cases q1.symm.trans q3
    exact absurd (q2.symm.trans q4) (by decide)
end Jvm.RoadKit
namespace Jvm.Pilot.@@N@@
open Jvm Jvm.ClassFile Sem Op Lib Jvm.Free Jvm.Stand Jvm.LawKit Jvm.RoadKit Bundle Jvm.Pilot.@@N@@.Jvm.D
theorem own_EW {Z : State} {a0 : Array Value} (hw : ∀ d ∈ tables_1, d.before a0 Z = true) : EW Z a0 consts_1 := (EW.cons (hw _ (List.mem_of_getElem? (i := 49) rfl)) (by decide) (EW.cons (hw _ (List.mem_of_getElem? (i := 96) rfl)) (by decide) EW.nil))
theorem own_wS {Z : State} {a0 : Array Value} (hw : ∀ d ∈ tables_1, d.before a0 Z = true) : ∀ a ∈ Bundle.stringAtoms, a.before a0 Z = true := by
  intro a ha
  simp only [Bundle.stringAtoms, Bundle.sN, List.mem_cons, List.not_mem_nil, or_false] at ha
  rcases ha with rfl | rfl | rfl | rfl | rfl | rfl | rfl
  · exact (hw _ (List.mem_of_getElem? (i := 6) rfl))
  · exact (hw _ (List.mem_of_getElem? (i := 5) rfl))
  · exact (hw _ (List.mem_of_getElem? (i := 23) rfl))
  · exact (hw _ (List.mem_of_getElem? (i := 33) rfl))
  · exact (hw _ (List.mem_of_getElem? (i := 31) rfl))
  · exact (hw _ (List.mem_of_getElem? (i := 50) rfl))
  · exact (hw _ (List.mem_of_getElem? (i := 51) rfl))
theorem own_compact {Z : State} {a0 : Array Value} (hsets : ∀ d ∈ jdkStatics_1, d.before a0 Z = true) : Jvm.Lit.compactW.before a0 Z = true := hsets _ (List.mem_of_getElem? (i := 2) rfl)
theorem d3_0 : decode jdk_42_method_149_code 0 = .ok (.aload_n 0, 1) := by decide +kernel
theorem d3_1 : decode jdk_42_method_149_code 1 = .ok (.invokespecial 1, 3) := by decide +kernel
theorem d3_4 : decode jdk_42_method_149_code 4 = .ok (.iload_n 3, 1) := by decide +kernel
theorem d3_5 : decode jdk_42_method_149_code 5 = .ok (.ifCond .ne 22, 3) := by decide +kernel
theorem d3_8 : decode jdk_42_method_149_code 8 = .ok (.aload_n 0, 1) := by decide +kernel
theorem d3_9 : decode jdk_42_method_149_code 9 = .ok (.ldc 7, 2) := by decide +kernel
theorem d3_11 : decode jdk_42_method_149_code 11 = .ok (.getfield 9, 3) := by decide +kernel
theorem d3_14 : decode jdk_42_method_149_code 14 = .ok (.putfield 9, 3) := by decide +kernel
theorem d3_17 : decode jdk_42_method_149_code 17 = .ok (.aload_n 0, 1) := by decide +kernel
theorem d3_18 : decode jdk_42_method_149_code 18 = .ok (.ldc 7, 2) := by decide +kernel
theorem d3_20 : decode jdk_42_method_149_code 20 = .ok (.getfield 15, 3) := by decide +kernel
theorem d3_23 : decode jdk_42_method_149_code 23 = .ok (.putfield 15, 3) := by decide +kernel
theorem d3_26 : decode jdk_42_method_149_code 26 = .ok (.return_, 1) := by decide +kernel
theorem pn_java_lang_String : plainName "java/lang/String" = true := by first | (simp [plainName, overriddenIn]; done) | decide +kernel
theorem ef_sin0 (m : MethodId) (x0 : Addr) (x1 : Addr) (x2 : Int32) (x3 : Int32)  : entryFrame m #[(.ref x0), (.ref x1), (.int x2), (.int x3), .null] 6 = mkF m 0 #[.val (.ref x0), .val (.ref x1), .val (.int x2), .val (.int x3), .val .null, .unset] [] := by first | (simp [entryFrame, mkF, argsToLocals, Value.category]; done) | rfl
def Q_sin0 (Z : State) (a1 : Addr) (s1 : Addr) (h0 : Heap) (n0 : Nat) (v : Option Value) (h : Heap) (L : List Loc) : Prop := ∃ (r : Addr), ∃ (kid : ClassId), v = none ∧ Fr n0 L ∧ Keep h0 h [a1] ∧ (Exa Z h a1 "java/lang/String") ∧ (Fld Z h a1 "java/lang/String" "coder" "B" (.int (0 : Int32))) ∧ (Fld Z h a1 "java/lang/String" "value" "[B" (.ref r)) ∧ (Arv Z h r kid .byte (0 : Int32) [] (.int (0 : Int32)))
set_option maxRecDepth 65536 in
set_option maxHeartbeats 40000000 in
theorem rm_sin0 (l : Launch) (Z : State) (a0 : Array Value) (hw : ∀ d ∈ tables_1, d.before a0 Z = true) (ws : List Jvm.Cond) (a1 : Addr) (s1 : Addr) (h0 : Heap) (n0 : Nat) (O0 : Old Z n0 h0) (F0_ : Fld Z h0 a1 "java/lang/String" "value" "[B" .null) (F1_ : Fld Z h0 a1 "java/lang/String" "coder" "B" (.int (0 : Int32))) (E2_ : Exa Z h0 a1 "java/lang/String") (G3_ : n0 ≤ a1) :
    MetFree l (⟨"java/lang/String", "<init>", "([CIILjava/lang/Void;)V"⟩ : MethodName) (head1 (Jvm.Cond.code (⟨"java/lang/String", "<init>", "([CIILjava/lang/Void;)V"⟩ : MethodName) jdk_42_method_149_code 6 none :: ws) ({ frames := 1, cells := 4, slots := 8, locals := 12 } : Room)) (fun a U => a = #[(.ref a1), (.ref s1), (.int (0 : Int32)), (.int (0 : Int32)), .null] ∧ Z.Warmed39 U.vm ∧ U.heap = h0 ∧ CHv Z consts_1 U.vm h0) (fun _ _ _ _ _ => True) (fun _ U o U' => ∃ v L, o = .returned v ∧ Q_sin0 Z a1 s1 h0 n0 v U'.heap L ∧ CHr Z consts_1 U.vm U.heap U'.vm U'.heap ∧ ReturnedEndW U o U' L ({ frames := 1, cells := 4, slots := 8, locals := 12 } : Room).cells ({ frames := 1, cells := 4, slots := 8, locals := 12 } : Room).slots) := by
  refine MetFree.of_bodySF (plainFor_of_name pn_java_lang_String) hisR ?_
  intro p e s m args below meth c s₁ Bd hml0 hP hK
  obtain ⟨rfl, hZ, hh, hC0⟩ := hP
  have hx := Bd.exec
  have hby := Bd.bytes
  have hml : c.maxLocals = 6 := hml0
  have hown : s.vm.findClass "java/lang/String" = some m.cls := findClass_of_methodNamed Bd.named
  have hnm := (name_of_methodNamed Bd.named Bd.method).1
  have X0 : Stand p l e ({ frames := 1, cells := 4, slots := 8, locals := 12 } : Room) (s.setVm s.vm) m #[(.ref a1), (.ref s1), (.int (0 : Int32)), (.int (0 : Int32)), .null] below meth c s₁ [] 0 0 := Stand.of_body Bd
  have e0 : s₁.heap = h0 := by rw [← hh, Bd.state]; rfl
  have N0 := Fr.nil n0
  have hS : s.Since s.vm 0 := (State.WarmedH.refl s).since 0
  have hk : 0 ≤ h0.size := Nat.zero_le _
  have hZ : Z.Warmed39 (s.setVm s.vm).vm := hZ
  have hown : (s.setVm s.vm).vm.findClass "java/lang/String" = some m.cls := hown
  have R0 : CHr Z consts_1 s.vm h0 s.vm h0 := CHr.refl hC0
  have g0 : Go p e below s₁ (mkF m 0 #[rv a1, rv s1, iv (0 : Int32), iv (0 : Int32), .val .null, .unset] []) (s₁.setTop (entryFrame m #[(.ref a1), (.ref s1), (.int (0 : Int32)), (.int (0 : Int32)), .null] 6)) := fun t kont => castTop (ef_sin0 m a1 s1 (0 : Int32) (0 : Int32) ) kont
  generalize s₁.setTop (entryFrame m #[(.ref a1), (.ref s1), (.int (0 : Int32)), (.int (0 : Int32)), .null] 6) = A0 at g0 ⊢
  have g101 : Go p e below s₁ (mkF m 1 #[rv a1, rv s1, iv (0 : Int32), iv (0 : Int32), .val .null, .unset] [(.ref a1)]) A0 := by
    intro t kont
    refine g0 t ?_
    refine XS.aloadN X0.here hx rfl (hb hby d3_0) rfl rfl ?_
    show Steps p.tables e below (s₁.setTop (mkF m 1 #[rv a1, rv s1, iv (0 : Int32), iv (0 : Int32), .val .null, .unset] [(.ref a1)])) _
    exact kont
  obtain ⟨T102, X102, e102, st102⟩ := initO X0 hx hZ hown (hw _ (List.mem_of_getElem? (i := 15) rfl)) (hw _ (List.mem_of_getElem? (i := 16) rfl)) (hw _ (List.mem_of_getElem? (i := 17) rfl)) e0 (g := (mkF m 1 #[rv a1, rv s1, iv (0 : Int32), iv (0 : Int32), .val .null, .unset] [(.ref a1)])) rfl (by rw [hml]; rfl) rfl (hb hby d3_1) (by decide) (W := 0) (by show 2 * 0 + _ ≤ _; exact Nat.le_of_eq rfl) (by decide)
  have g103 : Go p e below T102 (mkF m 4 #[rv a1, rv s1, iv (0 : Int32), iv (0 : Int32), .val .null, .unset] []) A0 := fun t kont => g101 t (st102 t kont)
  have g104 : Go p e below T102 (mkF m 9 #[rv a1, rv s1, iv (0 : Int32), iv (0 : Int32), .val .null, .unset] [(.ref a1)]) A0 := by
    intro t kont
    refine g103 t ?_
    refine XS.iloadN X102.here hx rfl (hb hby d3_4) rfl ?_
    show Steps p.tables e below (T102.setTop (mkF m 5 #[rv a1, rv s1, iv (0 : Int32), iv (0 : Int32), .val .null, .unset] [(.int (0 : Int32))])) _
    refine XS.ifNo X102.here hx rfl (hb hby d3_5) rfl ((if0 _ _).trans (teq (by decide : (0 : Int32) = (0 : Int32))).2) ?_
    show Steps p.tables e below (T102.setTop (mkF m 8 #[rv a1, rv s1, iv (0 : Int32), iv (0 : Int32), .val .null, .unset] [])) _
    refine XS.aloadN X102.here hx rfl (hb hby d3_8) rfl rfl ?_
    show Steps p.tables e below (T102.setTop (mkF m 9 #[rv a1, rv s1, iv (0 : Int32), iv (0 : Int32), .val .null, .unset] [(.ref a1)])) _
    exact kont
  have sf106 : Safe Z consts_1 s.vm h0 a1 := own_safe_null hZ.alike E2_ F0_
  obtain ⟨b105, T105, h105, k105, c105, kc105, X105, e105, E105, hS, hk, hZ, hown, A105, F105, G105, V105, la105, lb105, C105, -, ne105, st105⟩ := ldcCH X102 hx hZ hown (hw _ (List.mem_of_getElem? (i := 96) rfl)) (own_wS hw) e102 hS hk (own_EW hw) (List.mem_of_getElem? (i := 1) rfl) R0.1 (vs := []) (z := (0 : Int32)) ⟨by decide, by decide⟩ (by decide) rfl (g := (mkF m 9 #[rv a1, rv s1, iv (0 : Int32), iv (0 : Int32), .val .null, .unset] [(.ref a1)])) rfl (hb hby d3_9) (n := 0) (by decide) (by decide) (by decide) (by decide)
  have R107 : CHr Z consts_1 s.vm h0 T105.vm h105 := R0.trans C105
  have O108 := O0.ext E105
  have sf109 : Safe Z consts_1 T105.vm h105 a1 := (CHr.safe C105 F0_.lt sf106)
  have hn110 := ne105 a1 sf109
  have g111 : Go p e below T105 (mkF m 11 #[rv a1, rv s1, iv (0 : Int32), iv (0 : Int32), .val .null, .unset] [(.ref b105), (.ref a1)]) A0 := fun t kont => g104 t (st105 t kont)
  obtain ⟨T112, X112, e112, st112⟩ := getF X105 hx hZ hown (host := "") (Or.inl (hw _ (List.mem_of_getElem? (i := 32) rfl))) Via.refl e105 G105 (g := (mkF m 11 #[rv a1, rv s1, iv (0 : Int32), iv (0 : Int32), .val .null, .unset] [(.ref b105), (.ref a1)])) rfl rfl (hb hby d3_11)
  have g113 : Go p e below T112 (mkF m 14 #[rv a1, rv s1, iv (0 : Int32), iv (0 : Int32), .val .null, .unset] [(.ref c105), (.ref a1)]) A0 := fun t kont => g111 t (st112 t kont)
  have y114 : Exa Z h105 a1 "java/lang/String" := (E2_.ext E105)
  have y115 : Fld Z h105 a1 "java/lang/String" "value" "[B" .null := (F0_.ext E105)
  obtain ⟨T116, h116, X116, e116, W116, st116⟩ := putF X112 hx hZ hown (host := "") (Or.inl (hw _ (List.mem_of_getElem? (i := 32) rfl))) Via.refl e112 y115 y114 (Or.inr ⟨(hw _ (List.mem_of_getElem? (i := 33) rfl)), rfl, hnm⟩) (hw _ (List.mem_of_getElem? (i := 5) rfl)) (ty := (.array .byte)) (by decide) rfl rfl (g := (mkF m 14 #[rv a1, rv s1, iv (0 : Int32), iv (0 : Int32), .val .null, .unset] [(.ref c105), (.ref a1)])) rfl rfl (hb hby d3_14)
  have R117 : CHr Z consts_1 s.vm h0 T105.vm h116 := R107.trans (CHr.wr W116 sf109 R107.1)
  have O118 := O108.wr W116 G3_
  have y119 : Fld Z h116 a1 "java/lang/String" "value" "[B" (.ref c105) := y115.same W116
  have N116 := Fr.snoc X116 N0 G3_
  have g120 : Go p e below T116 (mkF m 17 #[rv a1, rv s1, iv (0 : Int32), iv (0 : Int32), .val .null, .unset] []) A0 := fun t kont => g113 t (st116 t kont)
  have g121 : Go p e below T116 (mkF m 18 #[rv a1, rv s1, iv (0 : Int32), iv (0 : Int32), .val .null, .unset] [(.ref a1)]) A0 := by
    intro t kont
    refine g120 t ?_
    refine XS.aloadN X116.here hx rfl (hb hby d3_17) rfl rfl ?_
    show Steps p.tables e below (T116.setTop (mkF m 18 #[rv a1, rv s1, iv (0 : Int32), iv (0 : Int32), .val .null, .unset] [(.ref a1)])) _
    exact kont
  obtain ⟨b122, T122, h122, k122, c122, kc122, X122, e122, E122, hS, hk, hZ, hown, A122, F122, G122, V122, la122, lb122, C122, -, ne122, st122⟩ := ldcCH X116 hx hZ hown (hw _ (List.mem_of_getElem? (i := 96) rfl)) (own_wS hw) e116 hS (Nat.le_trans hk (Keep.of_wr W116).1) (own_EW hw) (List.mem_of_getElem? (i := 1) rfl) R117.1 (vs := []) (z := (0 : Int32)) ⟨by decide, by decide⟩ (by decide) rfl (g := (mkF m 18 #[rv a1, rv s1, iv (0 : Int32), iv (0 : Int32), .val .null, .unset] [(.ref a1)])) rfl (hb hby d3_18) (n := 0) (by decide) (by decide) (by decide) (by decide)
  have R123 : CHr Z consts_1 s.vm h0 T122.vm h122 := R117.trans C122
  have O124 := O118.ext E122
  have sf125 : Safe Z consts_1 T122.vm h122 a1 := (CHr.safe C122 (Nat.lt_of_lt_of_le F0_.lt (Nat.le_trans E105.1 (Keep.of_wr W116).1)) (Safe.wr W116 sf109 R107.1 sf109))
  have hn126 := ne122 a1 sf125
  have g127 : Go p e below T122 (mkF m 20 #[rv a1, rv s1, iv (0 : Int32), iv (0 : Int32), .val .null, .unset] [(.ref b122), (.ref a1)]) A0 := fun t kont => g121 t (st122 t kont)
  obtain ⟨T128, X128, e128, st128⟩ := getF X122 hx hZ hown (host := "") (Or.inl (hw _ (List.mem_of_getElem? (i := 30) rfl))) Via.refl e122 F122 (g := (mkF m 20 #[rv a1, rv s1, iv (0 : Int32), iv (0 : Int32), .val .null, .unset] [(.ref b122), (.ref a1)])) rfl rfl (hb hby d3_20)
  have g129 : Go p e below T128 (mkF m 23 #[rv a1, rv s1, iv (0 : Int32), iv (0 : Int32), .val .null, .unset] [(.int (0 : Int32)), (.ref a1)]) A0 := fun t kont => g127 t (st128 t kont)
  have y130 : Exa Z h122 a1 "java/lang/String" := ((y114.wr W116).ext E122)
  have y131 : Fld Z h122 a1 "java/lang/String" "coder" "B" (.int (0 : Int32)) := (((F1_.ext E105).other W116 (Or.inr (slot_ne (Or.inr (hw _ (List.mem_of_getElem? (i := 31) rfl))) (Or.inr (hw _ (List.mem_of_getElem? (i := 33) rfl))) (by decide) (t := .byte) (t' := (.array .byte)) (by decide) (by decide)))).ext E122)
  obtain ⟨T132, h132, X132, e132, W132, st132⟩ := putFN X128 hx hZ hown (hw _ (List.mem_of_getElem? (i := 30) rfl)) Via.refl e128 y131 y130 (Or.inr ⟨(hw _ (List.mem_of_getElem? (i := 31) rfl)), rfl, hnm⟩) (hw _ (List.mem_of_getElem? (i := 5) rfl)) (ty := .byte) (v := (.int (0 : Int32))) (v' := (.int (0 : Int32))) (by decide) (own_nw_byte (by decide : nar .byte (0 : Int32) = (0 : Int32))) (own_ft_byte (by decide : nar .byte (0 : Int32) = (0 : Int32))) (g := (mkF m 23 #[rv a1, rv s1, iv (0 : Int32), iv (0 : Int32), .val .null, .unset] [(.int (0 : Int32)), (.ref a1)])) rfl rfl (hb hby d3_23)
  have R133 : CHr Z consts_1 s.vm h0 T122.vm h132 := R123.trans (CHr.wr W132 sf125 R123.1)
  have O134 := O124.wr W132 G3_
  have y135 : Fld Z h132 a1 "java/lang/String" "coder" "B" (.int (0 : Int32)) := y131.same W132
  have N132 := Fr.snoc X132 N116 G3_
  have g136 : Go p e below T132 (mkF m 26 #[rv a1, rv s1, iv (0 : Int32), iv (0 : Int32), .val .null, .unset] []) A0 := fun t kont => g129 t (st132 t kont)
  have K137 : Keep h0 h132 [a1] := (((((Keep.refl h0 [a1]).ext E105).wr W116 (Or.inl (List.mem_of_getElem? (i := 0) rfl))).ext E122).wr W132 (Or.inl (List.mem_of_getElem? (i := 0) rfl)))
  have y138 : Exa Z h132 a1 "java/lang/String" := (y130.wr W132)
  have y139 : Fld Z h132 a1 "java/lang/String" "value" "[B" (.ref c105) := ((y119.ext E122).other W132 (Or.inr (slot_ne (Or.inr (hw _ (List.mem_of_getElem? (i := 33) rfl))) (Or.inr (hw _ (List.mem_of_getElem? (i := 31) rfl))) (by decide) (t := (.array .byte)) (t' := .byte) (by decide) (by decide))))
  have y140 : Arv Z h132 c105 kc105 .byte (0 : Int32) [] (.int (0 : Int32)) := (((V105.other W116 (Ne.symm hn110.2)).ext E122).other W132 (Ne.symm hn110.2))
  obtain ⟨fs, hr, hrun, hended, hRW⟩ := X132.leaveW hS (by rw [e132]; exact (Nat.le_trans hk (Keep.of_wr W132).1)) (v := none) (fun _ => rfl)
  refine ⟨_, _, g136 _ (X132.returnOut hx Bd.returns (hb hby d3_26) hr), hrun, hended, _, _, rfl, ?_, ?_, hRW.1, hRW.2.1, hRW.2.2.1, hRW.2.2.2.mono (by decide) (by decide)⟩
  ·
    show Q_sin0 Z a1 s1 h0 n0 _ T132.heap _
    rw [e132]
    exact ⟨c105, kc105, rfl, N132, K137, y138, y135, y139, y140⟩
  ·
    rw [hh]
    show CHr Z consts_1 s.vm h0 T132.vm T132.heap
    rw [e132]
    exact R133.trans (CHv.at X132 hZ (own_EW hw) R133.1)
theorem d2_0 : decode jdk_42_method_3_code 0 = .ok (.aload_n 0, 1) := by decide +kernel
theorem d2_1 : decode jdk_42_method_3_code 1 = .ok (.aload_n 1, 1) := by decide +kernel
theorem d2_2 : decode jdk_42_method_3_code 2 = .ok (.iconst 0, 1) := by decide +kernel
theorem d2_3 : decode jdk_42_method_3_code 3 = .ok (.aload_n 1, 1) := by decide +kernel
theorem d2_4 : decode jdk_42_method_3_code 4 = .ok (.arraylength, 1) := by decide +kernel
theorem d2_5 : decode jdk_42_method_3_code 5 = .ok (.aconst_null, 1) := by decide +kernel
theorem d2_6 : decode jdk_42_method_3_code 6 = .ok (.invokespecial 27, 3) := by decide +kernel
theorem pd_0 : parseMethodDescriptor "([CIILjava/lang/Void;)V" = some ⟨[(.array .char), .int, .int, (.object "java/lang/Void")], none⟩ := by decide +kernel
theorem d2_9 : decode jdk_42_method_3_code 9 = .ok (.return_, 1) := by decide +kernel
theorem ef_sIni0 (m : MethodId) (x0 : Addr) (x1 : Addr)  : entryFrame m #[(.ref x0), (.ref x1)] 2 = mkF m 0 #[.val (.ref x0), .val (.ref x1)] [] := by first | (simp [entryFrame, mkF, argsToLocals, Value.category]; done) | rfl
def Q_sIni0 (Z : State) (a1 : Addr) (s1 : Addr) (ks : ClassId) (h0 : Heap) (n0 : Nat) (v : Option Value) (h : Heap) (L : List Loc) : Prop := ∃ (r : Addr), ∃ (kid : ClassId), v = none ∧ Fr n0 L ∧ Keep h0 h [a1] ∧ (Exa Z h a1 "java/lang/String") ∧ (Fld Z h a1 "java/lang/String" "coder" "B" (.int (0 : Int32))) ∧ (Fld Z h a1 "java/lang/String" "value" "[B" (.ref r)) ∧ (Arv Z h r kid .byte (0 : Int32) [] (.int (0 : Int32)))
set_option maxRecDepth 65536 in
set_option maxHeartbeats 40000000 in
theorem rm_sIni0 (l : Launch) (Z : State) (a0 : Array Value) (hw : ∀ d ∈ tables_1, d.before a0 Z = true) (ws : List Jvm.Cond) (a1 : Addr) (s1 : Addr) (ks : ClassId) (h0 : Heap) (n0 : Nat) (O0 : Old Z n0 h0) (F0_ : Fld Z h0 a1 "java/lang/String" "value" "[B" .null) (F1_ : Fld Z h0 a1 "java/lang/String" "coder" "B" (.int (0 : Int32))) (E2_ : Exa Z h0 a1 "java/lang/String") (G3_ : n0 ≤ a1) (A4_ : Arv Z h0 s1 ks .char (0 : Int32) [] (.int (0 : Int32))) :
    MetFree l (⟨"java/lang/String", "<init>", "([C)V"⟩ : MethodName) (head1 (Jvm.Cond.code (⟨"java/lang/String", "<init>", "([C)V"⟩ : MethodName) jdk_42_method_3_code 2 none :: ws) ({ frames := 2, cells := 4, slots := 8, locals := 29 } : Room)) (fun a U => a = #[(.ref a1), (.ref s1)] ∧ Z.Warmed39 U.vm ∧ U.heap = h0 ∧ CHv Z consts_1 U.vm h0) (fun _ _ _ _ _ => True) (fun _ U o U' => ∃ v L, o = .returned v ∧ Q_sIni0 Z a1 s1 ks h0 n0 v U'.heap L ∧ CHr Z consts_1 U.vm U.heap U'.vm U'.heap ∧ ReturnedEndW U o U' L ({ frames := 2, cells := 4, slots := 8, locals := 29 } : Room).cells ({ frames := 2, cells := 4, slots := 8, locals := 29 } : Room).slots) := by
  refine MetFree.of_bodySF (plainFor_of_name pn_java_lang_String) hisR ?_
  intro p e s m args below meth c s₁ Bd hml0 hP hK
  obtain ⟨rfl, hZ, hh, hC0⟩ := hP
  have hx := Bd.exec
  have hby := Bd.bytes
  have hml : c.maxLocals = 2 := hml0
  have hown : s.vm.findClass "java/lang/String" = some m.cls := findClass_of_methodNamed Bd.named
  have hnm := (name_of_methodNamed Bd.named Bd.method).1
  have X0 : Stand p l e ({ frames := 2, cells := 4, slots := 8, locals := 29 } : Room) (s.setVm s.vm) m #[(.ref a1), (.ref s1)] below meth c s₁ [] 0 0 := Stand.of_body Bd
  have e0 : s₁.heap = h0 := by rw [← hh, Bd.state]; rfl
  have N0 := Fr.nil n0
  have hS : s.Since s.vm 0 := (State.WarmedH.refl s).since 0
  have hk : 0 ≤ h0.size := Nat.zero_le _
  have hZ : Z.Warmed39 (s.setVm s.vm).vm := hZ
  have hown : (s.setVm s.vm).vm.findClass "java/lang/String" = some m.cls := hown
  have R0 : CHr Z consts_1 s.vm h0 s.vm h0 := CHr.refl hC0
  have g0 : Go p e below s₁ (mkF m 0 #[rv a1, rv s1] []) (s₁.setTop (entryFrame m #[(.ref a1), (.ref s1)] 2)) := fun t kont => castTop (ef_sIni0 m a1 s1 ) kont
  generalize s₁.setTop (entryFrame m #[(.ref a1), (.ref s1)] 2) = A0 at g0 ⊢
  have g101 : Go p e below s₁ (mkF m 4 #[rv a1, rv s1] [(.ref s1), (.int (0 : Int32)), (.ref s1), (.ref a1)]) A0 := by
    intro t kont
    refine g0 t ?_
    refine XS.aloadN X0.here hx rfl (hb hby d2_0) rfl rfl ?_
    show Steps p.tables e below (s₁.setTop (mkF m 1 #[rv a1, rv s1] [(.ref a1)])) _
    refine XS.aloadN X0.here hx rfl (hb hby d2_1) rfl rfl ?_
    show Steps p.tables e below (s₁.setTop (mkF m 2 #[rv a1, rv s1] [(.ref s1), (.ref a1)])) _
    refine XS.iconst X0.here hx rfl (hb hby d2_2) ?_
    show Steps p.tables e below (s₁.setTop (mkF m 3 #[rv a1, rv s1] [(.int (0 : Int32)), (.ref s1), (.ref a1)])) _
    refine XS.aloadN X0.here hx rfl (hb hby d2_3) rfl rfl ?_
    show Steps p.tables e below (s₁.setTop (mkF m 4 #[rv a1, rv s1] [(.ref s1), (.int (0 : Int32)), (.ref s1), (.ref a1)])) _
    exact kont
  have zz102 := A4_
  obtain ⟨cl102, Ar102, -, S102, M102, -, -⟩ := zz102
  have g103 : Go p e below s₁ (mkF m 5 #[rv a1, rv s1] [(.int (0 : Int32)), (.int (0 : Int32)), (.ref s1), (.ref a1)]) A0 := by
    intro t kont
    refine g101 t ?_
    refine X0.arraylength hx (by rw [e0]; exact Ar102.1) (State.isArrayOf_alike hZ.alike Ar102.2.1) (g := (mkF m 4 #[rv a1, rv s1] [(.ref s1), (.int (0 : Int32)), (.ref s1), (.ref a1)])) rfl rfl (hb hby d2_4) _ ?_
    rw [len_of S102 M102]
    exact kont
  have g104 : Go p e below s₁ (mkF m 6 #[rv a1, rv s1] [.null, (.int (0 : Int32)), (.int (0 : Int32)), (.ref s1), (.ref a1)]) A0 := by
    intro t kont
    refine g103 t ?_
    refine XS.aconstNull X0.here hx rfl (hb hby d2_5) ?_
    show Steps p.tables e below (s₁.setTop (mkF m 6 #[rv a1, rv s1] [.null, (.int (0 : Int32)), (.int (0 : Int32)), (.ref s1), (.ref a1)])) _
    exact kont
  obtain ⟨_, _, ⟨T105, L105, k105, n105⟩, -, X105, hS105, hg105, ⟨Lc105, hQ105, l105, y105, z105, C105⟩, st105⟩ := X0.specialBackS hx (y := (⟨"java/lang/String", "<init>", "([CIILjava/lang/Void;)V"⟩ : MethodName)) rfl hown (mvT hZ (hw _ (List.mem_of_getElem? (i := 11) rfl))) (mvT hZ (hw _ (List.mem_of_getElem? (i := 12) rfl))) (mvT hZ (hw _ (List.mem_of_getElem? (i := 14) rfl))) (by decide) (backOfSH (W := 0) (rm_sin0 l Z a0 hw [] a1 s1 h0 n0 O0 F0_ F1_ E2_ G3_) hZ (hw _ (List.mem_of_getElem? (i := 14) rfl)) (hw _ (List.mem_of_getElem? (i := 6) rfl)) (by decide) (by decide) (own_EW hw) R0.1) (g := (mkF m 6 #[rv a1, rv s1] [.null, (.int (0 : Int32)), (.int (0 : Int32)), (.ref s1), (.ref a1)])) rfl (by rw [hml]; rfl) (Steps.refl _) (a := a1) (argsL := [(.ref s1), (.int (0 : Int32)), (.int (0 : Int32)), .null]) (rest := []) (lenOf pd_0 rfl) rfl (by show 2 * 0 + _ ≤ _; exact Nat.le_of_eq rfl) (hb hby d2_6) (fun _ _ => ⟨rfl, e0, (by decide : 0 + 4 ≤ _), (by decide : 0 + 8 ≤ _)⟩)
  dsimp only [Pt.U, Pt.locs, Pt.cells, Pt.slots] at X105 l105 y105 z105 st105 hQ105 hS105 hg105 C105
  subst l105 y105 z105
  obtain ⟨X105, hS, hZ, hown⟩ := rebS hS (n1 := s₁.heap.size) (by rw [e0]; exact hk) X105 hS105 hg105 hZ hown
  obtain ⟨r106, r107, rfl, M105, K105, y108, y109, y110, y111⟩ := hQ105
  have N105 := Fr.app N0 M105
  have R112 : CHr Z consts_1 s.vm h0 T105.vm T105.heap := R0.trans C105
  have O113 := O0.keep K105 (allS G3_ all0)
  have g114 : Go p e below T105 (mkF m 9 #[rv a1, rv s1] []) A0 := fun t kont => g104 t (st105.trans kont)
  have K115 : Keep h0 T105.heap [a1] := ((Keep.refl h0 [a1]).trans K105 (allS (P := fun x => x ∈ [a1] ∨ h0.size ≤ x) (Or.inl (List.mem_of_getElem? (i := 0) rfl)) all0))
  obtain ⟨fs, hr, hrun, hended, hRW⟩ := X105.leaveW hS (Nat.le_refl _) (v := none) (fun _ => rfl)
  refine ⟨_, _, g114 _ (X105.returnOut hx Bd.returns (hb hby d2_9) hr), hrun, hended, _, _, rfl, ?_, ?_, hRW.1, hRW.2.1, hRW.2.2.1, hRW.2.2.2.mono (by decide) (by decide)⟩
  ·
    show Q_sIni0 Z a1 s1 ks h0 n0 _ T105.heap _
    exact ⟨r106, r107, rfl, N105, K115, y108, y109, y110, y111⟩
  ·
    rw [hh]
    show CHr Z consts_1 s.vm h0 T105.vm T105.heap
    exact R112.trans (CHv.at X105 hZ (own_EW hw) R112.1)
theorem d6_0 : decode jdk_52_method_21_code 0 = .ok (.iconst 0, 1) := by decide +kernel
theorem d6_1 : decode jdk_52_method_21_code 1 = .ok (.istore 5, 2) := by decide +kernel
theorem d6_3 : decode jdk_52_method_21_code 3 = .ok (.iload 5, 2) := by decide +kernel
theorem d6_5 : decode jdk_52_method_21_code 5 = .ok (.iload 4, 2) := by decide +kernel
theorem d6_7 : decode jdk_52_method_21_code 7 = .ok (.if_icmp .ge 37, 3) := by decide +kernel
theorem d6_10 : decode jdk_52_method_21_code 10 = .ok (.aload_n 0, 1) := by decide +kernel
theorem d6_11 : decode jdk_52_method_21_code 11 = .ok (.iload_n 1, 1) := by decide +kernel
theorem d6_12 : decode jdk_52_method_21_code 12 = .ok (.caload, 1) := by decide +kernel
theorem d6_13 : decode jdk_52_method_21_code 13 = .ok (.istore 6, 2) := by decide +kernel
theorem d6_15 : decode jdk_52_method_21_code 15 = .ok (.iload 6, 2) := by decide +kernel
theorem d6_17 : decode jdk_52_method_21_code 17 = .ok (.sipush 255, 3) := by decide +kernel
theorem d6_20 : decode jdk_52_method_21_code 20 = .ok (.if_icmp .le 6, 3) := by decide +kernel
theorem d6_26 : decode jdk_52_method_21_code 26 = .ok (.aload_n 2, 1) := by decide +kernel
theorem d6_27 : decode jdk_52_method_21_code 27 = .ok (.iload_n 3, 1) := by decide +kernel
theorem d6_28 : decode jdk_52_method_21_code 28 = .ok (.iload 6, 2) := by decide +kernel
theorem d6_30 : decode jdk_52_method_21_code 30 = .ok (.i2b, 1) := by decide +kernel
theorem d6_31 : decode jdk_52_method_21_code 31 = .ok (.bastore, 1) := by decide +kernel
theorem d6_32 : decode jdk_52_method_21_code 32 = .ok (.iinc 1 1, 3) := by decide +kernel
theorem d6_35 : decode jdk_52_method_21_code 35 = .ok (.iinc 3 1, 3) := by decide +kernel
theorem d6_38 : decode jdk_52_method_21_code 38 = .ok (.iinc 5 1, 3) := by decide +kernel
theorem d6_41 : decode jdk_52_method_21_code 41 = .ok (.goto (-38), 3) := by decide +kernel
theorem d6_44 : decode jdk_52_method_21_code 44 = .ok (.iload 4, 2) := by decide +kernel
theorem d6_46 : decode jdk_52_method_21_code 46 = .ok (.ireturn, 1) := by decide +kernel
theorem pn_java_lang_StringUTF16 : plainName "java/lang/StringUTF16" = true := by first | (simp [plainName, overriddenIn]; done) | decide +kernel
theorem ef_cmp1 (m : MethodId) (x0 : Addr) (x1 : Int32) (x2 : Addr) (x3 : Int32) (x4 : Int32)  : entryFrame m #[(.ref x0), (.int x1), (.ref x2), (.int x3), (.int x4)] 7 = mkF m 0 #[.val (.ref x0), .val (.int x1), .val (.ref x2), .val (.int x3), .val (.int x4), .unset, .unset] [] := by first | (simp [entryFrame, mkF, argsToLocals, Value.category]; done) | rfl
def Q_cmp1 (Z : State) (s1 : Addr) (d1 : Addr) (ks : ClassId) (kd : ClassId) (c0_ : Int32) (h0 : Heap) (n0 : Nat) (v : Option Value) (h : Heap) (L : List Loc) : Prop := v = some (.int (1 : Int32)) ∧ Fr n0 L ∧ Keep h0 h [d1] ∧ (Arv Z h d1 kd .byte (1 : Int32) [(.int (c0_.toInt8.toInt32))] (.int (0 : Int32)))
set_option maxRecDepth 65536 in
set_option maxHeartbeats 40000000 in
theorem rm_cmp1 (l : Launch) (Z : State) (a0 : Array Value) (hw : ∀ d ∈ tables_1, d.before a0 Z = true) (ws : List Jvm.Cond) (s1 : Addr) (d1 : Addr) (ks : ClassId) (kd : ClassId) (c0_ : Int32) (h0 : Heap) (n0 : Nat) (O0 : Old Z n0 h0) (A0_ : Arv Z h0 s1 ks .char (1 : Int32) [(.int c0_)] (.int (0 : Int32))) (A1_ : Arv Z h0 d1 kd .byte (1 : Int32) [(.int (0 : Int32))] (.int (0 : Int32))) (G2_ : n0 ≤ d1) (NE3_ : ¬ (s1 = d1)) (hc0 : ¬ ((255 : Int32) < c0_)) :
    MetFree l (⟨"java/lang/StringUTF16", "compress", "([CI[BII)I"⟩ : MethodName) (head1 (Jvm.Cond.code (⟨"java/lang/StringUTF16", "compress", "([CI[BII)I"⟩ : MethodName) jdk_52_method_21_code 7 (some .int) :: ws) ({ frames := 0, cells := 0, slots := 0, locals := 0 } : Room)) (fun a U => a = #[(.ref s1), (.int (0 : Int32)), (.ref d1), (.int (0 : Int32)), (.int (1 : Int32))] ∧ Z.Warmed39 U.vm ∧ U.heap = h0) (fun _ _ _ _ _ => True) (fun _ U o U' => ∃ v L, o = .returned v ∧ Q_cmp1 Z s1 d1 ks kd c0_ h0 n0 v U'.heap L ∧ FrameEnd U o U' L ({ frames := 0, cells := 0, slots := 0, locals := 0 } : Room).cells ({ frames := 0, cells := 0, slots := 0, locals := 0 } : Room).slots) := by
  refine MetFree.of_bodySF (plainFor_of_name pn_java_lang_StringUTF16) hisR ?_
  intro p e s m args below meth c s₁ Bd hml0 hP hK
  obtain ⟨rfl, hZ, hh⟩ := hP
  have hx := Bd.exec
  have hby := Bd.bytes
  have hml : c.maxLocals = 7 := hml0
  have hown : s.vm.findClass "java/lang/StringUTF16" = some m.cls := findClass_of_methodNamed Bd.named
  have hnm := (name_of_methodNamed Bd.named Bd.method).1
  have X0 : Stand p l e ({ frames := 0, cells := 0, slots := 0, locals := 0 } : Room) s m #[(.ref s1), (.int (0 : Int32)), (.ref d1), (.int (0 : Int32)), (.int (1 : Int32))] below meth c s₁ [] 0 0 := Stand.of_body Bd
  have e0 : s₁.heap = h0 := by rw [← hh, Bd.state]; rfl
  have N0 := Fr.nil n0
  have g0 : Go p e below s₁ (mkF m 0 #[rv s1, iv (0 : Int32), rv d1, iv (0 : Int32), iv (1 : Int32), .unset, .unset] []) (s₁.setTop (entryFrame m #[(.ref s1), (.int (0 : Int32)), (.ref d1), (.int (0 : Int32)), (.int (1 : Int32))] 7)) := fun t kont => castTop (ef_cmp1 m s1 (0 : Int32) d1 (0 : Int32) (1 : Int32) ) kont
  generalize s₁.setTop (entryFrame m #[(.ref s1), (.int (0 : Int32)), (.ref d1), (.int (0 : Int32)), (.int (1 : Int32))] 7) = A0 at g0 ⊢
  have g101 : Go p e below s₁ (mkF m 12 #[rv s1, iv (0 : Int32), rv d1, iv (0 : Int32), iv (1 : Int32), iv (0 : Int32), .unset] [(.int (0 : Int32)), (.ref s1)]) A0 := by
    intro t kont
    refine g0 t ?_
    refine XS.iconst X0.here hx rfl (hb hby d6_0) ?_
    show Steps p.tables e below (s₁.setTop (mkF m 1 #[rv s1, iv (0 : Int32), rv d1, iv (0 : Int32), iv (1 : Int32), .unset, .unset] [(.int (0 : Int32))])) _
    refine XS.istore X0.here hx rfl (hb hby d6_1) rfl (l' := #[rv s1, iv (0 : Int32), rv d1, iv (0 : Int32), iv (1 : Int32), iv (0 : Int32), .unset]) rfl ?_
    show Steps p.tables e below (s₁.setTop (mkF m 3 #[rv s1, iv (0 : Int32), rv d1, iv (0 : Int32), iv (1 : Int32), iv (0 : Int32), .unset] [])) _
    refine XS.iload X0.here hx rfl (hb hby d6_3) rfl ?_
    show Steps p.tables e below (s₁.setTop (mkF m 5 #[rv s1, iv (0 : Int32), rv d1, iv (0 : Int32), iv (1 : Int32), iv (0 : Int32), .unset] [(.int (0 : Int32))])) _
    refine XS.iload X0.here hx rfl (hb hby d6_5) rfl ?_
    show Steps p.tables e below (s₁.setTop (mkF m 7 #[rv s1, iv (0 : Int32), rv d1, iv (0 : Int32), iv (1 : Int32), iv (0 : Int32), .unset] [(.int (1 : Int32)), (.int (0 : Int32))])) _
    refine XS.icmpNo X0.here hx rfl (hb hby d6_7) rfl (tlt (by decide : (0 : Int32) < (1 : Int32))).2.1 ?_
    show Steps p.tables e below (s₁.setTop (mkF m 10 #[rv s1, iv (0 : Int32), rv d1, iv (0 : Int32), iv (1 : Int32), iv (0 : Int32), .unset] [])) _
    refine XS.aloadN X0.here hx rfl (hb hby d6_10) rfl rfl ?_
    show Steps p.tables e below (s₁.setTop (mkF m 11 #[rv s1, iv (0 : Int32), rv d1, iv (0 : Int32), iv (1 : Int32), iv (0 : Int32), .unset] [(.ref s1)])) _
    refine XS.iloadN X0.here hx rfl (hb hby d6_11) rfl ?_
    show Steps p.tables e below (s₁.setTop (mkF m 12 #[rv s1, iv (0 : Int32), rv d1, iv (0 : Int32), iv (1 : Int32), iv (0 : Int32), .unset] [(.int (0 : Int32)), (.ref s1)])) _
    exact kont
  have zz102 := A0_
  obtain ⟨cl102, Ar102, q102, S102, M102, H102, G102⟩ := zz102
  have in102 : ¬ ((0 : Int32) < 0 ∨ cl102.slots.size ≤ ((0 : Int32)).toNatClampNeg) := inb_of S102 ⟨by decide, by decide⟩
  have at102 : cl102.slots[((0 : Int32)).toNatClampNeg]? = some (.int c0_) := Has.at H102 in102 rfl
  have g103 : Go p e below s₁ (mkF m 13 #[rv s1, iv (0 : Int32), rv d1, iv (0 : Int32), iv (1 : Int32), iv (0 : Int32), .unset] [(.int c0_)]) A0 := fun t kont => g101 t (X0.caload hx (j := (0 : Int32)) (v := (.int c0_)) (by rw [e0]; exact Ar102.1) (State.isArrayOf_alike hZ.alike Ar102.2.1) Ar102.2.2 in102 at102 (g := (mkF m 12 #[rv s1, iv (0 : Int32), rv d1, iv (0 : Int32), iv (1 : Int32), iv (0 : Int32), .unset] [(.int (0 : Int32)), (.ref s1)])) rfl rfl (hb hby d6_12) t kont)
  have g104 : Go p e below s₁ (mkF m 31 #[rv s1, iv (0 : Int32), rv d1, iv (0 : Int32), iv (1 : Int32), iv (0 : Int32), iv c0_] [(.int (c0_.toInt8.toInt32)), (.int (0 : Int32)), (.ref d1)]) A0 := by
    intro t kont
    refine g103 t ?_
    refine XS.istore X0.here hx rfl (hb hby d6_13) rfl (l' := #[rv s1, iv (0 : Int32), rv d1, iv (0 : Int32), iv (1 : Int32), iv (0 : Int32), iv c0_]) rfl ?_
    show Steps p.tables e below (s₁.setTop (mkF m 15 #[rv s1, iv (0 : Int32), rv d1, iv (0 : Int32), iv (1 : Int32), iv (0 : Int32), iv c0_] [])) _
    refine XS.iload X0.here hx rfl (hb hby d6_15) rfl ?_
    show Steps p.tables e below (s₁.setTop (mkF m 17 #[rv s1, iv (0 : Int32), rv d1, iv (0 : Int32), iv (1 : Int32), iv (0 : Int32), iv c0_] [(.int c0_)])) _
    refine XS.sipush X0.here hx rfl (hb hby d6_17) ?_
    show Steps p.tables e below (s₁.setTop (mkF m 20 #[rv s1, iv (0 : Int32), rv d1, iv (0 : Int32), iv (1 : Int32), iv (0 : Int32), iv c0_] [(.int (255 : Int32)), (.int c0_)])) _
    refine XS.icmpYes X0.here hx rfl (pc0 := 20) (pc' := 26) rfl (hb hby d6_20) rfl (flt hc0).2.2.2 (by decide) (by decide) ?_
    show Steps p.tables e below (s₁.setTop (mkF m 26 #[rv s1, iv (0 : Int32), rv d1, iv (0 : Int32), iv (1 : Int32), iv (0 : Int32), iv c0_] [])) _
    refine XS.aloadN X0.here hx rfl (hb hby d6_26) rfl rfl ?_
    show Steps p.tables e below (s₁.setTop (mkF m 27 #[rv s1, iv (0 : Int32), rv d1, iv (0 : Int32), iv (1 : Int32), iv (0 : Int32), iv c0_] [(.ref d1)])) _
    refine XS.iloadN X0.here hx rfl (hb hby d6_27) rfl ?_
    show Steps p.tables e below (s₁.setTop (mkF m 28 #[rv s1, iv (0 : Int32), rv d1, iv (0 : Int32), iv (1 : Int32), iv (0 : Int32), iv c0_] [(.int (0 : Int32)), (.ref d1)])) _
    refine XS.iload X0.here hx rfl (hb hby d6_28) rfl ?_
    show Steps p.tables e below (s₁.setTop (mkF m 30 #[rv s1, iv (0 : Int32), rv d1, iv (0 : Int32), iv (1 : Int32), iv (0 : Int32), iv c0_] [(.int c0_), (.int (0 : Int32)), (.ref d1)])) _
    refine XS.i2b X0.here hx rfl (hb hby d6_30) rfl ?_
    show Steps p.tables e below (s₁.setTop (mkF m 31 #[rv s1, iv (0 : Int32), rv d1, iv (0 : Int32), iv (1 : Int32), iv (0 : Int32), iv c0_] [(.int (c0_.toInt8.toInt32)), (.int (0 : Int32)), (.ref d1)])) _
    exact kont
  have zz105 := A1_
  obtain ⟨cl105, Ar105, q105, S105, M105, H105, G105⟩ := zz105
  have in105 : ¬ ((0 : Int32) < 0 ∨ cl105.slots.size ≤ ((0 : Int32)).toNatClampNeg) := inb_of S105 ⟨by decide, by decide⟩
  obtain ⟨T105, h105, X105, e105, W105, st105⟩ := stB X0 hx hZ e0 Ar105 (j := (0 : Int32)) in105 (g := (mkF m 31 #[rv s1, iv (0 : Int32), rv d1, iv (0 : Int32), iv (1 : Int32), iv (0 : Int32), iv c0_] [(.int (c0_.toInt8.toInt32)), (.int (0 : Int32)), (.ref d1)])) rfl rfl (hb hby d6_31)
  rw [show nar .byte (c0_.toInt8.toInt32) = (c0_.toInt8.toInt32) from (own_narb _)] at W105
  have O106 := O0.wr W105 G2_
  have y107 : Arv Z h105 d1 kd .byte (1 : Int32) [(.int (c0_.toInt8.toInt32))] (.int (0 : Int32)) := Arv.set Ar105 q105 S105 M105 H105 G105 (own_ft_byte (z := (c0_.toInt8.toInt32)) (own_narb _)) W105 0 rfl (Nat.le_of_ble_eq_true rfl)
  have N105 := Fr.snoc X105 N0 G2_
  have g108 : Go p e below T105 (mkF m 32 #[rv s1, iv (0 : Int32), rv d1, iv (0 : Int32), iv (1 : Int32), iv (0 : Int32), iv c0_] []) A0 := fun t kont => g104 t (st105 t kont)
  have g109 : Go p e below T105 (mkF m 46 #[rv s1, iv (1 : Int32), rv d1, iv (1 : Int32), iv (1 : Int32), iv (1 : Int32), iv c0_] [(.int (1 : Int32))]) A0 := by
    intro t kont
    refine g108 t ?_
    refine XS.iinc X105.here hx rfl (hb hby d6_32) rfl (l' := #[rv s1, iv (1 : Int32), rv d1, iv (0 : Int32), iv (1 : Int32), iv (0 : Int32), iv c0_]) rfl ?_
    show Steps p.tables e below (T105.setTop (mkF m 35 #[rv s1, iv (1 : Int32), rv d1, iv (0 : Int32), iv (1 : Int32), iv (0 : Int32), iv c0_] [])) _
    refine XS.iinc X105.here hx rfl (hb hby d6_35) rfl (l' := #[rv s1, iv (1 : Int32), rv d1, iv (1 : Int32), iv (1 : Int32), iv (0 : Int32), iv c0_]) rfl ?_
    show Steps p.tables e below (T105.setTop (mkF m 38 #[rv s1, iv (1 : Int32), rv d1, iv (1 : Int32), iv (1 : Int32), iv (0 : Int32), iv c0_] [])) _
    refine XS.iinc X105.here hx rfl (hb hby d6_38) rfl (l' := #[rv s1, iv (1 : Int32), rv d1, iv (1 : Int32), iv (1 : Int32), iv (1 : Int32), iv c0_]) rfl ?_
    show Steps p.tables e below (T105.setTop (mkF m 41 #[rv s1, iv (1 : Int32), rv d1, iv (1 : Int32), iv (1 : Int32), iv (1 : Int32), iv c0_] [])) _
    refine XS.goto X105.here hx rfl (pc0 := 41) (pc' := 3) rfl (hb hby d6_41) (by decide) (by decide) ?_
    show Steps p.tables e below (T105.setTop (mkF m 3 #[rv s1, iv (1 : Int32), rv d1, iv (1 : Int32), iv (1 : Int32), iv (1 : Int32), iv c0_] [])) _
    refine XS.iload X105.here hx rfl (hb hby d6_3) rfl ?_
    show Steps p.tables e below (T105.setTop (mkF m 5 #[rv s1, iv (1 : Int32), rv d1, iv (1 : Int32), iv (1 : Int32), iv (1 : Int32), iv c0_] [(.int (1 : Int32))])) _
    refine XS.iload X105.here hx rfl (hb hby d6_5) rfl ?_
    show Steps p.tables e below (T105.setTop (mkF m 7 #[rv s1, iv (1 : Int32), rv d1, iv (1 : Int32), iv (1 : Int32), iv (1 : Int32), iv c0_] [(.int (1 : Int32)), (.int (1 : Int32))])) _
    refine XS.icmpYes X105.here hx rfl (pc0 := 7) (pc' := 44) rfl (hb hby d6_7) rfl (flt (by decide : ¬ ((1 : Int32) < (1 : Int32)))).2.1 (by decide) (by decide) ?_
    show Steps p.tables e below (T105.setTop (mkF m 44 #[rv s1, iv (1 : Int32), rv d1, iv (1 : Int32), iv (1 : Int32), iv (1 : Int32), iv c0_] [])) _
    refine XS.iload X105.here hx rfl (hb hby d6_44) rfl ?_
    show Steps p.tables e below (T105.setTop (mkF m 46 #[rv s1, iv (1 : Int32), rv d1, iv (1 : Int32), iv (1 : Int32), iv (1 : Int32), iv c0_] [(.int (1 : Int32))])) _
    exact kont
  have K110 : Keep h0 h105 [d1] := ((Keep.refl h0 [d1]).wr W105 (Or.inl (List.mem_of_getElem? (i := 0) rfl)))
  obtain ⟨fs, hr, hrun, hended, hW, hsame⟩ := X105.leave (v := some (.int (1 : Int32))) (fun h => by rw [Bd.returns] at h; cases h)
  refine ⟨_, _, g109 _ (retI X105 hx Bd.returns (hb hby d6_46) hr), hrun, hended, _, _, rfl, ?_, ⟨_, rfl⟩, hW, hsame.mono (by decide) (by decide)⟩
  show Q_cmp1 Z s1 d1 ks kd c0_ h0 n0 _ T105.heap _
  rw [e105]
  exact ⟨rfl, N105, K110, y107⟩
theorem d5_0 : decode jdk_52_method_16_code 0 = .ok (.iload_n 2, 1) := by decide +kernel
theorem d5_1 : decode jdk_52_method_16_code 1 = .ok (.newarray .byte, 2) := by decide +kernel
theorem d5_3 : decode jdk_52_method_16_code 3 = .ok (.astore_n 3, 1) := by decide +kernel
theorem d5_4 : decode jdk_52_method_16_code 4 = .ok (.aload_n 0, 1) := by decide +kernel
theorem d5_5 : decode jdk_52_method_16_code 5 = .ok (.iload_n 1, 1) := by decide +kernel
theorem d5_6 : decode jdk_52_method_16_code 6 = .ok (.aload_n 3, 1) := by decide +kernel
theorem d5_7 : decode jdk_52_method_16_code 7 = .ok (.iconst 0, 1) := by decide +kernel
theorem d5_8 : decode jdk_52_method_16_code 8 = .ok (.iload_n 2, 1) := by decide +kernel
theorem d5_9 : decode jdk_52_method_16_code 9 = .ok (.invokestatic 115, 3) := by decide +kernel
theorem pd_1 : parseMethodDescriptor "([CI[BII)I" = some ⟨[(.array .char), .int, (.array .byte), .int, .int], some .int⟩ := by decide +kernel
theorem d5_12 : decode jdk_52_method_16_code 12 = .ok (.istore 4, 2) := by decide +kernel
theorem d5_14 : decode jdk_52_method_16_code 14 = .ok (.iload 4, 2) := by decide +kernel
theorem d5_16 : decode jdk_52_method_16_code 16 = .ok (.iload_n 2, 1) := by decide +kernel
theorem d5_17 : decode jdk_52_method_16_code 17 = .ok (.if_icmp .eq 40, 3) := by decide +kernel
theorem d5_57 : decode jdk_52_method_16_code 57 = .ok (.aload_n 3, 1) := by decide +kernel
theorem d5_58 : decode jdk_52_method_16_code 58 = .ok (.areturn, 1) := by decide +kernel
theorem ef_com1 (m : MethodId) (x0 : Addr) (x1 : Int32) (x2 : Int32)  : entryFrame m #[(.ref x0), (.int x1), (.int x2)] 6 = mkF m 0 #[.val (.ref x0), .val (.int x1), .val (.int x2), .unset, .unset, .unset] [] := by first | (simp [entryFrame, mkF, argsToLocals, Value.category]; done) | rfl
def Q_com1 (Z : State) (s1 : Addr) (ks : ClassId) (c0_ : Int32) (h0 : Heap) (n0 : Nat) (v : Option Value) (h : Heap) (L : List Loc) : Prop := ∃ (r : Addr), ∃ (kid : ClassId), v = some (.ref r) ∧ Fr n0 L ∧ Keep h0 h [] ∧ h0.size ≤ r ∧ (Exa Z h r "[B") ∧ (Arv Z h r kid .byte (1 : Int32) [(.int (c0_.toInt8.toInt32))] (.int (0 : Int32)))
set_option maxRecDepth 65536 in
set_option maxHeartbeats 40000000 in
theorem rm_com1 (l : Launch) (Z : State) (a0 : Array Value) (hw : ∀ d ∈ tables_1, d.before a0 Z = true) (ws : List Jvm.Cond) (s1 : Addr) (ks : ClassId) (c0_ : Int32) (h0 : Heap) (n0 : Nat) (O0 : Old Z n0 h0) (A0_ : Arv Z h0 s1 ks .char (1 : Int32) [(.int c0_)] (.int (0 : Int32))) (hc0 : ¬ ((255 : Int32) < c0_)) :
    MetFree l (⟨"java/lang/StringUTF16", "compress", "([CII)[B"⟩ : MethodName) (head1 (Jvm.Cond.code (⟨"java/lang/StringUTF16", "compress", "([CII)[B"⟩ : MethodName) jdk_52_method_16_code 6 (some (.array .byte)) :: ws) ({ frames := 1, cells := 1, slots := 1, locals := 18 } : Room)) (fun a U => a = #[(.ref s1), (.int (0 : Int32)), (.int (1 : Int32))] ∧ Z.Warmed39 U.vm ∧ U.heap = h0) (fun _ _ _ _ _ => True) (fun _ U o U' => ∃ v L, o = .returned v ∧ Q_com1 Z s1 ks c0_ h0 n0 v U'.heap L ∧ FrameEnd U o U' L ({ frames := 1, cells := 1, slots := 1, locals := 18 } : Room).cells ({ frames := 1, cells := 1, slots := 1, locals := 18 } : Room).slots) := by
  refine MetFree.of_bodySF (plainFor_of_name pn_java_lang_StringUTF16) hisR ?_
  intro p e s m args below meth c s₁ Bd hml0 hP hK
  obtain ⟨rfl, hZ, hh⟩ := hP
  have hx := Bd.exec
  have hby := Bd.bytes
  have hml : c.maxLocals = 6 := hml0
  have hown : s.vm.findClass "java/lang/StringUTF16" = some m.cls := findClass_of_methodNamed Bd.named
  have hnm := (name_of_methodNamed Bd.named Bd.method).1
  have X0 : Stand p l e ({ frames := 1, cells := 1, slots := 1, locals := 18 } : Room) s m #[(.ref s1), (.int (0 : Int32)), (.int (1 : Int32))] below meth c s₁ [] 0 0 := Stand.of_body Bd
  have e0 : s₁.heap = h0 := by rw [← hh, Bd.state]; rfl
  have N0 := Fr.nil n0
  have g0 : Go p e below s₁ (mkF m 0 #[rv s1, iv (0 : Int32), iv (1 : Int32), .unset, .unset, .unset] []) (s₁.setTop (entryFrame m #[(.ref s1), (.int (0 : Int32)), (.int (1 : Int32))] 6)) := fun t kont => castTop (ef_com1 m s1 (0 : Int32) (1 : Int32) ) kont
  generalize s₁.setTop (entryFrame m #[(.ref s1), (.int (0 : Int32)), (.int (1 : Int32))] 6) = A0 at g0 ⊢
  have g101 : Go p e below s₁ (mkF m 1 #[rv s1, iv (0 : Int32), iv (1 : Int32), .unset, .unset, .unset] [(.int (1 : Int32))]) A0 := by
    intro t kont
    refine g0 t ?_
    refine XS.iloadN X0.here hx rfl (hb hby d5_0) rfl ?_
    show Steps p.tables e below (s₁.setTop (mkF m 1 #[rv s1, iv (0 : Int32), iv (1 : Int32), .unset, .unset, .unset] [(.int (1 : Int32))])) _
    exact kont
  obtain ⟨T102, h102, k102, X102, e102, E102, A102, F102, st102⟩ := newPE X0 hx hZ (hw _ (List.mem_of_getElem? (i := 23) rfl)) e0 (g := (mkF m 1 #[rv s1, iv (0 : Int32), iv (1 : Int32), .unset, .unset, .unset] [(.int (1 : Int32))])) rfl (hb hby d5_1) rfl (by decide) (cap := 1) (by decide) (by decide) (by decide) (by decide) (ad := "[B") (by decide)
  obtain ⟨b102, gb102⟩ : ∃ z, z = h0.size := ⟨_, rfl⟩
  rw [← gb102] at A102 F102 st102
  have O103 := O0.ext E102
  have y104 : Arv Z h102 b102 k102 .byte (1 : Int32) [(.int (0 : Int32))] (.int (0 : Int32)) := (Arv.new A102 (by decide)).pad (pad_rep [] (.int (0 : Int32)) 1)
  have g105 : Go p e below T102 (mkF m 3 #[rv s1, iv (0 : Int32), iv (1 : Int32), .unset, .unset, .unset] [(.ref b102)]) A0 := fun t kont => g101 t (st102 t kont)
  have g106 : Go p e below T102 (mkF m 9 #[rv s1, iv (0 : Int32), iv (1 : Int32), rv b102, .unset, .unset] [(.int (1 : Int32)), (.int (0 : Int32)), (.ref b102), (.int (0 : Int32)), (.ref s1)]) A0 := by
    intro t kont
    refine g105 t ?_
    refine XS.astoreN X102.here hx rfl (hb hby d5_3) rfl rfl (l' := #[rv s1, iv (0 : Int32), iv (1 : Int32), rv b102, .unset, .unset]) rfl ?_
    show Steps p.tables e below (T102.setTop (mkF m 4 #[rv s1, iv (0 : Int32), iv (1 : Int32), rv b102, .unset, .unset] [])) _
    refine XS.aloadN X102.here hx rfl (hb hby d5_4) rfl rfl ?_
    show Steps p.tables e below (T102.setTop (mkF m 5 #[rv s1, iv (0 : Int32), iv (1 : Int32), rv b102, .unset, .unset] [(.ref s1)])) _
    refine XS.iloadN X102.here hx rfl (hb hby d5_5) rfl ?_
    show Steps p.tables e below (T102.setTop (mkF m 6 #[rv s1, iv (0 : Int32), iv (1 : Int32), rv b102, .unset, .unset] [(.int (0 : Int32)), (.ref s1)])) _
    refine XS.aloadN X102.here hx rfl (hb hby d5_6) rfl rfl ?_
    show Steps p.tables e below (T102.setTop (mkF m 7 #[rv s1, iv (0 : Int32), iv (1 : Int32), rv b102, .unset, .unset] [(.ref b102), (.int (0 : Int32)), (.ref s1)])) _
    refine XS.iconst X102.here hx rfl (hb hby d5_7) ?_
    show Steps p.tables e below (T102.setTop (mkF m 8 #[rv s1, iv (0 : Int32), iv (1 : Int32), rv b102, .unset, .unset] [(.int (0 : Int32)), (.ref b102), (.int (0 : Int32)), (.ref s1)])) _
    refine XS.iloadN X102.here hx rfl (hb hby d5_8) rfl ?_
    show Steps p.tables e below (T102.setTop (mkF m 9 #[rv s1, iv (0 : Int32), iv (1 : Int32), rv b102, .unset, .unset] [(.int (1 : Int32)), (.int (0 : Int32)), (.ref b102), (.int (0 : Int32)), (.ref s1)])) _
    exact kont
  have y108 : Arv Z h102 s1 ks .char (1 : Int32) [(.int c0_)] (.int (0 : Int32)) := (A0_.ext E102)
  have ge109 : n0 ≤ b102 := Nat.le_trans (own_old_le O0) (Nat.le_of_eq gb102.symm)
  obtain ⟨_, _, ⟨T107, L107, k107, n107⟩, -, X107, ⟨Lc107, hQ107, l107, y107, z107⟩, st107⟩ := Jvm.LawKit.callS X102 hx (y := (⟨"java/lang/StringUTF16", "compress", "([CI[BII)I"⟩ : MethodName)) hown (mvT hZ (hw _ (List.mem_of_getElem? (i := 24) rfl))) (mvT hZ (hw _ (List.mem_of_getElem? (i := 25) rfl))) (mvT hZ (hw _ (List.mem_of_getElem? (i := 21) rfl))) (mvT hZ (hw _ (List.mem_of_getElem? (i := 26) rfl))) (by decide) (backOf (W := 0) (rm_cmp1 l Z a0 hw [] s1 b102 ks k102 c0_ h102 n0 O103 y108 y104 ge109 (Nat.ne_of_lt (Nat.lt_of_lt_of_le A0_.lt (Nat.le_of_eq gb102.symm))) hc0) hZ (hw _ (List.mem_of_getElem? (i := 26) rfl)) (hw _ (List.mem_of_getElem? (i := 21) rfl)) (by decide) (by decide)) (g := (mkF m 9 #[rv s1, iv (0 : Int32), iv (1 : Int32), rv b102, .unset, .unset] [(.int (1 : Int32)), (.int (0 : Int32)), (.ref b102), (.int (0 : Int32)), (.ref s1)])) rfl (by rw [hml]; rfl) (argsL := [(.ref s1), (.int (0 : Int32)), (.ref b102), (.int (0 : Int32)), (.int (1 : Int32))]) (rest := []) (lenOf pd_1 rfl) rfl (by show 2 * 0 + _ ≤ _; exact Nat.le_of_eq rfl) (hb hby d5_9) (fun _ _ => ⟨rfl, e102, (by decide : 1 + 0 ≤ _), (by decide : 1 + 0 ≤ _)⟩)
  dsimp only [Pt.U, Pt.locs, Pt.cells, Pt.slots] at X107 l107 y107 z107 st107 hQ107
  subst l107 y107 z107
  obtain ⟨rfl, M107, K107, y110⟩ := hQ107
  have N107 := Fr.app N0 M107
  have O111 := O103.keep K107 (allS ge109 all0)
  have g112 : Go p e below T107 (mkF m 12 #[rv s1, iv (0 : Int32), iv (1 : Int32), rv b102, .unset, .unset] [(.int (1 : Int32))]) A0 := fun t kont => g106 t (st107 t kont)
  have g113 : Go p e below T107 (mkF m 58 #[rv s1, iv (0 : Int32), iv (1 : Int32), rv b102, iv (1 : Int32), .unset] [(.ref b102)]) A0 := by
    intro t kont
    refine g112 t ?_
    refine XS.istore X107.here hx rfl (hb hby d5_12) rfl (l' := #[rv s1, iv (0 : Int32), iv (1 : Int32), rv b102, iv (1 : Int32), .unset]) rfl ?_
    show Steps p.tables e below (T107.setTop (mkF m 14 #[rv s1, iv (0 : Int32), iv (1 : Int32), rv b102, iv (1 : Int32), .unset] [])) _
    refine XS.iload X107.here hx rfl (hb hby d5_14) rfl ?_
    show Steps p.tables e below (T107.setTop (mkF m 16 #[rv s1, iv (0 : Int32), iv (1 : Int32), rv b102, iv (1 : Int32), .unset] [(.int (1 : Int32))])) _
    refine XS.iloadN X107.here hx rfl (hb hby d5_16) rfl ?_
    show Steps p.tables e below (T107.setTop (mkF m 17 #[rv s1, iv (0 : Int32), iv (1 : Int32), rv b102, iv (1 : Int32), .unset] [(.int (1 : Int32)), (.int (1 : Int32))])) _
    refine XS.icmpYes X107.here hx rfl (pc0 := 17) (pc' := 57) rfl (hb hby d5_17) rfl (teq (by decide : (1 : Int32) = (1 : Int32))).1 (by decide) (by decide) ?_
    show Steps p.tables e below (T107.setTop (mkF m 57 #[rv s1, iv (0 : Int32), iv (1 : Int32), rv b102, iv (1 : Int32), .unset] [])) _
    refine XS.aloadN X107.here hx rfl (hb hby d5_57) rfl rfl ?_
    show Steps p.tables e below (T107.setTop (mkF m 58 #[rv s1, iv (0 : Int32), iv (1 : Int32), rv b102, iv (1 : Int32), .unset] [(.ref b102)])) _
    exact kont
  have K114 : Keep h0 T107.heap [] := (((Keep.refl h0 []).ext E102).trans K107 (allS (P := fun x => x ∈ [] ∨ h0.size ≤ x) (Or.inr (Nat.le_of_eq gb102.symm)) all0))
  have y115 : Exa Z T107.heap b102 "[B" := (F102.keep K107)
  obtain ⟨fs, hr, hrun, hended, hW, hsame⟩ := X107.leave (v := some (.ref b102)) (fun h => by rw [Bd.returns] at h; cases h)
  refine ⟨_, _, g113 _ (retOut X107 hx Bd.returns rfl (Or.inr (Or.inr (Or.inr (Or.inr ⟨rfl, rfl, rfl⟩)))) (hb hby d5_58) hr), hrun, hended, _, _, rfl, ?_, ⟨_, rfl⟩, hW, hsame.mono (by decide) (by decide)⟩
  show Q_com1 Z s1 ks c0_ h0 n0 _ T107.heap _
  exact ⟨b102, k102, rfl, N107, K114, (Nat.le_of_eq gb102.symm), y115, y110⟩
theorem d7_0 : decode jdk_52_method_15_code 0 = .ok (.iload_n 1, 1) := by decide +kernel
theorem d7_1 : decode jdk_52_method_15_code 1 = .ok (.aload_n 0, 1) := by decide +kernel
theorem d7_2 : decode jdk_52_method_15_code 2 = .ok (.arraylength, 1) := by decide +kernel
theorem d7_3 : decode jdk_52_method_15_code 3 = .ok (.isub, 1) := by decide +kernel
theorem d7_4 : decode jdk_52_method_15_code 4 = .ok (.bipush 31, 2) := by decide +kernel
theorem d7_6 : decode jdk_52_method_15_code 6 = .ok (.iushr, 1) := by decide +kernel
theorem d7_7 : decode jdk_52_method_15_code 7 = .ok (.i2b, 1) := by decide +kernel
theorem d7_8 : decode jdk_52_method_15_code 8 = .ok (.ireturn, 1) := by decide +kernel
theorem ef_cfa1 (m : MethodId) (x0 : Addr) (x1 : Int32)  : entryFrame m #[(.ref x0), (.int x1)] 2 = mkF m 0 #[.val (.ref x0), .val (.int x1)] [] := by first | (simp [entryFrame, mkF, argsToLocals, Value.category]; done) | rfl
def Q_cfa1 (Z : State) (b1 : Addr) (kid : ClassId) (vs : List Value) (h0 : Heap) (n0 : Nat) (v : Option Value) (h : Heap) (L : List Loc) : Prop := v = some (.int (0 : Int32)) ∧ Fr n0 L ∧ h = h0
set_option maxRecDepth 65536 in
set_option maxHeartbeats 40000000 in
theorem rm_cfa1 (l : Launch) (Z : State) (a0 : Array Value) (hw : ∀ d ∈ tables_1, d.before a0 Z = true) (ws : List Jvm.Cond) (b1 : Addr) (kid : ClassId) (vs : List Value) (h0 : Heap) (n0 : Nat) (O0 : Old Z n0 h0) (A0_ : Arv Z h0 b1 kid .byte (1 : Int32) vs (.int (0 : Int32))) :
    MetFree l (⟨"java/lang/StringUTF16", "coderFromArrayLen", "([BI)B"⟩ : MethodName) (head1 (Jvm.Cond.code (⟨"java/lang/StringUTF16", "coderFromArrayLen", "([BI)B"⟩ : MethodName) jdk_52_method_15_code 2 (some .byte) :: ws) ({ frames := 0, cells := 0, slots := 0, locals := 0 } : Room)) (fun a U => a = #[(.ref b1), (.int (1 : Int32))] ∧ Z.Warmed39 U.vm ∧ U.heap = h0) (fun _ _ _ _ _ => True) (fun _ U o U' => ∃ v L, o = .returned v ∧ Q_cfa1 Z b1 kid vs h0 n0 v U'.heap L ∧ FrameEnd U o U' L ({ frames := 0, cells := 0, slots := 0, locals := 0 } : Room).cells ({ frames := 0, cells := 0, slots := 0, locals := 0 } : Room).slots) := by
  refine MetFree.of_bodySF (plainFor_of_name pn_java_lang_StringUTF16) hisR ?_
  intro p e s m args below meth c s₁ Bd hml0 hP hK
  obtain ⟨rfl, hZ, hh⟩ := hP
  have hx := Bd.exec
  have hby := Bd.bytes
  have hml : c.maxLocals = 2 := hml0
  have hown : s.vm.findClass "java/lang/StringUTF16" = some m.cls := findClass_of_methodNamed Bd.named
  have hnm := (name_of_methodNamed Bd.named Bd.method).1
  have X0 : Stand p l e ({ frames := 0, cells := 0, slots := 0, locals := 0 } : Room) s m #[(.ref b1), (.int (1 : Int32))] below meth c s₁ [] 0 0 := Stand.of_body Bd
  have e0 : s₁.heap = h0 := by rw [← hh, Bd.state]; rfl
  have N0 := Fr.nil n0
  have g0 : Go p e below s₁ (mkF m 0 #[rv b1, iv (1 : Int32)] []) (s₁.setTop (entryFrame m #[(.ref b1), (.int (1 : Int32))] 2)) := fun t kont => castTop (ef_cfa1 m b1 (1 : Int32) ) kont
  generalize s₁.setTop (entryFrame m #[(.ref b1), (.int (1 : Int32))] 2) = A0 at g0 ⊢
  have g101 : Go p e below s₁ (mkF m 2 #[rv b1, iv (1 : Int32)] [(.ref b1), (.int (1 : Int32))]) A0 := by
    intro t kont
    refine g0 t ?_
    refine XS.iloadN X0.here hx rfl (hb hby d7_0) rfl ?_
    show Steps p.tables e below (s₁.setTop (mkF m 1 #[rv b1, iv (1 : Int32)] [(.int (1 : Int32))])) _
    refine XS.aloadN X0.here hx rfl (hb hby d7_1) rfl rfl ?_
    show Steps p.tables e below (s₁.setTop (mkF m 2 #[rv b1, iv (1 : Int32)] [(.ref b1), (.int (1 : Int32))])) _
    exact kont
  have zz102 := A0_
  obtain ⟨cl102, Ar102, -, S102, M102, -, -⟩ := zz102
  have g103 : Go p e below s₁ (mkF m 3 #[rv b1, iv (1 : Int32)] [(.int (1 : Int32)), (.int (1 : Int32))]) A0 := by
    intro t kont
    refine g101 t ?_
    refine X0.arraylength hx (by rw [e0]; exact Ar102.1) (State.isArrayOf_alike hZ.alike Ar102.2.1) (g := (mkF m 2 #[rv b1, iv (1 : Int32)] [(.ref b1), (.int (1 : Int32))])) rfl rfl (hb hby d7_2) _ ?_
    rw [len_of S102 M102]
    exact kont
  have g104 : Go p e below s₁ (mkF m 8 #[rv b1, iv (1 : Int32)] [(.int (0 : Int32))]) A0 := by
    intro t kont
    refine g103 t ?_
    refine XS.isub X0.here hx rfl (hb hby d7_3) rfl ?_
    show Steps p.tables e below (s₁.setTop (mkF m 4 #[rv b1, iv (1 : Int32)] [(.int (0 : Int32))])) _
    refine XS.bipush X0.here hx rfl (hb hby d7_4) ?_
    show Steps p.tables e below (s₁.setTop (mkF m 6 #[rv b1, iv (1 : Int32)] [(.int (31 : Int32)), (.int (0 : Int32))])) _
    refine XS.iushr X0.here hx rfl (hb hby d7_6) rfl ?_
    show Steps p.tables e below (s₁.setTop (mkF m 7 #[rv b1, iv (1 : Int32)] [(.int (0 : Int32))])) _
    refine XS.i2b X0.here hx rfl (hb hby d7_7) rfl ?_
    show Steps p.tables e below (s₁.setTop (mkF m 8 #[rv b1, iv (1 : Int32)] [(.int (0 : Int32))])) _
    exact kont
  obtain ⟨fs, hr, hrun, hended, hW, hsame⟩ := X0.leave (v := some (.int (0 : Int32))) (fun h => by rw [Bd.returns] at h; cases h)
  refine ⟨_, _, g104 _ (retN X0 hx (t := .byte) Bd.returns (by simp) (hb hby d7_8) hr), hrun, hended, _, _, rfl, ?_, ⟨_, rfl⟩, hW, hsame.mono (by decide) (by decide)⟩
  show Q_cfa1 Z b1 kid vs h0 n0 _ s₁.heap _
  rw [e0]
  exact ⟨rfl, N0, rfl⟩
theorem d3_27 : decode jdk_42_method_149_code 27 = .ok (.getstatic 38, 3) := by decide +kernel
theorem d3_30 : decode jdk_42_method_149_code 30 = .ok (.ifCond .eq 28, 3) := by decide +kernel
theorem d3_33 : decode jdk_42_method_149_code 33 = .ok (.aload_n 1, 1) := by decide +kernel
theorem d3_34 : decode jdk_42_method_149_code 34 = .ok (.iload_n 2, 1) := by decide +kernel
theorem d3_35 : decode jdk_42_method_149_code 35 = .ok (.iload_n 3, 1) := by decide +kernel
theorem d3_36 : decode jdk_42_method_149_code 36 = .ok (.invokestatic 177, 3) := by decide +kernel
theorem pd_2 : parseMethodDescriptor "([CII)[B" = some ⟨[(.array .char), .int, .int], some (.array .byte)⟩ := by decide +kernel
theorem d3_39 : decode jdk_42_method_149_code 39 = .ok (.astore 5, 2) := by decide +kernel
theorem d3_41 : decode jdk_42_method_149_code 41 = .ok (.aload_n 0, 1) := by decide +kernel
theorem d3_42 : decode jdk_42_method_149_code 42 = .ok (.aload 5, 2) := by decide +kernel
theorem d3_44 : decode jdk_42_method_149_code 44 = .ok (.iload_n 3, 1) := by decide +kernel
theorem d3_45 : decode jdk_42_method_149_code 45 = .ok (.invokestatic 47, 3) := by decide +kernel
theorem pd_3 : parseMethodDescriptor "([BI)B" = some ⟨[(.array .byte), .int], some .byte⟩ := by decide +kernel
theorem d3_48 : decode jdk_42_method_149_code 48 = .ok (.putfield 15, 3) := by decide +kernel
theorem d3_51 : decode jdk_42_method_149_code 51 = .ok (.aload_n 0, 1) := by decide +kernel
theorem d3_52 : decode jdk_42_method_149_code 52 = .ok (.aload 5, 2) := by decide +kernel
theorem d3_54 : decode jdk_42_method_149_code 54 = .ok (.putfield 9, 3) := by decide +kernel
theorem d3_57 : decode jdk_42_method_149_code 57 = .ok (.return_, 1) := by decide +kernel
theorem ef_sin1 (m : MethodId) (x0 : Addr) (x1 : Addr) (x2 : Int32) (x3 : Int32)  : entryFrame m #[(.ref x0), (.ref x1), (.int x2), (.int x3), .null] 6 = mkF m 0 #[.val (.ref x0), .val (.ref x1), .val (.int x2), .val (.int x3), .val .null, .unset] [] := by first | (simp [entryFrame, mkF, argsToLocals, Value.category]; done) | rfl
def Q_sin1 (Z : State) (a1 : Addr) (s1 : Addr) (ks : ClassId) (c0_ : Int32) (cs : Int32) (h0 : Heap) (n0 : Nat) (v : Option Value) (h : Heap) (L : List Loc) : Prop := ∃ (r : Addr), ∃ (kid : ClassId), v = none ∧ Fr n0 L ∧ Keep h0 h [a1] ∧ (Exa Z h a1 "java/lang/String") ∧ (Fld Z h a1 "java/lang/String" "coder" "B" (.int (0 : Int32))) ∧ (Fld Z h a1 "java/lang/String" "value" "[B" (.ref r)) ∧ h0.size ≤ r ∧ (Arv Z h r kid .byte (1 : Int32) [(.int (c0_.toInt8.toInt32))] (.int (0 : Int32)))
set_option maxRecDepth 65536 in
set_option maxHeartbeats 40000000 in
theorem rm_sin1 (l : Launch) (Z : State) (a0 : Array Value) (hw : ∀ d ∈ tables_1, d.before a0 Z = true) (ws : List Jvm.Cond) (a1 : Addr) (s1 : Addr) (ks : ClassId) (c0_ : Int32) (cs : Int32) (h0 : Heap) (n0 : Nat) (O0 : Old Z n0 h0) (F0_ : Fld Z h0 a1 "java/lang/String" "value" "[B" .null) (F1_ : Fld Z h0 a1 "java/lang/String" "coder" "B" (.int (0 : Int32))) (E2_ : Exa Z h0 a1 "java/lang/String") (G3_ : n0 ≤ a1) (A4_ : Arv Z h0 s1 ks .char (1 : Int32) [(.int c0_)] (.int (0 : Int32))) (hc0 : ¬ ((255 : Int32) < c0_)) (S6_ : Sta Z Z.heap "java/lang/String" "COMPACT_STRINGS" "Z" (.int cs)) (hcs : ¬ (cs = (0 : Int32))) :
    MetFree l (⟨"java/lang/String", "<init>", "([CIILjava/lang/Void;)V"⟩ : MethodName) (head1 (Jvm.Cond.code (⟨"java/lang/String", "<init>", "([CIILjava/lang/Void;)V"⟩ : MethodName) jdk_42_method_149_code 6 none :: ws) ({ frames := 2, cells := 1, slots := 1, locals := 35 } : Room)) (fun a U => a = #[(.ref a1), (.ref s1), (.int (0 : Int32)), (.int (1 : Int32)), .null] ∧ Z.Warmed39 U.vm ∧ U.heap = h0) (fun _ _ _ _ _ => True) (fun _ U o U' => ∃ v L, o = .returned v ∧ Q_sin1 Z a1 s1 ks c0_ cs h0 n0 v U'.heap L ∧ FrameEnd U o U' L ({ frames := 2, cells := 1, slots := 1, locals := 35 } : Room).cells ({ frames := 2, cells := 1, slots := 1, locals := 35 } : Room).slots) := by
  refine MetFree.of_bodySF (plainFor_of_name pn_java_lang_String) hisR ?_
  intro p e s m args below meth c s₁ Bd hml0 hP hK
  obtain ⟨rfl, hZ, hh⟩ := hP
  have hx := Bd.exec
  have hby := Bd.bytes
  have hml : c.maxLocals = 6 := hml0
  have hown : s.vm.findClass "java/lang/String" = some m.cls := findClass_of_methodNamed Bd.named
  have hnm := (name_of_methodNamed Bd.named Bd.method).1
  have X0 : Stand p l e ({ frames := 2, cells := 1, slots := 1, locals := 35 } : Room) s m #[(.ref a1), (.ref s1), (.int (0 : Int32)), (.int (1 : Int32)), .null] below meth c s₁ [] 0 0 := Stand.of_body Bd
  have e0 : s₁.heap = h0 := by rw [← hh, Bd.state]; rfl
  have N0 := Fr.nil n0
  have g0 : Go p e below s₁ (mkF m 0 #[rv a1, rv s1, iv (0 : Int32), iv (1 : Int32), .val .null, .unset] []) (s₁.setTop (entryFrame m #[(.ref a1), (.ref s1), (.int (0 : Int32)), (.int (1 : Int32)), .null] 6)) := fun t kont => castTop (ef_sin1 m a1 s1 (0 : Int32) (1 : Int32) ) kont
  generalize s₁.setTop (entryFrame m #[(.ref a1), (.ref s1), (.int (0 : Int32)), (.int (1 : Int32)), .null] 6) = A0 at g0 ⊢
  have g101 : Go p e below s₁ (mkF m 1 #[rv a1, rv s1, iv (0 : Int32), iv (1 : Int32), .val .null, .unset] [(.ref a1)]) A0 := by
    intro t kont
    refine g0 t ?_
    refine XS.aloadN X0.here hx rfl (hb hby d3_0) rfl rfl ?_
    show Steps p.tables e below (s₁.setTop (mkF m 1 #[rv a1, rv s1, iv (0 : Int32), iv (1 : Int32), .val .null, .unset] [(.ref a1)])) _
    exact kont
  obtain ⟨T102, X102, e102, st102⟩ := initO X0 hx hZ hown (hw _ (List.mem_of_getElem? (i := 15) rfl)) (hw _ (List.mem_of_getElem? (i := 16) rfl)) (hw _ (List.mem_of_getElem? (i := 17) rfl)) e0 (g := (mkF m 1 #[rv a1, rv s1, iv (0 : Int32), iv (1 : Int32), .val .null, .unset] [(.ref a1)])) rfl (by rw [hml]; rfl) rfl (hb hby d3_1) (by decide) (W := 0) (by show 2 * 0 + _ ≤ _; exact Nat.le_of_eq rfl) (by decide)
  have g103 : Go p e below T102 (mkF m 4 #[rv a1, rv s1, iv (0 : Int32), iv (1 : Int32), .val .null, .unset] []) A0 := fun t kont => g101 t (st102 t kont)
  have g104 : Go p e below T102 (mkF m 27 #[rv a1, rv s1, iv (0 : Int32), iv (1 : Int32), .val .null, .unset] []) A0 := by
    intro t kont
    refine g103 t ?_
    refine XS.iloadN X102.here hx rfl (hb hby d3_4) rfl ?_
    show Steps p.tables e below (T102.setTop (mkF m 5 #[rv a1, rv s1, iv (0 : Int32), iv (1 : Int32), .val .null, .unset] [(.int (1 : Int32))])) _
    refine XS.ifYes X102.here hx rfl (pc0 := 5) (pc' := 27) rfl (hb hby d3_5) rfl ((if0 _ _).trans (feq (by decide : ¬ ((1 : Int32) = (0 : Int32)))).2) (by decide) (by decide) ?_
    show Steps p.tables e below (T102.setTop (mkF m 27 #[rv a1, rv s1, iv (0 : Int32), iv (1 : Int32), .val .null, .unset] [])) _
    exact kont
  have y105 : Sta Z h0 "java/lang/String" "COMPACT_STRINGS" "Z" (.int cs) := S6_.ext O0.2
  obtain ⟨T106, X106, e106, st106⟩ := getS2 X102 hx hZ hown (host := "") (Or.inl (hw _ (List.mem_of_getElem? (i := 18) rfl))) Via.refl e102 y105 (g := (mkF m 27 #[rv a1, rv s1, iv (0 : Int32), iv (1 : Int32), .val .null, .unset] [])) rfl (hb hby d3_27)
  have g107 : Go p e below T106 (mkF m 30 #[rv a1, rv s1, iv (0 : Int32), iv (1 : Int32), .val .null, .unset] [(.int cs)]) A0 := fun t kont => g104 t (st106 t kont)
  have g108 : Go p e below T106 (mkF m 36 #[rv a1, rv s1, iv (0 : Int32), iv (1 : Int32), .val .null, .unset] [(.int (1 : Int32)), (.int (0 : Int32)), (.ref s1)]) A0 := by
    intro t kont
    refine g107 t ?_
    refine XS.ifNo X106.here hx rfl (hb hby d3_30) rfl ((if0 _ _).trans (feq hcs).1) ?_
    show Steps p.tables e below (T106.setTop (mkF m 33 #[rv a1, rv s1, iv (0 : Int32), iv (1 : Int32), .val .null, .unset] [])) _
    refine XS.aloadN X106.here hx rfl (hb hby d3_33) rfl rfl ?_
    show Steps p.tables e below (T106.setTop (mkF m 34 #[rv a1, rv s1, iv (0 : Int32), iv (1 : Int32), .val .null, .unset] [(.ref s1)])) _
    refine XS.iloadN X106.here hx rfl (hb hby d3_34) rfl ?_
    show Steps p.tables e below (T106.setTop (mkF m 35 #[rv a1, rv s1, iv (0 : Int32), iv (1 : Int32), .val .null, .unset] [(.int (0 : Int32)), (.ref s1)])) _
    refine XS.iloadN X106.here hx rfl (hb hby d3_35) rfl ?_
    show Steps p.tables e below (T106.setTop (mkF m 36 #[rv a1, rv s1, iv (0 : Int32), iv (1 : Int32), .val .null, .unset] [(.int (1 : Int32)), (.int (0 : Int32)), (.ref s1)])) _
    exact kont
  obtain ⟨_, _, ⟨T109, L109, k109, n109⟩, -, X109, ⟨Lc109, hQ109, l109, y109, z109⟩, st109⟩ := Jvm.LawKit.callS X106 hx (y := (⟨"java/lang/StringUTF16", "compress", "([CII)[B"⟩ : MethodName)) hown (mvT hZ (hw _ (List.mem_of_getElem? (i := 19) rfl))) (mvT hZ (hw _ (List.mem_of_getElem? (i := 20) rfl))) (mvT hZ (hw _ (List.mem_of_getElem? (i := 21) rfl))) (mvT hZ (hw _ (List.mem_of_getElem? (i := 22) rfl))) (by decide) (backOf (W := 0) (rm_com1 l Z a0 hw [] s1 ks c0_ h0 n0 O0 A4_ hc0) hZ (hw _ (List.mem_of_getElem? (i := 22) rfl)) (hw _ (List.mem_of_getElem? (i := 21) rfl)) (by decide) (by decide)) (g := (mkF m 36 #[rv a1, rv s1, iv (0 : Int32), iv (1 : Int32), .val .null, .unset] [(.int (1 : Int32)), (.int (0 : Int32)), (.ref s1)])) rfl (by rw [hml]; rfl) (argsL := [(.ref s1), (.int (0 : Int32)), (.int (1 : Int32))]) (rest := []) (lenOf pd_2 rfl) rfl (by show 2 * 0 + _ ≤ _; exact Nat.le_of_eq rfl) (hb hby d3_36) (fun _ _ => ⟨rfl, e106, (by decide : 0 + 1 ≤ _), (by decide : 0 + 1 ≤ _)⟩)
  dsimp only [Pt.U, Pt.locs, Pt.cells, Pt.slots] at X109 l109 y109 z109 st109 hQ109
  subst l109 y109 z109
  obtain ⟨r110, r111, rfl, M109, K109, y112, y113, y114⟩ := hQ109
  have N109 := Fr.app N0 M109
  have O115 := O0.keep K109 all0
  have g116 : Go p e below T109 (mkF m 39 #[rv a1, rv s1, iv (0 : Int32), iv (1 : Int32), .val .null, .unset] [(.ref r110)]) A0 := fun t kont => g108 t (st109 t kont)
  have g117 : Go p e below T109 (mkF m 45 #[rv a1, rv s1, iv (0 : Int32), iv (1 : Int32), .val .null, rv r110] [(.int (1 : Int32)), (.ref r110), (.ref a1)]) A0 := by
    intro t kont
    refine g116 t ?_
    refine XS.astore X109.here hx rfl (hb hby d3_39) rfl rfl (l' := #[rv a1, rv s1, iv (0 : Int32), iv (1 : Int32), .val .null, rv r110]) rfl ?_
    show Steps p.tables e below (T109.setTop (mkF m 41 #[rv a1, rv s1, iv (0 : Int32), iv (1 : Int32), .val .null, rv r110] [])) _
    refine XS.aloadN X109.here hx rfl (hb hby d3_41) rfl rfl ?_
    show Steps p.tables e below (T109.setTop (mkF m 42 #[rv a1, rv s1, iv (0 : Int32), iv (1 : Int32), .val .null, rv r110] [(.ref a1)])) _
    refine XS.aload X109.here hx rfl (hb hby d3_42) rfl rfl ?_
    show Steps p.tables e below (T109.setTop (mkF m 44 #[rv a1, rv s1, iv (0 : Int32), iv (1 : Int32), .val .null, rv r110] [(.ref r110), (.ref a1)])) _
    refine XS.iloadN X109.here hx rfl (hb hby d3_44) rfl ?_
    show Steps p.tables e below (T109.setTop (mkF m 45 #[rv a1, rv s1, iv (0 : Int32), iv (1 : Int32), .val .null, rv r110] [(.int (1 : Int32)), (.ref r110), (.ref a1)])) _
    exact kont
  obtain ⟨_, _, ⟨T118, L118, k118, n118⟩, -, X118, ⟨Lc118, hQ118, l118, y118, z118⟩, st118⟩ := Jvm.LawKit.callS X109 hx (y := (⟨"java/lang/StringUTF16", "coderFromArrayLen", "([BI)B"⟩ : MethodName)) hown (mvT hZ (hw _ (List.mem_of_getElem? (i := 27) rfl))) (mvT hZ (hw _ (List.mem_of_getElem? (i := 28) rfl))) (mvT hZ (hw _ (List.mem_of_getElem? (i := 21) rfl))) (mvT hZ (hw _ (List.mem_of_getElem? (i := 29) rfl))) (by decide) (backOf (W := 1) (rm_cfa1 l Z a0 hw [] r110 r111 [(.int (c0_.toInt8.toInt32))] T109.heap n0 O115 y114) hZ (hw _ (List.mem_of_getElem? (i := 29) rfl)) (hw _ (List.mem_of_getElem? (i := 21) rfl)) (by decide) (by decide)) (g := (mkF m 45 #[rv a1, rv s1, iv (0 : Int32), iv (1 : Int32), .val .null, rv r110] [(.int (1 : Int32)), (.ref r110), (.ref a1)])) rfl (by rw [hml]; rfl) (argsL := [(.ref r110), (.int (1 : Int32))]) (rest := [(.ref a1)]) (lenOf pd_3 rfl) rfl (by show 2 * 0 + _ ≤ _; exact Nat.le_of_eq rfl) (hb hby d3_45) (fun _ _ => ⟨rfl, rfl, (by decide : 1 + 0 ≤ _), (by decide : 1 + 0 ≤ _)⟩)
  dsimp only [Pt.U, Pt.locs, Pt.cells, Pt.slots] at X118 l118 y118 z118 st118 hQ118
  subst l118 y118 z118
  obtain ⟨rfl, M118, e118⟩ := hQ118
  have N118 := Fr.app N109 M118
  have g119 : Go p e below T118 (mkF m 48 #[rv a1, rv s1, iv (0 : Int32), iv (1 : Int32), .val .null, rv r110] [(.int (0 : Int32)), (.ref a1)]) A0 := fun t kont => g117 t (st118 t kont)
  have y120 : Exa Z T109.heap a1 "java/lang/String" := (E2_.keep K109)
  have y121 : Fld Z T109.heap a1 "java/lang/String" "coder" "B" (.int (0 : Int32)) := (F1_.keep K109 nin0)
  obtain ⟨T122, h122, X122, e122, W122, st122⟩ := putFN X118 hx hZ hown (hw _ (List.mem_of_getElem? (i := 30) rfl)) Via.refl e118 y121 y120 (Or.inr ⟨(hw _ (List.mem_of_getElem? (i := 31) rfl)), rfl, hnm⟩) (hw _ (List.mem_of_getElem? (i := 5) rfl)) (ty := .byte) (v := (.int (0 : Int32))) (v' := (.int (0 : Int32))) (by decide) (own_nw_byte (by decide : nar .byte (0 : Int32) = (0 : Int32))) (own_ft_byte (by decide : nar .byte (0 : Int32) = (0 : Int32))) (g := (mkF m 48 #[rv a1, rv s1, iv (0 : Int32), iv (1 : Int32), .val .null, rv r110] [(.int (0 : Int32)), (.ref a1)])) rfl rfl (hb hby d3_48)
  have O123 := O115.wr W122 G3_
  have y124 : Fld Z h122 a1 "java/lang/String" "coder" "B" (.int (0 : Int32)) := y121.same W122
  have N122 := Fr.snoc X122 N118 G3_
  have g125 : Go p e below T122 (mkF m 51 #[rv a1, rv s1, iv (0 : Int32), iv (1 : Int32), .val .null, rv r110] []) A0 := fun t kont => g119 t (st122 t kont)
  have g126 : Go p e below T122 (mkF m 54 #[rv a1, rv s1, iv (0 : Int32), iv (1 : Int32), .val .null, rv r110] [(.ref r110), (.ref a1)]) A0 := by
    intro t kont
    refine g125 t ?_
    refine XS.aloadN X122.here hx rfl (hb hby d3_51) rfl rfl ?_
    show Steps p.tables e below (T122.setTop (mkF m 52 #[rv a1, rv s1, iv (0 : Int32), iv (1 : Int32), .val .null, rv r110] [(.ref a1)])) _
    refine XS.aload X122.here hx rfl (hb hby d3_52) rfl rfl ?_
    show Steps p.tables e below (T122.setTop (mkF m 54 #[rv a1, rv s1, iv (0 : Int32), iv (1 : Int32), .val .null, rv r110] [(.ref r110), (.ref a1)])) _
    exact kont
  have y127 : Exa Z h122 a1 "java/lang/String" := (y120.wr W122)
  have y128 : Fld Z h122 a1 "java/lang/String" "value" "[B" .null := ((F0_.keep K109 nin0).other W122 (Or.inr (slot_ne (Or.inr (hw _ (List.mem_of_getElem? (i := 33) rfl))) (Or.inr (hw _ (List.mem_of_getElem? (i := 31) rfl))) (by decide) (t := (.array .byte)) (t' := .byte) (by decide) (by decide))))
  obtain ⟨T129, h129, X129, e129, W129, st129⟩ := putF X122 hx hZ hown (host := "") (Or.inl (hw _ (List.mem_of_getElem? (i := 32) rfl))) Via.refl e122 y128 y127 (Or.inr ⟨(hw _ (List.mem_of_getElem? (i := 33) rfl)), rfl, hnm⟩) (hw _ (List.mem_of_getElem? (i := 5) rfl)) (ty := (.array .byte)) (by decide) rfl rfl (g := (mkF m 54 #[rv a1, rv s1, iv (0 : Int32), iv (1 : Int32), .val .null, rv r110] [(.ref r110), (.ref a1)])) rfl rfl (hb hby d3_54)
  have O130 := O123.wr W129 G3_
  have y131 : Fld Z h129 a1 "java/lang/String" "value" "[B" (.ref r110) := y128.same W129
  have N129 := Fr.snoc X129 N122 G3_
  have g132 : Go p e below T129 (mkF m 57 #[rv a1, rv s1, iv (0 : Int32), iv (1 : Int32), .val .null, rv r110] []) A0 := fun t kont => g126 t (st129 t kont)
  have K133 : Keep h0 h129 [a1] := ((((Keep.refl h0 [a1]).trans K109 (fun x hx => nomatch hx)).wr W122 (Or.inl (List.mem_of_getElem? (i := 0) rfl))).wr W129 (Or.inl (List.mem_of_getElem? (i := 0) rfl)))
  have y134 : Exa Z h129 a1 "java/lang/String" := (y127.wr W129)
  have y135 : Fld Z h129 a1 "java/lang/String" "coder" "B" (.int (0 : Int32)) := (y124.other W129 (Or.inr (slot_ne (Or.inr (hw _ (List.mem_of_getElem? (i := 31) rfl))) (Or.inr (hw _ (List.mem_of_getElem? (i := 33) rfl))) (by decide) (t := .byte) (t' := (.array .byte)) (by decide) (by decide))))
  have y136 : Arv Z h129 r110 r111 .byte (1 : Int32) [(.int (c0_.toInt8.toInt32))] (.int (0 : Int32)) := ((y114.other W122 (Ne.symm (Nat.ne_of_lt (Nat.lt_of_lt_of_le F0_.lt y112)))).other W129 (Ne.symm (Nat.ne_of_lt (Nat.lt_of_lt_of_le F0_.lt y112))))
  obtain ⟨fs, hr, hrun, hended, hW, hsame⟩ := X129.leave (v := none) (fun _ => rfl)
  refine ⟨_, _, g132 _ (X129.returnOut hx Bd.returns (hb hby d3_57) hr), hrun, hended, _, _, rfl, ?_, ⟨_, rfl⟩, hW, hsame.mono (by decide) (by decide)⟩
  show Q_sin1 Z a1 s1 ks c0_ cs h0 n0 _ T129.heap _
  rw [e129]
  exact ⟨r110, r111, rfl, N129, K133, y134, y135, y131, y112, y136⟩
theorem ef_sIni1 (m : MethodId) (x0 : Addr) (x1 : Addr)  : entryFrame m #[(.ref x0), (.ref x1)] 2 = mkF m 0 #[.val (.ref x0), .val (.ref x1)] [] := by first | (simp [entryFrame, mkF, argsToLocals, Value.category]; done) | rfl
def Q_sIni1 (Z : State) (a1 : Addr) (s1 : Addr) (ks : ClassId) (c0_ : Int32) (cs : Int32) (h0 : Heap) (n0 : Nat) (v : Option Value) (h : Heap) (L : List Loc) : Prop := ∃ (r : Addr), ∃ (kid : ClassId), v = none ∧ Fr n0 L ∧ Keep h0 h [a1] ∧ (Exa Z h a1 "java/lang/String") ∧ (Fld Z h a1 "java/lang/String" "coder" "B" (.int (0 : Int32))) ∧ (Fld Z h a1 "java/lang/String" "value" "[B" (.ref r)) ∧ h0.size ≤ r ∧ (Arv Z h r kid .byte (1 : Int32) [(.int (c0_.toInt8.toInt32))] (.int (0 : Int32)))
set_option maxRecDepth 65536 in
set_option maxHeartbeats 40000000 in
theorem rm_sIni1 (l : Launch) (Z : State) (a0 : Array Value) (hw : ∀ d ∈ tables_1, d.before a0 Z = true) (ws : List Jvm.Cond) (a1 : Addr) (s1 : Addr) (ks : ClassId) (c0_ : Int32) (cs : Int32) (h0 : Heap) (n0 : Nat) (O0 : Old Z n0 h0) (F0_ : Fld Z h0 a1 "java/lang/String" "value" "[B" .null) (F1_ : Fld Z h0 a1 "java/lang/String" "coder" "B" (.int (0 : Int32))) (E2_ : Exa Z h0 a1 "java/lang/String") (G3_ : n0 ≤ a1) (A4_ : Arv Z h0 s1 ks .char (1 : Int32) [(.int c0_)] (.int (0 : Int32))) (hc0 : ¬ ((255 : Int32) < c0_)) (S6_ : Sta Z Z.heap "java/lang/String" "COMPACT_STRINGS" "Z" (.int cs)) (hcs : ¬ (cs = (0 : Int32))) :
    MetFree l (⟨"java/lang/String", "<init>", "([C)V"⟩ : MethodName) (head1 (Jvm.Cond.code (⟨"java/lang/String", "<init>", "([C)V"⟩ : MethodName) jdk_42_method_3_code 2 none :: ws) ({ frames := 3, cells := 1, slots := 1, locals := 52 } : Room)) (fun a U => a = #[(.ref a1), (.ref s1)] ∧ Z.Warmed39 U.vm ∧ U.heap = h0) (fun _ _ _ _ _ => True) (fun _ U o U' => ∃ v L, o = .returned v ∧ Q_sIni1 Z a1 s1 ks c0_ cs h0 n0 v U'.heap L ∧ FrameEnd U o U' L ({ frames := 3, cells := 1, slots := 1, locals := 52 } : Room).cells ({ frames := 3, cells := 1, slots := 1, locals := 52 } : Room).slots) := by
  refine MetFree.of_bodySF (plainFor_of_name pn_java_lang_String) hisR ?_
  intro p e s m args below meth c s₁ Bd hml0 hP hK
  obtain ⟨rfl, hZ, hh⟩ := hP
  have hx := Bd.exec
  have hby := Bd.bytes
  have hml : c.maxLocals = 2 := hml0
  have hown : s.vm.findClass "java/lang/String" = some m.cls := findClass_of_methodNamed Bd.named
  have hnm := (name_of_methodNamed Bd.named Bd.method).1
  have X0 : Stand p l e ({ frames := 3, cells := 1, slots := 1, locals := 52 } : Room) s m #[(.ref a1), (.ref s1)] below meth c s₁ [] 0 0 := Stand.of_body Bd
  have e0 : s₁.heap = h0 := by rw [← hh, Bd.state]; rfl
  have N0 := Fr.nil n0
  have g0 : Go p e below s₁ (mkF m 0 #[rv a1, rv s1] []) (s₁.setTop (entryFrame m #[(.ref a1), (.ref s1)] 2)) := fun t kont => castTop (ef_sIni1 m a1 s1 ) kont
  generalize s₁.setTop (entryFrame m #[(.ref a1), (.ref s1)] 2) = A0 at g0 ⊢
  have g101 : Go p e below s₁ (mkF m 4 #[rv a1, rv s1] [(.ref s1), (.int (0 : Int32)), (.ref s1), (.ref a1)]) A0 := by
    intro t kont
    refine g0 t ?_
    refine XS.aloadN X0.here hx rfl (hb hby d2_0) rfl rfl ?_
    show Steps p.tables e below (s₁.setTop (mkF m 1 #[rv a1, rv s1] [(.ref a1)])) _
    refine XS.aloadN X0.here hx rfl (hb hby d2_1) rfl rfl ?_
    show Steps p.tables e below (s₁.setTop (mkF m 2 #[rv a1, rv s1] [(.ref s1), (.ref a1)])) _
    refine XS.iconst X0.here hx rfl (hb hby d2_2) ?_
    show Steps p.tables e below (s₁.setTop (mkF m 3 #[rv a1, rv s1] [(.int (0 : Int32)), (.ref s1), (.ref a1)])) _
    refine XS.aloadN X0.here hx rfl (hb hby d2_3) rfl rfl ?_
    show Steps p.tables e below (s₁.setTop (mkF m 4 #[rv a1, rv s1] [(.ref s1), (.int (0 : Int32)), (.ref s1), (.ref a1)])) _
    exact kont
  have zz102 := A4_
  obtain ⟨cl102, Ar102, -, S102, M102, -, -⟩ := zz102
  have g103 : Go p e below s₁ (mkF m 5 #[rv a1, rv s1] [(.int (1 : Int32)), (.int (0 : Int32)), (.ref s1), (.ref a1)]) A0 := by
    intro t kont
    refine g101 t ?_
    refine X0.arraylength hx (by rw [e0]; exact Ar102.1) (State.isArrayOf_alike hZ.alike Ar102.2.1) (g := (mkF m 4 #[rv a1, rv s1] [(.ref s1), (.int (0 : Int32)), (.ref s1), (.ref a1)])) rfl rfl (hb hby d2_4) _ ?_
    rw [len_of S102 M102]
    exact kont
  have g104 : Go p e below s₁ (mkF m 6 #[rv a1, rv s1] [.null, (.int (1 : Int32)), (.int (0 : Int32)), (.ref s1), (.ref a1)]) A0 := by
    intro t kont
    refine g103 t ?_
    refine XS.aconstNull X0.here hx rfl (hb hby d2_5) ?_
    show Steps p.tables e below (s₁.setTop (mkF m 6 #[rv a1, rv s1] [.null, (.int (1 : Int32)), (.int (0 : Int32)), (.ref s1), (.ref a1)])) _
    exact kont
  obtain ⟨_, _, ⟨T105, L105, k105, n105⟩, -, X105, ⟨Lc105, hQ105, l105, y105, z105⟩, st105⟩ := X0.specialBack hx (y := (⟨"java/lang/String", "<init>", "([CIILjava/lang/Void;)V"⟩ : MethodName)) rfl hown (mvT hZ (hw _ (List.mem_of_getElem? (i := 11) rfl))) (mvT hZ (hw _ (List.mem_of_getElem? (i := 12) rfl))) (mvT hZ (hw _ (List.mem_of_getElem? (i := 14) rfl))) (by decide) (backOf (W := 0) (rm_sin1 l Z a0 hw [] a1 s1 ks c0_ cs h0 n0 O0 F0_ F1_ E2_ G3_ A4_ hc0 S6_ hcs) hZ (hw _ (List.mem_of_getElem? (i := 14) rfl)) (hw _ (List.mem_of_getElem? (i := 6) rfl)) (by decide) (by decide)) (g := (mkF m 6 #[rv a1, rv s1] [.null, (.int (1 : Int32)), (.int (0 : Int32)), (.ref s1), (.ref a1)])) rfl (by rw [hml]; rfl) (Steps.refl _) (a := a1) (argsL := [(.ref s1), (.int (0 : Int32)), (.int (1 : Int32)), .null]) (rest := []) (lenOf pd_0 rfl) rfl (by show 2 * 0 + _ ≤ _; exact Nat.le_of_eq rfl) (hb hby d2_6) (fun _ _ => ⟨rfl, e0, (by decide : 0 + 1 ≤ _), (by decide : 0 + 1 ≤ _)⟩)
  dsimp only [Pt.U, Pt.locs, Pt.cells, Pt.slots] at X105 l105 y105 z105 st105 hQ105
  subst l105 y105 z105
  obtain ⟨r106, r107, rfl, M105, K105, y108, y109, y110, y111, y112⟩ := hQ105
  have N105 := Fr.app N0 M105
  have O113 := O0.keep K105 (allS G3_ all0)
  have g114 : Go p e below T105 (mkF m 9 #[rv a1, rv s1] []) A0 := fun t kont => g104 t (st105.trans kont)
  have K115 : Keep h0 T105.heap [a1] := ((Keep.refl h0 [a1]).trans K105 (allS (P := fun x => x ∈ [a1] ∨ h0.size ≤ x) (Or.inl (List.mem_of_getElem? (i := 0) rfl)) all0))
  obtain ⟨fs, hr, hrun, hended, hW, hsame⟩ := X105.leave (v := none) (fun _ => rfl)
  refine ⟨_, _, g114 _ (X105.returnOut hx Bd.returns (hb hby d2_9) hr), hrun, hended, _, _, rfl, ?_, ⟨_, rfl⟩, hW, hsame.mono (by decide) (by decide)⟩
  show Q_sIni1 Z a1 s1 ks c0_ cs h0 n0 _ T105.heap _
  exact ⟨r106, r107, rfl, N105, K115, y108, y109, y110, y111, y112⟩
theorem ef_cmp2 (m : MethodId) (x0 : Addr) (x1 : Int32) (x2 : Addr) (x3 : Int32) (x4 : Int32)  : entryFrame m #[(.ref x0), (.int x1), (.ref x2), (.int x3), (.int x4)] 7 = mkF m 0 #[.val (.ref x0), .val (.int x1), .val (.ref x2), .val (.int x3), .val (.int x4), .unset, .unset] [] := by first | (simp [entryFrame, mkF, argsToLocals, Value.category]; done) | rfl
def Q_cmp2 (Z : State) (s1 : Addr) (d1 : Addr) (ks : ClassId) (kd : ClassId) (c0_ : Int32) (c1_ : Int32) (h0 : Heap) (n0 : Nat) (v : Option Value) (h : Heap) (L : List Loc) : Prop := v = some (.int (2 : Int32)) ∧ Fr n0 L ∧ Keep h0 h [d1] ∧ (Arv Z h d1 kd .byte (2 : Int32) [(.int (c0_.toInt8.toInt32)), (.int (c1_.toInt8.toInt32))] (.int (0 : Int32)))
set_option maxRecDepth 65536 in
set_option maxHeartbeats 40000000 in
theorem rm_cmp2 (l : Launch) (Z : State) (a0 : Array Value) (hw : ∀ d ∈ tables_1, d.before a0 Z = true) (ws : List Jvm.Cond) (s1 : Addr) (d1 : Addr) (ks : ClassId) (kd : ClassId) (c0_ : Int32) (c1_ : Int32) (h0 : Heap) (n0 : Nat) (O0 : Old Z n0 h0) (A0_ : Arv Z h0 s1 ks .char (2 : Int32) [(.int c0_), (.int c1_)] (.int (0 : Int32))) (A1_ : Arv Z h0 d1 kd .byte (2 : Int32) [(.int (0 : Int32)), (.int (0 : Int32))] (.int (0 : Int32))) (G2_ : n0 ≤ d1) (NE3_ : ¬ (s1 = d1)) (hc0 : ¬ ((255 : Int32) < c0_)) (hc1 : ¬ ((255 : Int32) < c1_)) :
    MetFree l (⟨"java/lang/StringUTF16", "compress", "([CI[BII)I"⟩ : MethodName) (head1 (Jvm.Cond.code (⟨"java/lang/StringUTF16", "compress", "([CI[BII)I"⟩ : MethodName) jdk_52_method_21_code 7 (some .int) :: ws) ({ frames := 0, cells := 0, slots := 0, locals := 0 } : Room)) (fun a U => a = #[(.ref s1), (.int (0 : Int32)), (.ref d1), (.int (0 : Int32)), (.int (2 : Int32))] ∧ Z.Warmed39 U.vm ∧ U.heap = h0) (fun _ _ _ _ _ => True) (fun _ U o U' => ∃ v L, o = .returned v ∧ Q_cmp2 Z s1 d1 ks kd c0_ c1_ h0 n0 v U'.heap L ∧ FrameEnd U o U' L ({ frames := 0, cells := 0, slots := 0, locals := 0 } : Room).cells ({ frames := 0, cells := 0, slots := 0, locals := 0 } : Room).slots) := by
  refine MetFree.of_bodySF (plainFor_of_name pn_java_lang_StringUTF16) hisR ?_
  intro p e s m args below meth c s₁ Bd hml0 hP hK
  obtain ⟨rfl, hZ, hh⟩ := hP
  have hx := Bd.exec
  have hby := Bd.bytes
  have hml : c.maxLocals = 7 := hml0
  have hown : s.vm.findClass "java/lang/StringUTF16" = some m.cls := findClass_of_methodNamed Bd.named
  have hnm := (name_of_methodNamed Bd.named Bd.method).1
  have X0 : Stand p l e ({ frames := 0, cells := 0, slots := 0, locals := 0 } : Room) s m #[(.ref s1), (.int (0 : Int32)), (.ref d1), (.int (0 : Int32)), (.int (2 : Int32))] below meth c s₁ [] 0 0 := Stand.of_body Bd
  have e0 : s₁.heap = h0 := by rw [← hh, Bd.state]; rfl
  have N0 := Fr.nil n0
  have g0 : Go p e below s₁ (mkF m 0 #[rv s1, iv (0 : Int32), rv d1, iv (0 : Int32), iv (2 : Int32), .unset, .unset] []) (s₁.setTop (entryFrame m #[(.ref s1), (.int (0 : Int32)), (.ref d1), (.int (0 : Int32)), (.int (2 : Int32))] 7)) := fun t kont => castTop (ef_cmp2 m s1 (0 : Int32) d1 (0 : Int32) (2 : Int32) ) kont
  generalize s₁.setTop (entryFrame m #[(.ref s1), (.int (0 : Int32)), (.ref d1), (.int (0 : Int32)), (.int (2 : Int32))] 7) = A0 at g0 ⊢
  have g101 : Go p e below s₁ (mkF m 12 #[rv s1, iv (0 : Int32), rv d1, iv (0 : Int32), iv (2 : Int32), iv (0 : Int32), .unset] [(.int (0 : Int32)), (.ref s1)]) A0 := by
    intro t kont
    refine g0 t ?_
    refine XS.iconst X0.here hx rfl (hb hby d6_0) ?_
    show Steps p.tables e below (s₁.setTop (mkF m 1 #[rv s1, iv (0 : Int32), rv d1, iv (0 : Int32), iv (2 : Int32), .unset, .unset] [(.int (0 : Int32))])) _
    refine XS.istore X0.here hx rfl (hb hby d6_1) rfl (l' := #[rv s1, iv (0 : Int32), rv d1, iv (0 : Int32), iv (2 : Int32), iv (0 : Int32), .unset]) rfl ?_
    show Steps p.tables e below (s₁.setTop (mkF m 3 #[rv s1, iv (0 : Int32), rv d1, iv (0 : Int32), iv (2 : Int32), iv (0 : Int32), .unset] [])) _
    refine XS.iload X0.here hx rfl (hb hby d6_3) rfl ?_
    show Steps p.tables e below (s₁.setTop (mkF m 5 #[rv s1, iv (0 : Int32), rv d1, iv (0 : Int32), iv (2 : Int32), iv (0 : Int32), .unset] [(.int (0 : Int32))])) _
    refine XS.iload X0.here hx rfl (hb hby d6_5) rfl ?_
    show Steps p.tables e below (s₁.setTop (mkF m 7 #[rv s1, iv (0 : Int32), rv d1, iv (0 : Int32), iv (2 : Int32), iv (0 : Int32), .unset] [(.int (2 : Int32)), (.int (0 : Int32))])) _
    refine XS.icmpNo X0.here hx rfl (hb hby d6_7) rfl (tlt (by decide : (0 : Int32) < (2 : Int32))).2.1 ?_
    show Steps p.tables e below (s₁.setTop (mkF m 10 #[rv s1, iv (0 : Int32), rv d1, iv (0 : Int32), iv (2 : Int32), iv (0 : Int32), .unset] [])) _
    refine XS.aloadN X0.here hx rfl (hb hby d6_10) rfl rfl ?_
    show Steps p.tables e below (s₁.setTop (mkF m 11 #[rv s1, iv (0 : Int32), rv d1, iv (0 : Int32), iv (2 : Int32), iv (0 : Int32), .unset] [(.ref s1)])) _
    refine XS.iloadN X0.here hx rfl (hb hby d6_11) rfl ?_
    show Steps p.tables e below (s₁.setTop (mkF m 12 #[rv s1, iv (0 : Int32), rv d1, iv (0 : Int32), iv (2 : Int32), iv (0 : Int32), .unset] [(.int (0 : Int32)), (.ref s1)])) _
    exact kont
  have zz102 := A0_
  obtain ⟨cl102, Ar102, q102, S102, M102, H102, G102⟩ := zz102
  have in102 : ¬ ((0 : Int32) < 0 ∨ cl102.slots.size ≤ ((0 : Int32)).toNatClampNeg) := inb_of S102 ⟨by decide, by decide⟩
  have at102 : cl102.slots[((0 : Int32)).toNatClampNeg]? = some (.int c0_) := Has.at H102 in102 rfl
  have g103 : Go p e below s₁ (mkF m 13 #[rv s1, iv (0 : Int32), rv d1, iv (0 : Int32), iv (2 : Int32), iv (0 : Int32), .unset] [(.int c0_)]) A0 := fun t kont => g101 t (X0.caload hx (j := (0 : Int32)) (v := (.int c0_)) (by rw [e0]; exact Ar102.1) (State.isArrayOf_alike hZ.alike Ar102.2.1) Ar102.2.2 in102 at102 (g := (mkF m 12 #[rv s1, iv (0 : Int32), rv d1, iv (0 : Int32), iv (2 : Int32), iv (0 : Int32), .unset] [(.int (0 : Int32)), (.ref s1)])) rfl rfl (hb hby d6_12) t kont)
  have g104 : Go p e below s₁ (mkF m 31 #[rv s1, iv (0 : Int32), rv d1, iv (0 : Int32), iv (2 : Int32), iv (0 : Int32), iv c0_] [(.int (c0_.toInt8.toInt32)), (.int (0 : Int32)), (.ref d1)]) A0 := by
    intro t kont
    refine g103 t ?_
    refine XS.istore X0.here hx rfl (hb hby d6_13) rfl (l' := #[rv s1, iv (0 : Int32), rv d1, iv (0 : Int32), iv (2 : Int32), iv (0 : Int32), iv c0_]) rfl ?_
    show Steps p.tables e below (s₁.setTop (mkF m 15 #[rv s1, iv (0 : Int32), rv d1, iv (0 : Int32), iv (2 : Int32), iv (0 : Int32), iv c0_] [])) _
    refine XS.iload X0.here hx rfl (hb hby d6_15) rfl ?_
    show Steps p.tables e below (s₁.setTop (mkF m 17 #[rv s1, iv (0 : Int32), rv d1, iv (0 : Int32), iv (2 : Int32), iv (0 : Int32), iv c0_] [(.int c0_)])) _
    refine XS.sipush X0.here hx rfl (hb hby d6_17) ?_
    show Steps p.tables e below (s₁.setTop (mkF m 20 #[rv s1, iv (0 : Int32), rv d1, iv (0 : Int32), iv (2 : Int32), iv (0 : Int32), iv c0_] [(.int (255 : Int32)), (.int c0_)])) _
    refine XS.icmpYes X0.here hx rfl (pc0 := 20) (pc' := 26) rfl (hb hby d6_20) rfl (flt hc0).2.2.2 (by decide) (by decide) ?_
    show Steps p.tables e below (s₁.setTop (mkF m 26 #[rv s1, iv (0 : Int32), rv d1, iv (0 : Int32), iv (2 : Int32), iv (0 : Int32), iv c0_] [])) _
    refine XS.aloadN X0.here hx rfl (hb hby d6_26) rfl rfl ?_
    show Steps p.tables e below (s₁.setTop (mkF m 27 #[rv s1, iv (0 : Int32), rv d1, iv (0 : Int32), iv (2 : Int32), iv (0 : Int32), iv c0_] [(.ref d1)])) _
    refine XS.iloadN X0.here hx rfl (hb hby d6_27) rfl ?_
    show Steps p.tables e below (s₁.setTop (mkF m 28 #[rv s1, iv (0 : Int32), rv d1, iv (0 : Int32), iv (2 : Int32), iv (0 : Int32), iv c0_] [(.int (0 : Int32)), (.ref d1)])) _
    refine XS.iload X0.here hx rfl (hb hby d6_28) rfl ?_
    show Steps p.tables e below (s₁.setTop (mkF m 30 #[rv s1, iv (0 : Int32), rv d1, iv (0 : Int32), iv (2 : Int32), iv (0 : Int32), iv c0_] [(.int c0_), (.int (0 : Int32)), (.ref d1)])) _
    refine XS.i2b X0.here hx rfl (hb hby d6_30) rfl ?_
    show Steps p.tables e below (s₁.setTop (mkF m 31 #[rv s1, iv (0 : Int32), rv d1, iv (0 : Int32), iv (2 : Int32), iv (0 : Int32), iv c0_] [(.int (c0_.toInt8.toInt32)), (.int (0 : Int32)), (.ref d1)])) _
    exact kont
  have zz105 := A1_
  obtain ⟨cl105, Ar105, q105, S105, M105, H105, G105⟩ := zz105
  have in105 : ¬ ((0 : Int32) < 0 ∨ cl105.slots.size ≤ ((0 : Int32)).toNatClampNeg) := inb_of S105 ⟨by decide, by decide⟩
  obtain ⟨T105, h105, X105, e105, W105, st105⟩ := stB X0 hx hZ e0 Ar105 (j := (0 : Int32)) in105 (g := (mkF m 31 #[rv s1, iv (0 : Int32), rv d1, iv (0 : Int32), iv (2 : Int32), iv (0 : Int32), iv c0_] [(.int (c0_.toInt8.toInt32)), (.int (0 : Int32)), (.ref d1)])) rfl rfl (hb hby d6_31)
  rw [show nar .byte (c0_.toInt8.toInt32) = (c0_.toInt8.toInt32) from (own_narb _)] at W105
  have O106 := O0.wr W105 G2_
  have y107 : Arv Z h105 d1 kd .byte (2 : Int32) [(.int (c0_.toInt8.toInt32)), (.int (0 : Int32))] (.int (0 : Int32)) := Arv.set Ar105 q105 S105 M105 H105 G105 (own_ft_byte (z := (c0_.toInt8.toInt32)) (own_narb _)) W105 0 rfl (Nat.le_of_ble_eq_true rfl)
  have N105 := Fr.snoc X105 N0 G2_
  have g108 : Go p e below T105 (mkF m 32 #[rv s1, iv (0 : Int32), rv d1, iv (0 : Int32), iv (2 : Int32), iv (0 : Int32), iv c0_] []) A0 := fun t kont => g104 t (st105 t kont)
  have g109 : Go p e below T105 (mkF m 12 #[rv s1, iv (1 : Int32), rv d1, iv (1 : Int32), iv (2 : Int32), iv (1 : Int32), iv c0_] [(.int (1 : Int32)), (.ref s1)]) A0 := by
    intro t kont
    refine g108 t ?_
    refine XS.iinc X105.here hx rfl (hb hby d6_32) rfl (l' := #[rv s1, iv (1 : Int32), rv d1, iv (0 : Int32), iv (2 : Int32), iv (0 : Int32), iv c0_]) rfl ?_
    show Steps p.tables e below (T105.setTop (mkF m 35 #[rv s1, iv (1 : Int32), rv d1, iv (0 : Int32), iv (2 : Int32), iv (0 : Int32), iv c0_] [])) _
    refine XS.iinc X105.here hx rfl (hb hby d6_35) rfl (l' := #[rv s1, iv (1 : Int32), rv d1, iv (1 : Int32), iv (2 : Int32), iv (0 : Int32), iv c0_]) rfl ?_
    show Steps p.tables e below (T105.setTop (mkF m 38 #[rv s1, iv (1 : Int32), rv d1, iv (1 : Int32), iv (2 : Int32), iv (0 : Int32), iv c0_] [])) _
    refine XS.iinc X105.here hx rfl (hb hby d6_38) rfl (l' := #[rv s1, iv (1 : Int32), rv d1, iv (1 : Int32), iv (2 : Int32), iv (1 : Int32), iv c0_]) rfl ?_
    show Steps p.tables e below (T105.setTop (mkF m 41 #[rv s1, iv (1 : Int32), rv d1, iv (1 : Int32), iv (2 : Int32), iv (1 : Int32), iv c0_] [])) _
    refine XS.goto X105.here hx rfl (pc0 := 41) (pc' := 3) rfl (hb hby d6_41) (by decide) (by decide) ?_
    show Steps p.tables e below (T105.setTop (mkF m 3 #[rv s1, iv (1 : Int32), rv d1, iv (1 : Int32), iv (2 : Int32), iv (1 : Int32), iv c0_] [])) _
    refine XS.iload X105.here hx rfl (hb hby d6_3) rfl ?_
    show Steps p.tables e below (T105.setTop (mkF m 5 #[rv s1, iv (1 : Int32), rv d1, iv (1 : Int32), iv (2 : Int32), iv (1 : Int32), iv c0_] [(.int (1 : Int32))])) _
    refine XS.iload X105.here hx rfl (hb hby d6_5) rfl ?_
    show Steps p.tables e below (T105.setTop (mkF m 7 #[rv s1, iv (1 : Int32), rv d1, iv (1 : Int32), iv (2 : Int32), iv (1 : Int32), iv c0_] [(.int (2 : Int32)), (.int (1 : Int32))])) _
    refine XS.icmpNo X105.here hx rfl (hb hby d6_7) rfl (tlt (by decide : (1 : Int32) < (2 : Int32))).2.1 ?_
    show Steps p.tables e below (T105.setTop (mkF m 10 #[rv s1, iv (1 : Int32), rv d1, iv (1 : Int32), iv (2 : Int32), iv (1 : Int32), iv c0_] [])) _
    refine XS.aloadN X105.here hx rfl (hb hby d6_10) rfl rfl ?_
    show Steps p.tables e below (T105.setTop (mkF m 11 #[rv s1, iv (1 : Int32), rv d1, iv (1 : Int32), iv (2 : Int32), iv (1 : Int32), iv c0_] [(.ref s1)])) _
    refine XS.iloadN X105.here hx rfl (hb hby d6_11) rfl ?_
    show Steps p.tables e below (T105.setTop (mkF m 12 #[rv s1, iv (1 : Int32), rv d1, iv (1 : Int32), iv (2 : Int32), iv (1 : Int32), iv c0_] [(.int (1 : Int32)), (.ref s1)])) _
    exact kont
  have y110 : Arv Z h105 s1 ks .char (2 : Int32) [(.int c0_), (.int c1_)] (.int (0 : Int32)) := (A0_.other W105 NE3_)
  have zz111 := y110
  obtain ⟨cl111, Ar111, q111, S111, M111, H111, G111⟩ := zz111
  have in111 : ¬ ((1 : Int32) < 0 ∨ cl111.slots.size ≤ ((1 : Int32)).toNatClampNeg) := inb_of S111 ⟨by decide, by decide⟩
  have at111 : cl111.slots[((1 : Int32)).toNatClampNeg]? = some (.int c1_) := Has.at H111 in111 rfl
  have g112 : Go p e below T105 (mkF m 13 #[rv s1, iv (1 : Int32), rv d1, iv (1 : Int32), iv (2 : Int32), iv (1 : Int32), iv c0_] [(.int c1_)]) A0 := fun t kont => g109 t (X105.caload hx (j := (1 : Int32)) (v := (.int c1_)) (by rw [e105]; exact Ar111.1) (State.isArrayOf_alike hZ.alike Ar111.2.1) Ar111.2.2 in111 at111 (g := (mkF m 12 #[rv s1, iv (1 : Int32), rv d1, iv (1 : Int32), iv (2 : Int32), iv (1 : Int32), iv c0_] [(.int (1 : Int32)), (.ref s1)])) rfl rfl (hb hby d6_12) t kont)
  have g113 : Go p e below T105 (mkF m 31 #[rv s1, iv (1 : Int32), rv d1, iv (1 : Int32), iv (2 : Int32), iv (1 : Int32), iv c1_] [(.int (c1_.toInt8.toInt32)), (.int (1 : Int32)), (.ref d1)]) A0 := by
    intro t kont
    refine g112 t ?_
    refine XS.istore X105.here hx rfl (hb hby d6_13) rfl (l' := #[rv s1, iv (1 : Int32), rv d1, iv (1 : Int32), iv (2 : Int32), iv (1 : Int32), iv c1_]) rfl ?_
    show Steps p.tables e below (T105.setTop (mkF m 15 #[rv s1, iv (1 : Int32), rv d1, iv (1 : Int32), iv (2 : Int32), iv (1 : Int32), iv c1_] [])) _
    refine XS.iload X105.here hx rfl (hb hby d6_15) rfl ?_
    show Steps p.tables e below (T105.setTop (mkF m 17 #[rv s1, iv (1 : Int32), rv d1, iv (1 : Int32), iv (2 : Int32), iv (1 : Int32), iv c1_] [(.int c1_)])) _
    refine XS.sipush X105.here hx rfl (hb hby d6_17) ?_
    show Steps p.tables e below (T105.setTop (mkF m 20 #[rv s1, iv (1 : Int32), rv d1, iv (1 : Int32), iv (2 : Int32), iv (1 : Int32), iv c1_] [(.int (255 : Int32)), (.int c1_)])) _
    refine XS.icmpYes X105.here hx rfl (pc0 := 20) (pc' := 26) rfl (hb hby d6_20) rfl (flt hc1).2.2.2 (by decide) (by decide) ?_
    show Steps p.tables e below (T105.setTop (mkF m 26 #[rv s1, iv (1 : Int32), rv d1, iv (1 : Int32), iv (2 : Int32), iv (1 : Int32), iv c1_] [])) _
    refine XS.aloadN X105.here hx rfl (hb hby d6_26) rfl rfl ?_
    show Steps p.tables e below (T105.setTop (mkF m 27 #[rv s1, iv (1 : Int32), rv d1, iv (1 : Int32), iv (2 : Int32), iv (1 : Int32), iv c1_] [(.ref d1)])) _
    refine XS.iloadN X105.here hx rfl (hb hby d6_27) rfl ?_
    show Steps p.tables e below (T105.setTop (mkF m 28 #[rv s1, iv (1 : Int32), rv d1, iv (1 : Int32), iv (2 : Int32), iv (1 : Int32), iv c1_] [(.int (1 : Int32)), (.ref d1)])) _
    refine XS.iload X105.here hx rfl (hb hby d6_28) rfl ?_
    show Steps p.tables e below (T105.setTop (mkF m 30 #[rv s1, iv (1 : Int32), rv d1, iv (1 : Int32), iv (2 : Int32), iv (1 : Int32), iv c1_] [(.int c1_), (.int (1 : Int32)), (.ref d1)])) _
    refine XS.i2b X105.here hx rfl (hb hby d6_30) rfl ?_
    show Steps p.tables e below (T105.setTop (mkF m 31 #[rv s1, iv (1 : Int32), rv d1, iv (1 : Int32), iv (2 : Int32), iv (1 : Int32), iv c1_] [(.int (c1_.toInt8.toInt32)), (.int (1 : Int32)), (.ref d1)])) _
    exact kont
  have zz114 := y107
  obtain ⟨cl114, Ar114, q114, S114, M114, H114, G114⟩ := zz114
  have in114 : ¬ ((1 : Int32) < 0 ∨ cl114.slots.size ≤ ((1 : Int32)).toNatClampNeg) := inb_of S114 ⟨by decide, by decide⟩
  obtain ⟨T114, h114, X114, e114, W114, st114⟩ := stB X105 hx hZ e105 Ar114 (j := (1 : Int32)) in114 (g := (mkF m 31 #[rv s1, iv (1 : Int32), rv d1, iv (1 : Int32), iv (2 : Int32), iv (1 : Int32), iv c1_] [(.int (c1_.toInt8.toInt32)), (.int (1 : Int32)), (.ref d1)])) rfl rfl (hb hby d6_31)
  rw [show nar .byte (c1_.toInt8.toInt32) = (c1_.toInt8.toInt32) from (own_narb _)] at W114
  have O115 := O106.wr W114 G2_
  have y116 : Arv Z h114 d1 kd .byte (2 : Int32) [(.int (c0_.toInt8.toInt32)), (.int (c1_.toInt8.toInt32))] (.int (0 : Int32)) := Arv.set Ar114 q114 S114 M114 H114 G114 (own_ft_byte (z := (c1_.toInt8.toInt32)) (own_narb _)) W114 1 rfl (Nat.le_of_ble_eq_true rfl)
  have N114 := Fr.snoc X114 N105 G2_
  have g117 : Go p e below T114 (mkF m 32 #[rv s1, iv (1 : Int32), rv d1, iv (1 : Int32), iv (2 : Int32), iv (1 : Int32), iv c1_] []) A0 := fun t kont => g113 t (st114 t kont)
  have g118 : Go p e below T114 (mkF m 46 #[rv s1, iv (2 : Int32), rv d1, iv (2 : Int32), iv (2 : Int32), iv (2 : Int32), iv c1_] [(.int (2 : Int32))]) A0 := by
    intro t kont
    refine g117 t ?_
    refine XS.iinc X114.here hx rfl (hb hby d6_32) rfl (l' := #[rv s1, iv (2 : Int32), rv d1, iv (1 : Int32), iv (2 : Int32), iv (1 : Int32), iv c1_]) rfl ?_
    show Steps p.tables e below (T114.setTop (mkF m 35 #[rv s1, iv (2 : Int32), rv d1, iv (1 : Int32), iv (2 : Int32), iv (1 : Int32), iv c1_] [])) _
    refine XS.iinc X114.here hx rfl (hb hby d6_35) rfl (l' := #[rv s1, iv (2 : Int32), rv d1, iv (2 : Int32), iv (2 : Int32), iv (1 : Int32), iv c1_]) rfl ?_
    show Steps p.tables e below (T114.setTop (mkF m 38 #[rv s1, iv (2 : Int32), rv d1, iv (2 : Int32), iv (2 : Int32), iv (1 : Int32), iv c1_] [])) _
    refine XS.iinc X114.here hx rfl (hb hby d6_38) rfl (l' := #[rv s1, iv (2 : Int32), rv d1, iv (2 : Int32), iv (2 : Int32), iv (2 : Int32), iv c1_]) rfl ?_
    show Steps p.tables e below (T114.setTop (mkF m 41 #[rv s1, iv (2 : Int32), rv d1, iv (2 : Int32), iv (2 : Int32), iv (2 : Int32), iv c1_] [])) _
    refine XS.goto X114.here hx rfl (pc0 := 41) (pc' := 3) rfl (hb hby d6_41) (by decide) (by decide) ?_
    show Steps p.tables e below (T114.setTop (mkF m 3 #[rv s1, iv (2 : Int32), rv d1, iv (2 : Int32), iv (2 : Int32), iv (2 : Int32), iv c1_] [])) _
    refine XS.iload X114.here hx rfl (hb hby d6_3) rfl ?_
    show Steps p.tables e below (T114.setTop (mkF m 5 #[rv s1, iv (2 : Int32), rv d1, iv (2 : Int32), iv (2 : Int32), iv (2 : Int32), iv c1_] [(.int (2 : Int32))])) _
    refine XS.iload X114.here hx rfl (hb hby d6_5) rfl ?_
    show Steps p.tables e below (T114.setTop (mkF m 7 #[rv s1, iv (2 : Int32), rv d1, iv (2 : Int32), iv (2 : Int32), iv (2 : Int32), iv c1_] [(.int (2 : Int32)), (.int (2 : Int32))])) _
    refine XS.icmpYes X114.here hx rfl (pc0 := 7) (pc' := 44) rfl (hb hby d6_7) rfl (flt (by decide : ¬ ((2 : Int32) < (2 : Int32)))).2.1 (by decide) (by decide) ?_
    show Steps p.tables e below (T114.setTop (mkF m 44 #[rv s1, iv (2 : Int32), rv d1, iv (2 : Int32), iv (2 : Int32), iv (2 : Int32), iv c1_] [])) _
    refine XS.iload X114.here hx rfl (hb hby d6_44) rfl ?_
    show Steps p.tables e below (T114.setTop (mkF m 46 #[rv s1, iv (2 : Int32), rv d1, iv (2 : Int32), iv (2 : Int32), iv (2 : Int32), iv c1_] [(.int (2 : Int32))])) _
    exact kont
  have K119 : Keep h0 h114 [d1] := (((Keep.refl h0 [d1]).wr W105 (Or.inl (List.mem_of_getElem? (i := 0) rfl))).wr W114 (Or.inl (List.mem_of_getElem? (i := 0) rfl)))
  obtain ⟨fs, hr, hrun, hended, hW, hsame⟩ := X114.leave (v := some (.int (2 : Int32))) (fun h => by rw [Bd.returns] at h; cases h)
  refine ⟨_, _, g118 _ (retI X114 hx Bd.returns (hb hby d6_46) hr), hrun, hended, _, _, rfl, ?_, ⟨_, rfl⟩, hW, hsame.mono (by decide) (by decide)⟩
  show Q_cmp2 Z s1 d1 ks kd c0_ c1_ h0 n0 _ T114.heap _
  rw [e114]
  exact ⟨rfl, N114, K119, y116⟩
theorem ef_com2 (m : MethodId) (x0 : Addr) (x1 : Int32) (x2 : Int32)  : entryFrame m #[(.ref x0), (.int x1), (.int x2)] 6 = mkF m 0 #[.val (.ref x0), .val (.int x1), .val (.int x2), .unset, .unset, .unset] [] := by first | (simp [entryFrame, mkF, argsToLocals, Value.category]; done) | rfl
def Q_com2 (Z : State) (s1 : Addr) (ks : ClassId) (c0_ : Int32) (c1_ : Int32) (h0 : Heap) (n0 : Nat) (v : Option Value) (h : Heap) (L : List Loc) : Prop := ∃ (r : Addr), ∃ (kid : ClassId), v = some (.ref r) ∧ Fr n0 L ∧ Keep h0 h [] ∧ h0.size ≤ r ∧ (Exa Z h r "[B") ∧ (Arv Z h r kid .byte (2 : Int32) [(.int (c0_.toInt8.toInt32)), (.int (c1_.toInt8.toInt32))] (.int (0 : Int32)))
set_option maxRecDepth 65536 in
set_option maxHeartbeats 40000000 in
theorem rm_com2 (l : Launch) (Z : State) (a0 : Array Value) (hw : ∀ d ∈ tables_1, d.before a0 Z = true) (ws : List Jvm.Cond) (s1 : Addr) (ks : ClassId) (c0_ : Int32) (c1_ : Int32) (h0 : Heap) (n0 : Nat) (O0 : Old Z n0 h0) (A0_ : Arv Z h0 s1 ks .char (2 : Int32) [(.int c0_), (.int c1_)] (.int (0 : Int32))) (hc0 : ¬ ((255 : Int32) < c0_)) (hc1 : ¬ ((255 : Int32) < c1_)) :
    MetFree l (⟨"java/lang/StringUTF16", "compress", "([CII)[B"⟩ : MethodName) (head1 (Jvm.Cond.code (⟨"java/lang/StringUTF16", "compress", "([CII)[B"⟩ : MethodName) jdk_52_method_16_code 6 (some (.array .byte)) :: ws) ({ frames := 1, cells := 1, slots := 2, locals := 18 } : Room)) (fun a U => a = #[(.ref s1), (.int (0 : Int32)), (.int (2 : Int32))] ∧ Z.Warmed39 U.vm ∧ U.heap = h0) (fun _ _ _ _ _ => True) (fun _ U o U' => ∃ v L, o = .returned v ∧ Q_com2 Z s1 ks c0_ c1_ h0 n0 v U'.heap L ∧ FrameEnd U o U' L ({ frames := 1, cells := 1, slots := 2, locals := 18 } : Room).cells ({ frames := 1, cells := 1, slots := 2, locals := 18 } : Room).slots) := by
  refine MetFree.of_bodySF (plainFor_of_name pn_java_lang_StringUTF16) hisR ?_
  intro p e s m args below meth c s₁ Bd hml0 hP hK
  obtain ⟨rfl, hZ, hh⟩ := hP
  have hx := Bd.exec
  have hby := Bd.bytes
  have hml : c.maxLocals = 6 := hml0
  have hown : s.vm.findClass "java/lang/StringUTF16" = some m.cls := findClass_of_methodNamed Bd.named
  have hnm := (name_of_methodNamed Bd.named Bd.method).1
  have X0 : Stand p l e ({ frames := 1, cells := 1, slots := 2, locals := 18 } : Room) s m #[(.ref s1), (.int (0 : Int32)), (.int (2 : Int32))] below meth c s₁ [] 0 0 := Stand.of_body Bd
  have e0 : s₁.heap = h0 := by rw [← hh, Bd.state]; rfl
  have N0 := Fr.nil n0
  have g0 : Go p e below s₁ (mkF m 0 #[rv s1, iv (0 : Int32), iv (2 : Int32), .unset, .unset, .unset] []) (s₁.setTop (entryFrame m #[(.ref s1), (.int (0 : Int32)), (.int (2 : Int32))] 6)) := fun t kont => castTop (ef_com2 m s1 (0 : Int32) (2 : Int32) ) kont
  generalize s₁.setTop (entryFrame m #[(.ref s1), (.int (0 : Int32)), (.int (2 : Int32))] 6) = A0 at g0 ⊢
  have g101 : Go p e below s₁ (mkF m 1 #[rv s1, iv (0 : Int32), iv (2 : Int32), .unset, .unset, .unset] [(.int (2 : Int32))]) A0 := by
    intro t kont
    refine g0 t ?_
    refine XS.iloadN X0.here hx rfl (hb hby d5_0) rfl ?_
    show Steps p.tables e below (s₁.setTop (mkF m 1 #[rv s1, iv (0 : Int32), iv (2 : Int32), .unset, .unset, .unset] [(.int (2 : Int32))])) _
    exact kont
  obtain ⟨T102, h102, k102, X102, e102, E102, A102, F102, st102⟩ := newPE X0 hx hZ (hw _ (List.mem_of_getElem? (i := 23) rfl)) e0 (g := (mkF m 1 #[rv s1, iv (0 : Int32), iv (2 : Int32), .unset, .unset, .unset] [(.int (2 : Int32))])) rfl (hb hby d5_1) rfl (by decide) (cap := 2) (by decide) (by decide) (by decide) (by decide) (ad := "[B") (by decide)
  obtain ⟨b102, gb102⟩ : ∃ z, z = h0.size := ⟨_, rfl⟩
  rw [← gb102] at A102 F102 st102
  have O103 := O0.ext E102
  have y104 : Arv Z h102 b102 k102 .byte (2 : Int32) [(.int (0 : Int32)), (.int (0 : Int32))] (.int (0 : Int32)) := (Arv.new A102 (by decide)).pad (pad_rep [] (.int (0 : Int32)) 2)
  have g105 : Go p e below T102 (mkF m 3 #[rv s1, iv (0 : Int32), iv (2 : Int32), .unset, .unset, .unset] [(.ref b102)]) A0 := fun t kont => g101 t (st102 t kont)
  have g106 : Go p e below T102 (mkF m 9 #[rv s1, iv (0 : Int32), iv (2 : Int32), rv b102, .unset, .unset] [(.int (2 : Int32)), (.int (0 : Int32)), (.ref b102), (.int (0 : Int32)), (.ref s1)]) A0 := by
    intro t kont
    refine g105 t ?_
    refine XS.astoreN X102.here hx rfl (hb hby d5_3) rfl rfl (l' := #[rv s1, iv (0 : Int32), iv (2 : Int32), rv b102, .unset, .unset]) rfl ?_
    show Steps p.tables e below (T102.setTop (mkF m 4 #[rv s1, iv (0 : Int32), iv (2 : Int32), rv b102, .unset, .unset] [])) _
    refine XS.aloadN X102.here hx rfl (hb hby d5_4) rfl rfl ?_
    show Steps p.tables e below (T102.setTop (mkF m 5 #[rv s1, iv (0 : Int32), iv (2 : Int32), rv b102, .unset, .unset] [(.ref s1)])) _
    refine XS.iloadN X102.here hx rfl (hb hby d5_5) rfl ?_
    show Steps p.tables e below (T102.setTop (mkF m 6 #[rv s1, iv (0 : Int32), iv (2 : Int32), rv b102, .unset, .unset] [(.int (0 : Int32)), (.ref s1)])) _
    refine XS.aloadN X102.here hx rfl (hb hby d5_6) rfl rfl ?_
    show Steps p.tables e below (T102.setTop (mkF m 7 #[rv s1, iv (0 : Int32), iv (2 : Int32), rv b102, .unset, .unset] [(.ref b102), (.int (0 : Int32)), (.ref s1)])) _
    refine XS.iconst X102.here hx rfl (hb hby d5_7) ?_
    show Steps p.tables e below (T102.setTop (mkF m 8 #[rv s1, iv (0 : Int32), iv (2 : Int32), rv b102, .unset, .unset] [(.int (0 : Int32)), (.ref b102), (.int (0 : Int32)), (.ref s1)])) _
    refine XS.iloadN X102.here hx rfl (hb hby d5_8) rfl ?_
    show Steps p.tables e below (T102.setTop (mkF m 9 #[rv s1, iv (0 : Int32), iv (2 : Int32), rv b102, .unset, .unset] [(.int (2 : Int32)), (.int (0 : Int32)), (.ref b102), (.int (0 : Int32)), (.ref s1)])) _
    exact kont
  have y108 : Arv Z h102 s1 ks .char (2 : Int32) [(.int c0_), (.int c1_)] (.int (0 : Int32)) := (A0_.ext E102)
  have ge109 : n0 ≤ b102 := Nat.le_trans (own_old_le O0) (Nat.le_of_eq gb102.symm)
  obtain ⟨_, _, ⟨T107, L107, k107, n107⟩, -, X107, ⟨Lc107, hQ107, l107, y107, z107⟩, st107⟩ := Jvm.LawKit.callS X102 hx (y := (⟨"java/lang/StringUTF16", "compress", "([CI[BII)I"⟩ : MethodName)) hown (mvT hZ (hw _ (List.mem_of_getElem? (i := 24) rfl))) (mvT hZ (hw _ (List.mem_of_getElem? (i := 25) rfl))) (mvT hZ (hw _ (List.mem_of_getElem? (i := 21) rfl))) (mvT hZ (hw _ (List.mem_of_getElem? (i := 26) rfl))) (by decide) (backOf (W := 0) (rm_cmp2 l Z a0 hw [] s1 b102 ks k102 c0_ c1_ h102 n0 O103 y108 y104 ge109 (Nat.ne_of_lt (Nat.lt_of_lt_of_le A0_.lt (Nat.le_of_eq gb102.symm))) hc0 hc1) hZ (hw _ (List.mem_of_getElem? (i := 26) rfl)) (hw _ (List.mem_of_getElem? (i := 21) rfl)) (by decide) (by decide)) (g := (mkF m 9 #[rv s1, iv (0 : Int32), iv (2 : Int32), rv b102, .unset, .unset] [(.int (2 : Int32)), (.int (0 : Int32)), (.ref b102), (.int (0 : Int32)), (.ref s1)])) rfl (by rw [hml]; rfl) (argsL := [(.ref s1), (.int (0 : Int32)), (.ref b102), (.int (0 : Int32)), (.int (2 : Int32))]) (rest := []) (lenOf pd_1 rfl) rfl (by show 2 * 0 + _ ≤ _; exact Nat.le_of_eq rfl) (hb hby d5_9) (fun _ _ => ⟨rfl, e102, (by decide : 1 + 0 ≤ _), (by decide : 2 + 0 ≤ _)⟩)
  dsimp only [Pt.U, Pt.locs, Pt.cells, Pt.slots] at X107 l107 y107 z107 st107 hQ107
  subst l107 y107 z107
  obtain ⟨rfl, M107, K107, y110⟩ := hQ107
  have N107 := Fr.app N0 M107
  have O111 := O103.keep K107 (allS ge109 all0)
  have g112 : Go p e below T107 (mkF m 12 #[rv s1, iv (0 : Int32), iv (2 : Int32), rv b102, .unset, .unset] [(.int (2 : Int32))]) A0 := fun t kont => g106 t (st107 t kont)
  have g113 : Go p e below T107 (mkF m 58 #[rv s1, iv (0 : Int32), iv (2 : Int32), rv b102, iv (2 : Int32), .unset] [(.ref b102)]) A0 := by
    intro t kont
    refine g112 t ?_
    refine XS.istore X107.here hx rfl (hb hby d5_12) rfl (l' := #[rv s1, iv (0 : Int32), iv (2 : Int32), rv b102, iv (2 : Int32), .unset]) rfl ?_
    show Steps p.tables e below (T107.setTop (mkF m 14 #[rv s1, iv (0 : Int32), iv (2 : Int32), rv b102, iv (2 : Int32), .unset] [])) _
    refine XS.iload X107.here hx rfl (hb hby d5_14) rfl ?_
    show Steps p.tables e below (T107.setTop (mkF m 16 #[rv s1, iv (0 : Int32), iv (2 : Int32), rv b102, iv (2 : Int32), .unset] [(.int (2 : Int32))])) _
    refine XS.iloadN X107.here hx rfl (hb hby d5_16) rfl ?_
    show Steps p.tables e below (T107.setTop (mkF m 17 #[rv s1, iv (0 : Int32), iv (2 : Int32), rv b102, iv (2 : Int32), .unset] [(.int (2 : Int32)), (.int (2 : Int32))])) _
    refine XS.icmpYes X107.here hx rfl (pc0 := 17) (pc' := 57) rfl (hb hby d5_17) rfl (teq (by decide : (2 : Int32) = (2 : Int32))).1 (by decide) (by decide) ?_
    show Steps p.tables e below (T107.setTop (mkF m 57 #[rv s1, iv (0 : Int32), iv (2 : Int32), rv b102, iv (2 : Int32), .unset] [])) _
    refine XS.aloadN X107.here hx rfl (hb hby d5_57) rfl rfl ?_
    show Steps p.tables e below (T107.setTop (mkF m 58 #[rv s1, iv (0 : Int32), iv (2 : Int32), rv b102, iv (2 : Int32), .unset] [(.ref b102)])) _
    exact kont
  have K114 : Keep h0 T107.heap [] := (((Keep.refl h0 []).ext E102).trans K107 (allS (P := fun x => x ∈ [] ∨ h0.size ≤ x) (Or.inr (Nat.le_of_eq gb102.symm)) all0))
  have y115 : Exa Z T107.heap b102 "[B" := (F102.keep K107)
  obtain ⟨fs, hr, hrun, hended, hW, hsame⟩ := X107.leave (v := some (.ref b102)) (fun h => by rw [Bd.returns] at h; cases h)
  refine ⟨_, _, g113 _ (retOut X107 hx Bd.returns rfl (Or.inr (Or.inr (Or.inr (Or.inr ⟨rfl, rfl, rfl⟩)))) (hb hby d5_58) hr), hrun, hended, _, _, rfl, ?_, ⟨_, rfl⟩, hW, hsame.mono (by decide) (by decide)⟩
  show Q_com2 Z s1 ks c0_ c1_ h0 n0 _ T107.heap _
  exact ⟨b102, k102, rfl, N107, K114, (Nat.le_of_eq gb102.symm), y115, y110⟩
theorem ef_cfa2 (m : MethodId) (x0 : Addr) (x1 : Int32)  : entryFrame m #[(.ref x0), (.int x1)] 2 = mkF m 0 #[.val (.ref x0), .val (.int x1)] [] := by first | (simp [entryFrame, mkF, argsToLocals, Value.category]; done) | rfl
def Q_cfa2 (Z : State) (b1 : Addr) (kid : ClassId) (vs : List Value) (h0 : Heap) (n0 : Nat) (v : Option Value) (h : Heap) (L : List Loc) : Prop := v = some (.int (0 : Int32)) ∧ Fr n0 L ∧ h = h0
set_option maxRecDepth 65536 in
set_option maxHeartbeats 40000000 in
theorem rm_cfa2 (l : Launch) (Z : State) (a0 : Array Value) (hw : ∀ d ∈ tables_1, d.before a0 Z = true) (ws : List Jvm.Cond) (b1 : Addr) (kid : ClassId) (vs : List Value) (h0 : Heap) (n0 : Nat) (O0 : Old Z n0 h0) (A0_ : Arv Z h0 b1 kid .byte (2 : Int32) vs (.int (0 : Int32))) :
    MetFree l (⟨"java/lang/StringUTF16", "coderFromArrayLen", "([BI)B"⟩ : MethodName) (head1 (Jvm.Cond.code (⟨"java/lang/StringUTF16", "coderFromArrayLen", "([BI)B"⟩ : MethodName) jdk_52_method_15_code 2 (some .byte) :: ws) ({ frames := 0, cells := 0, slots := 0, locals := 0 } : Room)) (fun a U => a = #[(.ref b1), (.int (2 : Int32))] ∧ Z.Warmed39 U.vm ∧ U.heap = h0) (fun _ _ _ _ _ => True) (fun _ U o U' => ∃ v L, o = .returned v ∧ Q_cfa2 Z b1 kid vs h0 n0 v U'.heap L ∧ FrameEnd U o U' L ({ frames := 0, cells := 0, slots := 0, locals := 0 } : Room).cells ({ frames := 0, cells := 0, slots := 0, locals := 0 } : Room).slots) := by
  refine MetFree.of_bodySF (plainFor_of_name pn_java_lang_StringUTF16) hisR ?_
  intro p e s m args below meth c s₁ Bd hml0 hP hK
  obtain ⟨rfl, hZ, hh⟩ := hP
  have hx := Bd.exec
  have hby := Bd.bytes
  have hml : c.maxLocals = 2 := hml0
  have hown : s.vm.findClass "java/lang/StringUTF16" = some m.cls := findClass_of_methodNamed Bd.named
  have hnm := (name_of_methodNamed Bd.named Bd.method).1
  have X0 : Stand p l e ({ frames := 0, cells := 0, slots := 0, locals := 0 } : Room) s m #[(.ref b1), (.int (2 : Int32))] below meth c s₁ [] 0 0 := Stand.of_body Bd
  have e0 : s₁.heap = h0 := by rw [← hh, Bd.state]; rfl
  have N0 := Fr.nil n0
  have g0 : Go p e below s₁ (mkF m 0 #[rv b1, iv (2 : Int32)] []) (s₁.setTop (entryFrame m #[(.ref b1), (.int (2 : Int32))] 2)) := fun t kont => castTop (ef_cfa2 m b1 (2 : Int32) ) kont
  generalize s₁.setTop (entryFrame m #[(.ref b1), (.int (2 : Int32))] 2) = A0 at g0 ⊢
  have g101 : Go p e below s₁ (mkF m 2 #[rv b1, iv (2 : Int32)] [(.ref b1), (.int (2 : Int32))]) A0 := by
    intro t kont
    refine g0 t ?_
    refine XS.iloadN X0.here hx rfl (hb hby d7_0) rfl ?_
    show Steps p.tables e below (s₁.setTop (mkF m 1 #[rv b1, iv (2 : Int32)] [(.int (2 : Int32))])) _
    refine XS.aloadN X0.here hx rfl (hb hby d7_1) rfl rfl ?_
    show Steps p.tables e below (s₁.setTop (mkF m 2 #[rv b1, iv (2 : Int32)] [(.ref b1), (.int (2 : Int32))])) _
    exact kont
  have zz102 := A0_
  obtain ⟨cl102, Ar102, -, S102, M102, -, -⟩ := zz102
  have g103 : Go p e below s₁ (mkF m 3 #[rv b1, iv (2 : Int32)] [(.int (2 : Int32)), (.int (2 : Int32))]) A0 := by
    intro t kont
    refine g101 t ?_
    refine X0.arraylength hx (by rw [e0]; exact Ar102.1) (State.isArrayOf_alike hZ.alike Ar102.2.1) (g := (mkF m 2 #[rv b1, iv (2 : Int32)] [(.ref b1), (.int (2 : Int32))])) rfl rfl (hb hby d7_2) _ ?_
    rw [len_of S102 M102]
    exact kont
  have g104 : Go p e below s₁ (mkF m 8 #[rv b1, iv (2 : Int32)] [(.int (0 : Int32))]) A0 := by
    intro t kont
    refine g103 t ?_
    refine XS.isub X0.here hx rfl (hb hby d7_3) rfl ?_
    show Steps p.tables e below (s₁.setTop (mkF m 4 #[rv b1, iv (2 : Int32)] [(.int (0 : Int32))])) _
    refine XS.bipush X0.here hx rfl (hb hby d7_4) ?_
    show Steps p.tables e below (s₁.setTop (mkF m 6 #[rv b1, iv (2 : Int32)] [(.int (31 : Int32)), (.int (0 : Int32))])) _
    refine XS.iushr X0.here hx rfl (hb hby d7_6) rfl ?_
    show Steps p.tables e below (s₁.setTop (mkF m 7 #[rv b1, iv (2 : Int32)] [(.int (0 : Int32))])) _
    refine XS.i2b X0.here hx rfl (hb hby d7_7) rfl ?_
    show Steps p.tables e below (s₁.setTop (mkF m 8 #[rv b1, iv (2 : Int32)] [(.int (0 : Int32))])) _
    exact kont
  obtain ⟨fs, hr, hrun, hended, hW, hsame⟩ := X0.leave (v := some (.int (0 : Int32))) (fun h => by rw [Bd.returns] at h; cases h)
  refine ⟨_, _, g104 _ (retN X0 hx (t := .byte) Bd.returns (by simp) (hb hby d7_8) hr), hrun, hended, _, _, rfl, ?_, ⟨_, rfl⟩, hW, hsame.mono (by decide) (by decide)⟩
  show Q_cfa2 Z b1 kid vs h0 n0 _ s₁.heap _
  rw [e0]
  exact ⟨rfl, N0, rfl⟩
theorem ef_sin2 (m : MethodId) (x0 : Addr) (x1 : Addr) (x2 : Int32) (x3 : Int32)  : entryFrame m #[(.ref x0), (.ref x1), (.int x2), (.int x3), .null] 6 = mkF m 0 #[.val (.ref x0), .val (.ref x1), .val (.int x2), .val (.int x3), .val .null, .unset] [] := by first | (simp [entryFrame, mkF, argsToLocals, Value.category]; done) | rfl
def Q_sin2 (Z : State) (a1 : Addr) (s1 : Addr) (ks : ClassId) (c0_ : Int32) (c1_ : Int32) (cs : Int32) (h0 : Heap) (n0 : Nat) (v : Option Value) (h : Heap) (L : List Loc) : Prop := ∃ (r : Addr), ∃ (kid : ClassId), v = none ∧ Fr n0 L ∧ Keep h0 h [a1] ∧ (Exa Z h a1 "java/lang/String") ∧ (Fld Z h a1 "java/lang/String" "coder" "B" (.int (0 : Int32))) ∧ (Fld Z h a1 "java/lang/String" "value" "[B" (.ref r)) ∧ h0.size ≤ r ∧ (Arv Z h r kid .byte (2 : Int32) [(.int (c0_.toInt8.toInt32)), (.int (c1_.toInt8.toInt32))] (.int (0 : Int32)))
set_option maxRecDepth 65536 in
set_option maxHeartbeats 40000000 in
theorem rm_sin2 (l : Launch) (Z : State) (a0 : Array Value) (hw : ∀ d ∈ tables_1, d.before a0 Z = true) (ws : List Jvm.Cond) (a1 : Addr) (s1 : Addr) (ks : ClassId) (c0_ : Int32) (c1_ : Int32) (cs : Int32) (h0 : Heap) (n0 : Nat) (O0 : Old Z n0 h0) (F0_ : Fld Z h0 a1 "java/lang/String" "value" "[B" .null) (F1_ : Fld Z h0 a1 "java/lang/String" "coder" "B" (.int (0 : Int32))) (E2_ : Exa Z h0 a1 "java/lang/String") (G3_ : n0 ≤ a1) (A4_ : Arv Z h0 s1 ks .char (2 : Int32) [(.int c0_), (.int c1_)] (.int (0 : Int32))) (hc0 : ¬ ((255 : Int32) < c0_)) (hc1 : ¬ ((255 : Int32) < c1_)) (S7_ : Sta Z Z.heap "java/lang/String" "COMPACT_STRINGS" "Z" (.int cs)) (hcs : ¬ (cs = (0 : Int32))) :
    MetFree l (⟨"java/lang/String", "<init>", "([CIILjava/lang/Void;)V"⟩ : MethodName) (head1 (Jvm.Cond.code (⟨"java/lang/String", "<init>", "([CIILjava/lang/Void;)V"⟩ : MethodName) jdk_42_method_149_code 6 none :: ws) ({ frames := 2, cells := 1, slots := 2, locals := 35 } : Room)) (fun a U => a = #[(.ref a1), (.ref s1), (.int (0 : Int32)), (.int (2 : Int32)), .null] ∧ Z.Warmed39 U.vm ∧ U.heap = h0) (fun _ _ _ _ _ => True) (fun _ U o U' => ∃ v L, o = .returned v ∧ Q_sin2 Z a1 s1 ks c0_ c1_ cs h0 n0 v U'.heap L ∧ FrameEnd U o U' L ({ frames := 2, cells := 1, slots := 2, locals := 35 } : Room).cells ({ frames := 2, cells := 1, slots := 2, locals := 35 } : Room).slots) := by
  refine MetFree.of_bodySF (plainFor_of_name pn_java_lang_String) hisR ?_
  intro p e s m args below meth c s₁ Bd hml0 hP hK
  obtain ⟨rfl, hZ, hh⟩ := hP
  have hx := Bd.exec
  have hby := Bd.bytes
  have hml : c.maxLocals = 6 := hml0
  have hown : s.vm.findClass "java/lang/String" = some m.cls := findClass_of_methodNamed Bd.named
  have hnm := (name_of_methodNamed Bd.named Bd.method).1
  have X0 : Stand p l e ({ frames := 2, cells := 1, slots := 2, locals := 35 } : Room) s m #[(.ref a1), (.ref s1), (.int (0 : Int32)), (.int (2 : Int32)), .null] below meth c s₁ [] 0 0 := Stand.of_body Bd
  have e0 : s₁.heap = h0 := by rw [← hh, Bd.state]; rfl
  have N0 := Fr.nil n0
  have g0 : Go p e below s₁ (mkF m 0 #[rv a1, rv s1, iv (0 : Int32), iv (2 : Int32), .val .null, .unset] []) (s₁.setTop (entryFrame m #[(.ref a1), (.ref s1), (.int (0 : Int32)), (.int (2 : Int32)), .null] 6)) := fun t kont => castTop (ef_sin2 m a1 s1 (0 : Int32) (2 : Int32) ) kont
  generalize s₁.setTop (entryFrame m #[(.ref a1), (.ref s1), (.int (0 : Int32)), (.int (2 : Int32)), .null] 6) = A0 at g0 ⊢
  have g101 : Go p e below s₁ (mkF m 1 #[rv a1, rv s1, iv (0 : Int32), iv (2 : Int32), .val .null, .unset] [(.ref a1)]) A0 := by
    intro t kont
    refine g0 t ?_
    refine XS.aloadN X0.here hx rfl (hb hby d3_0) rfl rfl ?_
    show Steps p.tables e below (s₁.setTop (mkF m 1 #[rv a1, rv s1, iv (0 : Int32), iv (2 : Int32), .val .null, .unset] [(.ref a1)])) _
    exact kont
  obtain ⟨T102, X102, e102, st102⟩ := initO X0 hx hZ hown (hw _ (List.mem_of_getElem? (i := 15) rfl)) (hw _ (List.mem_of_getElem? (i := 16) rfl)) (hw _ (List.mem_of_getElem? (i := 17) rfl)) e0 (g := (mkF m 1 #[rv a1, rv s1, iv (0 : Int32), iv (2 : Int32), .val .null, .unset] [(.ref a1)])) rfl (by rw [hml]; rfl) rfl (hb hby d3_1) (by decide) (W := 0) (by show 2 * 0 + _ ≤ _; exact Nat.le_of_eq rfl) (by decide)
  have g103 : Go p e below T102 (mkF m 4 #[rv a1, rv s1, iv (0 : Int32), iv (2 : Int32), .val .null, .unset] []) A0 := fun t kont => g101 t (st102 t kont)
  have g104 : Go p e below T102 (mkF m 27 #[rv a1, rv s1, iv (0 : Int32), iv (2 : Int32), .val .null, .unset] []) A0 := by
    intro t kont
    refine g103 t ?_
    refine XS.iloadN X102.here hx rfl (hb hby d3_4) rfl ?_
    show Steps p.tables e below (T102.setTop (mkF m 5 #[rv a1, rv s1, iv (0 : Int32), iv (2 : Int32), .val .null, .unset] [(.int (2 : Int32))])) _
    refine XS.ifYes X102.here hx rfl (pc0 := 5) (pc' := 27) rfl (hb hby d3_5) rfl ((if0 _ _).trans (feq (by decide : ¬ ((2 : Int32) = (0 : Int32)))).2) (by decide) (by decide) ?_
    show Steps p.tables e below (T102.setTop (mkF m 27 #[rv a1, rv s1, iv (0 : Int32), iv (2 : Int32), .val .null, .unset] [])) _
    exact kont
  have y105 : Sta Z h0 "java/lang/String" "COMPACT_STRINGS" "Z" (.int cs) := S7_.ext O0.2
  obtain ⟨T106, X106, e106, st106⟩ := getS2 X102 hx hZ hown (host := "") (Or.inl (hw _ (List.mem_of_getElem? (i := 18) rfl))) Via.refl e102 y105 (g := (mkF m 27 #[rv a1, rv s1, iv (0 : Int32), iv (2 : Int32), .val .null, .unset] [])) rfl (hb hby d3_27)
  have g107 : Go p e below T106 (mkF m 30 #[rv a1, rv s1, iv (0 : Int32), iv (2 : Int32), .val .null, .unset] [(.int cs)]) A0 := fun t kont => g104 t (st106 t kont)
  have g108 : Go p e below T106 (mkF m 36 #[rv a1, rv s1, iv (0 : Int32), iv (2 : Int32), .val .null, .unset] [(.int (2 : Int32)), (.int (0 : Int32)), (.ref s1)]) A0 := by
    intro t kont
    refine g107 t ?_
    refine XS.ifNo X106.here hx rfl (hb hby d3_30) rfl ((if0 _ _).trans (feq hcs).1) ?_
    show Steps p.tables e below (T106.setTop (mkF m 33 #[rv a1, rv s1, iv (0 : Int32), iv (2 : Int32), .val .null, .unset] [])) _
    refine XS.aloadN X106.here hx rfl (hb hby d3_33) rfl rfl ?_
    show Steps p.tables e below (T106.setTop (mkF m 34 #[rv a1, rv s1, iv (0 : Int32), iv (2 : Int32), .val .null, .unset] [(.ref s1)])) _
    refine XS.iloadN X106.here hx rfl (hb hby d3_34) rfl ?_
    show Steps p.tables e below (T106.setTop (mkF m 35 #[rv a1, rv s1, iv (0 : Int32), iv (2 : Int32), .val .null, .unset] [(.int (0 : Int32)), (.ref s1)])) _
    refine XS.iloadN X106.here hx rfl (hb hby d3_35) rfl ?_
    show Steps p.tables e below (T106.setTop (mkF m 36 #[rv a1, rv s1, iv (0 : Int32), iv (2 : Int32), .val .null, .unset] [(.int (2 : Int32)), (.int (0 : Int32)), (.ref s1)])) _
    exact kont
  obtain ⟨_, _, ⟨T109, L109, k109, n109⟩, -, X109, ⟨Lc109, hQ109, l109, y109, z109⟩, st109⟩ := Jvm.LawKit.callS X106 hx (y := (⟨"java/lang/StringUTF16", "compress", "([CII)[B"⟩ : MethodName)) hown (mvT hZ (hw _ (List.mem_of_getElem? (i := 19) rfl))) (mvT hZ (hw _ (List.mem_of_getElem? (i := 20) rfl))) (mvT hZ (hw _ (List.mem_of_getElem? (i := 21) rfl))) (mvT hZ (hw _ (List.mem_of_getElem? (i := 22) rfl))) (by decide) (backOf (W := 0) (rm_com2 l Z a0 hw [] s1 ks c0_ c1_ h0 n0 O0 A4_ hc0 hc1) hZ (hw _ (List.mem_of_getElem? (i := 22) rfl)) (hw _ (List.mem_of_getElem? (i := 21) rfl)) (by decide) (by decide)) (g := (mkF m 36 #[rv a1, rv s1, iv (0 : Int32), iv (2 : Int32), .val .null, .unset] [(.int (2 : Int32)), (.int (0 : Int32)), (.ref s1)])) rfl (by rw [hml]; rfl) (argsL := [(.ref s1), (.int (0 : Int32)), (.int (2 : Int32))]) (rest := []) (lenOf pd_2 rfl) rfl (by show 2 * 0 + _ ≤ _; exact Nat.le_of_eq rfl) (hb hby d3_36) (fun _ _ => ⟨rfl, e106, (by decide : 0 + 1 ≤ _), (by decide : 0 + 2 ≤ _)⟩)
  dsimp only [Pt.U, Pt.locs, Pt.cells, Pt.slots] at X109 l109 y109 z109 st109 hQ109
  subst l109 y109 z109
  obtain ⟨r110, r111, rfl, M109, K109, y112, y113, y114⟩ := hQ109
  have N109 := Fr.app N0 M109
  have O115 := O0.keep K109 all0
  have g116 : Go p e below T109 (mkF m 39 #[rv a1, rv s1, iv (0 : Int32), iv (2 : Int32), .val .null, .unset] [(.ref r110)]) A0 := fun t kont => g108 t (st109 t kont)
  have g117 : Go p e below T109 (mkF m 45 #[rv a1, rv s1, iv (0 : Int32), iv (2 : Int32), .val .null, rv r110] [(.int (2 : Int32)), (.ref r110), (.ref a1)]) A0 := by
    intro t kont
    refine g116 t ?_
    refine XS.astore X109.here hx rfl (hb hby d3_39) rfl rfl (l' := #[rv a1, rv s1, iv (0 : Int32), iv (2 : Int32), .val .null, rv r110]) rfl ?_
    show Steps p.tables e below (T109.setTop (mkF m 41 #[rv a1, rv s1, iv (0 : Int32), iv (2 : Int32), .val .null, rv r110] [])) _
    refine XS.aloadN X109.here hx rfl (hb hby d3_41) rfl rfl ?_
    show Steps p.tables e below (T109.setTop (mkF m 42 #[rv a1, rv s1, iv (0 : Int32), iv (2 : Int32), .val .null, rv r110] [(.ref a1)])) _
    refine XS.aload X109.here hx rfl (hb hby d3_42) rfl rfl ?_
    show Steps p.tables e below (T109.setTop (mkF m 44 #[rv a1, rv s1, iv (0 : Int32), iv (2 : Int32), .val .null, rv r110] [(.ref r110), (.ref a1)])) _
    refine XS.iloadN X109.here hx rfl (hb hby d3_44) rfl ?_
    show Steps p.tables e below (T109.setTop (mkF m 45 #[rv a1, rv s1, iv (0 : Int32), iv (2 : Int32), .val .null, rv r110] [(.int (2 : Int32)), (.ref r110), (.ref a1)])) _
    exact kont
  obtain ⟨_, _, ⟨T118, L118, k118, n118⟩, -, X118, ⟨Lc118, hQ118, l118, y118, z118⟩, st118⟩ := Jvm.LawKit.callS X109 hx (y := (⟨"java/lang/StringUTF16", "coderFromArrayLen", "([BI)B"⟩ : MethodName)) hown (mvT hZ (hw _ (List.mem_of_getElem? (i := 27) rfl))) (mvT hZ (hw _ (List.mem_of_getElem? (i := 28) rfl))) (mvT hZ (hw _ (List.mem_of_getElem? (i := 21) rfl))) (mvT hZ (hw _ (List.mem_of_getElem? (i := 29) rfl))) (by decide) (backOf (W := 1) (rm_cfa2 l Z a0 hw [] r110 r111 [(.int (c0_.toInt8.toInt32)), (.int (c1_.toInt8.toInt32))] T109.heap n0 O115 y114) hZ (hw _ (List.mem_of_getElem? (i := 29) rfl)) (hw _ (List.mem_of_getElem? (i := 21) rfl)) (by decide) (by decide)) (g := (mkF m 45 #[rv a1, rv s1, iv (0 : Int32), iv (2 : Int32), .val .null, rv r110] [(.int (2 : Int32)), (.ref r110), (.ref a1)])) rfl (by rw [hml]; rfl) (argsL := [(.ref r110), (.int (2 : Int32))]) (rest := [(.ref a1)]) (lenOf pd_3 rfl) rfl (by show 2 * 0 + _ ≤ _; exact Nat.le_of_eq rfl) (hb hby d3_45) (fun _ _ => ⟨rfl, rfl, (by decide : 1 + 0 ≤ _), (by decide : 2 + 0 ≤ _)⟩)
  dsimp only [Pt.U, Pt.locs, Pt.cells, Pt.slots] at X118 l118 y118 z118 st118 hQ118
  subst l118 y118 z118
  obtain ⟨rfl, M118, e118⟩ := hQ118
  have N118 := Fr.app N109 M118
  have g119 : Go p e below T118 (mkF m 48 #[rv a1, rv s1, iv (0 : Int32), iv (2 : Int32), .val .null, rv r110] [(.int (0 : Int32)), (.ref a1)]) A0 := fun t kont => g117 t (st118 t kont)
  have y120 : Exa Z T109.heap a1 "java/lang/String" := (E2_.keep K109)
  have y121 : Fld Z T109.heap a1 "java/lang/String" "coder" "B" (.int (0 : Int32)) := (F1_.keep K109 nin0)
  obtain ⟨T122, h122, X122, e122, W122, st122⟩ := putFN X118 hx hZ hown (hw _ (List.mem_of_getElem? (i := 30) rfl)) Via.refl e118 y121 y120 (Or.inr ⟨(hw _ (List.mem_of_getElem? (i := 31) rfl)), rfl, hnm⟩) (hw _ (List.mem_of_getElem? (i := 5) rfl)) (ty := .byte) (v := (.int (0 : Int32))) (v' := (.int (0 : Int32))) (by decide) (own_nw_byte (by decide : nar .byte (0 : Int32) = (0 : Int32))) (own_ft_byte (by decide : nar .byte (0 : Int32) = (0 : Int32))) (g := (mkF m 48 #[rv a1, rv s1, iv (0 : Int32), iv (2 : Int32), .val .null, rv r110] [(.int (0 : Int32)), (.ref a1)])) rfl rfl (hb hby d3_48)
  have O123 := O115.wr W122 G3_
  have y124 : Fld Z h122 a1 "java/lang/String" "coder" "B" (.int (0 : Int32)) := y121.same W122
  have N122 := Fr.snoc X122 N118 G3_
  have g125 : Go p e below T122 (mkF m 51 #[rv a1, rv s1, iv (0 : Int32), iv (2 : Int32), .val .null, rv r110] []) A0 := fun t kont => g119 t (st122 t kont)
  have g126 : Go p e below T122 (mkF m 54 #[rv a1, rv s1, iv (0 : Int32), iv (2 : Int32), .val .null, rv r110] [(.ref r110), (.ref a1)]) A0 := by
    intro t kont
    refine g125 t ?_
    refine XS.aloadN X122.here hx rfl (hb hby d3_51) rfl rfl ?_
    show Steps p.tables e below (T122.setTop (mkF m 52 #[rv a1, rv s1, iv (0 : Int32), iv (2 : Int32), .val .null, rv r110] [(.ref a1)])) _
    refine XS.aload X122.here hx rfl (hb hby d3_52) rfl rfl ?_
    show Steps p.tables e below (T122.setTop (mkF m 54 #[rv a1, rv s1, iv (0 : Int32), iv (2 : Int32), .val .null, rv r110] [(.ref r110), (.ref a1)])) _
    exact kont
  have y127 : Exa Z h122 a1 "java/lang/String" := (y120.wr W122)
  have y128 : Fld Z h122 a1 "java/lang/String" "value" "[B" .null := ((F0_.keep K109 nin0).other W122 (Or.inr (slot_ne (Or.inr (hw _ (List.mem_of_getElem? (i := 33) rfl))) (Or.inr (hw _ (List.mem_of_getElem? (i := 31) rfl))) (by decide) (t := (.array .byte)) (t' := .byte) (by decide) (by decide))))
  obtain ⟨T129, h129, X129, e129, W129, st129⟩ := putF X122 hx hZ hown (host := "") (Or.inl (hw _ (List.mem_of_getElem? (i := 32) rfl))) Via.refl e122 y128 y127 (Or.inr ⟨(hw _ (List.mem_of_getElem? (i := 33) rfl)), rfl, hnm⟩) (hw _ (List.mem_of_getElem? (i := 5) rfl)) (ty := (.array .byte)) (by decide) rfl rfl (g := (mkF m 54 #[rv a1, rv s1, iv (0 : Int32), iv (2 : Int32), .val .null, rv r110] [(.ref r110), (.ref a1)])) rfl rfl (hb hby d3_54)
  have O130 := O123.wr W129 G3_
  have y131 : Fld Z h129 a1 "java/lang/String" "value" "[B" (.ref r110) := y128.same W129
  have N129 := Fr.snoc X129 N122 G3_
  have g132 : Go p e below T129 (mkF m 57 #[rv a1, rv s1, iv (0 : Int32), iv (2 : Int32), .val .null, rv r110] []) A0 := fun t kont => g126 t (st129 t kont)
  have K133 : Keep h0 h129 [a1] := ((((Keep.refl h0 [a1]).trans K109 (fun x hx => nomatch hx)).wr W122 (Or.inl (List.mem_of_getElem? (i := 0) rfl))).wr W129 (Or.inl (List.mem_of_getElem? (i := 0) rfl)))
  have y134 : Exa Z h129 a1 "java/lang/String" := (y127.wr W129)
  have y135 : Fld Z h129 a1 "java/lang/String" "coder" "B" (.int (0 : Int32)) := (y124.other W129 (Or.inr (slot_ne (Or.inr (hw _ (List.mem_of_getElem? (i := 31) rfl))) (Or.inr (hw _ (List.mem_of_getElem? (i := 33) rfl))) (by decide) (t := .byte) (t' := (.array .byte)) (by decide) (by decide))))
  have y136 : Arv Z h129 r110 r111 .byte (2 : Int32) [(.int (c0_.toInt8.toInt32)), (.int (c1_.toInt8.toInt32))] (.int (0 : Int32)) := ((y114.other W122 (Ne.symm (Nat.ne_of_lt (Nat.lt_of_lt_of_le F0_.lt y112)))).other W129 (Ne.symm (Nat.ne_of_lt (Nat.lt_of_lt_of_le F0_.lt y112))))
  obtain ⟨fs, hr, hrun, hended, hW, hsame⟩ := X129.leave (v := none) (fun _ => rfl)
  refine ⟨_, _, g132 _ (X129.returnOut hx Bd.returns (hb hby d3_57) hr), hrun, hended, _, _, rfl, ?_, ⟨_, rfl⟩, hW, hsame.mono (by decide) (by decide)⟩
  show Q_sin2 Z a1 s1 ks c0_ c1_ cs h0 n0 _ T129.heap _
  rw [e129]
  exact ⟨r110, r111, rfl, N129, K133, y134, y135, y131, y112, y136⟩
theorem ef_sIni2 (m : MethodId) (x0 : Addr) (x1 : Addr)  : entryFrame m #[(.ref x0), (.ref x1)] 2 = mkF m 0 #[.val (.ref x0), .val (.ref x1)] [] := by first | (simp [entryFrame, mkF, argsToLocals, Value.category]; done) | rfl
def Q_sIni2 (Z : State) (a1 : Addr) (s1 : Addr) (ks : ClassId) (c0_ : Int32) (c1_ : Int32) (cs : Int32) (h0 : Heap) (n0 : Nat) (v : Option Value) (h : Heap) (L : List Loc) : Prop := ∃ (r : Addr), ∃ (kid : ClassId), v = none ∧ Fr n0 L ∧ Keep h0 h [a1] ∧ (Exa Z h a1 "java/lang/String") ∧ (Fld Z h a1 "java/lang/String" "coder" "B" (.int (0 : Int32))) ∧ (Fld Z h a1 "java/lang/String" "value" "[B" (.ref r)) ∧ h0.size ≤ r ∧ (Arv Z h r kid .byte (2 : Int32) [(.int (c0_.toInt8.toInt32)), (.int (c1_.toInt8.toInt32))] (.int (0 : Int32)))
set_option maxRecDepth 65536 in
set_option maxHeartbeats 40000000 in
theorem rm_sIni2 (l : Launch) (Z : State) (a0 : Array Value) (hw : ∀ d ∈ tables_1, d.before a0 Z = true) (ws : List Jvm.Cond) (a1 : Addr) (s1 : Addr) (ks : ClassId) (c0_ : Int32) (c1_ : Int32) (cs : Int32) (h0 : Heap) (n0 : Nat) (O0 : Old Z n0 h0) (F0_ : Fld Z h0 a1 "java/lang/String" "value" "[B" .null) (F1_ : Fld Z h0 a1 "java/lang/String" "coder" "B" (.int (0 : Int32))) (E2_ : Exa Z h0 a1 "java/lang/String") (G3_ : n0 ≤ a1) (A4_ : Arv Z h0 s1 ks .char (2 : Int32) [(.int c0_), (.int c1_)] (.int (0 : Int32))) (hc0 : ¬ ((255 : Int32) < c0_)) (hc1 : ¬ ((255 : Int32) < c1_)) (S7_ : Sta Z Z.heap "java/lang/String" "COMPACT_STRINGS" "Z" (.int cs)) (hcs : ¬ (cs = (0 : Int32))) :
    MetFree l (⟨"java/lang/String", "<init>", "([C)V"⟩ : MethodName) (head1 (Jvm.Cond.code (⟨"java/lang/String", "<init>", "([C)V"⟩ : MethodName) jdk_42_method_3_code 2 none :: ws) ({ frames := 3, cells := 1, slots := 2, locals := 52 } : Room)) (fun a U => a = #[(.ref a1), (.ref s1)] ∧ Z.Warmed39 U.vm ∧ U.heap = h0) (fun _ _ _ _ _ => True) (fun _ U o U' => ∃ v L, o = .returned v ∧ Q_sIni2 Z a1 s1 ks c0_ c1_ cs h0 n0 v U'.heap L ∧ FrameEnd U o U' L ({ frames := 3, cells := 1, slots := 2, locals := 52 } : Room).cells ({ frames := 3, cells := 1, slots := 2, locals := 52 } : Room).slots) := by
  refine MetFree.of_bodySF (plainFor_of_name pn_java_lang_String) hisR ?_
  intro p e s m args below meth c s₁ Bd hml0 hP hK
  obtain ⟨rfl, hZ, hh⟩ := hP
  have hx := Bd.exec
  have hby := Bd.bytes
  have hml : c.maxLocals = 2 := hml0
  have hown : s.vm.findClass "java/lang/String" = some m.cls := findClass_of_methodNamed Bd.named
  have hnm := (name_of_methodNamed Bd.named Bd.method).1
  have X0 : Stand p l e ({ frames := 3, cells := 1, slots := 2, locals := 52 } : Room) s m #[(.ref a1), (.ref s1)] below meth c s₁ [] 0 0 := Stand.of_body Bd
  have e0 : s₁.heap = h0 := by rw [← hh, Bd.state]; rfl
  have N0 := Fr.nil n0
  have g0 : Go p e below s₁ (mkF m 0 #[rv a1, rv s1] []) (s₁.setTop (entryFrame m #[(.ref a1), (.ref s1)] 2)) := fun t kont => castTop (ef_sIni2 m a1 s1 ) kont
  generalize s₁.setTop (entryFrame m #[(.ref a1), (.ref s1)] 2) = A0 at g0 ⊢
  have g101 : Go p e below s₁ (mkF m 4 #[rv a1, rv s1] [(.ref s1), (.int (0 : Int32)), (.ref s1), (.ref a1)]) A0 := by
    intro t kont
    refine g0 t ?_
    refine XS.aloadN X0.here hx rfl (hb hby d2_0) rfl rfl ?_
    show Steps p.tables e below (s₁.setTop (mkF m 1 #[rv a1, rv s1] [(.ref a1)])) _
    refine XS.aloadN X0.here hx rfl (hb hby d2_1) rfl rfl ?_
    show Steps p.tables e below (s₁.setTop (mkF m 2 #[rv a1, rv s1] [(.ref s1), (.ref a1)])) _
    refine XS.iconst X0.here hx rfl (hb hby d2_2) ?_
    show Steps p.tables e below (s₁.setTop (mkF m 3 #[rv a1, rv s1] [(.int (0 : Int32)), (.ref s1), (.ref a1)])) _
    refine XS.aloadN X0.here hx rfl (hb hby d2_3) rfl rfl ?_
    show Steps p.tables e below (s₁.setTop (mkF m 4 #[rv a1, rv s1] [(.ref s1), (.int (0 : Int32)), (.ref s1), (.ref a1)])) _
    exact kont
  have zz102 := A4_
  obtain ⟨cl102, Ar102, -, S102, M102, -, -⟩ := zz102
  have g103 : Go p e below s₁ (mkF m 5 #[rv a1, rv s1] [(.int (2 : Int32)), (.int (0 : Int32)), (.ref s1), (.ref a1)]) A0 := by
    intro t kont
    refine g101 t ?_
    refine X0.arraylength hx (by rw [e0]; exact Ar102.1) (State.isArrayOf_alike hZ.alike Ar102.2.1) (g := (mkF m 4 #[rv a1, rv s1] [(.ref s1), (.int (0 : Int32)), (.ref s1), (.ref a1)])) rfl rfl (hb hby d2_4) _ ?_
    rw [len_of S102 M102]
    exact kont
  have g104 : Go p e below s₁ (mkF m 6 #[rv a1, rv s1] [.null, (.int (2 : Int32)), (.int (0 : Int32)), (.ref s1), (.ref a1)]) A0 := by
    intro t kont
    refine g103 t ?_
    refine XS.aconstNull X0.here hx rfl (hb hby d2_5) ?_
    show Steps p.tables e below (s₁.setTop (mkF m 6 #[rv a1, rv s1] [.null, (.int (2 : Int32)), (.int (0 : Int32)), (.ref s1), (.ref a1)])) _
    exact kont
  obtain ⟨_, _, ⟨T105, L105, k105, n105⟩, -, X105, ⟨Lc105, hQ105, l105, y105, z105⟩, st105⟩ := X0.specialBack hx (y := (⟨"java/lang/String", "<init>", "([CIILjava/lang/Void;)V"⟩ : MethodName)) rfl hown (mvT hZ (hw _ (List.mem_of_getElem? (i := 11) rfl))) (mvT hZ (hw _ (List.mem_of_getElem? (i := 12) rfl))) (mvT hZ (hw _ (List.mem_of_getElem? (i := 14) rfl))) (by decide) (backOf (W := 0) (rm_sin2 l Z a0 hw [] a1 s1 ks c0_ c1_ cs h0 n0 O0 F0_ F1_ E2_ G3_ A4_ hc0 hc1 S7_ hcs) hZ (hw _ (List.mem_of_getElem? (i := 14) rfl)) (hw _ (List.mem_of_getElem? (i := 6) rfl)) (by decide) (by decide)) (g := (mkF m 6 #[rv a1, rv s1] [.null, (.int (2 : Int32)), (.int (0 : Int32)), (.ref s1), (.ref a1)])) rfl (by rw [hml]; rfl) (Steps.refl _) (a := a1) (argsL := [(.ref s1), (.int (0 : Int32)), (.int (2 : Int32)), .null]) (rest := []) (lenOf pd_0 rfl) rfl (by show 2 * 0 + _ ≤ _; exact Nat.le_of_eq rfl) (hb hby d2_6) (fun _ _ => ⟨rfl, e0, (by decide : 0 + 1 ≤ _), (by decide : 0 + 2 ≤ _)⟩)
  dsimp only [Pt.U, Pt.locs, Pt.cells, Pt.slots] at X105 l105 y105 z105 st105 hQ105
  subst l105 y105 z105
  obtain ⟨r106, r107, rfl, M105, K105, y108, y109, y110, y111, y112⟩ := hQ105
  have N105 := Fr.app N0 M105
  have O113 := O0.keep K105 (allS G3_ all0)
  have g114 : Go p e below T105 (mkF m 9 #[rv a1, rv s1] []) A0 := fun t kont => g104 t (st105.trans kont)
  have K115 : Keep h0 T105.heap [a1] := ((Keep.refl h0 [a1]).trans K105 (allS (P := fun x => x ∈ [a1] ∨ h0.size ≤ x) (Or.inl (List.mem_of_getElem? (i := 0) rfl)) all0))
  obtain ⟨fs, hr, hrun, hended, hW, hsame⟩ := X105.leave (v := none) (fun _ => rfl)
  refine ⟨_, _, g114 _ (X105.returnOut hx Bd.returns (hb hby d2_9) hr), hrun, hended, _, _, rfl, ?_, ⟨_, rfl⟩, hW, hsame.mono (by decide) (by decide)⟩
  show Q_sIni2 Z a1 s1 ks c0_ c1_ cs h0 n0 _ T105.heap _
  exact ⟨r106, r107, rfl, N105, K115, y108, y109, y110, y111, y112⟩
theorem ef_cmp3 (m : MethodId) (x0 : Addr) (x1 : Int32) (x2 : Addr) (x3 : Int32) (x4 : Int32)  : entryFrame m #[(.ref x0), (.int x1), (.ref x2), (.int x3), (.int x4)] 7 = mkF m 0 #[.val (.ref x0), .val (.int x1), .val (.ref x2), .val (.int x3), .val (.int x4), .unset, .unset] [] := by first | (simp [entryFrame, mkF, argsToLocals, Value.category]; done) | rfl
def Q_cmp3 (Z : State) (s1 : Addr) (d1 : Addr) (ks : ClassId) (kd : ClassId) (c0_ : Int32) (c1_ : Int32) (c2_ : Int32) (h0 : Heap) (n0 : Nat) (v : Option Value) (h : Heap) (L : List Loc) : Prop := v = some (.int (3 : Int32)) ∧ Fr n0 L ∧ Keep h0 h [d1] ∧ (Arv Z h d1 kd .byte (3 : Int32) [(.int (c0_.toInt8.toInt32)), (.int (c1_.toInt8.toInt32)), (.int (c2_.toInt8.toInt32))] (.int (0 : Int32)))
set_option maxRecDepth 65536 in
set_option maxHeartbeats 40000000 in
theorem rm_cmp3 (l : Launch) (Z : State) (a0 : Array Value) (hw : ∀ d ∈ tables_1, d.before a0 Z = true) (ws : List Jvm.Cond) (s1 : Addr) (d1 : Addr) (ks : ClassId) (kd : ClassId) (c0_ : Int32) (c1_ : Int32) (c2_ : Int32) (h0 : Heap) (n0 : Nat) (O0 : Old Z n0 h0) (A0_ : Arv Z h0 s1 ks .char (3 : Int32) [(.int c0_), (.int c1_), (.int c2_)] (.int (0 : Int32))) (A1_ : Arv Z h0 d1 kd .byte (3 : Int32) [(.int (0 : Int32)), (.int (0 : Int32)), (.int (0 : Int32))] (.int (0 : Int32))) (G2_ : n0 ≤ d1) (NE3_ : ¬ (s1 = d1)) (hc0 : ¬ ((255 : Int32) < c0_)) (hc1 : ¬ ((255 : Int32) < c1_)) (hc2 : ¬ ((255 : Int32) < c2_)) :
    MetFree l (⟨"java/lang/StringUTF16", "compress", "([CI[BII)I"⟩ : MethodName) (head1 (Jvm.Cond.code (⟨"java/lang/StringUTF16", "compress", "([CI[BII)I"⟩ : MethodName) jdk_52_method_21_code 7 (some .int) :: ws) ({ frames := 0, cells := 0, slots := 0, locals := 0 } : Room)) (fun a U => a = #[(.ref s1), (.int (0 : Int32)), (.ref d1), (.int (0 : Int32)), (.int (3 : Int32))] ∧ Z.Warmed39 U.vm ∧ U.heap = h0) (fun _ _ _ _ _ => True) (fun _ U o U' => ∃ v L, o = .returned v ∧ Q_cmp3 Z s1 d1 ks kd c0_ c1_ c2_ h0 n0 v U'.heap L ∧ FrameEnd U o U' L ({ frames := 0, cells := 0, slots := 0, locals := 0 } : Room).cells ({ frames := 0, cells := 0, slots := 0, locals := 0 } : Room).slots) := by
  refine MetFree.of_bodySF (plainFor_of_name pn_java_lang_StringUTF16) hisR ?_
  intro p e s m args below meth c s₁ Bd hml0 hP hK
  obtain ⟨rfl, hZ, hh⟩ := hP
  have hx := Bd.exec
  have hby := Bd.bytes
  have hml : c.maxLocals = 7 := hml0
  have hown : s.vm.findClass "java/lang/StringUTF16" = some m.cls := findClass_of_methodNamed Bd.named
  have hnm := (name_of_methodNamed Bd.named Bd.method).1
  have X0 : Stand p l e ({ frames := 0, cells := 0, slots := 0, locals := 0 } : Room) s m #[(.ref s1), (.int (0 : Int32)), (.ref d1), (.int (0 : Int32)), (.int (3 : Int32))] below meth c s₁ [] 0 0 := Stand.of_body Bd
  have e0 : s₁.heap = h0 := by rw [← hh, Bd.state]; rfl
  have N0 := Fr.nil n0
  have g0 : Go p e below s₁ (mkF m 0 #[rv s1, iv (0 : Int32), rv d1, iv (0 : Int32), iv (3 : Int32), .unset, .unset] []) (s₁.setTop (entryFrame m #[(.ref s1), (.int (0 : Int32)), (.ref d1), (.int (0 : Int32)), (.int (3 : Int32))] 7)) := fun t kont => castTop (ef_cmp3 m s1 (0 : Int32) d1 (0 : Int32) (3 : Int32) ) kont
  generalize s₁.setTop (entryFrame m #[(.ref s1), (.int (0 : Int32)), (.ref d1), (.int (0 : Int32)), (.int (3 : Int32))] 7) = A0 at g0 ⊢
  have g101 : Go p e below s₁ (mkF m 12 #[rv s1, iv (0 : Int32), rv d1, iv (0 : Int32), iv (3 : Int32), iv (0 : Int32), .unset] [(.int (0 : Int32)), (.ref s1)]) A0 := by
    intro t kont
    refine g0 t ?_
    refine XS.iconst X0.here hx rfl (hb hby d6_0) ?_
    show Steps p.tables e below (s₁.setTop (mkF m 1 #[rv s1, iv (0 : Int32), rv d1, iv (0 : Int32), iv (3 : Int32), .unset, .unset] [(.int (0 : Int32))])) _
    refine XS.istore X0.here hx rfl (hb hby d6_1) rfl (l' := #[rv s1, iv (0 : Int32), rv d1, iv (0 : Int32), iv (3 : Int32), iv (0 : Int32), .unset]) rfl ?_
    show Steps p.tables e below (s₁.setTop (mkF m 3 #[rv s1, iv (0 : Int32), rv d1, iv (0 : Int32), iv (3 : Int32), iv (0 : Int32), .unset] [])) _
    refine XS.iload X0.here hx rfl (hb hby d6_3) rfl ?_
    show Steps p.tables e below (s₁.setTop (mkF m 5 #[rv s1, iv (0 : Int32), rv d1, iv (0 : Int32), iv (3 : Int32), iv (0 : Int32), .unset] [(.int (0 : Int32))])) _
    refine XS.iload X0.here hx rfl (hb hby d6_5) rfl ?_
    show Steps p.tables e below (s₁.setTop (mkF m 7 #[rv s1, iv (0 : Int32), rv d1, iv (0 : Int32), iv (3 : Int32), iv (0 : Int32), .unset] [(.int (3 : Int32)), (.int (0 : Int32))])) _
    refine XS.icmpNo X0.here hx rfl (hb hby d6_7) rfl (tlt (by decide : (0 : Int32) < (3 : Int32))).2.1 ?_
    show Steps p.tables e below (s₁.setTop (mkF m 10 #[rv s1, iv (0 : Int32), rv d1, iv (0 : Int32), iv (3 : Int32), iv (0 : Int32), .unset] [])) _
    refine XS.aloadN X0.here hx rfl (hb hby d6_10) rfl rfl ?_
    show Steps p.tables e below (s₁.setTop (mkF m 11 #[rv s1, iv (0 : Int32), rv d1, iv (0 : Int32), iv (3 : Int32), iv (0 : Int32), .unset] [(.ref s1)])) _
    refine XS.iloadN X0.here hx rfl (hb hby d6_11) rfl ?_
    show Steps p.tables e below (s₁.setTop (mkF m 12 #[rv s1, iv (0 : Int32), rv d1, iv (0 : Int32), iv (3 : Int32), iv (0 : Int32), .unset] [(.int (0 : Int32)), (.ref s1)])) _
    exact kont
  have zz102 := A0_
  obtain ⟨cl102, Ar102, q102, S102, M102, H102, G102⟩ := zz102
  have in102 : ¬ ((0 : Int32) < 0 ∨ cl102.slots.size ≤ ((0 : Int32)).toNatClampNeg) := inb_of S102 ⟨by decide, by decide⟩
  have at102 : cl102.slots[((0 : Int32)).toNatClampNeg]? = some (.int c0_) := Has.at H102 in102 rfl
  have g103 : Go p e below s₁ (mkF m 13 #[rv s1, iv (0 : Int32), rv d1, iv (0 : Int32), iv (3 : Int32), iv (0 : Int32), .unset] [(.int c0_)]) A0 := fun t kont => g101 t (X0.caload hx (j := (0 : Int32)) (v := (.int c0_)) (by rw [e0]; exact Ar102.1) (State.isArrayOf_alike hZ.alike Ar102.2.1) Ar102.2.2 in102 at102 (g := (mkF m 12 #[rv s1, iv (0 : Int32), rv d1, iv (0 : Int32), iv (3 : Int32), iv (0 : Int32), .unset] [(.int (0 : Int32)), (.ref s1)])) rfl rfl (hb hby d6_12) t kont)
  have g104 : Go p e below s₁ (mkF m 31 #[rv s1, iv (0 : Int32), rv d1, iv (0 : Int32), iv (3 : Int32), iv (0 : Int32), iv c0_] [(.int (c0_.toInt8.toInt32)), (.int (0 : Int32)), (.ref d1)]) A0 := by
    intro t kont
    refine g103 t ?_
    refine XS.istore X0.here hx rfl (hb hby d6_13) rfl (l' := #[rv s1, iv (0 : Int32), rv d1, iv (0 : Int32), iv (3 : Int32), iv (0 : Int32), iv c0_]) rfl ?_
    show Steps p.tables e below (s₁.setTop (mkF m 15 #[rv s1, iv (0 : Int32), rv d1, iv (0 : Int32), iv (3 : Int32), iv (0 : Int32), iv c0_] [])) _
    refine XS.iload X0.here hx rfl (hb hby d6_15) rfl ?_
    show Steps p.tables e below (s₁.setTop (mkF m 17 #[rv s1, iv (0 : Int32), rv d1, iv (0 : Int32), iv (3 : Int32), iv (0 : Int32), iv c0_] [(.int c0_)])) _
    refine XS.sipush X0.here hx rfl (hb hby d6_17) ?_
    show Steps p.tables e below (s₁.setTop (mkF m 20 #[rv s1, iv (0 : Int32), rv d1, iv (0 : Int32), iv (3 : Int32), iv (0 : Int32), iv c0_] [(.int (255 : Int32)), (.int c0_)])) _
    refine XS.icmpYes X0.here hx rfl (pc0 := 20) (pc' := 26) rfl (hb hby d6_20) rfl (flt hc0).2.2.2 (by decide) (by decide) ?_
    show Steps p.tables e below (s₁.setTop (mkF m 26 #[rv s1, iv (0 : Int32), rv d1, iv (0 : Int32), iv (3 : Int32), iv (0 : Int32), iv c0_] [])) _
    refine XS.aloadN X0.here hx rfl (hb hby d6_26) rfl rfl ?_
    show Steps p.tables e below (s₁.setTop (mkF m 27 #[rv s1, iv (0 : Int32), rv d1, iv (0 : Int32), iv (3 : Int32), iv (0 : Int32), iv c0_] [(.ref d1)])) _
    refine XS.iloadN X0.here hx rfl (hb hby d6_27) rfl ?_
    show Steps p.tables e below (s₁.setTop (mkF m 28 #[rv s1, iv (0 : Int32), rv d1, iv (0 : Int32), iv (3 : Int32), iv (0 : Int32), iv c0_] [(.int (0 : Int32)), (.ref d1)])) _
    refine XS.iload X0.here hx rfl (hb hby d6_28) rfl ?_
    show Steps p.tables e below (s₁.setTop (mkF m 30 #[rv s1, iv (0 : Int32), rv d1, iv (0 : Int32), iv (3 : Int32), iv (0 : Int32), iv c0_] [(.int c0_), (.int (0 : Int32)), (.ref d1)])) _
    refine XS.i2b X0.here hx rfl (hb hby d6_30) rfl ?_
    show Steps p.tables e below (s₁.setTop (mkF m 31 #[rv s1, iv (0 : Int32), rv d1, iv (0 : Int32), iv (3 : Int32), iv (0 : Int32), iv c0_] [(.int (c0_.toInt8.toInt32)), (.int (0 : Int32)), (.ref d1)])) _
    exact kont
  have zz105 := A1_
  obtain ⟨cl105, Ar105, q105, S105, M105, H105, G105⟩ := zz105
  have in105 : ¬ ((0 : Int32) < 0 ∨ cl105.slots.size ≤ ((0 : Int32)).toNatClampNeg) := inb_of S105 ⟨by decide, by decide⟩
  obtain ⟨T105, h105, X105, e105, W105, st105⟩ := stB X0 hx hZ e0 Ar105 (j := (0 : Int32)) in105 (g := (mkF m 31 #[rv s1, iv (0 : Int32), rv d1, iv (0 : Int32), iv (3 : Int32), iv (0 : Int32), iv c0_] [(.int (c0_.toInt8.toInt32)), (.int (0 : Int32)), (.ref d1)])) rfl rfl (hb hby d6_31)
  rw [show nar .byte (c0_.toInt8.toInt32) = (c0_.toInt8.toInt32) from (own_narb _)] at W105
  have O106 := O0.wr W105 G2_
  have y107 : Arv Z h105 d1 kd .byte (3 : Int32) [(.int (c0_.toInt8.toInt32)), (.int (0 : Int32)), (.int (0 : Int32))] (.int (0 : Int32)) := Arv.set Ar105 q105 S105 M105 H105 G105 (own_ft_byte (z := (c0_.toInt8.toInt32)) (own_narb _)) W105 0 rfl (Nat.le_of_ble_eq_true rfl)
  have N105 := Fr.snoc X105 N0 G2_
  have g108 : Go p e below T105 (mkF m 32 #[rv s1, iv (0 : Int32), rv d1, iv (0 : Int32), iv (3 : Int32), iv (0 : Int32), iv c0_] []) A0 := fun t kont => g104 t (st105 t kont)
  have g109 : Go p e below T105 (mkF m 12 #[rv s1, iv (1 : Int32), rv d1, iv (1 : Int32), iv (3 : Int32), iv (1 : Int32), iv c0_] [(.int (1 : Int32)), (.ref s1)]) A0 := by
    intro t kont
    refine g108 t ?_
    refine XS.iinc X105.here hx rfl (hb hby d6_32) rfl (l' := #[rv s1, iv (1 : Int32), rv d1, iv (0 : Int32), iv (3 : Int32), iv (0 : Int32), iv c0_]) rfl ?_
    show Steps p.tables e below (T105.setTop (mkF m 35 #[rv s1, iv (1 : Int32), rv d1, iv (0 : Int32), iv (3 : Int32), iv (0 : Int32), iv c0_] [])) _
    refine XS.iinc X105.here hx rfl (hb hby d6_35) rfl (l' := #[rv s1, iv (1 : Int32), rv d1, iv (1 : Int32), iv (3 : Int32), iv (0 : Int32), iv c0_]) rfl ?_
    show Steps p.tables e below (T105.setTop (mkF m 38 #[rv s1, iv (1 : Int32), rv d1, iv (1 : Int32), iv (3 : Int32), iv (0 : Int32), iv c0_] [])) _
    refine XS.iinc X105.here hx rfl (hb hby d6_38) rfl (l' := #[rv s1, iv (1 : Int32), rv d1, iv (1 : Int32), iv (3 : Int32), iv (1 : Int32), iv c0_]) rfl ?_
    show Steps p.tables e below (T105.setTop (mkF m 41 #[rv s1, iv (1 : Int32), rv d1, iv (1 : Int32), iv (3 : Int32), iv (1 : Int32), iv c0_] [])) _
    refine XS.goto X105.here hx rfl (pc0 := 41) (pc' := 3) rfl (hb hby d6_41) (by decide) (by decide) ?_
    show Steps p.tables e below (T105.setTop (mkF m 3 #[rv s1, iv (1 : Int32), rv d1, iv (1 : Int32), iv (3 : Int32), iv (1 : Int32), iv c0_] [])) _
    refine XS.iload X105.here hx rfl (hb hby d6_3) rfl ?_
    show Steps p.tables e below (T105.setTop (mkF m 5 #[rv s1, iv (1 : Int32), rv d1, iv (1 : Int32), iv (3 : Int32), iv (1 : Int32), iv c0_] [(.int (1 : Int32))])) _
    refine XS.iload X105.here hx rfl (hb hby d6_5) rfl ?_
    show Steps p.tables e below (T105.setTop (mkF m 7 #[rv s1, iv (1 : Int32), rv d1, iv (1 : Int32), iv (3 : Int32), iv (1 : Int32), iv c0_] [(.int (3 : Int32)), (.int (1 : Int32))])) _
    refine XS.icmpNo X105.here hx rfl (hb hby d6_7) rfl (tlt (by decide : (1 : Int32) < (3 : Int32))).2.1 ?_
    show Steps p.tables e below (T105.setTop (mkF m 10 #[rv s1, iv (1 : Int32), rv d1, iv (1 : Int32), iv (3 : Int32), iv (1 : Int32), iv c0_] [])) _
    refine XS.aloadN X105.here hx rfl (hb hby d6_10) rfl rfl ?_
    show Steps p.tables e below (T105.setTop (mkF m 11 #[rv s1, iv (1 : Int32), rv d1, iv (1 : Int32), iv (3 : Int32), iv (1 : Int32), iv c0_] [(.ref s1)])) _
    refine XS.iloadN X105.here hx rfl (hb hby d6_11) rfl ?_
    show Steps p.tables e below (T105.setTop (mkF m 12 #[rv s1, iv (1 : Int32), rv d1, iv (1 : Int32), iv (3 : Int32), iv (1 : Int32), iv c0_] [(.int (1 : Int32)), (.ref s1)])) _
    exact kont
  have y110 : Arv Z h105 s1 ks .char (3 : Int32) [(.int c0_), (.int c1_), (.int c2_)] (.int (0 : Int32)) := (A0_.other W105 NE3_)
  have zz111 := y110
  obtain ⟨cl111, Ar111, q111, S111, M111, H111, G111⟩ := zz111
  have in111 : ¬ ((1 : Int32) < 0 ∨ cl111.slots.size ≤ ((1 : Int32)).toNatClampNeg) := inb_of S111 ⟨by decide, by decide⟩
  have at111 : cl111.slots[((1 : Int32)).toNatClampNeg]? = some (.int c1_) := Has.at H111 in111 rfl
  have g112 : Go p e below T105 (mkF m 13 #[rv s1, iv (1 : Int32), rv d1, iv (1 : Int32), iv (3 : Int32), iv (1 : Int32), iv c0_] [(.int c1_)]) A0 := fun t kont => g109 t (X105.caload hx (j := (1 : Int32)) (v := (.int c1_)) (by rw [e105]; exact Ar111.1) (State.isArrayOf_alike hZ.alike Ar111.2.1) Ar111.2.2 in111 at111 (g := (mkF m 12 #[rv s1, iv (1 : Int32), rv d1, iv (1 : Int32), iv (3 : Int32), iv (1 : Int32), iv c0_] [(.int (1 : Int32)), (.ref s1)])) rfl rfl (hb hby d6_12) t kont)
  have g113 : Go p e below T105 (mkF m 31 #[rv s1, iv (1 : Int32), rv d1, iv (1 : Int32), iv (3 : Int32), iv (1 : Int32), iv c1_] [(.int (c1_.toInt8.toInt32)), (.int (1 : Int32)), (.ref d1)]) A0 := by
    intro t kont
    refine g112 t ?_
    refine XS.istore X105.here hx rfl (hb hby d6_13) rfl (l' := #[rv s1, iv (1 : Int32), rv d1, iv (1 : Int32), iv (3 : Int32), iv (1 : Int32), iv c1_]) rfl ?_
    show Steps p.tables e below (T105.setTop (mkF m 15 #[rv s1, iv (1 : Int32), rv d1, iv (1 : Int32), iv (3 : Int32), iv (1 : Int32), iv c1_] [])) _
    refine XS.iload X105.here hx rfl (hb hby d6_15) rfl ?_
    show Steps p.tables e below (T105.setTop (mkF m 17 #[rv s1, iv (1 : Int32), rv d1, iv (1 : Int32), iv (3 : Int32), iv (1 : Int32), iv c1_] [(.int c1_)])) _
    refine XS.sipush X105.here hx rfl (hb hby d6_17) ?_
    show Steps p.tables e below (T105.setTop (mkF m 20 #[rv s1, iv (1 : Int32), rv d1, iv (1 : Int32), iv (3 : Int32), iv (1 : Int32), iv c1_] [(.int (255 : Int32)), (.int c1_)])) _
    refine XS.icmpYes X105.here hx rfl (pc0 := 20) (pc' := 26) rfl (hb hby d6_20) rfl (flt hc1).2.2.2 (by decide) (by decide) ?_
    show Steps p.tables e below (T105.setTop (mkF m 26 #[rv s1, iv (1 : Int32), rv d1, iv (1 : Int32), iv (3 : Int32), iv (1 : Int32), iv c1_] [])) _
    refine XS.aloadN X105.here hx rfl (hb hby d6_26) rfl rfl ?_
    show Steps p.tables e below (T105.setTop (mkF m 27 #[rv s1, iv (1 : Int32), rv d1, iv (1 : Int32), iv (3 : Int32), iv (1 : Int32), iv c1_] [(.ref d1)])) _
    refine XS.iloadN X105.here hx rfl (hb hby d6_27) rfl ?_
    show Steps p.tables e below (T105.setTop (mkF m 28 #[rv s1, iv (1 : Int32), rv d1, iv (1 : Int32), iv (3 : Int32), iv (1 : Int32), iv c1_] [(.int (1 : Int32)), (.ref d1)])) _
    refine XS.iload X105.here hx rfl (hb hby d6_28) rfl ?_
    show Steps p.tables e below (T105.setTop (mkF m 30 #[rv s1, iv (1 : Int32), rv d1, iv (1 : Int32), iv (3 : Int32), iv (1 : Int32), iv c1_] [(.int c1_), (.int (1 : Int32)), (.ref d1)])) _
    refine XS.i2b X105.here hx rfl (hb hby d6_30) rfl ?_
    show Steps p.tables e below (T105.setTop (mkF m 31 #[rv s1, iv (1 : Int32), rv d1, iv (1 : Int32), iv (3 : Int32), iv (1 : Int32), iv c1_] [(.int (c1_.toInt8.toInt32)), (.int (1 : Int32)), (.ref d1)])) _
    exact kont
  have zz114 := y107
  obtain ⟨cl114, Ar114, q114, S114, M114, H114, G114⟩ := zz114
  have in114 : ¬ ((1 : Int32) < 0 ∨ cl114.slots.size ≤ ((1 : Int32)).toNatClampNeg) := inb_of S114 ⟨by decide, by decide⟩
  obtain ⟨T114, h114, X114, e114, W114, st114⟩ := stB X105 hx hZ e105 Ar114 (j := (1 : Int32)) in114 (g := (mkF m 31 #[rv s1, iv (1 : Int32), rv d1, iv (1 : Int32), iv (3 : Int32), iv (1 : Int32), iv c1_] [(.int (c1_.toInt8.toInt32)), (.int (1 : Int32)), (.ref d1)])) rfl rfl (hb hby d6_31)
  rw [show nar .byte (c1_.toInt8.toInt32) = (c1_.toInt8.toInt32) from (own_narb _)] at W114
  have O115 := O106.wr W114 G2_
  have y116 : Arv Z h114 d1 kd .byte (3 : Int32) [(.int (c0_.toInt8.toInt32)), (.int (c1_.toInt8.toInt32)), (.int (0 : Int32))] (.int (0 : Int32)) := Arv.set Ar114 q114 S114 M114 H114 G114 (own_ft_byte (z := (c1_.toInt8.toInt32)) (own_narb _)) W114 1 rfl (Nat.le_of_ble_eq_true rfl)
  have N114 := Fr.snoc X114 N105 G2_
  have g117 : Go p e below T114 (mkF m 32 #[rv s1, iv (1 : Int32), rv d1, iv (1 : Int32), iv (3 : Int32), iv (1 : Int32), iv c1_] []) A0 := fun t kont => g113 t (st114 t kont)
  have g118 : Go p e below T114 (mkF m 12 #[rv s1, iv (2 : Int32), rv d1, iv (2 : Int32), iv (3 : Int32), iv (2 : Int32), iv c1_] [(.int (2 : Int32)), (.ref s1)]) A0 := by
    intro t kont
    refine g117 t ?_
    refine XS.iinc X114.here hx rfl (hb hby d6_32) rfl (l' := #[rv s1, iv (2 : Int32), rv d1, iv (1 : Int32), iv (3 : Int32), iv (1 : Int32), iv c1_]) rfl ?_
    show Steps p.tables e below (T114.setTop (mkF m 35 #[rv s1, iv (2 : Int32), rv d1, iv (1 : Int32), iv (3 : Int32), iv (1 : Int32), iv c1_] [])) _
    refine XS.iinc X114.here hx rfl (hb hby d6_35) rfl (l' := #[rv s1, iv (2 : Int32), rv d1, iv (2 : Int32), iv (3 : Int32), iv (1 : Int32), iv c1_]) rfl ?_
    show Steps p.tables e below (T114.setTop (mkF m 38 #[rv s1, iv (2 : Int32), rv d1, iv (2 : Int32), iv (3 : Int32), iv (1 : Int32), iv c1_] [])) _
    refine XS.iinc X114.here hx rfl (hb hby d6_38) rfl (l' := #[rv s1, iv (2 : Int32), rv d1, iv (2 : Int32), iv (3 : Int32), iv (2 : Int32), iv c1_]) rfl ?_
    show Steps p.tables e below (T114.setTop (mkF m 41 #[rv s1, iv (2 : Int32), rv d1, iv (2 : Int32), iv (3 : Int32), iv (2 : Int32), iv c1_] [])) _
    refine XS.goto X114.here hx rfl (pc0 := 41) (pc' := 3) rfl (hb hby d6_41) (by decide) (by decide) ?_
    show Steps p.tables e below (T114.setTop (mkF m 3 #[rv s1, iv (2 : Int32), rv d1, iv (2 : Int32), iv (3 : Int32), iv (2 : Int32), iv c1_] [])) _
    refine XS.iload X114.here hx rfl (hb hby d6_3) rfl ?_
    show Steps p.tables e below (T114.setTop (mkF m 5 #[rv s1, iv (2 : Int32), rv d1, iv (2 : Int32), iv (3 : Int32), iv (2 : Int32), iv c1_] [(.int (2 : Int32))])) _
    refine XS.iload X114.here hx rfl (hb hby d6_5) rfl ?_
    show Steps p.tables e below (T114.setTop (mkF m 7 #[rv s1, iv (2 : Int32), rv d1, iv (2 : Int32), iv (3 : Int32), iv (2 : Int32), iv c1_] [(.int (3 : Int32)), (.int (2 : Int32))])) _
    refine XS.icmpNo X114.here hx rfl (hb hby d6_7) rfl (tlt (by decide : (2 : Int32) < (3 : Int32))).2.1 ?_
    show Steps p.tables e below (T114.setTop (mkF m 10 #[rv s1, iv (2 : Int32), rv d1, iv (2 : Int32), iv (3 : Int32), iv (2 : Int32), iv c1_] [])) _
    refine XS.aloadN X114.here hx rfl (hb hby d6_10) rfl rfl ?_
    show Steps p.tables e below (T114.setTop (mkF m 11 #[rv s1, iv (2 : Int32), rv d1, iv (2 : Int32), iv (3 : Int32), iv (2 : Int32), iv c1_] [(.ref s1)])) _
    refine XS.iloadN X114.here hx rfl (hb hby d6_11) rfl ?_
    show Steps p.tables e below (T114.setTop (mkF m 12 #[rv s1, iv (2 : Int32), rv d1, iv (2 : Int32), iv (3 : Int32), iv (2 : Int32), iv c1_] [(.int (2 : Int32)), (.ref s1)])) _
    exact kont
  have y119 : Arv Z h114 s1 ks .char (3 : Int32) [(.int c0_), (.int c1_), (.int c2_)] (.int (0 : Int32)) := (y110.other W114 NE3_)
  have zz120 := y119
  obtain ⟨cl120, Ar120, q120, S120, M120, H120, G120⟩ := zz120
  have in120 : ¬ ((2 : Int32) < 0 ∨ cl120.slots.size ≤ ((2 : Int32)).toNatClampNeg) := inb_of S120 ⟨by decide, by decide⟩
  have at120 : cl120.slots[((2 : Int32)).toNatClampNeg]? = some (.int c2_) := Has.at H120 in120 rfl
  have g121 : Go p e below T114 (mkF m 13 #[rv s1, iv (2 : Int32), rv d1, iv (2 : Int32), iv (3 : Int32), iv (2 : Int32), iv c1_] [(.int c2_)]) A0 := fun t kont => g118 t (X114.caload hx (j := (2 : Int32)) (v := (.int c2_)) (by rw [e114]; exact Ar120.1) (State.isArrayOf_alike hZ.alike Ar120.2.1) Ar120.2.2 in120 at120 (g := (mkF m 12 #[rv s1, iv (2 : Int32), rv d1, iv (2 : Int32), iv (3 : Int32), iv (2 : Int32), iv c1_] [(.int (2 : Int32)), (.ref s1)])) rfl rfl (hb hby d6_12) t kont)
  have g122 : Go p e below T114 (mkF m 31 #[rv s1, iv (2 : Int32), rv d1, iv (2 : Int32), iv (3 : Int32), iv (2 : Int32), iv c2_] [(.int (c2_.toInt8.toInt32)), (.int (2 : Int32)), (.ref d1)]) A0 := by
    intro t kont
    refine g121 t ?_
    refine XS.istore X114.here hx rfl (hb hby d6_13) rfl (l' := #[rv s1, iv (2 : Int32), rv d1, iv (2 : Int32), iv (3 : Int32), iv (2 : Int32), iv c2_]) rfl ?_
    show Steps p.tables e below (T114.setTop (mkF m 15 #[rv s1, iv (2 : Int32), rv d1, iv (2 : Int32), iv (3 : Int32), iv (2 : Int32), iv c2_] [])) _
    refine XS.iload X114.here hx rfl (hb hby d6_15) rfl ?_
    show Steps p.tables e below (T114.setTop (mkF m 17 #[rv s1, iv (2 : Int32), rv d1, iv (2 : Int32), iv (3 : Int32), iv (2 : Int32), iv c2_] [(.int c2_)])) _
    refine XS.sipush X114.here hx rfl (hb hby d6_17) ?_
    show Steps p.tables e below (T114.setTop (mkF m 20 #[rv s1, iv (2 : Int32), rv d1, iv (2 : Int32), iv (3 : Int32), iv (2 : Int32), iv c2_] [(.int (255 : Int32)), (.int c2_)])) _
    refine XS.icmpYes X114.here hx rfl (pc0 := 20) (pc' := 26) rfl (hb hby d6_20) rfl (flt hc2).2.2.2 (by decide) (by decide) ?_
    show Steps p.tables e below (T114.setTop (mkF m 26 #[rv s1, iv (2 : Int32), rv d1, iv (2 : Int32), iv (3 : Int32), iv (2 : Int32), iv c2_] [])) _
    refine XS.aloadN X114.here hx rfl (hb hby d6_26) rfl rfl ?_
    show Steps p.tables e below (T114.setTop (mkF m 27 #[rv s1, iv (2 : Int32), rv d1, iv (2 : Int32), iv (3 : Int32), iv (2 : Int32), iv c2_] [(.ref d1)])) _
    refine XS.iloadN X114.here hx rfl (hb hby d6_27) rfl ?_
    show Steps p.tables e below (T114.setTop (mkF m 28 #[rv s1, iv (2 : Int32), rv d1, iv (2 : Int32), iv (3 : Int32), iv (2 : Int32), iv c2_] [(.int (2 : Int32)), (.ref d1)])) _
    refine XS.iload X114.here hx rfl (hb hby d6_28) rfl ?_
    show Steps p.tables e below (T114.setTop (mkF m 30 #[rv s1, iv (2 : Int32), rv d1, iv (2 : Int32), iv (3 : Int32), iv (2 : Int32), iv c2_] [(.int c2_), (.int (2 : Int32)), (.ref d1)])) _
    refine XS.i2b X114.here hx rfl (hb hby d6_30) rfl ?_
    show Steps p.tables e below (T114.setTop (mkF m 31 #[rv s1, iv (2 : Int32), rv d1, iv (2 : Int32), iv (3 : Int32), iv (2 : Int32), iv c2_] [(.int (c2_.toInt8.toInt32)), (.int (2 : Int32)), (.ref d1)])) _
    exact kont
  have zz123 := y116
  obtain ⟨cl123, Ar123, q123, S123, M123, H123, G123⟩ := zz123
  have in123 : ¬ ((2 : Int32) < 0 ∨ cl123.slots.size ≤ ((2 : Int32)).toNatClampNeg) := inb_of S123 ⟨by decide, by decide⟩
  obtain ⟨T123, h123, X123, e123, W123, st123⟩ := stB X114 hx hZ e114 Ar123 (j := (2 : Int32)) in123 (g := (mkF m 31 #[rv s1, iv (2 : Int32), rv d1, iv (2 : Int32), iv (3 : Int32), iv (2 : Int32), iv c2_] [(.int (c2_.toInt8.toInt32)), (.int (2 : Int32)), (.ref d1)])) rfl rfl (hb hby d6_31)
  rw [show nar .byte (c2_.toInt8.toInt32) = (c2_.toInt8.toInt32) from (own_narb _)] at W123
  have O124 := O115.wr W123 G2_
  have y125 : Arv Z h123 d1 kd .byte (3 : Int32) [(.int (c0_.toInt8.toInt32)), (.int (c1_.toInt8.toInt32)), (.int (c2_.toInt8.toInt32))] (.int (0 : Int32)) := Arv.set Ar123 q123 S123 M123 H123 G123 (own_ft_byte (z := (c2_.toInt8.toInt32)) (own_narb _)) W123 2 rfl (Nat.le_of_ble_eq_true rfl)
  have N123 := Fr.snoc X123 N114 G2_
  have g126 : Go p e below T123 (mkF m 32 #[rv s1, iv (2 : Int32), rv d1, iv (2 : Int32), iv (3 : Int32), iv (2 : Int32), iv c2_] []) A0 := fun t kont => g122 t (st123 t kont)
  have g127 : Go p e below T123 (mkF m 46 #[rv s1, iv (3 : Int32), rv d1, iv (3 : Int32), iv (3 : Int32), iv (3 : Int32), iv c2_] [(.int (3 : Int32))]) A0 := by
    intro t kont
    refine g126 t ?_
    refine XS.iinc X123.here hx rfl (hb hby d6_32) rfl (l' := #[rv s1, iv (3 : Int32), rv d1, iv (2 : Int32), iv (3 : Int32), iv (2 : Int32), iv c2_]) rfl ?_
    show Steps p.tables e below (T123.setTop (mkF m 35 #[rv s1, iv (3 : Int32), rv d1, iv (2 : Int32), iv (3 : Int32), iv (2 : Int32), iv c2_] [])) _
    refine XS.iinc X123.here hx rfl (hb hby d6_35) rfl (l' := #[rv s1, iv (3 : Int32), rv d1, iv (3 : Int32), iv (3 : Int32), iv (2 : Int32), iv c2_]) rfl ?_
    show Steps p.tables e below (T123.setTop (mkF m 38 #[rv s1, iv (3 : Int32), rv d1, iv (3 : Int32), iv (3 : Int32), iv (2 : Int32), iv c2_] [])) _
    refine XS.iinc X123.here hx rfl (hb hby d6_38) rfl (l' := #[rv s1, iv (3 : Int32), rv d1, iv (3 : Int32), iv (3 : Int32), iv (3 : Int32), iv c2_]) rfl ?_
    show Steps p.tables e below (T123.setTop (mkF m 41 #[rv s1, iv (3 : Int32), rv d1, iv (3 : Int32), iv (3 : Int32), iv (3 : Int32), iv c2_] [])) _
    refine XS.goto X123.here hx rfl (pc0 := 41) (pc' := 3) rfl (hb hby d6_41) (by decide) (by decide) ?_
    show Steps p.tables e below (T123.setTop (mkF m 3 #[rv s1, iv (3 : Int32), rv d1, iv (3 : Int32), iv (3 : Int32), iv (3 : Int32), iv c2_] [])) _
    refine XS.iload X123.here hx rfl (hb hby d6_3) rfl ?_
    show Steps p.tables e below (T123.setTop (mkF m 5 #[rv s1, iv (3 : Int32), rv d1, iv (3 : Int32), iv (3 : Int32), iv (3 : Int32), iv c2_] [(.int (3 : Int32))])) _
    refine XS.iload X123.here hx rfl (hb hby d6_5) rfl ?_
    show Steps p.tables e below (T123.setTop (mkF m 7 #[rv s1, iv (3 : Int32), rv d1, iv (3 : Int32), iv (3 : Int32), iv (3 : Int32), iv c2_] [(.int (3 : Int32)), (.int (3 : Int32))])) _
    refine XS.icmpYes X123.here hx rfl (pc0 := 7) (pc' := 44) rfl (hb hby d6_7) rfl (flt (by decide : ¬ ((3 : Int32) < (3 : Int32)))).2.1 (by decide) (by decide) ?_
    show Steps p.tables e below (T123.setTop (mkF m 44 #[rv s1, iv (3 : Int32), rv d1, iv (3 : Int32), iv (3 : Int32), iv (3 : Int32), iv c2_] [])) _
    refine XS.iload X123.here hx rfl (hb hby d6_44) rfl ?_
    show Steps p.tables e below (T123.setTop (mkF m 46 #[rv s1, iv (3 : Int32), rv d1, iv (3 : Int32), iv (3 : Int32), iv (3 : Int32), iv c2_] [(.int (3 : Int32))])) _
    exact kont
  have K128 : Keep h0 h123 [d1] := ((((Keep.refl h0 [d1]).wr W105 (Or.inl (List.mem_of_getElem? (i := 0) rfl))).wr W114 (Or.inl (List.mem_of_getElem? (i := 0) rfl))).wr W123 (Or.inl (List.mem_of_getElem? (i := 0) rfl)))
  obtain ⟨fs, hr, hrun, hended, hW, hsame⟩ := X123.leave (v := some (.int (3 : Int32))) (fun h => by rw [Bd.returns] at h; cases h)
  refine ⟨_, _, g127 _ (retI X123 hx Bd.returns (hb hby d6_46) hr), hrun, hended, _, _, rfl, ?_, ⟨_, rfl⟩, hW, hsame.mono (by decide) (by decide)⟩
  show Q_cmp3 Z s1 d1 ks kd c0_ c1_ c2_ h0 n0 _ T123.heap _
  rw [e123]
  exact ⟨rfl, N123, K128, y125⟩
theorem ef_com3 (m : MethodId) (x0 : Addr) (x1 : Int32) (x2 : Int32)  : entryFrame m #[(.ref x0), (.int x1), (.int x2)] 6 = mkF m 0 #[.val (.ref x0), .val (.int x1), .val (.int x2), .unset, .unset, .unset] [] := by first | (simp [entryFrame, mkF, argsToLocals, Value.category]; done) | rfl
def Q_com3 (Z : State) (s1 : Addr) (ks : ClassId) (c0_ : Int32) (c1_ : Int32) (c2_ : Int32) (h0 : Heap) (n0 : Nat) (v : Option Value) (h : Heap) (L : List Loc) : Prop := ∃ (r : Addr), ∃ (kid : ClassId), v = some (.ref r) ∧ Fr n0 L ∧ Keep h0 h [] ∧ h0.size ≤ r ∧ (Exa Z h r "[B") ∧ (Arv Z h r kid .byte (3 : Int32) [(.int (c0_.toInt8.toInt32)), (.int (c1_.toInt8.toInt32)), (.int (c2_.toInt8.toInt32))] (.int (0 : Int32)))
set_option maxRecDepth 65536 in
set_option maxHeartbeats 40000000 in
theorem rm_com3 (l : Launch) (Z : State) (a0 : Array Value) (hw : ∀ d ∈ tables_1, d.before a0 Z = true) (ws : List Jvm.Cond) (s1 : Addr) (ks : ClassId) (c0_ : Int32) (c1_ : Int32) (c2_ : Int32) (h0 : Heap) (n0 : Nat) (O0 : Old Z n0 h0) (A0_ : Arv Z h0 s1 ks .char (3 : Int32) [(.int c0_), (.int c1_), (.int c2_)] (.int (0 : Int32))) (hc0 : ¬ ((255 : Int32) < c0_)) (hc1 : ¬ ((255 : Int32) < c1_)) (hc2 : ¬ ((255 : Int32) < c2_)) :
    MetFree l (⟨"java/lang/StringUTF16", "compress", "([CII)[B"⟩ : MethodName) (head1 (Jvm.Cond.code (⟨"java/lang/StringUTF16", "compress", "([CII)[B"⟩ : MethodName) jdk_52_method_16_code 6 (some (.array .byte)) :: ws) ({ frames := 1, cells := 1, slots := 3, locals := 18 } : Room)) (fun a U => a = #[(.ref s1), (.int (0 : Int32)), (.int (3 : Int32))] ∧ Z.Warmed39 U.vm ∧ U.heap = h0) (fun _ _ _ _ _ => True) (fun _ U o U' => ∃ v L, o = .returned v ∧ Q_com3 Z s1 ks c0_ c1_ c2_ h0 n0 v U'.heap L ∧ FrameEnd U o U' L ({ frames := 1, cells := 1, slots := 3, locals := 18 } : Room).cells ({ frames := 1, cells := 1, slots := 3, locals := 18 } : Room).slots) := by
  refine MetFree.of_bodySF (plainFor_of_name pn_java_lang_StringUTF16) hisR ?_
  intro p e s m args below meth c s₁ Bd hml0 hP hK
  obtain ⟨rfl, hZ, hh⟩ := hP
  have hx := Bd.exec
  have hby := Bd.bytes
  have hml : c.maxLocals = 6 := hml0
  have hown : s.vm.findClass "java/lang/StringUTF16" = some m.cls := findClass_of_methodNamed Bd.named
  have hnm := (name_of_methodNamed Bd.named Bd.method).1
  have X0 : Stand p l e ({ frames := 1, cells := 1, slots := 3, locals := 18 } : Room) s m #[(.ref s1), (.int (0 : Int32)), (.int (3 : Int32))] below meth c s₁ [] 0 0 := Stand.of_body Bd
  have e0 : s₁.heap = h0 := by rw [← hh, Bd.state]; rfl
  have N0 := Fr.nil n0
  have g0 : Go p e below s₁ (mkF m 0 #[rv s1, iv (0 : Int32), iv (3 : Int32), .unset, .unset, .unset] []) (s₁.setTop (entryFrame m #[(.ref s1), (.int (0 : Int32)), (.int (3 : Int32))] 6)) := fun t kont => castTop (ef_com3 m s1 (0 : Int32) (3 : Int32) ) kont
  generalize s₁.setTop (entryFrame m #[(.ref s1), (.int (0 : Int32)), (.int (3 : Int32))] 6) = A0 at g0 ⊢
  have g101 : Go p e below s₁ (mkF m 1 #[rv s1, iv (0 : Int32), iv (3 : Int32), .unset, .unset, .unset] [(.int (3 : Int32))]) A0 := by
    intro t kont
    refine g0 t ?_
    refine XS.iloadN X0.here hx rfl (hb hby d5_0) rfl ?_
    show Steps p.tables e below (s₁.setTop (mkF m 1 #[rv s1, iv (0 : Int32), iv (3 : Int32), .unset, .unset, .unset] [(.int (3 : Int32))])) _
    exact kont
  obtain ⟨T102, h102, k102, X102, e102, E102, A102, F102, st102⟩ := newPE X0 hx hZ (hw _ (List.mem_of_getElem? (i := 23) rfl)) e0 (g := (mkF m 1 #[rv s1, iv (0 : Int32), iv (3 : Int32), .unset, .unset, .unset] [(.int (3 : Int32))])) rfl (hb hby d5_1) rfl (by decide) (cap := 3) (by decide) (by decide) (by decide) (by decide) (ad := "[B") (by decide)
  obtain ⟨b102, gb102⟩ : ∃ z, z = h0.size := ⟨_, rfl⟩
  rw [← gb102] at A102 F102 st102
  have O103 := O0.ext E102
  have y104 : Arv Z h102 b102 k102 .byte (3 : Int32) [(.int (0 : Int32)), (.int (0 : Int32)), (.int (0 : Int32))] (.int (0 : Int32)) := (Arv.new A102 (by decide)).pad (pad_rep [] (.int (0 : Int32)) 3)
  have g105 : Go p e below T102 (mkF m 3 #[rv s1, iv (0 : Int32), iv (3 : Int32), .unset, .unset, .unset] [(.ref b102)]) A0 := fun t kont => g101 t (st102 t kont)
  have g106 : Go p e below T102 (mkF m 9 #[rv s1, iv (0 : Int32), iv (3 : Int32), rv b102, .unset, .unset] [(.int (3 : Int32)), (.int (0 : Int32)), (.ref b102), (.int (0 : Int32)), (.ref s1)]) A0 := by
    intro t kont
    refine g105 t ?_
    refine XS.astoreN X102.here hx rfl (hb hby d5_3) rfl rfl (l' := #[rv s1, iv (0 : Int32), iv (3 : Int32), rv b102, .unset, .unset]) rfl ?_
    show Steps p.tables e below (T102.setTop (mkF m 4 #[rv s1, iv (0 : Int32), iv (3 : Int32), rv b102, .unset, .unset] [])) _
    refine XS.aloadN X102.here hx rfl (hb hby d5_4) rfl rfl ?_
    show Steps p.tables e below (T102.setTop (mkF m 5 #[rv s1, iv (0 : Int32), iv (3 : Int32), rv b102, .unset, .unset] [(.ref s1)])) _
    refine XS.iloadN X102.here hx rfl (hb hby d5_5) rfl ?_
    show Steps p.tables e below (T102.setTop (mkF m 6 #[rv s1, iv (0 : Int32), iv (3 : Int32), rv b102, .unset, .unset] [(.int (0 : Int32)), (.ref s1)])) _
    refine XS.aloadN X102.here hx rfl (hb hby d5_6) rfl rfl ?_
    show Steps p.tables e below (T102.setTop (mkF m 7 #[rv s1, iv (0 : Int32), iv (3 : Int32), rv b102, .unset, .unset] [(.ref b102), (.int (0 : Int32)), (.ref s1)])) _
    refine XS.iconst X102.here hx rfl (hb hby d5_7) ?_
    show Steps p.tables e below (T102.setTop (mkF m 8 #[rv s1, iv (0 : Int32), iv (3 : Int32), rv b102, .unset, .unset] [(.int (0 : Int32)), (.ref b102), (.int (0 : Int32)), (.ref s1)])) _
    refine XS.iloadN X102.here hx rfl (hb hby d5_8) rfl ?_
    show Steps p.tables e below (T102.setTop (mkF m 9 #[rv s1, iv (0 : Int32), iv (3 : Int32), rv b102, .unset, .unset] [(.int (3 : Int32)), (.int (0 : Int32)), (.ref b102), (.int (0 : Int32)), (.ref s1)])) _
    exact kont
  have y108 : Arv Z h102 s1 ks .char (3 : Int32) [(.int c0_), (.int c1_), (.int c2_)] (.int (0 : Int32)) := (A0_.ext E102)
  have ge109 : n0 ≤ b102 := Nat.le_trans (own_old_le O0) (Nat.le_of_eq gb102.symm)
  obtain ⟨_, _, ⟨T107, L107, k107, n107⟩, -, X107, ⟨Lc107, hQ107, l107, y107, z107⟩, st107⟩ := Jvm.LawKit.callS X102 hx (y := (⟨"java/lang/StringUTF16", "compress", "([CI[BII)I"⟩ : MethodName)) hown (mvT hZ (hw _ (List.mem_of_getElem? (i := 24) rfl))) (mvT hZ (hw _ (List.mem_of_getElem? (i := 25) rfl))) (mvT hZ (hw _ (List.mem_of_getElem? (i := 21) rfl))) (mvT hZ (hw _ (List.mem_of_getElem? (i := 26) rfl))) (by decide) (backOf (W := 0) (rm_cmp3 l Z a0 hw [] s1 b102 ks k102 c0_ c1_ c2_ h102 n0 O103 y108 y104 ge109 (Nat.ne_of_lt (Nat.lt_of_lt_of_le A0_.lt (Nat.le_of_eq gb102.symm))) hc0 hc1 hc2) hZ (hw _ (List.mem_of_getElem? (i := 26) rfl)) (hw _ (List.mem_of_getElem? (i := 21) rfl)) (by decide) (by decide)) (g := (mkF m 9 #[rv s1, iv (0 : Int32), iv (3 : Int32), rv b102, .unset, .unset] [(.int (3 : Int32)), (.int (0 : Int32)), (.ref b102), (.int (0 : Int32)), (.ref s1)])) rfl (by rw [hml]; rfl) (argsL := [(.ref s1), (.int (0 : Int32)), (.ref b102), (.int (0 : Int32)), (.int (3 : Int32))]) (rest := []) (lenOf pd_1 rfl) rfl (by show 2 * 0 + _ ≤ _; exact Nat.le_of_eq rfl) (hb hby d5_9) (fun _ _ => ⟨rfl, e102, (by decide : 1 + 0 ≤ _), (by decide : 3 + 0 ≤ _)⟩)
  dsimp only [Pt.U, Pt.locs, Pt.cells, Pt.slots] at X107 l107 y107 z107 st107 hQ107
  subst l107 y107 z107
  obtain ⟨rfl, M107, K107, y110⟩ := hQ107
  have N107 := Fr.app N0 M107
  have O111 := O103.keep K107 (allS ge109 all0)
  have g112 : Go p e below T107 (mkF m 12 #[rv s1, iv (0 : Int32), iv (3 : Int32), rv b102, .unset, .unset] [(.int (3 : Int32))]) A0 := fun t kont => g106 t (st107 t kont)
  have g113 : Go p e below T107 (mkF m 58 #[rv s1, iv (0 : Int32), iv (3 : Int32), rv b102, iv (3 : Int32), .unset] [(.ref b102)]) A0 := by
    intro t kont
    refine g112 t ?_
    refine XS.istore X107.here hx rfl (hb hby d5_12) rfl (l' := #[rv s1, iv (0 : Int32), iv (3 : Int32), rv b102, iv (3 : Int32), .unset]) rfl ?_
    show Steps p.tables e below (T107.setTop (mkF m 14 #[rv s1, iv (0 : Int32), iv (3 : Int32), rv b102, iv (3 : Int32), .unset] [])) _
    refine XS.iload X107.here hx rfl (hb hby d5_14) rfl ?_
    show Steps p.tables e below (T107.setTop (mkF m 16 #[rv s1, iv (0 : Int32), iv (3 : Int32), rv b102, iv (3 : Int32), .unset] [(.int (3 : Int32))])) _
    refine XS.iloadN X107.here hx rfl (hb hby d5_16) rfl ?_
    show Steps p.tables e below (T107.setTop (mkF m 17 #[rv s1, iv (0 : Int32), iv (3 : Int32), rv b102, iv (3 : Int32), .unset] [(.int (3 : Int32)), (.int (3 : Int32))])) _
    refine XS.icmpYes X107.here hx rfl (pc0 := 17) (pc' := 57) rfl (hb hby d5_17) rfl (teq (by decide : (3 : Int32) = (3 : Int32))).1 (by decide) (by decide) ?_
    show Steps p.tables e below (T107.setTop (mkF m 57 #[rv s1, iv (0 : Int32), iv (3 : Int32), rv b102, iv (3 : Int32), .unset] [])) _
    refine XS.aloadN X107.here hx rfl (hb hby d5_57) rfl rfl ?_
    show Steps p.tables e below (T107.setTop (mkF m 58 #[rv s1, iv (0 : Int32), iv (3 : Int32), rv b102, iv (3 : Int32), .unset] [(.ref b102)])) _
    exact kont
  have K114 : Keep h0 T107.heap [] := (((Keep.refl h0 []).ext E102).trans K107 (allS (P := fun x => x ∈ [] ∨ h0.size ≤ x) (Or.inr (Nat.le_of_eq gb102.symm)) all0))
  have y115 : Exa Z T107.heap b102 "[B" := (F102.keep K107)
  obtain ⟨fs, hr, hrun, hended, hW, hsame⟩ := X107.leave (v := some (.ref b102)) (fun h => by rw [Bd.returns] at h; cases h)
  refine ⟨_, _, g113 _ (retOut X107 hx Bd.returns rfl (Or.inr (Or.inr (Or.inr (Or.inr ⟨rfl, rfl, rfl⟩)))) (hb hby d5_58) hr), hrun, hended, _, _, rfl, ?_, ⟨_, rfl⟩, hW, hsame.mono (by decide) (by decide)⟩
  show Q_com3 Z s1 ks c0_ c1_ c2_ h0 n0 _ T107.heap _
  exact ⟨b102, k102, rfl, N107, K114, (Nat.le_of_eq gb102.symm), y115, y110⟩
theorem ef_cfa3 (m : MethodId) (x0 : Addr) (x1 : Int32)  : entryFrame m #[(.ref x0), (.int x1)] 2 = mkF m 0 #[.val (.ref x0), .val (.int x1)] [] := by first | (simp [entryFrame, mkF, argsToLocals, Value.category]; done) | rfl
def Q_cfa3 (Z : State) (b1 : Addr) (kid : ClassId) (vs : List Value) (h0 : Heap) (n0 : Nat) (v : Option Value) (h : Heap) (L : List Loc) : Prop := v = some (.int (0 : Int32)) ∧ Fr n0 L ∧ h = h0
set_option maxRecDepth 65536 in
set_option maxHeartbeats 40000000 in
theorem rm_cfa3 (l : Launch) (Z : State) (a0 : Array Value) (hw : ∀ d ∈ tables_1, d.before a0 Z = true) (ws : List Jvm.Cond) (b1 : Addr) (kid : ClassId) (vs : List Value) (h0 : Heap) (n0 : Nat) (O0 : Old Z n0 h0) (A0_ : Arv Z h0 b1 kid .byte (3 : Int32) vs (.int (0 : Int32))) :
    MetFree l (⟨"java/lang/StringUTF16", "coderFromArrayLen", "([BI)B"⟩ : MethodName) (head1 (Jvm.Cond.code (⟨"java/lang/StringUTF16", "coderFromArrayLen", "([BI)B"⟩ : MethodName) jdk_52_method_15_code 2 (some .byte) :: ws) ({ frames := 0, cells := 0, slots := 0, locals := 0 } : Room)) (fun a U => a = #[(.ref b1), (.int (3 : Int32))] ∧ Z.Warmed39 U.vm ∧ U.heap = h0) (fun _ _ _ _ _ => True) (fun _ U o U' => ∃ v L, o = .returned v ∧ Q_cfa3 Z b1 kid vs h0 n0 v U'.heap L ∧ FrameEnd U o U' L ({ frames := 0, cells := 0, slots := 0, locals := 0 } : Room).cells ({ frames := 0, cells := 0, slots := 0, locals := 0 } : Room).slots) := by
  refine MetFree.of_bodySF (plainFor_of_name pn_java_lang_StringUTF16) hisR ?_
  intro p e s m args below meth c s₁ Bd hml0 hP hK
  obtain ⟨rfl, hZ, hh⟩ := hP
  have hx := Bd.exec
  have hby := Bd.bytes
  have hml : c.maxLocals = 2 := hml0
  have hown : s.vm.findClass "java/lang/StringUTF16" = some m.cls := findClass_of_methodNamed Bd.named
  have hnm := (name_of_methodNamed Bd.named Bd.method).1
  have X0 : Stand p l e ({ frames := 0, cells := 0, slots := 0, locals := 0 } : Room) s m #[(.ref b1), (.int (3 : Int32))] below meth c s₁ [] 0 0 := Stand.of_body Bd
  have e0 : s₁.heap = h0 := by rw [← hh, Bd.state]; rfl
  have N0 := Fr.nil n0
  have g0 : Go p e below s₁ (mkF m 0 #[rv b1, iv (3 : Int32)] []) (s₁.setTop (entryFrame m #[(.ref b1), (.int (3 : Int32))] 2)) := fun t kont => castTop (ef_cfa3 m b1 (3 : Int32) ) kont
  generalize s₁.setTop (entryFrame m #[(.ref b1), (.int (3 : Int32))] 2) = A0 at g0 ⊢
  have g101 : Go p e below s₁ (mkF m 2 #[rv b1, iv (3 : Int32)] [(.ref b1), (.int (3 : Int32))]) A0 := by
    intro t kont
    refine g0 t ?_
    refine XS.iloadN X0.here hx rfl (hb hby d7_0) rfl ?_
    show Steps p.tables e below (s₁.setTop (mkF m 1 #[rv b1, iv (3 : Int32)] [(.int (3 : Int32))])) _
    refine XS.aloadN X0.here hx rfl (hb hby d7_1) rfl rfl ?_
    show Steps p.tables e below (s₁.setTop (mkF m 2 #[rv b1, iv (3 : Int32)] [(.ref b1), (.int (3 : Int32))])) _
    exact kont
  have zz102 := A0_
  obtain ⟨cl102, Ar102, -, S102, M102, -, -⟩ := zz102
  have g103 : Go p e below s₁ (mkF m 3 #[rv b1, iv (3 : Int32)] [(.int (3 : Int32)), (.int (3 : Int32))]) A0 := by
    intro t kont
    refine g101 t ?_
    refine X0.arraylength hx (by rw [e0]; exact Ar102.1) (State.isArrayOf_alike hZ.alike Ar102.2.1) (g := (mkF m 2 #[rv b1, iv (3 : Int32)] [(.ref b1), (.int (3 : Int32))])) rfl rfl (hb hby d7_2) _ ?_
    rw [len_of S102 M102]
    exact kont
  have g104 : Go p e below s₁ (mkF m 8 #[rv b1, iv (3 : Int32)] [(.int (0 : Int32))]) A0 := by
    intro t kont
    refine g103 t ?_
    refine XS.isub X0.here hx rfl (hb hby d7_3) rfl ?_
    show Steps p.tables e below (s₁.setTop (mkF m 4 #[rv b1, iv (3 : Int32)] [(.int (0 : Int32))])) _
    refine XS.bipush X0.here hx rfl (hb hby d7_4) ?_
    show Steps p.tables e below (s₁.setTop (mkF m 6 #[rv b1, iv (3 : Int32)] [(.int (31 : Int32)), (.int (0 : Int32))])) _
    refine XS.iushr X0.here hx rfl (hb hby d7_6) rfl ?_
    show Steps p.tables e below (s₁.setTop (mkF m 7 #[rv b1, iv (3 : Int32)] [(.int (0 : Int32))])) _
    refine XS.i2b X0.here hx rfl (hb hby d7_7) rfl ?_
    show Steps p.tables e below (s₁.setTop (mkF m 8 #[rv b1, iv (3 : Int32)] [(.int (0 : Int32))])) _
    exact kont
  obtain ⟨fs, hr, hrun, hended, hW, hsame⟩ := X0.leave (v := some (.int (0 : Int32))) (fun h => by rw [Bd.returns] at h; cases h)
  refine ⟨_, _, g104 _ (retN X0 hx (t := .byte) Bd.returns (by simp) (hb hby d7_8) hr), hrun, hended, _, _, rfl, ?_, ⟨_, rfl⟩, hW, hsame.mono (by decide) (by decide)⟩
  show Q_cfa3 Z b1 kid vs h0 n0 _ s₁.heap _
  rw [e0]
  exact ⟨rfl, N0, rfl⟩
theorem ef_sin3 (m : MethodId) (x0 : Addr) (x1 : Addr) (x2 : Int32) (x3 : Int32)  : entryFrame m #[(.ref x0), (.ref x1), (.int x2), (.int x3), .null] 6 = mkF m 0 #[.val (.ref x0), .val (.ref x1), .val (.int x2), .val (.int x3), .val .null, .unset] [] := by first | (simp [entryFrame, mkF, argsToLocals, Value.category]; done) | rfl
def Q_sin3 (Z : State) (a1 : Addr) (s1 : Addr) (ks : ClassId) (c0_ : Int32) (c1_ : Int32) (c2_ : Int32) (cs : Int32) (h0 : Heap) (n0 : Nat) (v : Option Value) (h : Heap) (L : List Loc) : Prop := ∃ (r : Addr), ∃ (kid : ClassId), v = none ∧ Fr n0 L ∧ Keep h0 h [a1] ∧ (Exa Z h a1 "java/lang/String") ∧ (Fld Z h a1 "java/lang/String" "coder" "B" (.int (0 : Int32))) ∧ (Fld Z h a1 "java/lang/String" "value" "[B" (.ref r)) ∧ h0.size ≤ r ∧ (Arv Z h r kid .byte (3 : Int32) [(.int (c0_.toInt8.toInt32)), (.int (c1_.toInt8.toInt32)), (.int (c2_.toInt8.toInt32))] (.int (0 : Int32)))
set_option maxRecDepth 65536 in
set_option maxHeartbeats 40000000 in
theorem rm_sin3 (l : Launch) (Z : State) (a0 : Array Value) (hw : ∀ d ∈ tables_1, d.before a0 Z = true) (ws : List Jvm.Cond) (a1 : Addr) (s1 : Addr) (ks : ClassId) (c0_ : Int32) (c1_ : Int32) (c2_ : Int32) (cs : Int32) (h0 : Heap) (n0 : Nat) (O0 : Old Z n0 h0) (F0_ : Fld Z h0 a1 "java/lang/String" "value" "[B" .null) (F1_ : Fld Z h0 a1 "java/lang/String" "coder" "B" (.int (0 : Int32))) (E2_ : Exa Z h0 a1 "java/lang/String") (G3_ : n0 ≤ a1) (A4_ : Arv Z h0 s1 ks .char (3 : Int32) [(.int c0_), (.int c1_), (.int c2_)] (.int (0 : Int32))) (hc0 : ¬ ((255 : Int32) < c0_)) (hc1 : ¬ ((255 : Int32) < c1_)) (hc2 : ¬ ((255 : Int32) < c2_)) (S8_ : Sta Z Z.heap "java/lang/String" "COMPACT_STRINGS" "Z" (.int cs)) (hcs : ¬ (cs = (0 : Int32))) :
    MetFree l (⟨"java/lang/String", "<init>", "([CIILjava/lang/Void;)V"⟩ : MethodName) (head1 (Jvm.Cond.code (⟨"java/lang/String", "<init>", "([CIILjava/lang/Void;)V"⟩ : MethodName) jdk_42_method_149_code 6 none :: ws) ({ frames := 2, cells := 1, slots := 3, locals := 35 } : Room)) (fun a U => a = #[(.ref a1), (.ref s1), (.int (0 : Int32)), (.int (3 : Int32)), .null] ∧ Z.Warmed39 U.vm ∧ U.heap = h0) (fun _ _ _ _ _ => True) (fun _ U o U' => ∃ v L, o = .returned v ∧ Q_sin3 Z a1 s1 ks c0_ c1_ c2_ cs h0 n0 v U'.heap L ∧ FrameEnd U o U' L ({ frames := 2, cells := 1, slots := 3, locals := 35 } : Room).cells ({ frames := 2, cells := 1, slots := 3, locals := 35 } : Room).slots) := by
  refine MetFree.of_bodySF (plainFor_of_name pn_java_lang_String) hisR ?_
  intro p e s m args below meth c s₁ Bd hml0 hP hK
  obtain ⟨rfl, hZ, hh⟩ := hP
  have hx := Bd.exec
  have hby := Bd.bytes
  have hml : c.maxLocals = 6 := hml0
  have hown : s.vm.findClass "java/lang/String" = some m.cls := findClass_of_methodNamed Bd.named
  have hnm := (name_of_methodNamed Bd.named Bd.method).1
  have X0 : Stand p l e ({ frames := 2, cells := 1, slots := 3, locals := 35 } : Room) s m #[(.ref a1), (.ref s1), (.int (0 : Int32)), (.int (3 : Int32)), .null] below meth c s₁ [] 0 0 := Stand.of_body Bd
  have e0 : s₁.heap = h0 := by rw [← hh, Bd.state]; rfl
  have N0 := Fr.nil n0
  have g0 : Go p e below s₁ (mkF m 0 #[rv a1, rv s1, iv (0 : Int32), iv (3 : Int32), .val .null, .unset] []) (s₁.setTop (entryFrame m #[(.ref a1), (.ref s1), (.int (0 : Int32)), (.int (3 : Int32)), .null] 6)) := fun t kont => castTop (ef_sin3 m a1 s1 (0 : Int32) (3 : Int32) ) kont
  generalize s₁.setTop (entryFrame m #[(.ref a1), (.ref s1), (.int (0 : Int32)), (.int (3 : Int32)), .null] 6) = A0 at g0 ⊢
  have g101 : Go p e below s₁ (mkF m 1 #[rv a1, rv s1, iv (0 : Int32), iv (3 : Int32), .val .null, .unset] [(.ref a1)]) A0 := by
    intro t kont
    refine g0 t ?_
    refine XS.aloadN X0.here hx rfl (hb hby d3_0) rfl rfl ?_
    show Steps p.tables e below (s₁.setTop (mkF m 1 #[rv a1, rv s1, iv (0 : Int32), iv (3 : Int32), .val .null, .unset] [(.ref a1)])) _
    exact kont
  obtain ⟨T102, X102, e102, st102⟩ := initO X0 hx hZ hown (hw _ (List.mem_of_getElem? (i := 15) rfl)) (hw _ (List.mem_of_getElem? (i := 16) rfl)) (hw _ (List.mem_of_getElem? (i := 17) rfl)) e0 (g := (mkF m 1 #[rv a1, rv s1, iv (0 : Int32), iv (3 : Int32), .val .null, .unset] [(.ref a1)])) rfl (by rw [hml]; rfl) rfl (hb hby d3_1) (by decide) (W := 0) (by show 2 * 0 + _ ≤ _; exact Nat.le_of_eq rfl) (by decide)
  have g103 : Go p e below T102 (mkF m 4 #[rv a1, rv s1, iv (0 : Int32), iv (3 : Int32), .val .null, .unset] []) A0 := fun t kont => g101 t (st102 t kont)
  have g104 : Go p e below T102 (mkF m 27 #[rv a1, rv s1, iv (0 : Int32), iv (3 : Int32), .val .null, .unset] []) A0 := by
    intro t kont
    refine g103 t ?_
    refine XS.iloadN X102.here hx rfl (hb hby d3_4) rfl ?_
    show Steps p.tables e below (T102.setTop (mkF m 5 #[rv a1, rv s1, iv (0 : Int32), iv (3 : Int32), .val .null, .unset] [(.int (3 : Int32))])) _
    refine XS.ifYes X102.here hx rfl (pc0 := 5) (pc' := 27) rfl (hb hby d3_5) rfl ((if0 _ _).trans (feq (by decide : ¬ ((3 : Int32) = (0 : Int32)))).2) (by decide) (by decide) ?_
    show Steps p.tables e below (T102.setTop (mkF m 27 #[rv a1, rv s1, iv (0 : Int32), iv (3 : Int32), .val .null, .unset] [])) _
    exact kont
  have y105 : Sta Z h0 "java/lang/String" "COMPACT_STRINGS" "Z" (.int cs) := S8_.ext O0.2
  obtain ⟨T106, X106, e106, st106⟩ := getS2 X102 hx hZ hown (host := "") (Or.inl (hw _ (List.mem_of_getElem? (i := 18) rfl))) Via.refl e102 y105 (g := (mkF m 27 #[rv a1, rv s1, iv (0 : Int32), iv (3 : Int32), .val .null, .unset] [])) rfl (hb hby d3_27)
  have g107 : Go p e below T106 (mkF m 30 #[rv a1, rv s1, iv (0 : Int32), iv (3 : Int32), .val .null, .unset] [(.int cs)]) A0 := fun t kont => g104 t (st106 t kont)
  have g108 : Go p e below T106 (mkF m 36 #[rv a1, rv s1, iv (0 : Int32), iv (3 : Int32), .val .null, .unset] [(.int (3 : Int32)), (.int (0 : Int32)), (.ref s1)]) A0 := by
    intro t kont
    refine g107 t ?_
    refine XS.ifNo X106.here hx rfl (hb hby d3_30) rfl ((if0 _ _).trans (feq hcs).1) ?_
    show Steps p.tables e below (T106.setTop (mkF m 33 #[rv a1, rv s1, iv (0 : Int32), iv (3 : Int32), .val .null, .unset] [])) _
    refine XS.aloadN X106.here hx rfl (hb hby d3_33) rfl rfl ?_
    show Steps p.tables e below (T106.setTop (mkF m 34 #[rv a1, rv s1, iv (0 : Int32), iv (3 : Int32), .val .null, .unset] [(.ref s1)])) _
    refine XS.iloadN X106.here hx rfl (hb hby d3_34) rfl ?_
    show Steps p.tables e below (T106.setTop (mkF m 35 #[rv a1, rv s1, iv (0 : Int32), iv (3 : Int32), .val .null, .unset] [(.int (0 : Int32)), (.ref s1)])) _
    refine XS.iloadN X106.here hx rfl (hb hby d3_35) rfl ?_
    show Steps p.tables e below (T106.setTop (mkF m 36 #[rv a1, rv s1, iv (0 : Int32), iv (3 : Int32), .val .null, .unset] [(.int (3 : Int32)), (.int (0 : Int32)), (.ref s1)])) _
    exact kont
  obtain ⟨_, _, ⟨T109, L109, k109, n109⟩, -, X109, ⟨Lc109, hQ109, l109, y109, z109⟩, st109⟩ := Jvm.LawKit.callS X106 hx (y := (⟨"java/lang/StringUTF16", "compress", "([CII)[B"⟩ : MethodName)) hown (mvT hZ (hw _ (List.mem_of_getElem? (i := 19) rfl))) (mvT hZ (hw _ (List.mem_of_getElem? (i := 20) rfl))) (mvT hZ (hw _ (List.mem_of_getElem? (i := 21) rfl))) (mvT hZ (hw _ (List.mem_of_getElem? (i := 22) rfl))) (by decide) (backOf (W := 0) (rm_com3 l Z a0 hw [] s1 ks c0_ c1_ c2_ h0 n0 O0 A4_ hc0 hc1 hc2) hZ (hw _ (List.mem_of_getElem? (i := 22) rfl)) (hw _ (List.mem_of_getElem? (i := 21) rfl)) (by decide) (by decide)) (g := (mkF m 36 #[rv a1, rv s1, iv (0 : Int32), iv (3 : Int32), .val .null, .unset] [(.int (3 : Int32)), (.int (0 : Int32)), (.ref s1)])) rfl (by rw [hml]; rfl) (argsL := [(.ref s1), (.int (0 : Int32)), (.int (3 : Int32))]) (rest := []) (lenOf pd_2 rfl) rfl (by show 2 * 0 + _ ≤ _; exact Nat.le_of_eq rfl) (hb hby d3_36) (fun _ _ => ⟨rfl, e106, (by decide : 0 + 1 ≤ _), (by decide : 0 + 3 ≤ _)⟩)
  dsimp only [Pt.U, Pt.locs, Pt.cells, Pt.slots] at X109 l109 y109 z109 st109 hQ109
  subst l109 y109 z109
  obtain ⟨r110, r111, rfl, M109, K109, y112, y113, y114⟩ := hQ109
  have N109 := Fr.app N0 M109
  have O115 := O0.keep K109 all0
  have g116 : Go p e below T109 (mkF m 39 #[rv a1, rv s1, iv (0 : Int32), iv (3 : Int32), .val .null, .unset] [(.ref r110)]) A0 := fun t kont => g108 t (st109 t kont)
  have g117 : Go p e below T109 (mkF m 45 #[rv a1, rv s1, iv (0 : Int32), iv (3 : Int32), .val .null, rv r110] [(.int (3 : Int32)), (.ref r110), (.ref a1)]) A0 := by
    intro t kont
    refine g116 t ?_
    refine XS.astore X109.here hx rfl (hb hby d3_39) rfl rfl (l' := #[rv a1, rv s1, iv (0 : Int32), iv (3 : Int32), .val .null, rv r110]) rfl ?_
    show Steps p.tables e below (T109.setTop (mkF m 41 #[rv a1, rv s1, iv (0 : Int32), iv (3 : Int32), .val .null, rv r110] [])) _
    refine XS.aloadN X109.here hx rfl (hb hby d3_41) rfl rfl ?_
    show Steps p.tables e below (T109.setTop (mkF m 42 #[rv a1, rv s1, iv (0 : Int32), iv (3 : Int32), .val .null, rv r110] [(.ref a1)])) _
    refine XS.aload X109.here hx rfl (hb hby d3_42) rfl rfl ?_
    show Steps p.tables e below (T109.setTop (mkF m 44 #[rv a1, rv s1, iv (0 : Int32), iv (3 : Int32), .val .null, rv r110] [(.ref r110), (.ref a1)])) _
    refine XS.iloadN X109.here hx rfl (hb hby d3_44) rfl ?_
    show Steps p.tables e below (T109.setTop (mkF m 45 #[rv a1, rv s1, iv (0 : Int32), iv (3 : Int32), .val .null, rv r110] [(.int (3 : Int32)), (.ref r110), (.ref a1)])) _
    exact kont
  obtain ⟨_, _, ⟨T118, L118, k118, n118⟩, -, X118, ⟨Lc118, hQ118, l118, y118, z118⟩, st118⟩ := Jvm.LawKit.callS X109 hx (y := (⟨"java/lang/StringUTF16", "coderFromArrayLen", "([BI)B"⟩ : MethodName)) hown (mvT hZ (hw _ (List.mem_of_getElem? (i := 27) rfl))) (mvT hZ (hw _ (List.mem_of_getElem? (i := 28) rfl))) (mvT hZ (hw _ (List.mem_of_getElem? (i := 21) rfl))) (mvT hZ (hw _ (List.mem_of_getElem? (i := 29) rfl))) (by decide) (backOf (W := 1) (rm_cfa3 l Z a0 hw [] r110 r111 [(.int (c0_.toInt8.toInt32)), (.int (c1_.toInt8.toInt32)), (.int (c2_.toInt8.toInt32))] T109.heap n0 O115 y114) hZ (hw _ (List.mem_of_getElem? (i := 29) rfl)) (hw _ (List.mem_of_getElem? (i := 21) rfl)) (by decide) (by decide)) (g := (mkF m 45 #[rv a1, rv s1, iv (0 : Int32), iv (3 : Int32), .val .null, rv r110] [(.int (3 : Int32)), (.ref r110), (.ref a1)])) rfl (by rw [hml]; rfl) (argsL := [(.ref r110), (.int (3 : Int32))]) (rest := [(.ref a1)]) (lenOf pd_3 rfl) rfl (by show 2 * 0 + _ ≤ _; exact Nat.le_of_eq rfl) (hb hby d3_45) (fun _ _ => ⟨rfl, rfl, (by decide : 1 + 0 ≤ _), (by decide : 3 + 0 ≤ _)⟩)
  dsimp only [Pt.U, Pt.locs, Pt.cells, Pt.slots] at X118 l118 y118 z118 st118 hQ118
  subst l118 y118 z118
  obtain ⟨rfl, M118, e118⟩ := hQ118
  have N118 := Fr.app N109 M118
  have g119 : Go p e below T118 (mkF m 48 #[rv a1, rv s1, iv (0 : Int32), iv (3 : Int32), .val .null, rv r110] [(.int (0 : Int32)), (.ref a1)]) A0 := fun t kont => g117 t (st118 t kont)
  have y120 : Exa Z T109.heap a1 "java/lang/String" := (E2_.keep K109)
  have y121 : Fld Z T109.heap a1 "java/lang/String" "coder" "B" (.int (0 : Int32)) := (F1_.keep K109 nin0)
  obtain ⟨T122, h122, X122, e122, W122, st122⟩ := putFN X118 hx hZ hown (hw _ (List.mem_of_getElem? (i := 30) rfl)) Via.refl e118 y121 y120 (Or.inr ⟨(hw _ (List.mem_of_getElem? (i := 31) rfl)), rfl, hnm⟩) (hw _ (List.mem_of_getElem? (i := 5) rfl)) (ty := .byte) (v := (.int (0 : Int32))) (v' := (.int (0 : Int32))) (by decide) (own_nw_byte (by decide : nar .byte (0 : Int32) = (0 : Int32))) (own_ft_byte (by decide : nar .byte (0 : Int32) = (0 : Int32))) (g := (mkF m 48 #[rv a1, rv s1, iv (0 : Int32), iv (3 : Int32), .val .null, rv r110] [(.int (0 : Int32)), (.ref a1)])) rfl rfl (hb hby d3_48)
  have O123 := O115.wr W122 G3_
  have y124 : Fld Z h122 a1 "java/lang/String" "coder" "B" (.int (0 : Int32)) := y121.same W122
  have N122 := Fr.snoc X122 N118 G3_
  have g125 : Go p e below T122 (mkF m 51 #[rv a1, rv s1, iv (0 : Int32), iv (3 : Int32), .val .null, rv r110] []) A0 := fun t kont => g119 t (st122 t kont)
  have g126 : Go p e below T122 (mkF m 54 #[rv a1, rv s1, iv (0 : Int32), iv (3 : Int32), .val .null, rv r110] [(.ref r110), (.ref a1)]) A0 := by
    intro t kont
    refine g125 t ?_
    refine XS.aloadN X122.here hx rfl (hb hby d3_51) rfl rfl ?_
    show Steps p.tables e below (T122.setTop (mkF m 52 #[rv a1, rv s1, iv (0 : Int32), iv (3 : Int32), .val .null, rv r110] [(.ref a1)])) _
    refine XS.aload X122.here hx rfl (hb hby d3_52) rfl rfl ?_
    show Steps p.tables e below (T122.setTop (mkF m 54 #[rv a1, rv s1, iv (0 : Int32), iv (3 : Int32), .val .null, rv r110] [(.ref r110), (.ref a1)])) _
    exact kont
  have y127 : Exa Z h122 a1 "java/lang/String" := (y120.wr W122)
  have y128 : Fld Z h122 a1 "java/lang/String" "value" "[B" .null := ((F0_.keep K109 nin0).other W122 (Or.inr (slot_ne (Or.inr (hw _ (List.mem_of_getElem? (i := 33) rfl))) (Or.inr (hw _ (List.mem_of_getElem? (i := 31) rfl))) (by decide) (t := (.array .byte)) (t' := .byte) (by decide) (by decide))))
  obtain ⟨T129, h129, X129, e129, W129, st129⟩ := putF X122 hx hZ hown (host := "") (Or.inl (hw _ (List.mem_of_getElem? (i := 32) rfl))) Via.refl e122 y128 y127 (Or.inr ⟨(hw _ (List.mem_of_getElem? (i := 33) rfl)), rfl, hnm⟩) (hw _ (List.mem_of_getElem? (i := 5) rfl)) (ty := (.array .byte)) (by decide) rfl rfl (g := (mkF m 54 #[rv a1, rv s1, iv (0 : Int32), iv (3 : Int32), .val .null, rv r110] [(.ref r110), (.ref a1)])) rfl rfl (hb hby d3_54)
  have O130 := O123.wr W129 G3_
  have y131 : Fld Z h129 a1 "java/lang/String" "value" "[B" (.ref r110) := y128.same W129
  have N129 := Fr.snoc X129 N122 G3_
  have g132 : Go p e below T129 (mkF m 57 #[rv a1, rv s1, iv (0 : Int32), iv (3 : Int32), .val .null, rv r110] []) A0 := fun t kont => g126 t (st129 t kont)
  have K133 : Keep h0 h129 [a1] := ((((Keep.refl h0 [a1]).trans K109 (fun x hx => nomatch hx)).wr W122 (Or.inl (List.mem_of_getElem? (i := 0) rfl))).wr W129 (Or.inl (List.mem_of_getElem? (i := 0) rfl)))
  have y134 : Exa Z h129 a1 "java/lang/String" := (y127.wr W129)
  have y135 : Fld Z h129 a1 "java/lang/String" "coder" "B" (.int (0 : Int32)) := (y124.other W129 (Or.inr (slot_ne (Or.inr (hw _ (List.mem_of_getElem? (i := 31) rfl))) (Or.inr (hw _ (List.mem_of_getElem? (i := 33) rfl))) (by decide) (t := .byte) (t' := (.array .byte)) (by decide) (by decide))))
  have y136 : Arv Z h129 r110 r111 .byte (3 : Int32) [(.int (c0_.toInt8.toInt32)), (.int (c1_.toInt8.toInt32)), (.int (c2_.toInt8.toInt32))] (.int (0 : Int32)) := ((y114.other W122 (Ne.symm (Nat.ne_of_lt (Nat.lt_of_lt_of_le F0_.lt y112)))).other W129 (Ne.symm (Nat.ne_of_lt (Nat.lt_of_lt_of_le F0_.lt y112))))
  obtain ⟨fs, hr, hrun, hended, hW, hsame⟩ := X129.leave (v := none) (fun _ => rfl)
  refine ⟨_, _, g132 _ (X129.returnOut hx Bd.returns (hb hby d3_57) hr), hrun, hended, _, _, rfl, ?_, ⟨_, rfl⟩, hW, hsame.mono (by decide) (by decide)⟩
  show Q_sin3 Z a1 s1 ks c0_ c1_ c2_ cs h0 n0 _ T129.heap _
  rw [e129]
  exact ⟨r110, r111, rfl, N129, K133, y134, y135, y131, y112, y136⟩
theorem ef_sIni3 (m : MethodId) (x0 : Addr) (x1 : Addr)  : entryFrame m #[(.ref x0), (.ref x1)] 2 = mkF m 0 #[.val (.ref x0), .val (.ref x1)] [] := by first | (simp [entryFrame, mkF, argsToLocals, Value.category]; done) | rfl
def Q_sIni3 (Z : State) (a1 : Addr) (s1 : Addr) (ks : ClassId) (c0_ : Int32) (c1_ : Int32) (c2_ : Int32) (cs : Int32) (h0 : Heap) (n0 : Nat) (v : Option Value) (h : Heap) (L : List Loc) : Prop := ∃ (r : Addr), ∃ (kid : ClassId), v = none ∧ Fr n0 L ∧ Keep h0 h [a1] ∧ (Exa Z h a1 "java/lang/String") ∧ (Fld Z h a1 "java/lang/String" "coder" "B" (.int (0 : Int32))) ∧ (Fld Z h a1 "java/lang/String" "value" "[B" (.ref r)) ∧ h0.size ≤ r ∧ (Arv Z h r kid .byte (3 : Int32) [(.int (c0_.toInt8.toInt32)), (.int (c1_.toInt8.toInt32)), (.int (c2_.toInt8.toInt32))] (.int (0 : Int32)))
set_option maxRecDepth 65536 in
set_option maxHeartbeats 40000000 in
theorem rm_sIni3 (l : Launch) (Z : State) (a0 : Array Value) (hw : ∀ d ∈ tables_1, d.before a0 Z = true) (ws : List Jvm.Cond) (a1 : Addr) (s1 : Addr) (ks : ClassId) (c0_ : Int32) (c1_ : Int32) (c2_ : Int32) (cs : Int32) (h0 : Heap) (n0 : Nat) (O0 : Old Z n0 h0) (F0_ : Fld Z h0 a1 "java/lang/String" "value" "[B" .null) (F1_ : Fld Z h0 a1 "java/lang/String" "coder" "B" (.int (0 : Int32))) (E2_ : Exa Z h0 a1 "java/lang/String") (G3_ : n0 ≤ a1) (A4_ : Arv Z h0 s1 ks .char (3 : Int32) [(.int c0_), (.int c1_), (.int c2_)] (.int (0 : Int32))) (hc0 : ¬ ((255 : Int32) < c0_)) (hc1 : ¬ ((255 : Int32) < c1_)) (hc2 : ¬ ((255 : Int32) < c2_)) (S8_ : Sta Z Z.heap "java/lang/String" "COMPACT_STRINGS" "Z" (.int cs)) (hcs : ¬ (cs = (0 : Int32))) :
    MetFree l (⟨"java/lang/String", "<init>", "([C)V"⟩ : MethodName) (head1 (Jvm.Cond.code (⟨"java/lang/String", "<init>", "([C)V"⟩ : MethodName) jdk_42_method_3_code 2 none :: ws) ({ frames := 3, cells := 1, slots := 3, locals := 52 } : Room)) (fun a U => a = #[(.ref a1), (.ref s1)] ∧ Z.Warmed39 U.vm ∧ U.heap = h0) (fun _ _ _ _ _ => True) (fun _ U o U' => ∃ v L, o = .returned v ∧ Q_sIni3 Z a1 s1 ks c0_ c1_ c2_ cs h0 n0 v U'.heap L ∧ FrameEnd U o U' L ({ frames := 3, cells := 1, slots := 3, locals := 52 } : Room).cells ({ frames := 3, cells := 1, slots := 3, locals := 52 } : Room).slots) := by
  refine MetFree.of_bodySF (plainFor_of_name pn_java_lang_String) hisR ?_
  intro p e s m args below meth c s₁ Bd hml0 hP hK
  obtain ⟨rfl, hZ, hh⟩ := hP
  have hx := Bd.exec
  have hby := Bd.bytes
  have hml : c.maxLocals = 2 := hml0
  have hown : s.vm.findClass "java/lang/String" = some m.cls := findClass_of_methodNamed Bd.named
  have hnm := (name_of_methodNamed Bd.named Bd.method).1
  have X0 : Stand p l e ({ frames := 3, cells := 1, slots := 3, locals := 52 } : Room) s m #[(.ref a1), (.ref s1)] below meth c s₁ [] 0 0 := Stand.of_body Bd
  have e0 : s₁.heap = h0 := by rw [← hh, Bd.state]; rfl
  have N0 := Fr.nil n0
  have g0 : Go p e below s₁ (mkF m 0 #[rv a1, rv s1] []) (s₁.setTop (entryFrame m #[(.ref a1), (.ref s1)] 2)) := fun t kont => castTop (ef_sIni3 m a1 s1 ) kont
  generalize s₁.setTop (entryFrame m #[(.ref a1), (.ref s1)] 2) = A0 at g0 ⊢
  have g101 : Go p e below s₁ (mkF m 4 #[rv a1, rv s1] [(.ref s1), (.int (0 : Int32)), (.ref s1), (.ref a1)]) A0 := by
    intro t kont
    refine g0 t ?_
    refine XS.aloadN X0.here hx rfl (hb hby d2_0) rfl rfl ?_
    show Steps p.tables e below (s₁.setTop (mkF m 1 #[rv a1, rv s1] [(.ref a1)])) _
    refine XS.aloadN X0.here hx rfl (hb hby d2_1) rfl rfl ?_
    show Steps p.tables e below (s₁.setTop (mkF m 2 #[rv a1, rv s1] [(.ref s1), (.ref a1)])) _
    refine XS.iconst X0.here hx rfl (hb hby d2_2) ?_
    show Steps p.tables e below (s₁.setTop (mkF m 3 #[rv a1, rv s1] [(.int (0 : Int32)), (.ref s1), (.ref a1)])) _
    refine XS.aloadN X0.here hx rfl (hb hby d2_3) rfl rfl ?_
    show Steps p.tables e below (s₁.setTop (mkF m 4 #[rv a1, rv s1] [(.ref s1), (.int (0 : Int32)), (.ref s1), (.ref a1)])) _
    exact kont
  have zz102 := A4_
  obtain ⟨cl102, Ar102, -, S102, M102, -, -⟩ := zz102
  have g103 : Go p e below s₁ (mkF m 5 #[rv a1, rv s1] [(.int (3 : Int32)), (.int (0 : Int32)), (.ref s1), (.ref a1)]) A0 := by
    intro t kont
    refine g101 t ?_
    refine X0.arraylength hx (by rw [e0]; exact Ar102.1) (State.isArrayOf_alike hZ.alike Ar102.2.1) (g := (mkF m 4 #[rv a1, rv s1] [(.ref s1), (.int (0 : Int32)), (.ref s1), (.ref a1)])) rfl rfl (hb hby d2_4) _ ?_
    rw [len_of S102 M102]
    exact kont
  have g104 : Go p e below s₁ (mkF m 6 #[rv a1, rv s1] [.null, (.int (3 : Int32)), (.int (0 : Int32)), (.ref s1), (.ref a1)]) A0 := by
    intro t kont
    refine g103 t ?_
    refine XS.aconstNull X0.here hx rfl (hb hby d2_5) ?_
    show Steps p.tables e below (s₁.setTop (mkF m 6 #[rv a1, rv s1] [.null, (.int (3 : Int32)), (.int (0 : Int32)), (.ref s1), (.ref a1)])) _
    exact kont
  obtain ⟨_, _, ⟨T105, L105, k105, n105⟩, -, X105, ⟨Lc105, hQ105, l105, y105, z105⟩, st105⟩ := X0.specialBack hx (y := (⟨"java/lang/String", "<init>", "([CIILjava/lang/Void;)V"⟩ : MethodName)) rfl hown (mvT hZ (hw _ (List.mem_of_getElem? (i := 11) rfl))) (mvT hZ (hw _ (List.mem_of_getElem? (i := 12) rfl))) (mvT hZ (hw _ (List.mem_of_getElem? (i := 14) rfl))) (by decide) (backOf (W := 0) (rm_sin3 l Z a0 hw [] a1 s1 ks c0_ c1_ c2_ cs h0 n0 O0 F0_ F1_ E2_ G3_ A4_ hc0 hc1 hc2 S8_ hcs) hZ (hw _ (List.mem_of_getElem? (i := 14) rfl)) (hw _ (List.mem_of_getElem? (i := 6) rfl)) (by decide) (by decide)) (g := (mkF m 6 #[rv a1, rv s1] [.null, (.int (3 : Int32)), (.int (0 : Int32)), (.ref s1), (.ref a1)])) rfl (by rw [hml]; rfl) (Steps.refl _) (a := a1) (argsL := [(.ref s1), (.int (0 : Int32)), (.int (3 : Int32)), .null]) (rest := []) (lenOf pd_0 rfl) rfl (by show 2 * 0 + _ ≤ _; exact Nat.le_of_eq rfl) (hb hby d2_6) (fun _ _ => ⟨rfl, e0, (by decide : 0 + 1 ≤ _), (by decide : 0 + 3 ≤ _)⟩)
  dsimp only [Pt.U, Pt.locs, Pt.cells, Pt.slots] at X105 l105 y105 z105 st105 hQ105
  subst l105 y105 z105
  obtain ⟨r106, r107, rfl, M105, K105, y108, y109, y110, y111, y112⟩ := hQ105
  have N105 := Fr.app N0 M105
  have O113 := O0.keep K105 (allS G3_ all0)
  have g114 : Go p e below T105 (mkF m 9 #[rv a1, rv s1] []) A0 := fun t kont => g104 t (st105.trans kont)
  have K115 : Keep h0 T105.heap [a1] := ((Keep.refl h0 [a1]).trans K105 (allS (P := fun x => x ∈ [a1] ∨ h0.size ≤ x) (Or.inl (List.mem_of_getElem? (i := 0) rfl)) all0))
  obtain ⟨fs, hr, hrun, hended, hW, hsame⟩ := X105.leave (v := none) (fun _ => rfl)
  refine ⟨_, _, g114 _ (X105.returnOut hx Bd.returns (hb hby d2_9) hr), hrun, hended, _, _, rfl, ?_, ⟨_, rfl⟩, hW, hsame.mono (by decide) (by decide)⟩
  show Q_sIni3 Z a1 s1 ks c0_ c1_ c2_ cs h0 n0 _ T105.heap _
  exact ⟨r106, r107, rfl, N105, K115, y108, y109, y110, y111, y112⟩
theorem d1_0 : decode method_3_code 0 = .ok (.iload_n 0, 1) := by decide +kernel
theorem d1_1 : decode method_3_code 1 = .ok (.sipush 255, 3) := by decide +kernel
theorem d1_4 : decode method_3_code 4 = .ok (.iand, 1) := by decide +kernel
theorem d1_5 : decode method_3_code 5 = .ok (.i2c, 1) := by decide +kernel
theorem d1_6 : decode method_3_code 6 = .ok (.istore_n 2, 1) := by decide +kernel
theorem d1_7 : decode method_3_code 7 = .ok (.iload_n 0, 1) := by decide +kernel
theorem d1_8 : decode method_3_code 8 = .ok (.bipush 8, 2) := by decide +kernel
theorem d1_10 : decode method_3_code 10 = .ok (.iushr, 1) := by decide +kernel
theorem d1_11 : decode method_3_code 11 = .ok (.sipush 255, 3) := by decide +kernel
theorem d1_14 : decode method_3_code 14 = .ok (.iand, 1) := by decide +kernel
theorem d1_15 : decode method_3_code 15 = .ok (.i2c, 1) := by decide +kernel
theorem d1_16 : decode method_3_code 16 = .ok (.istore_n 3, 1) := by decide +kernel
theorem d1_17 : decode method_3_code 17 = .ok (.iload_n 0, 1) := by decide +kernel
theorem d1_18 : decode method_3_code 18 = .ok (.bipush 16, 2) := by decide +kernel
theorem d1_20 : decode method_3_code 20 = .ok (.iushr, 1) := by decide +kernel
theorem d1_21 : decode method_3_code 21 = .ok (.sipush 255, 3) := by decide +kernel
theorem d1_24 : decode method_3_code 24 = .ok (.iand, 1) := by decide +kernel
theorem d1_25 : decode method_3_code 25 = .ok (.i2c, 1) := by decide +kernel
theorem d1_26 : decode method_3_code 26 = .ok (.istore 4, 2) := by decide +kernel
theorem d1_28 : decode method_3_code 28 = .ok (.iload_n 1, 1) := by decide +kernel
theorem d1_29 : decode method_3_code 29 = .ok (.ifCond .ne 18, 3) := by decide +kernel
theorem d1_32 : decode method_3_code 32 = .ok (.new 34, 3) := by decide +kernel
theorem d1_35 : decode method_3_code 35 = .ok (.dup, 1) := by decide +kernel
theorem d1_36 : decode method_3_code 36 = .ok (.iconst 0, 1) := by decide +kernel
theorem d1_37 : decode method_3_code 37 = .ok (.newarray .char, 2) := by decide +kernel
theorem d1_39 : decode method_3_code 39 = .ok (.invokespecial 51, 3) := by decide +kernel
theorem pd_4 : parseMethodDescriptor "([C)V" = some ⟨[(.array .char)], none⟩ := by decide +kernel
theorem d1_42 : decode method_3_code 42 = .ok (.astore 5, 2) := by decide +kernel
theorem d1_44 : decode method_3_code 44 = .ok (.goto 80, 3) := by decide +kernel
theorem d1_124 : decode method_3_code 124 = .ok (.aload 5, 2) := by decide +kernel
theorem d1_126 : decode method_3_code 126 = .ok (.areturn, 1) := by decide +kernel
theorem d1_47 : decode method_3_code 47 = .ok (.iload_n 1, 1) := by decide +kernel
theorem d1_48 : decode method_3_code 48 = .ok (.iconst 1, 1) := by decide +kernel
theorem d1_49 : decode method_3_code 49 = .ok (.if_icmp .ne 22, 3) := by decide +kernel
theorem d1_52 : decode method_3_code 52 = .ok (.new 34, 3) := by decide +kernel
theorem d1_55 : decode method_3_code 55 = .ok (.dup, 1) := by decide +kernel
theorem d1_56 : decode method_3_code 56 = .ok (.iconst 1, 1) := by decide +kernel
theorem d1_57 : decode method_3_code 57 = .ok (.newarray .char, 2) := by decide +kernel
theorem d1_59 : decode method_3_code 59 = .ok (.dup, 1) := by decide +kernel
theorem d1_60 : decode method_3_code 60 = .ok (.iconst 0, 1) := by decide +kernel
theorem d1_61 : decode method_3_code 61 = .ok (.iload_n 2, 1) := by decide +kernel
theorem d1_62 : decode method_3_code 62 = .ok (.castore, 1) := by decide +kernel
theorem d1_63 : decode method_3_code 63 = .ok (.invokespecial 51, 3) := by decide +kernel
theorem d1_66 : decode method_3_code 66 = .ok (.astore 5, 2) := by decide +kernel
theorem d1_68 : decode method_3_code 68 = .ok (.goto 56, 3) := by decide +kernel
theorem d1_71 : decode method_3_code 71 = .ok (.iload_n 1, 1) := by decide +kernel
theorem d1_72 : decode method_3_code 72 = .ok (.iconst 2, 1) := by decide +kernel
theorem d1_73 : decode method_3_code 73 = .ok (.if_icmp .ne 26, 3) := by decide +kernel
theorem d1_76 : decode method_3_code 76 = .ok (.new 34, 3) := by decide +kernel
theorem d1_79 : decode method_3_code 79 = .ok (.dup, 1) := by decide +kernel
theorem d1_80 : decode method_3_code 80 = .ok (.iconst 2, 1) := by decide +kernel
theorem d1_81 : decode method_3_code 81 = .ok (.newarray .char, 2) := by decide +kernel
theorem d1_83 : decode method_3_code 83 = .ok (.dup, 1) := by decide +kernel
theorem d1_84 : decode method_3_code 84 = .ok (.iconst 0, 1) := by decide +kernel
theorem d1_85 : decode method_3_code 85 = .ok (.iload_n 2, 1) := by decide +kernel
theorem d1_86 : decode method_3_code 86 = .ok (.castore, 1) := by decide +kernel
theorem d1_87 : decode method_3_code 87 = .ok (.dup, 1) := by decide +kernel
theorem d1_88 : decode method_3_code 88 = .ok (.iconst 1, 1) := by decide +kernel
theorem d1_89 : decode method_3_code 89 = .ok (.iload_n 3, 1) := by decide +kernel
theorem d1_90 : decode method_3_code 90 = .ok (.castore, 1) := by decide +kernel
theorem d1_91 : decode method_3_code 91 = .ok (.invokespecial 51, 3) := by decide +kernel
theorem d1_94 : decode method_3_code 94 = .ok (.astore 5, 2) := by decide +kernel
theorem d1_96 : decode method_3_code 96 = .ok (.goto 28, 3) := by decide +kernel
theorem d1_99 : decode method_3_code 99 = .ok (.new 34, 3) := by decide +kernel
theorem d1_102 : decode method_3_code 102 = .ok (.dup, 1) := by decide +kernel
theorem d1_103 : decode method_3_code 103 = .ok (.iconst 3, 1) := by decide +kernel
theorem d1_104 : decode method_3_code 104 = .ok (.newarray .char, 2) := by decide +kernel
theorem d1_106 : decode method_3_code 106 = .ok (.dup, 1) := by decide +kernel
theorem d1_107 : decode method_3_code 107 = .ok (.iconst 0, 1) := by decide +kernel
theorem d1_108 : decode method_3_code 108 = .ok (.iload_n 2, 1) := by decide +kernel
theorem d1_109 : decode method_3_code 109 = .ok (.castore, 1) := by decide +kernel
theorem d1_110 : decode method_3_code 110 = .ok (.dup, 1) := by decide +kernel
theorem d1_111 : decode method_3_code 111 = .ok (.iconst 1, 1) := by decide +kernel
theorem d1_112 : decode method_3_code 112 = .ok (.iload_n 3, 1) := by decide +kernel
theorem d1_113 : decode method_3_code 113 = .ok (.castore, 1) := by decide +kernel
theorem d1_114 : decode method_3_code 114 = .ok (.dup, 1) := by decide +kernel
theorem d1_115 : decode method_3_code 115 = .ok (.iconst 2, 1) := by decide +kernel
theorem d1_116 : decode method_3_code 116 = .ok (.iload 4, 2) := by decide +kernel
theorem d1_118 : decode method_3_code 118 = .ok (.castore, 1) := by decide +kernel
theorem d1_119 : decode method_3_code 119 = .ok (.invokespecial 51, 3) := by decide +kernel
theorem d1_122 : decode method_3_code 122 = .ok (.astore 5, 2) := by decide +kernel
theorem pn_com_example_tenant_data_scope_tenantdatascope_TenantProfileDedicatedPinLaw : plainName "com/example/tenant_data_scope/tenantdatascope/TenantProfileDedicatedPinLaw" = true := by first | (simp [plainName, overriddenIn]; done) | decide +kernel
theorem ef_key (m : MethodId) (x0 : Int32) (x1 : Int32)  : entryFrame m #[(.int x0), (.int x1)] 6 = mkF m 0 #[.val (.int x0), .val (.int x1), .unset, .unset, .unset, .unset] [] := by first | (simp [entryFrame, mkF, argsToLocals, Value.category]; done) | rfl
def Q_key (Z : State) (i1 : Int32) (i2 : Int32) (cs : Int32) (h0 : Heap) (n0 : Nat) (v : Option Value) (h : Heap) (L : List Loc) : Prop := ∃ (r : Addr), v = some (.ref r) ∧ Fr n0 L ∧ Keep h0 h [] ∧ h0.size ≤ r ∧ (Exa Z h r "java/lang/String")
set_option maxRecDepth 65536 in
set_option maxHeartbeats 40000000 in
theorem rm_key (l : Launch) (Z : State) (a0 : Array Value) (hw : ∀ d ∈ tables_1, d.before a0 Z = true) (ws : List Jvm.Cond) (i1 : Int32) (i2 : Int32) (cs : Int32) (h0 : Heap) (n0 : Nat) (O0 : Old Z n0 h0) (S0_ : Sta Z Z.heap "java/lang/String" "COMPACT_STRINGS" "Z" (.int cs)) (hcs : ¬ (cs = (0 : Int32))) :
    MetFree l (⟨"com/example/tenant_data_scope/tenantdatascope/TenantProfileDedicatedPinLaw", "key", "(II)Ljava/lang/String;"⟩ : MethodName) (head1 (Jvm.Cond.code (⟨"com/example/tenant_data_scope/tenantdatascope/TenantProfileDedicatedPinLaw", "key", "(II)Ljava/lang/String;"⟩ : MethodName) method_3_code 6 (some (.object "java/lang/String")) :: ws) ({ frames := 4, cells := 6, slots := 12, locals := 66 } : Room)) (fun a U => a = #[(.int i1), (.int i2)] ∧ Z.Warmed39 U.vm ∧ U.heap = h0 ∧ CHv Z consts_1 U.vm h0) (fun _ _ _ _ _ => True) (fun _ U o U' => ∃ v L, o = .returned v ∧ Q_key Z i1 i2 cs h0 n0 v U'.heap L ∧ CHr Z consts_1 U.vm U.heap U'.vm U'.heap ∧ ReturnedEndW U o U' L ({ frames := 4, cells := 6, slots := 12, locals := 66 } : Room).cells ({ frames := 4, cells := 6, slots := 12, locals := 66 } : Room).slots) := by
  refine MetFree.of_bodySF (plainFor_of_name pn_com_example_tenant_data_scope_tenantdatascope_TenantProfileDedicatedPinLaw) hisR ?_
  intro p e s m args below meth c s₁ Bd hml0 hP hK
  obtain ⟨rfl, hZ, hh, hC0⟩ := hP
  have hx := Bd.exec
  have hby := Bd.bytes
  have hml : c.maxLocals = 6 := hml0
  have hown : s.vm.findClass "com/example/tenant_data_scope/tenantdatascope/TenantProfileDedicatedPinLaw" = some m.cls := findClass_of_methodNamed Bd.named
  have hnm := (name_of_methodNamed Bd.named Bd.method).1
  have X0 : Stand p l e ({ frames := 4, cells := 6, slots := 12, locals := 66 } : Room) (s.setVm s.vm) m #[(.int i1), (.int i2)] below meth c s₁ [] 0 0 := Stand.of_body Bd
  have e0 : s₁.heap = h0 := by rw [← hh, Bd.state]; rfl
  have N0 := Fr.nil n0
  have hS : s.Since s.vm 0 := (State.WarmedH.refl s).since 0
  have hk : 0 ≤ h0.size := Nat.zero_le _
  have hZ : Z.Warmed39 (s.setVm s.vm).vm := hZ
  have hown : (s.setVm s.vm).vm.findClass "com/example/tenant_data_scope/tenantdatascope/TenantProfileDedicatedPinLaw" = some m.cls := hown
  have R0 : CHr Z consts_1 s.vm h0 s.vm h0 := CHr.refl hC0
  have g0 : Go p e below s₁ (mkF m 0 #[iv i1, iv i2, .unset, .unset, .unset, .unset] []) (s₁.setTop (entryFrame m #[(.int i1), (.int i2)] 6)) := fun t kont => castTop (ef_key m i1 i2 ) kont
  generalize s₁.setTop (entryFrame m #[(.int i1), (.int i2)] 6) = A0 at g0 ⊢
  have g101 : Go p e below s₁ (mkF m 6 #[iv i1, iv i2, .unset, .unset, .unset, .unset] [(.int ((i1 &&& (255 : Int32)).toUInt32.toUInt16.toUInt32.toInt32))]) A0 := by
    intro t kont
    refine g0 t ?_
    refine XS.iloadN X0.here hx rfl (hb hby d1_0) rfl ?_
    show Steps p.tables e below (s₁.setTop (mkF m 1 #[iv i1, iv i2, .unset, .unset, .unset, .unset] [(.int i1)])) _
    refine XS.sipush X0.here hx rfl (hb hby d1_1) ?_
    show Steps p.tables e below (s₁.setTop (mkF m 4 #[iv i1, iv i2, .unset, .unset, .unset, .unset] [(.int (255 : Int32)), (.int i1)])) _
    refine XS.iand X0.here hx rfl (hb hby d1_4) rfl ?_
    show Steps p.tables e below (s₁.setTop (mkF m 5 #[iv i1, iv i2, .unset, .unset, .unset, .unset] [(.int (i1 &&& (255 : Int32)))])) _
    refine XS.i2c X0.here hx rfl (hb hby d1_5) rfl ?_
    show Steps p.tables e below (s₁.setTop (mkF m 6 #[iv i1, iv i2, .unset, .unset, .unset, .unset] [(.int ((i1 &&& (255 : Int32)).toUInt32.toUInt16.toUInt32.toInt32))])) _
    exact kont
  obtain ⟨ca, e_ca⟩ : ∃ z, z = ((i1 &&& (255 : Int32)).toUInt32.toUInt16.toUInt32.toInt32) := ⟨_, rfl⟩
  have g102 : Go p e below s₁ (mkF m 6 #[iv i1, iv i2, .unset, .unset, .unset, .unset] [(.int ca)]) A0 := by rw [e_ca]; exact g101
  have b_ca : ¬ ((255 : Int32) < ca) := by rw [e_ca]; exact own_c255 _
  have z_ca : ¬ (ca < (0 : Int32)) := by rw [e_ca]; exact own_c0 _
  have r_ca : nar .char ca = ca := by rw [e_ca]; exact own_narc _
  have g103 : Go p e below s₁ (mkF m 16 #[iv i1, iv i2, iv ca, .unset, .unset, .unset] [(.int ((((i1.toUInt32 >>> ((8 : Int32) &&& 31).toUInt32).toInt32) &&& (255 : Int32)).toUInt32.toUInt16.toUInt32.toInt32))]) A0 := by
    intro t kont
    refine g102 t ?_
    refine XS.istoreN X0.here hx rfl (hb hby d1_6) rfl (l' := #[iv i1, iv i2, iv ca, .unset, .unset, .unset]) rfl ?_
    show Steps p.tables e below (s₁.setTop (mkF m 7 #[iv i1, iv i2, iv ca, .unset, .unset, .unset] [])) _
    refine XS.iloadN X0.here hx rfl (hb hby d1_7) rfl ?_
    show Steps p.tables e below (s₁.setTop (mkF m 8 #[iv i1, iv i2, iv ca, .unset, .unset, .unset] [(.int i1)])) _
    refine XS.bipush X0.here hx rfl (hb hby d1_8) ?_
    show Steps p.tables e below (s₁.setTop (mkF m 10 #[iv i1, iv i2, iv ca, .unset, .unset, .unset] [(.int (8 : Int32)), (.int i1)])) _
    refine XS.iushr X0.here hx rfl (hb hby d1_10) rfl ?_
    show Steps p.tables e below (s₁.setTop (mkF m 11 #[iv i1, iv i2, iv ca, .unset, .unset, .unset] [(.int ((i1.toUInt32 >>> ((8 : Int32) &&& 31).toUInt32).toInt32))])) _
    refine XS.sipush X0.here hx rfl (hb hby d1_11) ?_
    show Steps p.tables e below (s₁.setTop (mkF m 14 #[iv i1, iv i2, iv ca, .unset, .unset, .unset] [(.int (255 : Int32)), (.int ((i1.toUInt32 >>> ((8 : Int32) &&& 31).toUInt32).toInt32))])) _
    refine XS.iand X0.here hx rfl (hb hby d1_14) rfl ?_
    show Steps p.tables e below (s₁.setTop (mkF m 15 #[iv i1, iv i2, iv ca, .unset, .unset, .unset] [(.int (((i1.toUInt32 >>> ((8 : Int32) &&& 31).toUInt32).toInt32) &&& (255 : Int32)))])) _
    refine XS.i2c X0.here hx rfl (hb hby d1_15) rfl ?_
    show Steps p.tables e below (s₁.setTop (mkF m 16 #[iv i1, iv i2, iv ca, .unset, .unset, .unset] [(.int ((((i1.toUInt32 >>> ((8 : Int32) &&& 31).toUInt32).toInt32) &&& (255 : Int32)).toUInt32.toUInt16.toUInt32.toInt32))])) _
    exact kont
  obtain ⟨cb, e_cb⟩ : ∃ z, z = ((((i1.toUInt32 >>> ((8 : Int32) &&& 31).toUInt32).toInt32) &&& (255 : Int32)).toUInt32.toUInt16.toUInt32.toInt32) := ⟨_, rfl⟩
  have g104 : Go p e below s₁ (mkF m 16 #[iv i1, iv i2, iv ca, .unset, .unset, .unset] [(.int cb)]) A0 := by rw [e_cb]; exact g103
  have b_cb : ¬ ((255 : Int32) < cb) := by rw [e_cb]; exact own_c255 _
  have z_cb : ¬ (cb < (0 : Int32)) := by rw [e_cb]; exact own_c0 _
  have r_cb : nar .char cb = cb := by rw [e_cb]; exact own_narc _
  have g105 : Go p e below s₁ (mkF m 26 #[iv i1, iv i2, iv ca, iv cb, .unset, .unset] [(.int ((((i1.toUInt32 >>> ((16 : Int32) &&& 31).toUInt32).toInt32) &&& (255 : Int32)).toUInt32.toUInt16.toUInt32.toInt32))]) A0 := by
    intro t kont
    refine g104 t ?_
    refine XS.istoreN X0.here hx rfl (hb hby d1_16) rfl (l' := #[iv i1, iv i2, iv ca, iv cb, .unset, .unset]) rfl ?_
    show Steps p.tables e below (s₁.setTop (mkF m 17 #[iv i1, iv i2, iv ca, iv cb, .unset, .unset] [])) _
    refine XS.iloadN X0.here hx rfl (hb hby d1_17) rfl ?_
    show Steps p.tables e below (s₁.setTop (mkF m 18 #[iv i1, iv i2, iv ca, iv cb, .unset, .unset] [(.int i1)])) _
    refine XS.bipush X0.here hx rfl (hb hby d1_18) ?_
    show Steps p.tables e below (s₁.setTop (mkF m 20 #[iv i1, iv i2, iv ca, iv cb, .unset, .unset] [(.int (16 : Int32)), (.int i1)])) _
    refine XS.iushr X0.here hx rfl (hb hby d1_20) rfl ?_
    show Steps p.tables e below (s₁.setTop (mkF m 21 #[iv i1, iv i2, iv ca, iv cb, .unset, .unset] [(.int ((i1.toUInt32 >>> ((16 : Int32) &&& 31).toUInt32).toInt32))])) _
    refine XS.sipush X0.here hx rfl (hb hby d1_21) ?_
    show Steps p.tables e below (s₁.setTop (mkF m 24 #[iv i1, iv i2, iv ca, iv cb, .unset, .unset] [(.int (255 : Int32)), (.int ((i1.toUInt32 >>> ((16 : Int32) &&& 31).toUInt32).toInt32))])) _
    refine XS.iand X0.here hx rfl (hb hby d1_24) rfl ?_
    show Steps p.tables e below (s₁.setTop (mkF m 25 #[iv i1, iv i2, iv ca, iv cb, .unset, .unset] [(.int (((i1.toUInt32 >>> ((16 : Int32) &&& 31).toUInt32).toInt32) &&& (255 : Int32)))])) _
    refine XS.i2c X0.here hx rfl (hb hby d1_25) rfl ?_
    show Steps p.tables e below (s₁.setTop (mkF m 26 #[iv i1, iv i2, iv ca, iv cb, .unset, .unset] [(.int ((((i1.toUInt32 >>> ((16 : Int32) &&& 31).toUInt32).toInt32) &&& (255 : Int32)).toUInt32.toUInt16.toUInt32.toInt32))])) _
    exact kont
  obtain ⟨cc, e_cc⟩ : ∃ z, z = ((((i1.toUInt32 >>> ((16 : Int32) &&& 31).toUInt32).toInt32) &&& (255 : Int32)).toUInt32.toUInt16.toUInt32.toInt32) := ⟨_, rfl⟩
  have g106 : Go p e below s₁ (mkF m 26 #[iv i1, iv i2, iv ca, iv cb, .unset, .unset] [(.int cc)]) A0 := by rw [e_cc]; exact g105
  have b_cc : ¬ ((255 : Int32) < cc) := by rw [e_cc]; exact own_c255 _
  have z_cc : ¬ (cc < (0 : Int32)) := by rw [e_cc]; exact own_c0 _
  have r_cc : nar .char cc = cc := by rw [e_cc]; exact own_narc _
  have g108 : Go p e below s₁ (mkF m 29 #[iv i1, iv i2, iv ca, iv cb, iv cc, .unset] [(.int i2)]) A0 := by
    intro t kont
    refine g106 t ?_
    refine XS.istore X0.here hx rfl (hb hby d1_26) rfl (l' := #[iv i1, iv i2, iv ca, iv cb, iv cc, .unset]) rfl ?_
    show Steps p.tables e below (s₁.setTop (mkF m 28 #[iv i1, iv i2, iv ca, iv cb, iv cc, .unset] [])) _
    refine XS.iloadN X0.here hx rfl (hb hby d1_28) rfl ?_
    show Steps p.tables e below (s₁.setTop (mkF m 29 #[iv i1, iv i2, iv ca, iv cb, iv cc, .unset] [(.int i2)])) _
    exact kont
  by_cases c107 : i2 = (0 : Int32)
  ·
    have g109 : Go p e below s₁ (mkF m 32 #[iv i1, iv i2, iv ca, iv cb, iv cc, .unset] []) A0 := by
      intro t kont
      refine g108 t ?_
      refine XS.ifNo X0.here hx rfl (hb hby d1_29) rfl ((if0 _ _).trans (teq c107).2) ?_
      show Steps p.tables e below (s₁.setTop (mkF m 32 #[iv i1, iv i2, iv ca, iv cb, iv cc, .unset] [])) _
      exact kont
    obtain ⟨T110, h110, X110, e110, E110, A110, D110, -, st110⟩ := newO X0 hx hZ hown (hw _ (List.mem_of_getElem? (i := 4) rfl)) (hw _ (List.mem_of_getElem? (i := 5) rfl)) (hw _ (List.mem_of_getElem? (i := 6) rfl)) e0 (g := (mkF m 32 #[iv i1, iv i2, iv ca, iv cb, iv cc, .unset] [])) rfl (hb hby d1_32) (by decide) (by decide)
    obtain ⟨b110, gb110⟩ : ∃ z, z = h0.size := ⟨_, rfl⟩
    rw [← gb110] at A110 D110 st110
    have R111 : CHr Z consts_1 s.vm h0 s.vm h110 := R0.trans (CHr.ext E110 R0.1)
    have O112 := O0.ext E110
    have y113 : Fld Z h110 b110 "java/lang/String" "coder" "B" (.int (0 : Int32)) := D110 (Or.inr (hw _ (List.mem_of_getElem? (i := 31) rfl))) (ty := .byte) (by decide)
    have y114 : Fld Z h110 b110 "java/lang/String" "value" "[B" .null := D110 (Or.inr (hw _ (List.mem_of_getElem? (i := 33) rfl))) (ty := (.array .byte)) (by decide)
    have g115 : Go p e below T110 (mkF m 35 #[iv i1, iv i2, iv ca, iv cb, iv cc, .unset] [(.ref b110)]) A0 := fun t kont => g109 t (st110 t kont)
    have g116 : Go p e below T110 (mkF m 37 #[iv i1, iv i2, iv ca, iv cb, iv cc, .unset] [(.int (0 : Int32)), (.ref b110), (.ref b110)]) A0 := by
      intro t kont
      refine g115 t ?_
      refine XS.dup X110.here hx rfl (hb hby d1_35) rfl rfl ?_
      show Steps p.tables e below (T110.setTop (mkF m 36 #[iv i1, iv i2, iv ca, iv cb, iv cc, .unset] [(.ref b110), (.ref b110)])) _
      refine XS.iconst X110.here hx rfl (hb hby d1_36) ?_
      show Steps p.tables e below (T110.setTop (mkF m 37 #[iv i1, iv i2, iv ca, iv cb, iv cc, .unset] [(.int (0 : Int32)), (.ref b110), (.ref b110)])) _
      exact kont
    obtain ⟨T117, h117, k117, X117, e117, E117, A117, F117, st117⟩ := newPE X110 hx hZ (hw _ (List.mem_of_getElem? (i := 7) rfl)) e110 (g := (mkF m 37 #[iv i1, iv i2, iv ca, iv cb, iv cc, .unset] [(.int (0 : Int32)), (.ref b110), (.ref b110)])) rfl (hb hby d1_37) rfl (by decide) (cap := 0) (by decide) (by decide) (by decide) (by decide) (ad := "[C") (by decide)
    obtain ⟨b117, gb117⟩ : ∃ z, z = h110.size := ⟨_, rfl⟩
    rw [← gb117] at A117 F117 st117
    have R118 : CHr Z consts_1 s.vm h0 s.vm h117 := R111.trans (CHr.ext E117 R111.1)
    have O119 := O112.ext E117
    have y120 : Arv Z h117 b117 k117 .char (0 : Int32) [] (.int (0 : Int32)) := Arv.new A117 (by decide)
    have g121 : Go p e below T117 (mkF m 39 #[iv i1, iv i2, iv ca, iv cb, iv cc, .unset] [(.ref b117), (.ref b110), (.ref b110)]) A0 := fun t kont => g116 t (st117 t kont)
    have y123 : Fld Z h117 b110 "java/lang/String" "value" "[B" .null := (y114.ext E117)
    have y124 : Fld Z h117 b110 "java/lang/String" "coder" "B" (.int (0 : Int32)) := (y113.ext E117)
    have y125 : Exa Z h117 b110 "java/lang/String" := (A110.ext E117)
    have ge126 : n0 ≤ b110 := Nat.le_trans (own_old_le O0) (Nat.le_of_eq gb110.symm)
    obtain ⟨_, _, ⟨T122, L122, k122, n122⟩, -, X122, hS122, hg122, ⟨Lc122, hQ122, l122, y122, z122, C122⟩, st122⟩ := X117.specialBackS hx (y := (⟨"java/lang/String", "<init>", "([C)V"⟩ : MethodName)) rfl hown (mvT hZ (hw _ (List.mem_of_getElem? (i := 8) rfl))) (mvT hZ (hw _ (List.mem_of_getElem? (i := 9) rfl))) (mvT hZ (hw _ (List.mem_of_getElem? (i := 10) rfl))) (by decide) (backOfSH (W := 1) (rm_sIni0 l Z a0 hw [] b110 b117 k117 h117 n0 O119 y123 y124 y125 ge126 y120) hZ (hw _ (List.mem_of_getElem? (i := 10) rfl)) (hw _ (List.mem_of_getElem? (i := 6) rfl)) (by decide) (by decide) (own_EW hw) R118.1) (g := (mkF m 39 #[iv i1, iv i2, iv ca, iv cb, iv cc, .unset] [(.ref b117), (.ref b110), (.ref b110)])) rfl (by rw [hml]; rfl) (Steps.refl _) (a := b110) (argsL := [(.ref b117)]) (rest := [(.ref b110)]) (lenOf pd_4 rfl) rfl (by show 2 * 0 + _ ≤ _; exact Nat.le_of_eq rfl) (hb hby d1_39) (fun _ _ => ⟨rfl, e117, (by decide : 2 + 4 ≤ _), (by decide : 4 + 8 ≤ _)⟩)
    dsimp only [Pt.U, Pt.locs, Pt.cells, Pt.slots] at X122 l122 y122 z122 st122 hQ122 hS122 hg122 C122
    subst l122 y122 z122
    obtain ⟨X122, hS, hZ, hown⟩ := rebS hS (n1 := T117.heap.size) (by rw [e117]; exact (Nat.le_trans hk (Nat.le_trans E110.1 E117.1))) X122 hS122 hg122 hZ hown
    obtain ⟨r127, r128, rfl, M122, K122, y129, y130, y131, y132⟩ := hQ122
    have N122 := Fr.app N0 M122
    have R133 : CHr Z consts_1 s.vm h0 T122.vm T122.heap := R118.trans C122
    have O134 := O119.keep K122 (allS ge126 all0)
    have g135 : Go p e below T122 (mkF m 42 #[iv i1, iv i2, iv ca, iv cb, iv cc, .unset] [(.ref b110)]) A0 := fun t kont => g121 t (st122.trans kont)
    have g136 : Go p e below T122 (mkF m 126 #[iv i1, iv i2, iv ca, iv cb, iv cc, rv b110] [(.ref b110)]) A0 := by
      intro t kont
      refine g135 t ?_
      refine XS.astore X122.here hx rfl (hb hby d1_42) rfl rfl (l' := #[iv i1, iv i2, iv ca, iv cb, iv cc, rv b110]) rfl ?_
      show Steps p.tables e below (T122.setTop (mkF m 44 #[iv i1, iv i2, iv ca, iv cb, iv cc, rv b110] [])) _
      refine XS.goto X122.here hx rfl (pc0 := 44) (pc' := 124) rfl (hb hby d1_44) (by decide) (by decide) ?_
      show Steps p.tables e below (T122.setTop (mkF m 124 #[iv i1, iv i2, iv ca, iv cb, iv cc, rv b110] [])) _
      refine XS.aload X122.here hx rfl (hb hby d1_124) rfl rfl ?_
      show Steps p.tables e below (T122.setTop (mkF m 126 #[iv i1, iv i2, iv ca, iv cb, iv cc, rv b110] [(.ref b110)])) _
      exact kont
    have K137 : Keep h0 T122.heap [] := ((((Keep.refl h0 []).ext E110).ext E117).trans K122 (allS (P := fun x => x ∈ [] ∨ h0.size ≤ x) (Or.inr (Nat.le_of_eq gb110.symm)) all0))
    obtain ⟨fs, hr, hrun, hended, hRW⟩ := X122.leaveW hS (Nat.le_refl _) (v := some (.ref b110)) (fun h => by rw [Bd.returns] at h; cases h)
    refine ⟨_, _, g136 _ (retOut X122 hx Bd.returns rfl (Or.inr (Or.inr (Or.inr (Or.inr ⟨rfl, rfl, rfl⟩)))) (hb hby d1_126) hr), hrun, hended, _, _, rfl, ?_, ?_, hRW.1, hRW.2.1, hRW.2.2.1, hRW.2.2.2.mono (by decide) (by decide)⟩
    ·
      show Q_key Z i1 i2 cs h0 n0 _ T122.heap _
      exact ⟨b110, rfl, N122, K137, (Nat.le_of_eq gb110.symm), y129⟩
    ·
      rw [hh]
      show CHr Z consts_1 s.vm h0 T122.vm T122.heap
      exact R133.trans (CHv.at X122 hZ (own_EW hw) R133.1)
  have g139 : Go p e below s₁ (mkF m 49 #[iv i1, iv i2, iv ca, iv cb, iv cc, .unset] [(.int (1 : Int32)), (.int i2)]) A0 := by
    intro t kont
    refine g108 t ?_
    refine XS.ifYes X0.here hx rfl (pc0 := 29) (pc' := 47) rfl (hb hby d1_29) rfl ((if0 _ _).trans (feq c107).2) (by decide) (by decide) ?_
    show Steps p.tables e below (s₁.setTop (mkF m 47 #[iv i1, iv i2, iv ca, iv cb, iv cc, .unset] [])) _
    refine XS.iloadN X0.here hx rfl (hb hby d1_47) rfl ?_
    show Steps p.tables e below (s₁.setTop (mkF m 48 #[iv i1, iv i2, iv ca, iv cb, iv cc, .unset] [(.int i2)])) _
    refine XS.iconst X0.here hx rfl (hb hby d1_48) ?_
    show Steps p.tables e below (s₁.setTop (mkF m 49 #[iv i1, iv i2, iv ca, iv cb, iv cc, .unset] [(.int (1 : Int32)), (.int i2)])) _
    exact kont
  by_cases c138 : i2 = (1 : Int32)
  ·
    have g140 : Go p e below s₁ (mkF m 52 #[iv i1, iv i2, iv ca, iv cb, iv cc, .unset] []) A0 := by
      intro t kont
      refine g139 t ?_
      refine XS.icmpNo X0.here hx rfl (hb hby d1_49) rfl (teq c138).2 ?_
      show Steps p.tables e below (s₁.setTop (mkF m 52 #[iv i1, iv i2, iv ca, iv cb, iv cc, .unset] [])) _
      exact kont
    obtain ⟨T141, h141, X141, e141, E141, A141, D141, -, st141⟩ := newO X0 hx hZ hown (hw _ (List.mem_of_getElem? (i := 4) rfl)) (hw _ (List.mem_of_getElem? (i := 5) rfl)) (hw _ (List.mem_of_getElem? (i := 6) rfl)) e0 (g := (mkF m 52 #[iv i1, iv i2, iv ca, iv cb, iv cc, .unset] [])) rfl (hb hby d1_52) (by decide) (by decide)
    obtain ⟨b141, gb141⟩ : ∃ z, z = h0.size := ⟨_, rfl⟩
    rw [← gb141] at A141 D141 st141
    have R142 : CHr Z consts_1 s.vm h0 s.vm h141 := R0.trans (CHr.ext E141 R0.1)
    have O143 := O0.ext E141
    have y144 : Fld Z h141 b141 "java/lang/String" "coder" "B" (.int (0 : Int32)) := D141 (Or.inr (hw _ (List.mem_of_getElem? (i := 31) rfl))) (ty := .byte) (by decide)
    have y145 : Fld Z h141 b141 "java/lang/String" "value" "[B" .null := D141 (Or.inr (hw _ (List.mem_of_getElem? (i := 33) rfl))) (ty := (.array .byte)) (by decide)
    have g146 : Go p e below T141 (mkF m 55 #[iv i1, iv i2, iv ca, iv cb, iv cc, .unset] [(.ref b141)]) A0 := fun t kont => g140 t (st141 t kont)
    have g147 : Go p e below T141 (mkF m 57 #[iv i1, iv i2, iv ca, iv cb, iv cc, .unset] [(.int (1 : Int32)), (.ref b141), (.ref b141)]) A0 := by
      intro t kont
      refine g146 t ?_
      refine XS.dup X141.here hx rfl (hb hby d1_55) rfl rfl ?_
      show Steps p.tables e below (T141.setTop (mkF m 56 #[iv i1, iv i2, iv ca, iv cb, iv cc, .unset] [(.ref b141), (.ref b141)])) _
      refine XS.iconst X141.here hx rfl (hb hby d1_56) ?_
      show Steps p.tables e below (T141.setTop (mkF m 57 #[iv i1, iv i2, iv ca, iv cb, iv cc, .unset] [(.int (1 : Int32)), (.ref b141), (.ref b141)])) _
      exact kont
    obtain ⟨T148, h148, k148, X148, e148, E148, A148, F148, st148⟩ := newPE X141 hx hZ (hw _ (List.mem_of_getElem? (i := 7) rfl)) e141 (g := (mkF m 57 #[iv i1, iv i2, iv ca, iv cb, iv cc, .unset] [(.int (1 : Int32)), (.ref b141), (.ref b141)])) rfl (hb hby d1_57) rfl (by decide) (cap := 1) (by decide) (by decide) (by decide) (by decide) (ad := "[C") (by decide)
    obtain ⟨b148, gb148⟩ : ∃ z, z = h141.size := ⟨_, rfl⟩
    rw [← gb148] at A148 F148 st148
    have R149 : CHr Z consts_1 s.vm h0 s.vm h148 := R142.trans (CHr.ext E148 R142.1)
    have O150 := O143.ext E148
    have y151 : Arv Z h148 b148 k148 .char (1 : Int32) [(.int (0 : Int32))] (.int (0 : Int32)) := (Arv.new A148 (by decide)).pad (pad_rep [] (.int (0 : Int32)) 1)
    have g152 : Go p e below T148 (mkF m 59 #[iv i1, iv i2, iv ca, iv cb, iv cc, .unset] [(.ref b148), (.ref b141), (.ref b141)]) A0 := fun t kont => g147 t (st148 t kont)
    have g153 : Go p e below T148 (mkF m 62 #[iv i1, iv i2, iv ca, iv cb, iv cc, .unset] [(.int ca), (.int (0 : Int32)), (.ref b148), (.ref b148), (.ref b141), (.ref b141)]) A0 := by
      intro t kont
      refine g152 t ?_
      refine XS.dup X148.here hx rfl (hb hby d1_59) rfl rfl ?_
      show Steps p.tables e below (T148.setTop (mkF m 60 #[iv i1, iv i2, iv ca, iv cb, iv cc, .unset] [(.ref b148), (.ref b148), (.ref b141), (.ref b141)])) _
      refine XS.iconst X148.here hx rfl (hb hby d1_60) ?_
      show Steps p.tables e below (T148.setTop (mkF m 61 #[iv i1, iv i2, iv ca, iv cb, iv cc, .unset] [(.int (0 : Int32)), (.ref b148), (.ref b148), (.ref b141), (.ref b141)])) _
      refine XS.iloadN X148.here hx rfl (hb hby d1_61) rfl ?_
      show Steps p.tables e below (T148.setTop (mkF m 62 #[iv i1, iv i2, iv ca, iv cb, iv cc, .unset] [(.int ca), (.int (0 : Int32)), (.ref b148), (.ref b148), (.ref b141), (.ref b141)])) _
      exact kont
    have ge155 : n0 ≤ b148 := Nat.le_trans (own_old_le O143) (Nat.le_of_eq gb148.symm)
    have zz154 := y151
    obtain ⟨cl154, Ar154, q154, S154, M154, H154, G154⟩ := zz154
    have in154 : ¬ ((0 : Int32) < 0 ∨ cl154.slots.size ≤ ((0 : Int32)).toNatClampNeg) := inb_of S154 ⟨by decide, by decide⟩
    obtain ⟨T154, h154, X154, e154, W154, st154⟩ := stC X148 hx hZ e148 Ar154 (j := (0 : Int32)) in154 (g := (mkF m 62 #[iv i1, iv i2, iv ca, iv cb, iv cc, .unset] [(.int ca), (.int (0 : Int32)), (.ref b148), (.ref b148), (.ref b141), (.ref b141)])) rfl rfl (hb hby d1_62)
    rw [show nar .char ca = ca from r_ca] at W154
    have R156 : CHr Z consts_1 s.vm h0 s.vm h154 := R149.trans (CHr.wr W154 (Safe.ext E148 R142.1 (Safe.new (Nat.le_of_eq gb148.symm))) R149.1)
    have O157 := O150.wr W154 ge155
    have y158 : Arv Z h154 b148 k148 .char (1 : Int32) [(.int ca)] (.int (0 : Int32)) := Arv.set Ar154 q154 S154 M154 H154 G154 (own_ft_char (z := ca) r_ca) W154 0 rfl (Nat.le_of_ble_eq_true rfl)
    have N154 := Fr.snoc X154 N0 ge155
    have g159 : Go p e below T154 (mkF m 63 #[iv i1, iv i2, iv ca, iv cb, iv cc, .unset] [(.ref b148), (.ref b141), (.ref b141)]) A0 := fun t kont => g153 t (st154 t kont)
    have y161 : Fld Z h154 b141 "java/lang/String" "value" "[B" .null := ((y145.ext E148).other W154 (Or.inl (Nat.ne_of_lt (Nat.lt_of_lt_of_le A141.lt (Nat.le_of_eq gb148.symm)))))
    have y162 : Fld Z h154 b141 "java/lang/String" "coder" "B" (.int (0 : Int32)) := ((y144.ext E148).other W154 (Or.inl (Nat.ne_of_lt (Nat.lt_of_lt_of_le A141.lt (Nat.le_of_eq gb148.symm)))))
    have y163 : Exa Z h154 b141 "java/lang/String" := ((A141.ext E148).wr W154)
    have ge164 : n0 ≤ b141 := Nat.le_trans (own_old_le O0) (Nat.le_of_eq gb141.symm)
    obtain ⟨_, _, ⟨T160, L160, k160, n160⟩, -, X160, ⟨Lc160, hQ160, l160, y160, z160⟩, st160⟩ := X154.specialBack hx (y := (⟨"java/lang/String", "<init>", "([C)V"⟩ : MethodName)) rfl hown (mvT hZ (hw _ (List.mem_of_getElem? (i := 8) rfl))) (mvT hZ (hw _ (List.mem_of_getElem? (i := 9) rfl))) (mvT hZ (hw _ (List.mem_of_getElem? (i := 10) rfl))) (by decide) (backOf (W := 1) (rm_sIni1 l Z a0 hw [] b141 b148 k148 ca cs h154 n0 O157 y161 y162 y163 ge164 y158 (b_ca) S0_ hcs) hZ (hw _ (List.mem_of_getElem? (i := 10) rfl)) (hw _ (List.mem_of_getElem? (i := 6) rfl)) (by decide) (by decide)) (g := (mkF m 63 #[iv i1, iv i2, iv ca, iv cb, iv cc, .unset] [(.ref b148), (.ref b141), (.ref b141)])) rfl (by rw [hml]; rfl) (Steps.refl _) (a := b141) (argsL := [(.ref b148)]) (rest := [(.ref b141)]) (lenOf pd_4 rfl) rfl (by show 2 * 0 + _ ≤ _; exact Nat.le_of_eq rfl) (hb hby d1_63) (fun _ _ => ⟨rfl, e154, (by decide : 2 + 1 ≤ _), (by decide : 5 + 1 ≤ _)⟩)
    dsimp only [Pt.U, Pt.locs, Pt.cells, Pt.slots] at X160 l160 y160 z160 st160 hQ160
    subst l160 y160 z160
    obtain ⟨r165, r166, rfl, M160, K160, y167, y168, y169, y170, y171⟩ := hQ160
    have N160 := Fr.app N154 M160
    have sf173 : Safe Z consts_1 s.vm h154 b141 := (Safe.wr W154 (Safe.ext E148 R142.1 (Safe.new (Nat.le_of_eq gb148.symm))) R149.1 (Safe.ext E148 R142.1 (Safe.ext E141 R0.1 (Safe.new (Nat.le_of_eq gb141.symm)))))
    have R172 : CHr Z consts_1 s.vm h0 s.vm T160.heap := R156.trans (CHr.keep K160 (sfS sf173 sf0) R156.1)
    have O174 := O157.keep K160 (allS ge164 all0)
    have g175 : Go p e below T160 (mkF m 66 #[iv i1, iv i2, iv ca, iv cb, iv cc, .unset] [(.ref b141)]) A0 := fun t kont => g159 t (st160.trans kont)
    have g176 : Go p e below T160 (mkF m 126 #[iv i1, iv i2, iv ca, iv cb, iv cc, rv b141] [(.ref b141)]) A0 := by
      intro t kont
      refine g175 t ?_
      refine XS.astore X160.here hx rfl (hb hby d1_66) rfl rfl (l' := #[iv i1, iv i2, iv ca, iv cb, iv cc, rv b141]) rfl ?_
      show Steps p.tables e below (T160.setTop (mkF m 68 #[iv i1, iv i2, iv ca, iv cb, iv cc, rv b141] [])) _
      refine XS.goto X160.here hx rfl (pc0 := 68) (pc' := 124) rfl (hb hby d1_68) (by decide) (by decide) ?_
      show Steps p.tables e below (T160.setTop (mkF m 124 #[iv i1, iv i2, iv ca, iv cb, iv cc, rv b141] [])) _
      refine XS.aload X160.here hx rfl (hb hby d1_124) rfl rfl ?_
      show Steps p.tables e below (T160.setTop (mkF m 126 #[iv i1, iv i2, iv ca, iv cb, iv cc, rv b141] [(.ref b141)])) _
      exact kont
    have K177 : Keep h0 T160.heap [] := (((((Keep.refl h0 []).ext E141).ext E148).wr W154 (Or.inr (Nat.le_trans E141.1 (Nat.le_of_eq gb148.symm)))).trans K160 (allS (P := fun x => x ∈ [] ∨ h0.size ≤ x) (Or.inr (Nat.le_of_eq gb141.symm)) all0))
    obtain ⟨fs, hr, hrun, hended, hRW⟩ := X160.leaveW hS (Nat.le_trans hk (Nat.le_trans (Nat.le_trans (Nat.le_trans E141.1 E148.1) (Keep.of_wr W154).1) K160.1)) (v := some (.ref b141)) (fun h => by rw [Bd.returns] at h; cases h)
    refine ⟨_, _, g176 _ (retOut X160 hx Bd.returns rfl (Or.inr (Or.inr (Or.inr (Or.inr ⟨rfl, rfl, rfl⟩)))) (hb hby d1_126) hr), hrun, hended, _, _, rfl, ?_, ?_, hRW.1, hRW.2.1, hRW.2.2.1, hRW.2.2.2.mono (by decide) (by decide)⟩
    ·
      show Q_key Z i1 i2 cs h0 n0 _ T160.heap _
      exact ⟨b141, rfl, N160, K177, (Nat.le_of_eq gb141.symm), y167⟩
    ·
      rw [hh]
      show CHr Z consts_1 s.vm h0 T160.vm T160.heap
      exact R172.trans (CHv.at X160 hZ (own_EW hw) R172.1)
  have g179 : Go p e below s₁ (mkF m 73 #[iv i1, iv i2, iv ca, iv cb, iv cc, .unset] [(.int (2 : Int32)), (.int i2)]) A0 := by
    intro t kont
    refine g139 t ?_
    refine XS.icmpYes X0.here hx rfl (pc0 := 49) (pc' := 71) rfl (hb hby d1_49) rfl (feq c138).2 (by decide) (by decide) ?_
    show Steps p.tables e below (s₁.setTop (mkF m 71 #[iv i1, iv i2, iv ca, iv cb, iv cc, .unset] [])) _
    refine XS.iloadN X0.here hx rfl (hb hby d1_71) rfl ?_
    show Steps p.tables e below (s₁.setTop (mkF m 72 #[iv i1, iv i2, iv ca, iv cb, iv cc, .unset] [(.int i2)])) _
    refine XS.iconst X0.here hx rfl (hb hby d1_72) ?_
    show Steps p.tables e below (s₁.setTop (mkF m 73 #[iv i1, iv i2, iv ca, iv cb, iv cc, .unset] [(.int (2 : Int32)), (.int i2)])) _
    exact kont
  by_cases c178 : i2 = (2 : Int32)
  ·
    have g180 : Go p e below s₁ (mkF m 76 #[iv i1, iv i2, iv ca, iv cb, iv cc, .unset] []) A0 := by
      intro t kont
      refine g179 t ?_
      refine XS.icmpNo X0.here hx rfl (hb hby d1_73) rfl (teq c178).2 ?_
      show Steps p.tables e below (s₁.setTop (mkF m 76 #[iv i1, iv i2, iv ca, iv cb, iv cc, .unset] [])) _
      exact kont
    obtain ⟨T181, h181, X181, e181, E181, A181, D181, -, st181⟩ := newO X0 hx hZ hown (hw _ (List.mem_of_getElem? (i := 4) rfl)) (hw _ (List.mem_of_getElem? (i := 5) rfl)) (hw _ (List.mem_of_getElem? (i := 6) rfl)) e0 (g := (mkF m 76 #[iv i1, iv i2, iv ca, iv cb, iv cc, .unset] [])) rfl (hb hby d1_76) (by decide) (by decide)
    obtain ⟨b181, gb181⟩ : ∃ z, z = h0.size := ⟨_, rfl⟩
    rw [← gb181] at A181 D181 st181
    have R182 : CHr Z consts_1 s.vm h0 s.vm h181 := R0.trans (CHr.ext E181 R0.1)
    have O183 := O0.ext E181
    have y184 : Fld Z h181 b181 "java/lang/String" "coder" "B" (.int (0 : Int32)) := D181 (Or.inr (hw _ (List.mem_of_getElem? (i := 31) rfl))) (ty := .byte) (by decide)
    have y185 : Fld Z h181 b181 "java/lang/String" "value" "[B" .null := D181 (Or.inr (hw _ (List.mem_of_getElem? (i := 33) rfl))) (ty := (.array .byte)) (by decide)
    have g186 : Go p e below T181 (mkF m 79 #[iv i1, iv i2, iv ca, iv cb, iv cc, .unset] [(.ref b181)]) A0 := fun t kont => g180 t (st181 t kont)
    have g187 : Go p e below T181 (mkF m 81 #[iv i1, iv i2, iv ca, iv cb, iv cc, .unset] [(.int (2 : Int32)), (.ref b181), (.ref b181)]) A0 := by
      intro t kont
      refine g186 t ?_
      refine XS.dup X181.here hx rfl (hb hby d1_79) rfl rfl ?_
      show Steps p.tables e below (T181.setTop (mkF m 80 #[iv i1, iv i2, iv ca, iv cb, iv cc, .unset] [(.ref b181), (.ref b181)])) _
      refine XS.iconst X181.here hx rfl (hb hby d1_80) ?_
      show Steps p.tables e below (T181.setTop (mkF m 81 #[iv i1, iv i2, iv ca, iv cb, iv cc, .unset] [(.int (2 : Int32)), (.ref b181), (.ref b181)])) _
      exact kont
    obtain ⟨T188, h188, k188, X188, e188, E188, A188, F188, st188⟩ := newPE X181 hx hZ (hw _ (List.mem_of_getElem? (i := 7) rfl)) e181 (g := (mkF m 81 #[iv i1, iv i2, iv ca, iv cb, iv cc, .unset] [(.int (2 : Int32)), (.ref b181), (.ref b181)])) rfl (hb hby d1_81) rfl (by decide) (cap := 2) (by decide) (by decide) (by decide) (by decide) (ad := "[C") (by decide)
    obtain ⟨b188, gb188⟩ : ∃ z, z = h181.size := ⟨_, rfl⟩
    rw [← gb188] at A188 F188 st188
    have R189 : CHr Z consts_1 s.vm h0 s.vm h188 := R182.trans (CHr.ext E188 R182.1)
    have O190 := O183.ext E188
    have y191 : Arv Z h188 b188 k188 .char (2 : Int32) [(.int (0 : Int32)), (.int (0 : Int32))] (.int (0 : Int32)) := (Arv.new A188 (by decide)).pad (pad_rep [] (.int (0 : Int32)) 2)
    have g192 : Go p e below T188 (mkF m 83 #[iv i1, iv i2, iv ca, iv cb, iv cc, .unset] [(.ref b188), (.ref b181), (.ref b181)]) A0 := fun t kont => g187 t (st188 t kont)
    have g193 : Go p e below T188 (mkF m 86 #[iv i1, iv i2, iv ca, iv cb, iv cc, .unset] [(.int ca), (.int (0 : Int32)), (.ref b188), (.ref b188), (.ref b181), (.ref b181)]) A0 := by
      intro t kont
      refine g192 t ?_
      refine XS.dup X188.here hx rfl (hb hby d1_83) rfl rfl ?_
      show Steps p.tables e below (T188.setTop (mkF m 84 #[iv i1, iv i2, iv ca, iv cb, iv cc, .unset] [(.ref b188), (.ref b188), (.ref b181), (.ref b181)])) _
      refine XS.iconst X188.here hx rfl (hb hby d1_84) ?_
      show Steps p.tables e below (T188.setTop (mkF m 85 #[iv i1, iv i2, iv ca, iv cb, iv cc, .unset] [(.int (0 : Int32)), (.ref b188), (.ref b188), (.ref b181), (.ref b181)])) _
      refine XS.iloadN X188.here hx rfl (hb hby d1_85) rfl ?_
      show Steps p.tables e below (T188.setTop (mkF m 86 #[iv i1, iv i2, iv ca, iv cb, iv cc, .unset] [(.int ca), (.int (0 : Int32)), (.ref b188), (.ref b188), (.ref b181), (.ref b181)])) _
      exact kont
    have ge195 : n0 ≤ b188 := Nat.le_trans (own_old_le O183) (Nat.le_of_eq gb188.symm)
    have zz194 := y191
    obtain ⟨cl194, Ar194, q194, S194, M194, H194, G194⟩ := zz194
    have in194 : ¬ ((0 : Int32) < 0 ∨ cl194.slots.size ≤ ((0 : Int32)).toNatClampNeg) := inb_of S194 ⟨by decide, by decide⟩
    obtain ⟨T194, h194, X194, e194, W194, st194⟩ := stC X188 hx hZ e188 Ar194 (j := (0 : Int32)) in194 (g := (mkF m 86 #[iv i1, iv i2, iv ca, iv cb, iv cc, .unset] [(.int ca), (.int (0 : Int32)), (.ref b188), (.ref b188), (.ref b181), (.ref b181)])) rfl rfl (hb hby d1_86)
    rw [show nar .char ca = ca from r_ca] at W194
    have R196 : CHr Z consts_1 s.vm h0 s.vm h194 := R189.trans (CHr.wr W194 (Safe.ext E188 R182.1 (Safe.new (Nat.le_of_eq gb188.symm))) R189.1)
    have O197 := O190.wr W194 ge195
    have y198 : Arv Z h194 b188 k188 .char (2 : Int32) [(.int ca), (.int (0 : Int32))] (.int (0 : Int32)) := Arv.set Ar194 q194 S194 M194 H194 G194 (own_ft_char (z := ca) r_ca) W194 0 rfl (Nat.le_of_ble_eq_true rfl)
    have N194 := Fr.snoc X194 N0 ge195
    have g199 : Go p e below T194 (mkF m 87 #[iv i1, iv i2, iv ca, iv cb, iv cc, .unset] [(.ref b188), (.ref b181), (.ref b181)]) A0 := fun t kont => g193 t (st194 t kont)
    have g200 : Go p e below T194 (mkF m 90 #[iv i1, iv i2, iv ca, iv cb, iv cc, .unset] [(.int cb), (.int (1 : Int32)), (.ref b188), (.ref b188), (.ref b181), (.ref b181)]) A0 := by
      intro t kont
      refine g199 t ?_
      refine XS.dup X194.here hx rfl (hb hby d1_87) rfl rfl ?_
      show Steps p.tables e below (T194.setTop (mkF m 88 #[iv i1, iv i2, iv ca, iv cb, iv cc, .unset] [(.ref b188), (.ref b188), (.ref b181), (.ref b181)])) _
      refine XS.iconst X194.here hx rfl (hb hby d1_88) ?_
      show Steps p.tables e below (T194.setTop (mkF m 89 #[iv i1, iv i2, iv ca, iv cb, iv cc, .unset] [(.int (1 : Int32)), (.ref b188), (.ref b188), (.ref b181), (.ref b181)])) _
      refine XS.iloadN X194.here hx rfl (hb hby d1_89) rfl ?_
      show Steps p.tables e below (T194.setTop (mkF m 90 #[iv i1, iv i2, iv ca, iv cb, iv cc, .unset] [(.int cb), (.int (1 : Int32)), (.ref b188), (.ref b188), (.ref b181), (.ref b181)])) _
      exact kont
    have zz201 := y198
    obtain ⟨cl201, Ar201, q201, S201, M201, H201, G201⟩ := zz201
    have in201 : ¬ ((1 : Int32) < 0 ∨ cl201.slots.size ≤ ((1 : Int32)).toNatClampNeg) := inb_of S201 ⟨by decide, by decide⟩
    obtain ⟨T201, h201, X201, e201, W201, st201⟩ := stC X194 hx hZ e194 Ar201 (j := (1 : Int32)) in201 (g := (mkF m 90 #[iv i1, iv i2, iv ca, iv cb, iv cc, .unset] [(.int cb), (.int (1 : Int32)), (.ref b188), (.ref b188), (.ref b181), (.ref b181)])) rfl rfl (hb hby d1_90)
    rw [show nar .char cb = cb from r_cb] at W201
    have sf203 : Safe Z consts_1 s.vm h194 b188 := (Safe.wr W194 (Safe.ext E188 R182.1 (Safe.new (Nat.le_of_eq gb188.symm))) R189.1 (Safe.ext E188 R182.1 (Safe.new (Nat.le_of_eq gb188.symm))))
    have R202 : CHr Z consts_1 s.vm h0 s.vm h201 := R196.trans (CHr.wr W201 sf203 R196.1)
    have O204 := O197.wr W201 ge195
    have y205 : Arv Z h201 b188 k188 .char (2 : Int32) [(.int ca), (.int cb)] (.int (0 : Int32)) := Arv.set Ar201 q201 S201 M201 H201 G201 (own_ft_char (z := cb) r_cb) W201 1 rfl (Nat.le_of_ble_eq_true rfl)
    have N201 := Fr.snoc X201 N194 ge195
    have g206 : Go p e below T201 (mkF m 91 #[iv i1, iv i2, iv ca, iv cb, iv cc, .unset] [(.ref b188), (.ref b181), (.ref b181)]) A0 := fun t kont => g200 t (st201 t kont)
    have y208 : Fld Z h201 b181 "java/lang/String" "value" "[B" .null := (((y185.ext E188).other W194 (Or.inl (Nat.ne_of_lt (Nat.lt_of_lt_of_le A181.lt (Nat.le_of_eq gb188.symm))))).other W201 (Or.inl (Nat.ne_of_lt (Nat.lt_of_lt_of_le A181.lt (Nat.le_of_eq gb188.symm)))))
    have y209 : Fld Z h201 b181 "java/lang/String" "coder" "B" (.int (0 : Int32)) := (((y184.ext E188).other W194 (Or.inl (Nat.ne_of_lt (Nat.lt_of_lt_of_le A181.lt (Nat.le_of_eq gb188.symm))))).other W201 (Or.inl (Nat.ne_of_lt (Nat.lt_of_lt_of_le A181.lt (Nat.le_of_eq gb188.symm)))))
    have y210 : Exa Z h201 b181 "java/lang/String" := (((A181.ext E188).wr W194).wr W201)
    have ge211 : n0 ≤ b181 := Nat.le_trans (own_old_le O0) (Nat.le_of_eq gb181.symm)
    obtain ⟨_, _, ⟨T207, L207, k207, n207⟩, -, X207, ⟨Lc207, hQ207, l207, y207, z207⟩, st207⟩ := X201.specialBack hx (y := (⟨"java/lang/String", "<init>", "([C)V"⟩ : MethodName)) rfl hown (mvT hZ (hw _ (List.mem_of_getElem? (i := 8) rfl))) (mvT hZ (hw _ (List.mem_of_getElem? (i := 9) rfl))) (mvT hZ (hw _ (List.mem_of_getElem? (i := 10) rfl))) (by decide) (backOf (W := 1) (rm_sIni2 l Z a0 hw [] b181 b188 k188 ca cb cs h201 n0 O204 y208 y209 y210 ge211 y205 (b_ca) (b_cb) S0_ hcs) hZ (hw _ (List.mem_of_getElem? (i := 10) rfl)) (hw _ (List.mem_of_getElem? (i := 6) rfl)) (by decide) (by decide)) (g := (mkF m 91 #[iv i1, iv i2, iv ca, iv cb, iv cc, .unset] [(.ref b188), (.ref b181), (.ref b181)])) rfl (by rw [hml]; rfl) (Steps.refl _) (a := b181) (argsL := [(.ref b188)]) (rest := [(.ref b181)]) (lenOf pd_4 rfl) rfl (by show 2 * 0 + _ ≤ _; exact Nat.le_of_eq rfl) (hb hby d1_91) (fun _ _ => ⟨rfl, e201, (by decide : 2 + 1 ≤ _), (by decide : 6 + 2 ≤ _)⟩)
    dsimp only [Pt.U, Pt.locs, Pt.cells, Pt.slots] at X207 l207 y207 z207 st207 hQ207
    subst l207 y207 z207
    obtain ⟨r212, r213, rfl, M207, K207, y214, y215, y216, y217, y218⟩ := hQ207
    have N207 := Fr.app N201 M207
    have sf220 : Safe Z consts_1 s.vm h201 b181 := (Safe.wr W201 sf203 R196.1 (Safe.wr W194 (Safe.ext E188 R182.1 (Safe.new (Nat.le_of_eq gb188.symm))) R189.1 (Safe.ext E188 R182.1 (Safe.ext E181 R0.1 (Safe.new (Nat.le_of_eq gb181.symm))))))
    have R219 : CHr Z consts_1 s.vm h0 s.vm T207.heap := R202.trans (CHr.keep K207 (sfS sf220 sf0) R202.1)
    have O221 := O204.keep K207 (allS ge211 all0)
    have g222 : Go p e below T207 (mkF m 94 #[iv i1, iv i2, iv ca, iv cb, iv cc, .unset] [(.ref b181)]) A0 := fun t kont => g206 t (st207.trans kont)
    have g223 : Go p e below T207 (mkF m 126 #[iv i1, iv i2, iv ca, iv cb, iv cc, rv b181] [(.ref b181)]) A0 := by
      intro t kont
      refine g222 t ?_
      refine XS.astore X207.here hx rfl (hb hby d1_94) rfl rfl (l' := #[iv i1, iv i2, iv ca, iv cb, iv cc, rv b181]) rfl ?_
      show Steps p.tables e below (T207.setTop (mkF m 96 #[iv i1, iv i2, iv ca, iv cb, iv cc, rv b181] [])) _
      refine XS.goto X207.here hx rfl (pc0 := 96) (pc' := 124) rfl (hb hby d1_96) (by decide) (by decide) ?_
      show Steps p.tables e below (T207.setTop (mkF m 124 #[iv i1, iv i2, iv ca, iv cb, iv cc, rv b181] [])) _
      refine XS.aload X207.here hx rfl (hb hby d1_124) rfl rfl ?_
      show Steps p.tables e below (T207.setTop (mkF m 126 #[iv i1, iv i2, iv ca, iv cb, iv cc, rv b181] [(.ref b181)])) _
      exact kont
    have K224 : Keep h0 T207.heap [] := ((((((Keep.refl h0 []).ext E181).ext E188).wr W194 (Or.inr (Nat.le_trans E181.1 (Nat.le_of_eq gb188.symm)))).wr W201 (Or.inr (Nat.le_trans E181.1 (Nat.le_of_eq gb188.symm)))).trans K207 (allS (P := fun x => x ∈ [] ∨ h0.size ≤ x) (Or.inr (Nat.le_of_eq gb181.symm)) all0))
    obtain ⟨fs, hr, hrun, hended, hRW⟩ := X207.leaveW hS (Nat.le_trans hk (Nat.le_trans (Nat.le_trans (Nat.le_trans (Nat.le_trans E181.1 E188.1) (Keep.of_wr W194).1) (Keep.of_wr W201).1) K207.1)) (v := some (.ref b181)) (fun h => by rw [Bd.returns] at h; cases h)
    refine ⟨_, _, g223 _ (retOut X207 hx Bd.returns rfl (Or.inr (Or.inr (Or.inr (Or.inr ⟨rfl, rfl, rfl⟩)))) (hb hby d1_126) hr), hrun, hended, _, _, rfl, ?_, ?_, hRW.1, hRW.2.1, hRW.2.2.1, hRW.2.2.2.mono (by decide) (by decide)⟩
    ·
      show Q_key Z i1 i2 cs h0 n0 _ T207.heap _
      exact ⟨b181, rfl, N207, K224, (Nat.le_of_eq gb181.symm), y214⟩
    ·
      rw [hh]
      show CHr Z consts_1 s.vm h0 T207.vm T207.heap
      exact R219.trans (CHv.at X207 hZ (own_EW hw) R219.1)
  have g225 : Go p e below s₁ (mkF m 99 #[iv i1, iv i2, iv ca, iv cb, iv cc, .unset] []) A0 := by
    intro t kont
    refine g179 t ?_
    refine XS.icmpYes X0.here hx rfl (pc0 := 73) (pc' := 99) rfl (hb hby d1_73) rfl (feq c178).2 (by decide) (by decide) ?_
    show Steps p.tables e below (s₁.setTop (mkF m 99 #[iv i1, iv i2, iv ca, iv cb, iv cc, .unset] [])) _
    exact kont
  obtain ⟨T226, h226, X226, e226, E226, A226, D226, -, st226⟩ := newO X0 hx hZ hown (hw _ (List.mem_of_getElem? (i := 4) rfl)) (hw _ (List.mem_of_getElem? (i := 5) rfl)) (hw _ (List.mem_of_getElem? (i := 6) rfl)) e0 (g := (mkF m 99 #[iv i1, iv i2, iv ca, iv cb, iv cc, .unset] [])) rfl (hb hby d1_99) (by decide) (by decide)
  obtain ⟨b226, gb226⟩ : ∃ z, z = h0.size := ⟨_, rfl⟩
  rw [← gb226] at A226 D226 st226
  have R227 : CHr Z consts_1 s.vm h0 s.vm h226 := R0.trans (CHr.ext E226 R0.1)
  have O228 := O0.ext E226
  have y229 : Fld Z h226 b226 "java/lang/String" "coder" "B" (.int (0 : Int32)) := D226 (Or.inr (hw _ (List.mem_of_getElem? (i := 31) rfl))) (ty := .byte) (by decide)
  have y230 : Fld Z h226 b226 "java/lang/String" "value" "[B" .null := D226 (Or.inr (hw _ (List.mem_of_getElem? (i := 33) rfl))) (ty := (.array .byte)) (by decide)
  have g231 : Go p e below T226 (mkF m 102 #[iv i1, iv i2, iv ca, iv cb, iv cc, .unset] [(.ref b226)]) A0 := fun t kont => g225 t (st226 t kont)
  have g232 : Go p e below T226 (mkF m 104 #[iv i1, iv i2, iv ca, iv cb, iv cc, .unset] [(.int (3 : Int32)), (.ref b226), (.ref b226)]) A0 := by
    intro t kont
    refine g231 t ?_
    refine XS.dup X226.here hx rfl (hb hby d1_102) rfl rfl ?_
    show Steps p.tables e below (T226.setTop (mkF m 103 #[iv i1, iv i2, iv ca, iv cb, iv cc, .unset] [(.ref b226), (.ref b226)])) _
    refine XS.iconst X226.here hx rfl (hb hby d1_103) ?_
    show Steps p.tables e below (T226.setTop (mkF m 104 #[iv i1, iv i2, iv ca, iv cb, iv cc, .unset] [(.int (3 : Int32)), (.ref b226), (.ref b226)])) _
    exact kont
  obtain ⟨T233, h233, k233, X233, e233, E233, A233, F233, st233⟩ := newPE X226 hx hZ (hw _ (List.mem_of_getElem? (i := 7) rfl)) e226 (g := (mkF m 104 #[iv i1, iv i2, iv ca, iv cb, iv cc, .unset] [(.int (3 : Int32)), (.ref b226), (.ref b226)])) rfl (hb hby d1_104) rfl (by decide) (cap := 3) (by decide) (by decide) (by decide) (by decide) (ad := "[C") (by decide)
  obtain ⟨b233, gb233⟩ : ∃ z, z = h226.size := ⟨_, rfl⟩
  rw [← gb233] at A233 F233 st233
  have R234 : CHr Z consts_1 s.vm h0 s.vm h233 := R227.trans (CHr.ext E233 R227.1)
  have O235 := O228.ext E233
  have y236 : Arv Z h233 b233 k233 .char (3 : Int32) [(.int (0 : Int32)), (.int (0 : Int32)), (.int (0 : Int32))] (.int (0 : Int32)) := (Arv.new A233 (by decide)).pad (pad_rep [] (.int (0 : Int32)) 3)
  have g237 : Go p e below T233 (mkF m 106 #[iv i1, iv i2, iv ca, iv cb, iv cc, .unset] [(.ref b233), (.ref b226), (.ref b226)]) A0 := fun t kont => g232 t (st233 t kont)
  have g238 : Go p e below T233 (mkF m 109 #[iv i1, iv i2, iv ca, iv cb, iv cc, .unset] [(.int ca), (.int (0 : Int32)), (.ref b233), (.ref b233), (.ref b226), (.ref b226)]) A0 := by
    intro t kont
    refine g237 t ?_
    refine XS.dup X233.here hx rfl (hb hby d1_106) rfl rfl ?_
    show Steps p.tables e below (T233.setTop (mkF m 107 #[iv i1, iv i2, iv ca, iv cb, iv cc, .unset] [(.ref b233), (.ref b233), (.ref b226), (.ref b226)])) _
    refine XS.iconst X233.here hx rfl (hb hby d1_107) ?_
    show Steps p.tables e below (T233.setTop (mkF m 108 #[iv i1, iv i2, iv ca, iv cb, iv cc, .unset] [(.int (0 : Int32)), (.ref b233), (.ref b233), (.ref b226), (.ref b226)])) _
    refine XS.iloadN X233.here hx rfl (hb hby d1_108) rfl ?_
    show Steps p.tables e below (T233.setTop (mkF m 109 #[iv i1, iv i2, iv ca, iv cb, iv cc, .unset] [(.int ca), (.int (0 : Int32)), (.ref b233), (.ref b233), (.ref b226), (.ref b226)])) _
    exact kont
  have ge240 : n0 ≤ b233 := Nat.le_trans (own_old_le O228) (Nat.le_of_eq gb233.symm)
  have zz239 := y236
  obtain ⟨cl239, Ar239, q239, S239, M239, H239, G239⟩ := zz239
  have in239 : ¬ ((0 : Int32) < 0 ∨ cl239.slots.size ≤ ((0 : Int32)).toNatClampNeg) := inb_of S239 ⟨by decide, by decide⟩
  obtain ⟨T239, h239, X239, e239, W239, st239⟩ := stC X233 hx hZ e233 Ar239 (j := (0 : Int32)) in239 (g := (mkF m 109 #[iv i1, iv i2, iv ca, iv cb, iv cc, .unset] [(.int ca), (.int (0 : Int32)), (.ref b233), (.ref b233), (.ref b226), (.ref b226)])) rfl rfl (hb hby d1_109)
  rw [show nar .char ca = ca from r_ca] at W239
  have R241 : CHr Z consts_1 s.vm h0 s.vm h239 := R234.trans (CHr.wr W239 (Safe.ext E233 R227.1 (Safe.new (Nat.le_of_eq gb233.symm))) R234.1)
  have O242 := O235.wr W239 ge240
  have y243 : Arv Z h239 b233 k233 .char (3 : Int32) [(.int ca), (.int (0 : Int32)), (.int (0 : Int32))] (.int (0 : Int32)) := Arv.set Ar239 q239 S239 M239 H239 G239 (own_ft_char (z := ca) r_ca) W239 0 rfl (Nat.le_of_ble_eq_true rfl)
  have N239 := Fr.snoc X239 N0 ge240
  have g244 : Go p e below T239 (mkF m 110 #[iv i1, iv i2, iv ca, iv cb, iv cc, .unset] [(.ref b233), (.ref b226), (.ref b226)]) A0 := fun t kont => g238 t (st239 t kont)
  have g245 : Go p e below T239 (mkF m 113 #[iv i1, iv i2, iv ca, iv cb, iv cc, .unset] [(.int cb), (.int (1 : Int32)), (.ref b233), (.ref b233), (.ref b226), (.ref b226)]) A0 := by
    intro t kont
    refine g244 t ?_
    refine XS.dup X239.here hx rfl (hb hby d1_110) rfl rfl ?_
    show Steps p.tables e below (T239.setTop (mkF m 111 #[iv i1, iv i2, iv ca, iv cb, iv cc, .unset] [(.ref b233), (.ref b233), (.ref b226), (.ref b226)])) _
    refine XS.iconst X239.here hx rfl (hb hby d1_111) ?_
    show Steps p.tables e below (T239.setTop (mkF m 112 #[iv i1, iv i2, iv ca, iv cb, iv cc, .unset] [(.int (1 : Int32)), (.ref b233), (.ref b233), (.ref b226), (.ref b226)])) _
    refine XS.iloadN X239.here hx rfl (hb hby d1_112) rfl ?_
    show Steps p.tables e below (T239.setTop (mkF m 113 #[iv i1, iv i2, iv ca, iv cb, iv cc, .unset] [(.int cb), (.int (1 : Int32)), (.ref b233), (.ref b233), (.ref b226), (.ref b226)])) _
    exact kont
  have zz246 := y243
  obtain ⟨cl246, Ar246, q246, S246, M246, H246, G246⟩ := zz246
  have in246 : ¬ ((1 : Int32) < 0 ∨ cl246.slots.size ≤ ((1 : Int32)).toNatClampNeg) := inb_of S246 ⟨by decide, by decide⟩
  obtain ⟨T246, h246, X246, e246, W246, st246⟩ := stC X239 hx hZ e239 Ar246 (j := (1 : Int32)) in246 (g := (mkF m 113 #[iv i1, iv i2, iv ca, iv cb, iv cc, .unset] [(.int cb), (.int (1 : Int32)), (.ref b233), (.ref b233), (.ref b226), (.ref b226)])) rfl rfl (hb hby d1_113)
  rw [show nar .char cb = cb from r_cb] at W246
  have sf248 : Safe Z consts_1 s.vm h239 b233 := (Safe.wr W239 (Safe.ext E233 R227.1 (Safe.new (Nat.le_of_eq gb233.symm))) R234.1 (Safe.ext E233 R227.1 (Safe.new (Nat.le_of_eq gb233.symm))))
  have R247 : CHr Z consts_1 s.vm h0 s.vm h246 := R241.trans (CHr.wr W246 sf248 R241.1)
  have O249 := O242.wr W246 ge240
  have y250 : Arv Z h246 b233 k233 .char (3 : Int32) [(.int ca), (.int cb), (.int (0 : Int32))] (.int (0 : Int32)) := Arv.set Ar246 q246 S246 M246 H246 G246 (own_ft_char (z := cb) r_cb) W246 1 rfl (Nat.le_of_ble_eq_true rfl)
  have N246 := Fr.snoc X246 N239 ge240
  have g251 : Go p e below T246 (mkF m 114 #[iv i1, iv i2, iv ca, iv cb, iv cc, .unset] [(.ref b233), (.ref b226), (.ref b226)]) A0 := fun t kont => g245 t (st246 t kont)
  have g252 : Go p e below T246 (mkF m 118 #[iv i1, iv i2, iv ca, iv cb, iv cc, .unset] [(.int cc), (.int (2 : Int32)), (.ref b233), (.ref b233), (.ref b226), (.ref b226)]) A0 := by
    intro t kont
    refine g251 t ?_
    refine XS.dup X246.here hx rfl (hb hby d1_114) rfl rfl ?_
    show Steps p.tables e below (T246.setTop (mkF m 115 #[iv i1, iv i2, iv ca, iv cb, iv cc, .unset] [(.ref b233), (.ref b233), (.ref b226), (.ref b226)])) _
    refine XS.iconst X246.here hx rfl (hb hby d1_115) ?_
    show Steps p.tables e below (T246.setTop (mkF m 116 #[iv i1, iv i2, iv ca, iv cb, iv cc, .unset] [(.int (2 : Int32)), (.ref b233), (.ref b233), (.ref b226), (.ref b226)])) _
    refine XS.iload X246.here hx rfl (hb hby d1_116) rfl ?_
    show Steps p.tables e below (T246.setTop (mkF m 118 #[iv i1, iv i2, iv ca, iv cb, iv cc, .unset] [(.int cc), (.int (2 : Int32)), (.ref b233), (.ref b233), (.ref b226), (.ref b226)])) _
    exact kont
  have zz253 := y250
  obtain ⟨cl253, Ar253, q253, S253, M253, H253, G253⟩ := zz253
  have in253 : ¬ ((2 : Int32) < 0 ∨ cl253.slots.size ≤ ((2 : Int32)).toNatClampNeg) := inb_of S253 ⟨by decide, by decide⟩
  obtain ⟨T253, h253, X253, e253, W253, st253⟩ := stC X246 hx hZ e246 Ar253 (j := (2 : Int32)) in253 (g := (mkF m 118 #[iv i1, iv i2, iv ca, iv cb, iv cc, .unset] [(.int cc), (.int (2 : Int32)), (.ref b233), (.ref b233), (.ref b226), (.ref b226)])) rfl rfl (hb hby d1_118)
  rw [show nar .char cc = cc from r_cc] at W253
  have sf255 : Safe Z consts_1 s.vm h246 b233 := (Safe.wr W246 sf248 R241.1 sf248)
  have R254 : CHr Z consts_1 s.vm h0 s.vm h253 := R247.trans (CHr.wr W253 sf255 R247.1)
  have O256 := O249.wr W253 ge240
  have y257 : Arv Z h253 b233 k233 .char (3 : Int32) [(.int ca), (.int cb), (.int cc)] (.int (0 : Int32)) := Arv.set Ar253 q253 S253 M253 H253 G253 (own_ft_char (z := cc) r_cc) W253 2 rfl (Nat.le_of_ble_eq_true rfl)
  have N253 := Fr.snoc X253 N246 ge240
  have g258 : Go p e below T253 (mkF m 119 #[iv i1, iv i2, iv ca, iv cb, iv cc, .unset] [(.ref b233), (.ref b226), (.ref b226)]) A0 := fun t kont => g252 t (st253 t kont)
  have y260 : Fld Z h253 b226 "java/lang/String" "value" "[B" .null := ((((y230.ext E233).other W239 (Or.inl (Nat.ne_of_lt (Nat.lt_of_lt_of_le A226.lt (Nat.le_of_eq gb233.symm))))).other W246 (Or.inl (Nat.ne_of_lt (Nat.lt_of_lt_of_le A226.lt (Nat.le_of_eq gb233.symm))))).other W253 (Or.inl (Nat.ne_of_lt (Nat.lt_of_lt_of_le A226.lt (Nat.le_of_eq gb233.symm)))))
  have y261 : Fld Z h253 b226 "java/lang/String" "coder" "B" (.int (0 : Int32)) := ((((y229.ext E233).other W239 (Or.inl (Nat.ne_of_lt (Nat.lt_of_lt_of_le A226.lt (Nat.le_of_eq gb233.symm))))).other W246 (Or.inl (Nat.ne_of_lt (Nat.lt_of_lt_of_le A226.lt (Nat.le_of_eq gb233.symm))))).other W253 (Or.inl (Nat.ne_of_lt (Nat.lt_of_lt_of_le A226.lt (Nat.le_of_eq gb233.symm)))))
  have y262 : Exa Z h253 b226 "java/lang/String" := ((((A226.ext E233).wr W239).wr W246).wr W253)
  have ge263 : n0 ≤ b226 := Nat.le_trans (own_old_le O0) (Nat.le_of_eq gb226.symm)
  obtain ⟨_, _, ⟨T259, L259, k259, n259⟩, -, X259, ⟨Lc259, hQ259, l259, y259, z259⟩, st259⟩ := X253.specialBack hx (y := (⟨"java/lang/String", "<init>", "([C)V"⟩ : MethodName)) rfl hown (mvT hZ (hw _ (List.mem_of_getElem? (i := 8) rfl))) (mvT hZ (hw _ (List.mem_of_getElem? (i := 9) rfl))) (mvT hZ (hw _ (List.mem_of_getElem? (i := 10) rfl))) (by decide) (backOf (W := 1) (rm_sIni3 l Z a0 hw [] b226 b233 k233 ca cb cc cs h253 n0 O256 y260 y261 y262 ge263 y257 (b_ca) (b_cb) (b_cc) S0_ hcs) hZ (hw _ (List.mem_of_getElem? (i := 10) rfl)) (hw _ (List.mem_of_getElem? (i := 6) rfl)) (by decide) (by decide)) (g := (mkF m 119 #[iv i1, iv i2, iv ca, iv cb, iv cc, .unset] [(.ref b233), (.ref b226), (.ref b226)])) rfl (by rw [hml]; rfl) (Steps.refl _) (a := b226) (argsL := [(.ref b233)]) (rest := [(.ref b226)]) (lenOf pd_4 rfl) rfl (by show 2 * 0 + _ ≤ _; exact Nat.le_of_eq rfl) (hb hby d1_119) (fun _ _ => ⟨rfl, e253, (by decide : 2 + 1 ≤ _), (by decide : 7 + 3 ≤ _)⟩)
  dsimp only [Pt.U, Pt.locs, Pt.cells, Pt.slots] at X259 l259 y259 z259 st259 hQ259
  subst l259 y259 z259
  obtain ⟨r264, r265, rfl, M259, K259, y266, y267, y268, y269, y270⟩ := hQ259
  have N259 := Fr.app N253 M259
  have sf272 : Safe Z consts_1 s.vm h253 b226 := (Safe.wr W253 sf255 R247.1 (Safe.wr W246 sf248 R241.1 (Safe.wr W239 (Safe.ext E233 R227.1 (Safe.new (Nat.le_of_eq gb233.symm))) R234.1 (Safe.ext E233 R227.1 (Safe.ext E226 R0.1 (Safe.new (Nat.le_of_eq gb226.symm)))))))
  have R271 : CHr Z consts_1 s.vm h0 s.vm T259.heap := R254.trans (CHr.keep K259 (sfS sf272 sf0) R254.1)
  have O273 := O256.keep K259 (allS ge263 all0)
  have g274 : Go p e below T259 (mkF m 122 #[iv i1, iv i2, iv ca, iv cb, iv cc, .unset] [(.ref b226)]) A0 := fun t kont => g258 t (st259.trans kont)
  have g275 : Go p e below T259 (mkF m 126 #[iv i1, iv i2, iv ca, iv cb, iv cc, rv b226] [(.ref b226)]) A0 := by
    intro t kont
    refine g274 t ?_
    refine XS.astore X259.here hx rfl (hb hby d1_122) rfl rfl (l' := #[iv i1, iv i2, iv ca, iv cb, iv cc, rv b226]) rfl ?_
    show Steps p.tables e below (T259.setTop (mkF m 124 #[iv i1, iv i2, iv ca, iv cb, iv cc, rv b226] [])) _
    refine XS.aload X259.here hx rfl (hb hby d1_124) rfl rfl ?_
    show Steps p.tables e below (T259.setTop (mkF m 126 #[iv i1, iv i2, iv ca, iv cb, iv cc, rv b226] [(.ref b226)])) _
    exact kont
  have K276 : Keep h0 T259.heap [] := (((((((Keep.refl h0 []).ext E226).ext E233).wr W239 (Or.inr (Nat.le_trans E226.1 (Nat.le_of_eq gb233.symm)))).wr W246 (Or.inr (Nat.le_trans E226.1 (Nat.le_of_eq gb233.symm)))).wr W253 (Or.inr (Nat.le_trans E226.1 (Nat.le_of_eq gb233.symm)))).trans K259 (allS (P := fun x => x ∈ [] ∨ h0.size ≤ x) (Or.inr (Nat.le_of_eq gb226.symm)) all0))
  obtain ⟨fs, hr, hrun, hended, hRW⟩ := X259.leaveW hS (Nat.le_trans hk (Nat.le_trans (Nat.le_trans (Nat.le_trans (Nat.le_trans (Nat.le_trans E226.1 E233.1) (Keep.of_wr W239).1) (Keep.of_wr W246).1) (Keep.of_wr W253).1) K259.1)) (v := some (.ref b226)) (fun h => by rw [Bd.returns] at h; cases h)
  refine ⟨_, _, g275 _ (retOut X259 hx Bd.returns rfl (Or.inr (Or.inr (Or.inr (Or.inr ⟨rfl, rfl, rfl⟩)))) (hb hby d1_126) hr), hrun, hended, _, _, rfl, ?_, ?_, hRW.1, hRW.2.1, hRW.2.2.1, hRW.2.2.2.mono (by decide) (by decide)⟩
  ·
    show Q_key Z i1 i2 cs h0 n0 _ T259.heap _
    exact ⟨b226, rfl, N259, K276, (Nat.le_of_eq gb226.symm), y266⟩
  ·
    rw [hh]
    show CHr Z consts_1 s.vm h0 T259.vm T259.heap
    exact R271.trans (CHv.at X259 hZ (own_EW hw) R271.1)
theorem d10_0 : decode jdk_31_method_11_code 0 = .ok (.aload_n 0, 1) := by decide +kernel
theorem d10_1 : decode jdk_31_method_11_code 1 = .ok (.ifnonnull 12, 3) := by decide +kernel
theorem d10_13 : decode jdk_31_method_11_code 13 = .ok (.aload_n 0, 1) := by decide +kernel
theorem d10_14 : decode jdk_31_method_11_code 14 = .ok (.areturn, 1) := by decide +kernel
theorem pn_java_util_Objects : plainName "java/util/Objects" = true := by first | (simp [plainName, overriddenIn]; done) | decide +kernel
theorem ef_rnn (m : MethodId) (x0 : Addr) (x1 : Addr)  : entryFrame m #[(.ref x0), (.ref x1)] 2 = mkF m 0 #[.val (.ref x0), .val (.ref x1)] [] := by first | (simp [entryFrame, mkF, argsToLocals, Value.category]; done) | rfl
def Q_rnn (Z : State) (a1 : Addr) (b1 : Addr) (h0 : Heap) (n0 : Nat) (v : Option Value) (h : Heap) (L : List Loc) : Prop := v = some (.ref a1) ∧ Fr n0 L ∧ h = h0
set_option maxRecDepth 65536 in
set_option maxHeartbeats 40000000 in
theorem rm_rnn (l : Launch) (Z : State) (a0 : Array Value) (hw : ∀ d ∈ tables_1, d.before a0 Z = true) (ws : List Jvm.Cond) (a1 : Addr) (b1 : Addr) (h0 : Heap) (n0 : Nat) (O0 : Old Z n0 h0)  :
    MetFree l (⟨"java/util/Objects", "requireNonNull", "(Ljava/lang/Object;Ljava/lang/String;)Ljava/lang/Object;"⟩ : MethodName) (head1 (Jvm.Cond.code (⟨"java/util/Objects", "requireNonNull", "(Ljava/lang/Object;Ljava/lang/String;)Ljava/lang/Object;"⟩ : MethodName) jdk_31_method_11_code 2 (some (.object "java/lang/Object")) :: ws) ({ frames := 0, cells := 0, slots := 0, locals := 0 } : Room)) (fun a U => a = #[(.ref a1), (.ref b1)] ∧ Z.Warmed39 U.vm ∧ U.heap = h0) (fun _ _ _ _ _ => True) (fun _ U o U' => ∃ v L, o = .returned v ∧ Q_rnn Z a1 b1 h0 n0 v U'.heap L ∧ FrameEnd U o U' L ({ frames := 0, cells := 0, slots := 0, locals := 0 } : Room).cells ({ frames := 0, cells := 0, slots := 0, locals := 0 } : Room).slots) := by
  refine MetFree.of_bodySF (plainFor_of_name pn_java_util_Objects) hisR ?_
  intro p e s m args below meth c s₁ Bd hml0 hP hK
  obtain ⟨rfl, hZ, hh⟩ := hP
  have hx := Bd.exec
  have hby := Bd.bytes
  have hml : c.maxLocals = 2 := hml0
  have hown : s.vm.findClass "java/util/Objects" = some m.cls := findClass_of_methodNamed Bd.named
  have hnm := (name_of_methodNamed Bd.named Bd.method).1
  have X0 : Stand p l e ({ frames := 0, cells := 0, slots := 0, locals := 0 } : Room) s m #[(.ref a1), (.ref b1)] below meth c s₁ [] 0 0 := Stand.of_body Bd
  have e0 : s₁.heap = h0 := by rw [← hh, Bd.state]; rfl
  have N0 := Fr.nil n0
  have g0 : Go p e below s₁ (mkF m 0 #[rv a1, rv b1] []) (s₁.setTop (entryFrame m #[(.ref a1), (.ref b1)] 2)) := fun t kont => castTop (ef_rnn m a1 b1 ) kont
  generalize s₁.setTop (entryFrame m #[(.ref a1), (.ref b1)] 2) = A0 at g0 ⊢
  have g101 : Go p e below s₁ (mkF m 14 #[rv a1, rv b1] [(.ref a1)]) A0 := by
    intro t kont
    refine g0 t ?_
    refine XS.aloadN X0.here hx rfl (hb hby d10_0) rfl rfl ?_
    show Steps p.tables e below (s₁.setTop (mkF m 1 #[rv a1, rv b1] [(.ref a1)])) _
    refine XS.ifnonnullYes X0.here hx rfl (pc0 := 1) (pc' := 13) rfl (hb hby d10_1) rfl (by decide) (by decide) ?_
    show Steps p.tables e below (s₁.setTop (mkF m 13 #[rv a1, rv b1] [])) _
    refine XS.aloadN X0.here hx rfl (hb hby d10_13) rfl rfl ?_
    show Steps p.tables e below (s₁.setTop (mkF m 14 #[rv a1, rv b1] [(.ref a1)])) _
    exact kont
  obtain ⟨fs, hr, hrun, hended, hW, hsame⟩ := X0.leave (v := some (.ref a1)) (fun h => by rw [Bd.returns] at h; cases h)
  refine ⟨_, _, g101 _ (retOut X0 hx Bd.returns rfl (Or.inr (Or.inr (Or.inr (Or.inr ⟨rfl, rfl, rfl⟩)))) (hb hby d10_14) hr), hrun, hended, _, _, rfl, ?_, ⟨_, rfl⟩, hW, hsame.mono (by decide) (by decide)⟩
  show Q_rnn Z a1 b1 h0 n0 _ s₁.heap _
  rw [e0]
  exact ⟨rfl, N0, rfl⟩
theorem d9_0 : decode prog_19_method_1_code 0 = .ok (.aload_n 0, 1) := by decide +kernel
theorem d9_1 : decode prog_19_method_1_code 1 = .ok (.invokespecial 1, 3) := by decide +kernel
theorem d9_4 : decode prog_19_method_1_code 4 = .ok (.aload_n 0, 1) := by decide +kernel
theorem d9_5 : decode prog_19_method_1_code 5 = .ok (.aload_n 1, 1) := by decide +kernel
theorem d9_6 : decode prog_19_method_1_code 6 = .ok (.putfield 7, 3) := by decide +kernel
theorem d9_9 : decode prog_19_method_1_code 9 = .ok (.aload_n 0, 1) := by decide +kernel
theorem d9_10 : decode prog_19_method_1_code 10 = .ok (.aload_n 2, 1) := by decide +kernel
theorem d9_11 : decode prog_19_method_1_code 11 = .ok (.ldc 13, 2) := by decide +kernel
theorem d9_13 : decode prog_19_method_1_code 13 = .ok (.invokestatic 15, 3) := by decide +kernel
theorem pd_5 : parseMethodDescriptor "(Ljava/lang/Object;Ljava/lang/String;)Ljava/lang/Object;" = some ⟨[(.object "java/lang/Object"), (.object "java/lang/String")], some (.object "java/lang/Object")⟩ := by decide +kernel
theorem d9_16 : decode prog_19_method_1_code 16 = .ok (.checkcast 21, 3) := by decide +kernel
theorem d9_19 : decode prog_19_method_1_code 19 = .ok (.putfield 23, 3) := by decide +kernel
theorem d9_22 : decode prog_19_method_1_code 22 = .ok (.aload_n 0, 1) := by decide +kernel
theorem d9_23 : decode prog_19_method_1_code 23 = .ok (.iload_n 3, 1) := by decide +kernel
theorem d9_24 : decode prog_19_method_1_code 24 = .ok (.putfield 26, 3) := by decide +kernel
theorem d9_27 : decode prog_19_method_1_code 27 = .ok (.aload_n 0, 1) := by decide +kernel
theorem d9_28 : decode prog_19_method_1_code 28 = .ok (.lload 4, 2) := by decide +kernel
theorem d9_30 : decode prog_19_method_1_code 30 = .ok (.putfield 30, 3) := by decide +kernel
theorem d9_33 : decode prog_19_method_1_code 33 = .ok (.return_, 1) := by decide +kernel
theorem pn_com_example_tenant_data_scope_tenantdatascope_TenantProfile : plainName "com/example/tenant_data_scope/tenantdatascope/TenantProfile" = true := by first | (simp [plainName, overriddenIn]; done) | decide +kernel
theorem ef_ini0 (m : MethodId) (x0 : Addr) (x1 : Addr) (x2 : Addr) (x3 : Int32) (x4 : Int64)  : entryFrame m #[(.ref x0), (.ref x1), (.ref x2), (.int x3), (.long x4)] 6 = mkF m 0 #[.val (.ref x0), .val (.ref x1), .val (.ref x2), .val (.int x3), .val (.long x4), .second] [] := by first | (simp [entryFrame, mkF, argsToLocals, Value.category]; done) | rfl
def Q_ini0 (Z : State) (a1 : Addr) (mo : Addr) (ky : Addr) (j1 : Int64) (h0 : Heap) (n0 : Nat) (v : Option Value) (h : Heap) (L : List Loc) : Prop := v = none ∧ Fr n0 L ∧ Keep h0 h [a1] ∧ (Exa Z h a1 "com/example/tenant_data_scope/tenantdatascope/TenantProfile") ∧ (Fld Z h a1 "com/example/tenant_data_scope/tenantdatascope/TenantProfile" "mode" "Lcom/example/tenant_data_scope/tenantdatascope/TenantProfile$Mode;" (.ref mo)) ∧ (Fld Z h a1 "com/example/tenant_data_scope/tenantdatascope/TenantProfile" "dataSourceKey" "Ljava/lang/String;" (.ref ky)) ∧ (Fld Z h a1 "com/example/tenant_data_scope/tenantdatascope/TenantProfile" "addsTenantCondition" "Z" (.int (0 : Int32))) ∧ (Fld Z h a1 "com/example/tenant_data_scope/tenantdatascope/TenantProfile" "version" "J" (.long j1)) ∧ (Exa Z h ky "java/lang/String")
set_option maxRecDepth 65536 in
set_option maxHeartbeats 40000000 in
theorem rm_ini0 (l : Launch) (Z : State) (a0 : Array Value) (hw : ∀ d ∈ tables_1, d.before a0 Z = true) (ws : List Jvm.Cond) (a1 : Addr) (mo : Addr) (ky : Addr) (j1 : Int64) (h0 : Heap) (n0 : Nat) (O0 : Old Z n0 h0) (F0_ : Fld Z h0 a1 "com/example/tenant_data_scope/tenantdatascope/TenantProfile" "mode" "Lcom/example/tenant_data_scope/tenantdatascope/TenantProfile$Mode;" .null) (F1_ : Fld Z h0 a1 "com/example/tenant_data_scope/tenantdatascope/TenantProfile" "dataSourceKey" "Ljava/lang/String;" .null) (F2_ : Fld Z h0 a1 "com/example/tenant_data_scope/tenantdatascope/TenantProfile" "addsTenantCondition" "Z" (.int (0 : Int32))) (F3_ : Fld Z h0 a1 "com/example/tenant_data_scope/tenantdatascope/TenantProfile" "version" "J" (.long (0 : Int64))) (E4_ : Exa Z h0 a1 "com/example/tenant_data_scope/tenantdatascope/TenantProfile") (G5_ : n0 ≤ a1) (E6_ : Exa Z h0 ky "java/lang/String") :
    MetFree l (⟨"com/example/tenant_data_scope/tenantdatascope/TenantProfile", "<init>", "(Lcom/example/tenant_data_scope/tenantdatascope/TenantProfile$Mode;Ljava/lang/String;ZJ)V"⟩ : MethodName) (head1 (Jvm.Cond.code (⟨"com/example/tenant_data_scope/tenantdatascope/TenantProfile", "<init>", "(Lcom/example/tenant_data_scope/tenantdatascope/TenantProfile$Mode;Ljava/lang/String;ZJ)V"⟩ : MethodName) prog_19_method_1_code 6 none :: ws) ({ frames := 1, cells := 2, slots := 56, locals := 14 } : Room)) (fun a U => a = #[(.ref a1), (.ref mo), (.ref ky), (.int (0 : Int32)), (.long j1)] ∧ Z.Warmed39 U.vm ∧ U.heap = h0 ∧ CHv Z consts_1 U.vm h0) (fun _ _ _ _ _ => True) (fun _ U o U' => ∃ v L, o = .returned v ∧ Q_ini0 Z a1 mo ky j1 h0 n0 v U'.heap L ∧ CHr Z consts_1 U.vm U.heap U'.vm U'.heap ∧ ReturnedEndW U o U' L ({ frames := 1, cells := 2, slots := 56, locals := 14 } : Room).cells ({ frames := 1, cells := 2, slots := 56, locals := 14 } : Room).slots) := by
  refine MetFree.of_bodySF (plainFor_of_name pn_com_example_tenant_data_scope_tenantdatascope_TenantProfile) hisR ?_
  intro p e s m args below meth c s₁ Bd hml0 hP hK
  obtain ⟨rfl, hZ, hh, hC0⟩ := hP
  have hx := Bd.exec
  have hby := Bd.bytes
  have hml : c.maxLocals = 6 := hml0
  have hown : s.vm.findClass "com/example/tenant_data_scope/tenantdatascope/TenantProfile" = some m.cls := findClass_of_methodNamed Bd.named
  have hnm := (name_of_methodNamed Bd.named Bd.method).1
  have X0 : Stand p l e ({ frames := 1, cells := 2, slots := 56, locals := 14 } : Room) (s.setVm s.vm) m #[(.ref a1), (.ref mo), (.ref ky), (.int (0 : Int32)), (.long j1)] below meth c s₁ [] 0 0 := Stand.of_body Bd
  have e0 : s₁.heap = h0 := by rw [← hh, Bd.state]; rfl
  have N0 := Fr.nil n0
  have hS : s.Since s.vm 0 := (State.WarmedH.refl s).since 0
  have hk : 0 ≤ h0.size := Nat.zero_le _
  have hZ : Z.Warmed39 (s.setVm s.vm).vm := hZ
  have hown : (s.setVm s.vm).vm.findClass "com/example/tenant_data_scope/tenantdatascope/TenantProfile" = some m.cls := hown
  have R0 : CHr Z consts_1 s.vm h0 s.vm h0 := CHr.refl hC0
  have g0 : Go p e below s₁ (mkF m 0 #[rv a1, rv mo, rv ky, iv (0 : Int32), .val (.long j1), .second] []) (s₁.setTop (entryFrame m #[(.ref a1), (.ref mo), (.ref ky), (.int (0 : Int32)), (.long j1)] 6)) := fun t kont => castTop (ef_ini0 m a1 mo ky (0 : Int32) j1 ) kont
  generalize s₁.setTop (entryFrame m #[(.ref a1), (.ref mo), (.ref ky), (.int (0 : Int32)), (.long j1)] 6) = A0 at g0 ⊢
  have g101 : Go p e below s₁ (mkF m 1 #[rv a1, rv mo, rv ky, iv (0 : Int32), .val (.long j1), .second] [(.ref a1)]) A0 := by
    intro t kont
    refine g0 t ?_
    refine XS.aloadN X0.here hx rfl (hb hby d9_0) rfl rfl ?_
    show Steps p.tables e below (s₁.setTop (mkF m 1 #[rv a1, rv mo, rv ky, iv (0 : Int32), .val (.long j1), .second] [(.ref a1)])) _
    exact kont
  obtain ⟨T102, X102, e102, st102⟩ := initO X0 hx hZ hown (hw _ (List.mem_of_getElem? (i := 46) rfl)) (hw _ (List.mem_of_getElem? (i := 16) rfl)) (hw _ (List.mem_of_getElem? (i := 17) rfl)) e0 (g := (mkF m 1 #[rv a1, rv mo, rv ky, iv (0 : Int32), .val (.long j1), .second] [(.ref a1)])) rfl (by rw [hml]; rfl) rfl (hb hby d9_1) (by decide) (W := 0) (by show 2 * 0 + _ ≤ _; exact Nat.le_of_eq rfl) (by decide)
  have g103 : Go p e below T102 (mkF m 4 #[rv a1, rv mo, rv ky, iv (0 : Int32), .val (.long j1), .second] []) A0 := fun t kont => g101 t (st102 t kont)
  have g104 : Go p e below T102 (mkF m 6 #[rv a1, rv mo, rv ky, iv (0 : Int32), .val (.long j1), .second] [(.ref mo), (.ref a1)]) A0 := by
    intro t kont
    refine g103 t ?_
    refine XS.aloadN X102.here hx rfl (hb hby d9_4) rfl rfl ?_
    show Steps p.tables e below (T102.setTop (mkF m 5 #[rv a1, rv mo, rv ky, iv (0 : Int32), .val (.long j1), .second] [(.ref a1)])) _
    refine XS.aloadN X102.here hx rfl (hb hby d9_5) rfl rfl ?_
    show Steps p.tables e below (T102.setTop (mkF m 6 #[rv a1, rv mo, rv ky, iv (0 : Int32), .val (.long j1), .second] [(.ref mo), (.ref a1)])) _
    exact kont
  obtain ⟨T105, h105, X105, e105, W105, st105⟩ := putF X102 hx hZ hown (host := "") (Or.inl (hw _ (List.mem_of_getElem? (i := 47) rfl))) Via.refl e102 F0_ E4_ (Or.inr ⟨(hw _ (List.mem_of_getElem? (i := 48) rfl)), rfl, hnm⟩) (hw _ (List.mem_of_getElem? (i := 39) rfl)) (ty := (.object "com/example/tenant_data_scope/tenantdatascope/TenantProfile$Mode")) (by decide) rfl rfl (g := (mkF m 6 #[rv a1, rv mo, rv ky, iv (0 : Int32), .val (.long j1), .second] [(.ref mo), (.ref a1)])) rfl rfl (hb hby d9_6)
  have R106 : CHr Z consts_1 s.vm h0 s.vm h105 := R0.trans (CHr.wr W105 (Safe.exa hZ.alike E4_ (by decide) (by decide)) R0.1)
  have O107 := O0.wr W105 G5_
  have y108 : Fld Z h105 a1 "com/example/tenant_data_scope/tenantdatascope/TenantProfile" "mode" "Lcom/example/tenant_data_scope/tenantdatascope/TenantProfile$Mode;" (.ref mo) := F0_.same W105
  have N105 := Fr.snoc X105 N0 G5_
  have g109 : Go p e below T105 (mkF m 9 #[rv a1, rv mo, rv ky, iv (0 : Int32), .val (.long j1), .second] []) A0 := fun t kont => g104 t (st105 t kont)
  have g110 : Go p e below T105 (mkF m 11 #[rv a1, rv mo, rv ky, iv (0 : Int32), .val (.long j1), .second] [(.ref ky), (.ref a1)]) A0 := by
    intro t kont
    refine g109 t ?_
    refine XS.aloadN X105.here hx rfl (hb hby d9_9) rfl rfl ?_
    show Steps p.tables e below (T105.setTop (mkF m 10 #[rv a1, rv mo, rv ky, iv (0 : Int32), .val (.long j1), .second] [(.ref a1)])) _
    refine XS.aloadN X105.here hx rfl (hb hby d9_10) rfl rfl ?_
    show Steps p.tables e below (T105.setTop (mkF m 11 #[rv a1, rv mo, rv ky, iv (0 : Int32), .val (.long j1), .second] [(.ref ky), (.ref a1)])) _
    exact kont
  obtain ⟨b111, T111, h111, k111, c111, kc111, X111, e111, E111, hS, hk, hZ, hown, A111, F111, G111, V111, la111, lb111, C111, -, ne111, st111⟩ := ldcCH X105 hx hZ hown (hw _ (List.mem_of_getElem? (i := 49) rfl)) (own_wS hw) e105 hS (Nat.le_trans hk (Keep.of_wr W105).1) (own_EW hw) (List.mem_of_getElem? (i := 0) rfl) R106.1 (vs := [(.int (100 : Int32)), (.int (97 : Int32)), (.int (116 : Int32)), (.int (97 : Int32)), (.int (83 : Int32)), (.int (111 : Int32)), (.int (117 : Int32)), (.int (114 : Int32)), (.int (99 : Int32)), (.int (101 : Int32)), (.int (75 : Int32)), (.int (101 : Int32)), (.int (121 : Int32))]) (z := (13 : Int32)) ⟨by decide, by decide⟩ (by decide) rfl (g := (mkF m 11 #[rv a1, rv mo, rv ky, iv (0 : Int32), .val (.long j1), .second] [(.ref ky), (.ref a1)])) rfl (hb hby d9_11) (n := 52) (by decide) (by decide) (by decide) (by decide)
  have R112 : CHr Z consts_1 s.vm h0 T111.vm h111 := R106.trans C111
  have O113 := O107.ext E111
  have g114 : Go p e below T111 (mkF m 13 #[rv a1, rv mo, rv ky, iv (0 : Int32), .val (.long j1), .second] [(.ref b111), (.ref ky), (.ref a1)]) A0 := fun t kont => g110 t (st111 t kont)
  obtain ⟨_, _, ⟨T115, L115, k115, n115⟩, -, X115, ⟨Lc115, hQ115, l115, y115, z115⟩, st115⟩ := Jvm.LawKit.callS X111 hx (y := (⟨"java/util/Objects", "requireNonNull", "(Ljava/lang/Object;Ljava/lang/String;)Ljava/lang/Object;"⟩ : MethodName)) hown (mvT hZ (hw _ (List.mem_of_getElem? (i := 52) rfl))) (mvT hZ (hw _ (List.mem_of_getElem? (i := 53) rfl))) (mvT hZ (hw _ (List.mem_of_getElem? (i := 54) rfl))) (mvT hZ (hw _ (List.mem_of_getElem? (i := 55) rfl))) (by decide) (backOf (W := 1) (rm_rnn l Z a0 hw [] ky b111 h111 n0 O113 ) hZ (hw _ (List.mem_of_getElem? (i := 55) rfl)) (hw _ (List.mem_of_getElem? (i := 54) rfl)) (by decide) (by decide)) (g := (mkF m 13 #[rv a1, rv mo, rv ky, iv (0 : Int32), .val (.long j1), .second] [(.ref b111), (.ref ky), (.ref a1)])) rfl (by rw [hml]; rfl) (argsL := [(.ref ky), (.ref b111)]) (rest := [(.ref a1)]) (lenOf pd_5 rfl) rfl (by show 2 * 0 + _ ≤ _; exact Nat.le_of_eq rfl) (hb hby d9_13) (fun _ _ => ⟨rfl, e111, (by decide : 2 + 0 ≤ _), (by decide : 56 + 0 ≤ _)⟩)
  dsimp only [Pt.U, Pt.locs, Pt.cells, Pt.slots] at X115 l115 y115 z115 st115 hQ115
  subst l115 y115 z115
  obtain ⟨rfl, M115, e115⟩ := hQ115
  have N115 := Fr.app N105 M115
  have g116 : Go p e below T115 (mkF m 16 #[rv a1, rv mo, rv ky, iv (0 : Int32), .val (.long j1), .second] [(.ref ky), (.ref a1)]) A0 := fun t kont => g114 t (st115 t kont)
  have y118 : Exa Z h111 ky "java/lang/String" := ((E6_.wr W105).ext E111)
  obtain ⟨T117, X117, e117, st117⟩ := castY X115 hx hZ hown (hw _ (List.mem_of_getElem? (i := 56) rfl)) e115 (Ins.self y118) (g := (mkF m 16 #[rv a1, rv mo, rv ky, iv (0 : Int32), .val (.long j1), .second] [(.ref ky), (.ref a1)])) rfl rfl (hb hby d9_16)
  have g119 : Go p e below T117 (mkF m 19 #[rv a1, rv mo, rv ky, iv (0 : Int32), .val (.long j1), .second] [(.ref ky), (.ref a1)]) A0 := fun t kont => g116 t (st117 t kont)
  have y120 : Exa Z h111 a1 "com/example/tenant_data_scope/tenantdatascope/TenantProfile" := ((E4_.wr W105).ext E111)
  have y121 : Fld Z h111 a1 "com/example/tenant_data_scope/tenantdatascope/TenantProfile" "dataSourceKey" "Ljava/lang/String;" .null := ((F1_.other W105 (Or.inr (slot_ne (Or.inr (hw _ (List.mem_of_getElem? (i := 58) rfl))) (Or.inr (hw _ (List.mem_of_getElem? (i := 48) rfl))) (by decide) (t := (.object "java/lang/String")) (t' := (.object "com/example/tenant_data_scope/tenantdatascope/TenantProfile$Mode")) (by decide) (by decide)))).ext E111)
  obtain ⟨T122, h122, X122, e122, W122, st122⟩ := putF X117 hx hZ hown (host := "") (Or.inl (hw _ (List.mem_of_getElem? (i := 57) rfl))) Via.refl e117 y121 y120 (Or.inr ⟨(hw _ (List.mem_of_getElem? (i := 58) rfl)), rfl, hnm⟩) (hw _ (List.mem_of_getElem? (i := 39) rfl)) (ty := (.object "java/lang/String")) (by decide) rfl rfl (g := (mkF m 19 #[rv a1, rv mo, rv ky, iv (0 : Int32), .val (.long j1), .second] [(.ref ky), (.ref a1)])) rfl rfl (hb hby d9_19)
  have R123 : CHr Z consts_1 s.vm h0 T111.vm h122 := R112.trans (CHr.wr W122 (Safe.exa hZ.alike y120 (by decide) (by decide)) R112.1)
  have O124 := O113.wr W122 G5_
  have y125 : Fld Z h122 a1 "com/example/tenant_data_scope/tenantdatascope/TenantProfile" "dataSourceKey" "Ljava/lang/String;" (.ref ky) := y121.same W122
  have N122 := Fr.snoc X122 N115 G5_
  have g126 : Go p e below T122 (mkF m 22 #[rv a1, rv mo, rv ky, iv (0 : Int32), .val (.long j1), .second] []) A0 := fun t kont => g119 t (st122 t kont)
  have g127 : Go p e below T122 (mkF m 24 #[rv a1, rv mo, rv ky, iv (0 : Int32), .val (.long j1), .second] [(.int (0 : Int32)), (.ref a1)]) A0 := by
    intro t kont
    refine g126 t ?_
    refine XS.aloadN X122.here hx rfl (hb hby d9_22) rfl rfl ?_
    show Steps p.tables e below (T122.setTop (mkF m 23 #[rv a1, rv mo, rv ky, iv (0 : Int32), .val (.long j1), .second] [(.ref a1)])) _
    refine XS.iloadN X122.here hx rfl (hb hby d9_23) rfl ?_
    show Steps p.tables e below (T122.setTop (mkF m 24 #[rv a1, rv mo, rv ky, iv (0 : Int32), .val (.long j1), .second] [(.int (0 : Int32)), (.ref a1)])) _
    exact kont
  have y128 : Exa Z h122 a1 "com/example/tenant_data_scope/tenantdatascope/TenantProfile" := (y120.wr W122)
  have y129 : Fld Z h122 a1 "com/example/tenant_data_scope/tenantdatascope/TenantProfile" "addsTenantCondition" "Z" (.int (0 : Int32)) := (((F2_.other W105 (Or.inr (slot_ne (Or.inr (hw _ (List.mem_of_getElem? (i := 60) rfl))) (Or.inr (hw _ (List.mem_of_getElem? (i := 48) rfl))) (by decide) (t := .boolean) (t' := (.object "com/example/tenant_data_scope/tenantdatascope/TenantProfile$Mode")) (by decide) (by decide)))).ext E111).other W122 (Or.inr (slot_ne (Or.inr (hw _ (List.mem_of_getElem? (i := 60) rfl))) (Or.inr (hw _ (List.mem_of_getElem? (i := 58) rfl))) (by decide) (t := .boolean) (t' := (.object "java/lang/String")) (by decide) (by decide))))
  obtain ⟨T130, h130, X130, e130, W130, st130⟩ := putFN X122 hx hZ hown (hw _ (List.mem_of_getElem? (i := 59) rfl)) Via.refl e122 y129 y128 (Or.inr ⟨(hw _ (List.mem_of_getElem? (i := 60) rfl)), rfl, hnm⟩) (hw _ (List.mem_of_getElem? (i := 39) rfl)) (ty := .boolean) (v := (.int (0 : Int32))) (v' := (.int (0 : Int32))) (by decide) (own_nw_boolean (by decide : nar .boolean (0 : Int32) = (0 : Int32))) (own_ft_boolean (by decide : nar .boolean (0 : Int32) = (0 : Int32))) (g := (mkF m 24 #[rv a1, rv mo, rv ky, iv (0 : Int32), .val (.long j1), .second] [(.int (0 : Int32)), (.ref a1)])) rfl rfl (hb hby d9_24)
  have R131 : CHr Z consts_1 s.vm h0 T111.vm h130 := R123.trans (CHr.wr W130 (Safe.exa hZ.alike y128 (by decide) (by decide)) R123.1)
  have O132 := O124.wr W130 G5_
  have y133 : Fld Z h130 a1 "com/example/tenant_data_scope/tenantdatascope/TenantProfile" "addsTenantCondition" "Z" (.int (0 : Int32)) := y129.same W130
  have N130 := Fr.snoc X130 N122 G5_
  have g134 : Go p e below T130 (mkF m 27 #[rv a1, rv mo, rv ky, iv (0 : Int32), .val (.long j1), .second] []) A0 := fun t kont => g127 t (st130 t kont)
  have g135 : Go p e below T130 (mkF m 30 #[rv a1, rv mo, rv ky, iv (0 : Int32), .val (.long j1), .second] [(.long j1), (.ref a1)]) A0 := by
    intro t kont
    refine g134 t ?_
    refine XS.aloadN X130.here hx rfl (hb hby d9_27) rfl rfl ?_
    show Steps p.tables e below (T130.setTop (mkF m 28 #[rv a1, rv mo, rv ky, iv (0 : Int32), .val (.long j1), .second] [(.ref a1)])) _
    refine XS.lload X130.here hx rfl (hb hby d9_28) rfl ?_
    show Steps p.tables e below (T130.setTop (mkF m 30 #[rv a1, rv mo, rv ky, iv (0 : Int32), .val (.long j1), .second] [(.long j1), (.ref a1)])) _
    exact kont
  have y136 : Exa Z h130 a1 "com/example/tenant_data_scope/tenantdatascope/TenantProfile" := (y128.wr W130)
  have y137 : Fld Z h130 a1 "com/example/tenant_data_scope/tenantdatascope/TenantProfile" "version" "J" (.long (0 : Int64)) := ((((F3_.other W105 (Or.inr (slot_ne (Or.inr (hw _ (List.mem_of_getElem? (i := 62) rfl))) (Or.inr (hw _ (List.mem_of_getElem? (i := 48) rfl))) (by decide) (t := .long) (t' := (.object "com/example/tenant_data_scope/tenantdatascope/TenantProfile$Mode")) (by decide) (by decide)))).ext E111).other W122 (Or.inr (slot_ne (Or.inr (hw _ (List.mem_of_getElem? (i := 62) rfl))) (Or.inr (hw _ (List.mem_of_getElem? (i := 58) rfl))) (by decide) (t := .long) (t' := (.object "java/lang/String")) (by decide) (by decide)))).other W130 (Or.inr (slot_ne (Or.inr (hw _ (List.mem_of_getElem? (i := 62) rfl))) (Or.inr (hw _ (List.mem_of_getElem? (i := 60) rfl))) (by decide) (t := .long) (t' := .boolean) (by decide) (by decide))))
  obtain ⟨T138, h138, X138, e138, W138, st138⟩ := putF X130 hx hZ hown (host := "") (Or.inl (hw _ (List.mem_of_getElem? (i := 61) rfl))) Via.refl e130 y137 y136 (Or.inr ⟨(hw _ (List.mem_of_getElem? (i := 62) rfl)), rfl, hnm⟩) (hw _ (List.mem_of_getElem? (i := 39) rfl)) (ty := .long) (by decide) rfl rfl (g := (mkF m 30 #[rv a1, rv mo, rv ky, iv (0 : Int32), .val (.long j1), .second] [(.long j1), (.ref a1)])) rfl rfl (hb hby d9_30)
  have R139 : CHr Z consts_1 s.vm h0 T111.vm h138 := R131.trans (CHr.wr W138 (Safe.exa hZ.alike y136 (by decide) (by decide)) R131.1)
  have O140 := O132.wr W138 G5_
  have y141 : Fld Z h138 a1 "com/example/tenant_data_scope/tenantdatascope/TenantProfile" "version" "J" (.long j1) := y137.same W138
  have N138 := Fr.snoc X138 N130 G5_
  have g142 : Go p e below T138 (mkF m 33 #[rv a1, rv mo, rv ky, iv (0 : Int32), .val (.long j1), .second] []) A0 := fun t kont => g135 t (st138 t kont)
  have K143 : Keep h0 h138 [a1] := ((((((Keep.refl h0 [a1]).wr W105 (Or.inl (List.mem_of_getElem? (i := 0) rfl))).ext E111).wr W122 (Or.inl (List.mem_of_getElem? (i := 0) rfl))).wr W130 (Or.inl (List.mem_of_getElem? (i := 0) rfl))).wr W138 (Or.inl (List.mem_of_getElem? (i := 0) rfl)))
  have y144 : Exa Z h138 a1 "com/example/tenant_data_scope/tenantdatascope/TenantProfile" := (y136.wr W138)
  have y145 : Fld Z h138 a1 "com/example/tenant_data_scope/tenantdatascope/TenantProfile" "mode" "Lcom/example/tenant_data_scope/tenantdatascope/TenantProfile$Mode;" (.ref mo) := ((((y108.ext E111).other W122 (Or.inr (slot_ne (Or.inr (hw _ (List.mem_of_getElem? (i := 48) rfl))) (Or.inr (hw _ (List.mem_of_getElem? (i := 58) rfl))) (by decide) (t := (.object "com/example/tenant_data_scope/tenantdatascope/TenantProfile$Mode")) (t' := (.object "java/lang/String")) (by decide) (by decide)))).other W130 (Or.inr (slot_ne (Or.inr (hw _ (List.mem_of_getElem? (i := 48) rfl))) (Or.inr (hw _ (List.mem_of_getElem? (i := 60) rfl))) (by decide) (t := (.object "com/example/tenant_data_scope/tenantdatascope/TenantProfile$Mode")) (t' := .boolean) (by decide) (by decide)))).other W138 (Or.inr (slot_ne (Or.inr (hw _ (List.mem_of_getElem? (i := 48) rfl))) (Or.inr (hw _ (List.mem_of_getElem? (i := 62) rfl))) (by decide) (t := (.object "com/example/tenant_data_scope/tenantdatascope/TenantProfile$Mode")) (t' := .long) (by decide) (by decide))))
  have y146 : Fld Z h138 a1 "com/example/tenant_data_scope/tenantdatascope/TenantProfile" "dataSourceKey" "Ljava/lang/String;" (.ref ky) := ((y125.other W130 (Or.inr (slot_ne (Or.inr (hw _ (List.mem_of_getElem? (i := 58) rfl))) (Or.inr (hw _ (List.mem_of_getElem? (i := 60) rfl))) (by decide) (t := (.object "java/lang/String")) (t' := .boolean) (by decide) (by decide)))).other W138 (Or.inr (slot_ne (Or.inr (hw _ (List.mem_of_getElem? (i := 58) rfl))) (Or.inr (hw _ (List.mem_of_getElem? (i := 62) rfl))) (by decide) (t := (.object "java/lang/String")) (t' := .long) (by decide) (by decide))))
  have y147 : Fld Z h138 a1 "com/example/tenant_data_scope/tenantdatascope/TenantProfile" "addsTenantCondition" "Z" (.int (0 : Int32)) := (y133.other W138 (Or.inr (slot_ne (Or.inr (hw _ (List.mem_of_getElem? (i := 60) rfl))) (Or.inr (hw _ (List.mem_of_getElem? (i := 62) rfl))) (by decide) (t := .boolean) (t' := .long) (by decide) (by decide))))
  have y148 : Exa Z h138 ky "java/lang/String" := (((y118.wr W122).wr W130).wr W138)
  obtain ⟨fs, hr, hrun, hended, hRW⟩ := X138.leaveW hS (by rw [e138]; exact (Nat.le_trans hk (Nat.le_trans (Nat.le_trans (Keep.of_wr W122).1 (Keep.of_wr W130).1) (Keep.of_wr W138).1))) (v := none) (fun _ => rfl)
  refine ⟨_, _, g142 _ (X138.returnOut hx Bd.returns (hb hby d9_33) hr), hrun, hended, _, _, rfl, ?_, ?_, hRW.1, hRW.2.1, hRW.2.2.1, hRW.2.2.2.mono (by decide) (by decide)⟩
  ·
    show Q_ini0 Z a1 mo ky j1 h0 n0 _ T138.heap _
    rw [e138]
    exact ⟨rfl, N138, K143, y144, y145, y146, y147, y141, y148⟩
  ·
    rw [hh]
    show CHr Z consts_1 s.vm h0 T138.vm T138.heap
    rw [e138]
    exact R139.trans (CHv.at X138 hZ (own_EW hw) R139.1)
theorem ef_ini1 (m : MethodId) (x0 : Addr) (x1 : Addr) (x2 : Addr) (x3 : Int32) (x4 : Int64)  : entryFrame m #[(.ref x0), (.ref x1), (.ref x2), (.int x3), (.long x4)] 6 = mkF m 0 #[.val (.ref x0), .val (.ref x1), .val (.ref x2), .val (.int x3), .val (.long x4), .second] [] := by first | (simp [entryFrame, mkF, argsToLocals, Value.category]; done) | rfl
def Q_ini1 (Z : State) (a1 : Addr) (mo : Addr) (ky : Addr) (j1 : Int64) (h0 : Heap) (n0 : Nat) (v : Option Value) (h : Heap) (L : List Loc) : Prop := v = none ∧ Fr n0 L ∧ Keep h0 h [a1] ∧ (Exa Z h a1 "com/example/tenant_data_scope/tenantdatascope/TenantProfile") ∧ (Fld Z h a1 "com/example/tenant_data_scope/tenantdatascope/TenantProfile" "mode" "Lcom/example/tenant_data_scope/tenantdatascope/TenantProfile$Mode;" (.ref mo)) ∧ (Fld Z h a1 "com/example/tenant_data_scope/tenantdatascope/TenantProfile" "dataSourceKey" "Ljava/lang/String;" (.ref ky)) ∧ (Fld Z h a1 "com/example/tenant_data_scope/tenantdatascope/TenantProfile" "addsTenantCondition" "Z" (.int (1 : Int32))) ∧ (Fld Z h a1 "com/example/tenant_data_scope/tenantdatascope/TenantProfile" "version" "J" (.long j1)) ∧ (Exa Z h ky "java/lang/String")
set_option maxRecDepth 65536 in
set_option maxHeartbeats 40000000 in
theorem rm_ini1 (l : Launch) (Z : State) (a0 : Array Value) (hw : ∀ d ∈ tables_1, d.before a0 Z = true) (ws : List Jvm.Cond) (a1 : Addr) (mo : Addr) (ky : Addr) (j1 : Int64) (h0 : Heap) (n0 : Nat) (O0 : Old Z n0 h0) (F0_ : Fld Z h0 a1 "com/example/tenant_data_scope/tenantdatascope/TenantProfile" "mode" "Lcom/example/tenant_data_scope/tenantdatascope/TenantProfile$Mode;" .null) (F1_ : Fld Z h0 a1 "com/example/tenant_data_scope/tenantdatascope/TenantProfile" "dataSourceKey" "Ljava/lang/String;" .null) (F2_ : Fld Z h0 a1 "com/example/tenant_data_scope/tenantdatascope/TenantProfile" "addsTenantCondition" "Z" (.int (0 : Int32))) (F3_ : Fld Z h0 a1 "com/example/tenant_data_scope/tenantdatascope/TenantProfile" "version" "J" (.long (0 : Int64))) (E4_ : Exa Z h0 a1 "com/example/tenant_data_scope/tenantdatascope/TenantProfile") (G5_ : n0 ≤ a1) (E6_ : Exa Z h0 ky "java/lang/String") :
    MetFree l (⟨"com/example/tenant_data_scope/tenantdatascope/TenantProfile", "<init>", "(Lcom/example/tenant_data_scope/tenantdatascope/TenantProfile$Mode;Ljava/lang/String;ZJ)V"⟩ : MethodName) (head1 (Jvm.Cond.code (⟨"com/example/tenant_data_scope/tenantdatascope/TenantProfile", "<init>", "(Lcom/example/tenant_data_scope/tenantdatascope/TenantProfile$Mode;Ljava/lang/String;ZJ)V"⟩ : MethodName) prog_19_method_1_code 6 none :: ws) ({ frames := 1, cells := 2, slots := 56, locals := 14 } : Room)) (fun a U => a = #[(.ref a1), (.ref mo), (.ref ky), (.int (1 : Int32)), (.long j1)] ∧ Z.Warmed39 U.vm ∧ U.heap = h0 ∧ CHv Z consts_1 U.vm h0) (fun _ _ _ _ _ => True) (fun _ U o U' => ∃ v L, o = .returned v ∧ Q_ini1 Z a1 mo ky j1 h0 n0 v U'.heap L ∧ CHr Z consts_1 U.vm U.heap U'.vm U'.heap ∧ ReturnedEndW U o U' L ({ frames := 1, cells := 2, slots := 56, locals := 14 } : Room).cells ({ frames := 1, cells := 2, slots := 56, locals := 14 } : Room).slots) := by
  refine MetFree.of_bodySF (plainFor_of_name pn_com_example_tenant_data_scope_tenantdatascope_TenantProfile) hisR ?_
  intro p e s m args below meth c s₁ Bd hml0 hP hK
  obtain ⟨rfl, hZ, hh, hC0⟩ := hP
  have hx := Bd.exec
  have hby := Bd.bytes
  have hml : c.maxLocals = 6 := hml0
  have hown : s.vm.findClass "com/example/tenant_data_scope/tenantdatascope/TenantProfile" = some m.cls := findClass_of_methodNamed Bd.named
  have hnm := (name_of_methodNamed Bd.named Bd.method).1
  have X0 : Stand p l e ({ frames := 1, cells := 2, slots := 56, locals := 14 } : Room) (s.setVm s.vm) m #[(.ref a1), (.ref mo), (.ref ky), (.int (1 : Int32)), (.long j1)] below meth c s₁ [] 0 0 := Stand.of_body Bd
  have e0 : s₁.heap = h0 := by rw [← hh, Bd.state]; rfl
  have N0 := Fr.nil n0
  have hS : s.Since s.vm 0 := (State.WarmedH.refl s).since 0
  have hk : 0 ≤ h0.size := Nat.zero_le _
  have hZ : Z.Warmed39 (s.setVm s.vm).vm := hZ
  have hown : (s.setVm s.vm).vm.findClass "com/example/tenant_data_scope/tenantdatascope/TenantProfile" = some m.cls := hown
  have R0 : CHr Z consts_1 s.vm h0 s.vm h0 := CHr.refl hC0
  have g0 : Go p e below s₁ (mkF m 0 #[rv a1, rv mo, rv ky, iv (1 : Int32), .val (.long j1), .second] []) (s₁.setTop (entryFrame m #[(.ref a1), (.ref mo), (.ref ky), (.int (1 : Int32)), (.long j1)] 6)) := fun t kont => castTop (ef_ini1 m a1 mo ky (1 : Int32) j1 ) kont
  generalize s₁.setTop (entryFrame m #[(.ref a1), (.ref mo), (.ref ky), (.int (1 : Int32)), (.long j1)] 6) = A0 at g0 ⊢
  have g101 : Go p e below s₁ (mkF m 1 #[rv a1, rv mo, rv ky, iv (1 : Int32), .val (.long j1), .second] [(.ref a1)]) A0 := by
    intro t kont
    refine g0 t ?_
    refine XS.aloadN X0.here hx rfl (hb hby d9_0) rfl rfl ?_
    show Steps p.tables e below (s₁.setTop (mkF m 1 #[rv a1, rv mo, rv ky, iv (1 : Int32), .val (.long j1), .second] [(.ref a1)])) _
    exact kont
  obtain ⟨T102, X102, e102, st102⟩ := initO X0 hx hZ hown (hw _ (List.mem_of_getElem? (i := 46) rfl)) (hw _ (List.mem_of_getElem? (i := 16) rfl)) (hw _ (List.mem_of_getElem? (i := 17) rfl)) e0 (g := (mkF m 1 #[rv a1, rv mo, rv ky, iv (1 : Int32), .val (.long j1), .second] [(.ref a1)])) rfl (by rw [hml]; rfl) rfl (hb hby d9_1) (by decide) (W := 0) (by show 2 * 0 + _ ≤ _; exact Nat.le_of_eq rfl) (by decide)
  have g103 : Go p e below T102 (mkF m 4 #[rv a1, rv mo, rv ky, iv (1 : Int32), .val (.long j1), .second] []) A0 := fun t kont => g101 t (st102 t kont)
  have g104 : Go p e below T102 (mkF m 6 #[rv a1, rv mo, rv ky, iv (1 : Int32), .val (.long j1), .second] [(.ref mo), (.ref a1)]) A0 := by
    intro t kont
    refine g103 t ?_
    refine XS.aloadN X102.here hx rfl (hb hby d9_4) rfl rfl ?_
    show Steps p.tables e below (T102.setTop (mkF m 5 #[rv a1, rv mo, rv ky, iv (1 : Int32), .val (.long j1), .second] [(.ref a1)])) _
    refine XS.aloadN X102.here hx rfl (hb hby d9_5) rfl rfl ?_
    show Steps p.tables e below (T102.setTop (mkF m 6 #[rv a1, rv mo, rv ky, iv (1 : Int32), .val (.long j1), .second] [(.ref mo), (.ref a1)])) _
    exact kont
  obtain ⟨T105, h105, X105, e105, W105, st105⟩ := putF X102 hx hZ hown (host := "") (Or.inl (hw _ (List.mem_of_getElem? (i := 47) rfl))) Via.refl e102 F0_ E4_ (Or.inr ⟨(hw _ (List.mem_of_getElem? (i := 48) rfl)), rfl, hnm⟩) (hw _ (List.mem_of_getElem? (i := 39) rfl)) (ty := (.object "com/example/tenant_data_scope/tenantdatascope/TenantProfile$Mode")) (by decide) rfl rfl (g := (mkF m 6 #[rv a1, rv mo, rv ky, iv (1 : Int32), .val (.long j1), .second] [(.ref mo), (.ref a1)])) rfl rfl (hb hby d9_6)
  have R106 : CHr Z consts_1 s.vm h0 s.vm h105 := R0.trans (CHr.wr W105 (Safe.exa hZ.alike E4_ (by decide) (by decide)) R0.1)
  have O107 := O0.wr W105 G5_
  have y108 : Fld Z h105 a1 "com/example/tenant_data_scope/tenantdatascope/TenantProfile" "mode" "Lcom/example/tenant_data_scope/tenantdatascope/TenantProfile$Mode;" (.ref mo) := F0_.same W105
  have N105 := Fr.snoc X105 N0 G5_
  have g109 : Go p e below T105 (mkF m 9 #[rv a1, rv mo, rv ky, iv (1 : Int32), .val (.long j1), .second] []) A0 := fun t kont => g104 t (st105 t kont)
  have g110 : Go p e below T105 (mkF m 11 #[rv a1, rv mo, rv ky, iv (1 : Int32), .val (.long j1), .second] [(.ref ky), (.ref a1)]) A0 := by
    intro t kont
    refine g109 t ?_
    refine XS.aloadN X105.here hx rfl (hb hby d9_9) rfl rfl ?_
    show Steps p.tables e below (T105.setTop (mkF m 10 #[rv a1, rv mo, rv ky, iv (1 : Int32), .val (.long j1), .second] [(.ref a1)])) _
    refine XS.aloadN X105.here hx rfl (hb hby d9_10) rfl rfl ?_
    show Steps p.tables e below (T105.setTop (mkF m 11 #[rv a1, rv mo, rv ky, iv (1 : Int32), .val (.long j1), .second] [(.ref ky), (.ref a1)])) _
    exact kont
  obtain ⟨b111, T111, h111, k111, c111, kc111, X111, e111, E111, hS, hk, hZ, hown, A111, F111, G111, V111, la111, lb111, C111, -, ne111, st111⟩ := ldcCH X105 hx hZ hown (hw _ (List.mem_of_getElem? (i := 49) rfl)) (own_wS hw) e105 hS (Nat.le_trans hk (Keep.of_wr W105).1) (own_EW hw) (List.mem_of_getElem? (i := 0) rfl) R106.1 (vs := [(.int (100 : Int32)), (.int (97 : Int32)), (.int (116 : Int32)), (.int (97 : Int32)), (.int (83 : Int32)), (.int (111 : Int32)), (.int (117 : Int32)), (.int (114 : Int32)), (.int (99 : Int32)), (.int (101 : Int32)), (.int (75 : Int32)), (.int (101 : Int32)), (.int (121 : Int32))]) (z := (13 : Int32)) ⟨by decide, by decide⟩ (by decide) rfl (g := (mkF m 11 #[rv a1, rv mo, rv ky, iv (1 : Int32), .val (.long j1), .second] [(.ref ky), (.ref a1)])) rfl (hb hby d9_11) (n := 52) (by decide) (by decide) (by decide) (by decide)
  have R112 : CHr Z consts_1 s.vm h0 T111.vm h111 := R106.trans C111
  have O113 := O107.ext E111
  have g114 : Go p e below T111 (mkF m 13 #[rv a1, rv mo, rv ky, iv (1 : Int32), .val (.long j1), .second] [(.ref b111), (.ref ky), (.ref a1)]) A0 := fun t kont => g110 t (st111 t kont)
  obtain ⟨_, _, ⟨T115, L115, k115, n115⟩, -, X115, ⟨Lc115, hQ115, l115, y115, z115⟩, st115⟩ := Jvm.LawKit.callS X111 hx (y := (⟨"java/util/Objects", "requireNonNull", "(Ljava/lang/Object;Ljava/lang/String;)Ljava/lang/Object;"⟩ : MethodName)) hown (mvT hZ (hw _ (List.mem_of_getElem? (i := 52) rfl))) (mvT hZ (hw _ (List.mem_of_getElem? (i := 53) rfl))) (mvT hZ (hw _ (List.mem_of_getElem? (i := 54) rfl))) (mvT hZ (hw _ (List.mem_of_getElem? (i := 55) rfl))) (by decide) (backOf (W := 1) (rm_rnn l Z a0 hw [] ky b111 h111 n0 O113 ) hZ (hw _ (List.mem_of_getElem? (i := 55) rfl)) (hw _ (List.mem_of_getElem? (i := 54) rfl)) (by decide) (by decide)) (g := (mkF m 13 #[rv a1, rv mo, rv ky, iv (1 : Int32), .val (.long j1), .second] [(.ref b111), (.ref ky), (.ref a1)])) rfl (by rw [hml]; rfl) (argsL := [(.ref ky), (.ref b111)]) (rest := [(.ref a1)]) (lenOf pd_5 rfl) rfl (by show 2 * 0 + _ ≤ _; exact Nat.le_of_eq rfl) (hb hby d9_13) (fun _ _ => ⟨rfl, e111, (by decide : 2 + 0 ≤ _), (by decide : 56 + 0 ≤ _)⟩)
  dsimp only [Pt.U, Pt.locs, Pt.cells, Pt.slots] at X115 l115 y115 z115 st115 hQ115
  subst l115 y115 z115
  obtain ⟨rfl, M115, e115⟩ := hQ115
  have N115 := Fr.app N105 M115
  have g116 : Go p e below T115 (mkF m 16 #[rv a1, rv mo, rv ky, iv (1 : Int32), .val (.long j1), .second] [(.ref ky), (.ref a1)]) A0 := fun t kont => g114 t (st115 t kont)
  have y118 : Exa Z h111 ky "java/lang/String" := ((E6_.wr W105).ext E111)
  obtain ⟨T117, X117, e117, st117⟩ := castY X115 hx hZ hown (hw _ (List.mem_of_getElem? (i := 56) rfl)) e115 (Ins.self y118) (g := (mkF m 16 #[rv a1, rv mo, rv ky, iv (1 : Int32), .val (.long j1), .second] [(.ref ky), (.ref a1)])) rfl rfl (hb hby d9_16)
  have g119 : Go p e below T117 (mkF m 19 #[rv a1, rv mo, rv ky, iv (1 : Int32), .val (.long j1), .second] [(.ref ky), (.ref a1)]) A0 := fun t kont => g116 t (st117 t kont)
  have y120 : Exa Z h111 a1 "com/example/tenant_data_scope/tenantdatascope/TenantProfile" := ((E4_.wr W105).ext E111)
  have y121 : Fld Z h111 a1 "com/example/tenant_data_scope/tenantdatascope/TenantProfile" "dataSourceKey" "Ljava/lang/String;" .null := ((F1_.other W105 (Or.inr (slot_ne (Or.inr (hw _ (List.mem_of_getElem? (i := 58) rfl))) (Or.inr (hw _ (List.mem_of_getElem? (i := 48) rfl))) (by decide) (t := (.object "java/lang/String")) (t' := (.object "com/example/tenant_data_scope/tenantdatascope/TenantProfile$Mode")) (by decide) (by decide)))).ext E111)
  obtain ⟨T122, h122, X122, e122, W122, st122⟩ := putF X117 hx hZ hown (host := "") (Or.inl (hw _ (List.mem_of_getElem? (i := 57) rfl))) Via.refl e117 y121 y120 (Or.inr ⟨(hw _ (List.mem_of_getElem? (i := 58) rfl)), rfl, hnm⟩) (hw _ (List.mem_of_getElem? (i := 39) rfl)) (ty := (.object "java/lang/String")) (by decide) rfl rfl (g := (mkF m 19 #[rv a1, rv mo, rv ky, iv (1 : Int32), .val (.long j1), .second] [(.ref ky), (.ref a1)])) rfl rfl (hb hby d9_19)
  have R123 : CHr Z consts_1 s.vm h0 T111.vm h122 := R112.trans (CHr.wr W122 (Safe.exa hZ.alike y120 (by decide) (by decide)) R112.1)
  have O124 := O113.wr W122 G5_
  have y125 : Fld Z h122 a1 "com/example/tenant_data_scope/tenantdatascope/TenantProfile" "dataSourceKey" "Ljava/lang/String;" (.ref ky) := y121.same W122
  have N122 := Fr.snoc X122 N115 G5_
  have g126 : Go p e below T122 (mkF m 22 #[rv a1, rv mo, rv ky, iv (1 : Int32), .val (.long j1), .second] []) A0 := fun t kont => g119 t (st122 t kont)
  have g127 : Go p e below T122 (mkF m 24 #[rv a1, rv mo, rv ky, iv (1 : Int32), .val (.long j1), .second] [(.int (1 : Int32)), (.ref a1)]) A0 := by
    intro t kont
    refine g126 t ?_
    refine XS.aloadN X122.here hx rfl (hb hby d9_22) rfl rfl ?_
    show Steps p.tables e below (T122.setTop (mkF m 23 #[rv a1, rv mo, rv ky, iv (1 : Int32), .val (.long j1), .second] [(.ref a1)])) _
    refine XS.iloadN X122.here hx rfl (hb hby d9_23) rfl ?_
    show Steps p.tables e below (T122.setTop (mkF m 24 #[rv a1, rv mo, rv ky, iv (1 : Int32), .val (.long j1), .second] [(.int (1 : Int32)), (.ref a1)])) _
    exact kont
  have y128 : Exa Z h122 a1 "com/example/tenant_data_scope/tenantdatascope/TenantProfile" := (y120.wr W122)
  have y129 : Fld Z h122 a1 "com/example/tenant_data_scope/tenantdatascope/TenantProfile" "addsTenantCondition" "Z" (.int (0 : Int32)) := (((F2_.other W105 (Or.inr (slot_ne (Or.inr (hw _ (List.mem_of_getElem? (i := 60) rfl))) (Or.inr (hw _ (List.mem_of_getElem? (i := 48) rfl))) (by decide) (t := .boolean) (t' := (.object "com/example/tenant_data_scope/tenantdatascope/TenantProfile$Mode")) (by decide) (by decide)))).ext E111).other W122 (Or.inr (slot_ne (Or.inr (hw _ (List.mem_of_getElem? (i := 60) rfl))) (Or.inr (hw _ (List.mem_of_getElem? (i := 58) rfl))) (by decide) (t := .boolean) (t' := (.object "java/lang/String")) (by decide) (by decide))))
  obtain ⟨T130, h130, X130, e130, W130, st130⟩ := putFN X122 hx hZ hown (hw _ (List.mem_of_getElem? (i := 59) rfl)) Via.refl e122 y129 y128 (Or.inr ⟨(hw _ (List.mem_of_getElem? (i := 60) rfl)), rfl, hnm⟩) (hw _ (List.mem_of_getElem? (i := 39) rfl)) (ty := .boolean) (v := (.int (1 : Int32))) (v' := (.int (1 : Int32))) (by decide) (own_nw_boolean (by decide : nar .boolean (1 : Int32) = (1 : Int32))) (own_ft_boolean (by decide : nar .boolean (1 : Int32) = (1 : Int32))) (g := (mkF m 24 #[rv a1, rv mo, rv ky, iv (1 : Int32), .val (.long j1), .second] [(.int (1 : Int32)), (.ref a1)])) rfl rfl (hb hby d9_24)
  have R131 : CHr Z consts_1 s.vm h0 T111.vm h130 := R123.trans (CHr.wr W130 (Safe.exa hZ.alike y128 (by decide) (by decide)) R123.1)
  have O132 := O124.wr W130 G5_
  have y133 : Fld Z h130 a1 "com/example/tenant_data_scope/tenantdatascope/TenantProfile" "addsTenantCondition" "Z" (.int (1 : Int32)) := y129.same W130
  have N130 := Fr.snoc X130 N122 G5_
  have g134 : Go p e below T130 (mkF m 27 #[rv a1, rv mo, rv ky, iv (1 : Int32), .val (.long j1), .second] []) A0 := fun t kont => g127 t (st130 t kont)
  have g135 : Go p e below T130 (mkF m 30 #[rv a1, rv mo, rv ky, iv (1 : Int32), .val (.long j1), .second] [(.long j1), (.ref a1)]) A0 := by
    intro t kont
    refine g134 t ?_
    refine XS.aloadN X130.here hx rfl (hb hby d9_27) rfl rfl ?_
    show Steps p.tables e below (T130.setTop (mkF m 28 #[rv a1, rv mo, rv ky, iv (1 : Int32), .val (.long j1), .second] [(.ref a1)])) _
    refine XS.lload X130.here hx rfl (hb hby d9_28) rfl ?_
    show Steps p.tables e below (T130.setTop (mkF m 30 #[rv a1, rv mo, rv ky, iv (1 : Int32), .val (.long j1), .second] [(.long j1), (.ref a1)])) _
    exact kont
  have y136 : Exa Z h130 a1 "com/example/tenant_data_scope/tenantdatascope/TenantProfile" := (y128.wr W130)
  have y137 : Fld Z h130 a1 "com/example/tenant_data_scope/tenantdatascope/TenantProfile" "version" "J" (.long (0 : Int64)) := ((((F3_.other W105 (Or.inr (slot_ne (Or.inr (hw _ (List.mem_of_getElem? (i := 62) rfl))) (Or.inr (hw _ (List.mem_of_getElem? (i := 48) rfl))) (by decide) (t := .long) (t' := (.object "com/example/tenant_data_scope/tenantdatascope/TenantProfile$Mode")) (by decide) (by decide)))).ext E111).other W122 (Or.inr (slot_ne (Or.inr (hw _ (List.mem_of_getElem? (i := 62) rfl))) (Or.inr (hw _ (List.mem_of_getElem? (i := 58) rfl))) (by decide) (t := .long) (t' := (.object "java/lang/String")) (by decide) (by decide)))).other W130 (Or.inr (slot_ne (Or.inr (hw _ (List.mem_of_getElem? (i := 62) rfl))) (Or.inr (hw _ (List.mem_of_getElem? (i := 60) rfl))) (by decide) (t := .long) (t' := .boolean) (by decide) (by decide))))
  obtain ⟨T138, h138, X138, e138, W138, st138⟩ := putF X130 hx hZ hown (host := "") (Or.inl (hw _ (List.mem_of_getElem? (i := 61) rfl))) Via.refl e130 y137 y136 (Or.inr ⟨(hw _ (List.mem_of_getElem? (i := 62) rfl)), rfl, hnm⟩) (hw _ (List.mem_of_getElem? (i := 39) rfl)) (ty := .long) (by decide) rfl rfl (g := (mkF m 30 #[rv a1, rv mo, rv ky, iv (1 : Int32), .val (.long j1), .second] [(.long j1), (.ref a1)])) rfl rfl (hb hby d9_30)
  have R139 : CHr Z consts_1 s.vm h0 T111.vm h138 := R131.trans (CHr.wr W138 (Safe.exa hZ.alike y136 (by decide) (by decide)) R131.1)
  have O140 := O132.wr W138 G5_
  have y141 : Fld Z h138 a1 "com/example/tenant_data_scope/tenantdatascope/TenantProfile" "version" "J" (.long j1) := y137.same W138
  have N138 := Fr.snoc X138 N130 G5_
  have g142 : Go p e below T138 (mkF m 33 #[rv a1, rv mo, rv ky, iv (1 : Int32), .val (.long j1), .second] []) A0 := fun t kont => g135 t (st138 t kont)
  have K143 : Keep h0 h138 [a1] := ((((((Keep.refl h0 [a1]).wr W105 (Or.inl (List.mem_of_getElem? (i := 0) rfl))).ext E111).wr W122 (Or.inl (List.mem_of_getElem? (i := 0) rfl))).wr W130 (Or.inl (List.mem_of_getElem? (i := 0) rfl))).wr W138 (Or.inl (List.mem_of_getElem? (i := 0) rfl)))
  have y144 : Exa Z h138 a1 "com/example/tenant_data_scope/tenantdatascope/TenantProfile" := (y136.wr W138)
  have y145 : Fld Z h138 a1 "com/example/tenant_data_scope/tenantdatascope/TenantProfile" "mode" "Lcom/example/tenant_data_scope/tenantdatascope/TenantProfile$Mode;" (.ref mo) := ((((y108.ext E111).other W122 (Or.inr (slot_ne (Or.inr (hw _ (List.mem_of_getElem? (i := 48) rfl))) (Or.inr (hw _ (List.mem_of_getElem? (i := 58) rfl))) (by decide) (t := (.object "com/example/tenant_data_scope/tenantdatascope/TenantProfile$Mode")) (t' := (.object "java/lang/String")) (by decide) (by decide)))).other W130 (Or.inr (slot_ne (Or.inr (hw _ (List.mem_of_getElem? (i := 48) rfl))) (Or.inr (hw _ (List.mem_of_getElem? (i := 60) rfl))) (by decide) (t := (.object "com/example/tenant_data_scope/tenantdatascope/TenantProfile$Mode")) (t' := .boolean) (by decide) (by decide)))).other W138 (Or.inr (slot_ne (Or.inr (hw _ (List.mem_of_getElem? (i := 48) rfl))) (Or.inr (hw _ (List.mem_of_getElem? (i := 62) rfl))) (by decide) (t := (.object "com/example/tenant_data_scope/tenantdatascope/TenantProfile$Mode")) (t' := .long) (by decide) (by decide))))
  have y146 : Fld Z h138 a1 "com/example/tenant_data_scope/tenantdatascope/TenantProfile" "dataSourceKey" "Ljava/lang/String;" (.ref ky) := ((y125.other W130 (Or.inr (slot_ne (Or.inr (hw _ (List.mem_of_getElem? (i := 58) rfl))) (Or.inr (hw _ (List.mem_of_getElem? (i := 60) rfl))) (by decide) (t := (.object "java/lang/String")) (t' := .boolean) (by decide) (by decide)))).other W138 (Or.inr (slot_ne (Or.inr (hw _ (List.mem_of_getElem? (i := 58) rfl))) (Or.inr (hw _ (List.mem_of_getElem? (i := 62) rfl))) (by decide) (t := (.object "java/lang/String")) (t' := .long) (by decide) (by decide))))
  have y147 : Fld Z h138 a1 "com/example/tenant_data_scope/tenantdatascope/TenantProfile" "addsTenantCondition" "Z" (.int (1 : Int32)) := (y133.other W138 (Or.inr (slot_ne (Or.inr (hw _ (List.mem_of_getElem? (i := 60) rfl))) (Or.inr (hw _ (List.mem_of_getElem? (i := 62) rfl))) (by decide) (t := .boolean) (t' := .long) (by decide) (by decide))))
  have y148 : Exa Z h138 ky "java/lang/String" := (((y118.wr W122).wr W130).wr W138)
  obtain ⟨fs, hr, hrun, hended, hRW⟩ := X138.leaveW hS (by rw [e138]; exact (Nat.le_trans hk (Nat.le_trans (Nat.le_trans (Keep.of_wr W122).1 (Keep.of_wr W130).1) (Keep.of_wr W138).1))) (v := none) (fun _ => rfl)
  refine ⟨_, _, g142 _ (X138.returnOut hx Bd.returns (hb hby d9_33) hr), hrun, hended, _, _, rfl, ?_, ?_, hRW.1, hRW.2.1, hRW.2.2.1, hRW.2.2.2.mono (by decide) (by decide)⟩
  ·
    show Q_ini1 Z a1 mo ky j1 h0 n0 _ T138.heap _
    rw [e138]
    exact ⟨rfl, N138, K143, y144, y145, y146, y147, y141, y148⟩
  ·
    rw [hh]
    show CHr Z consts_1 s.vm h0 T138.vm T138.heap
    rw [e138]
    exact R139.trans (CHv.at X138 hZ (own_EW hw) R139.1)
theorem d8_0 : decode prog_19_method_3_code 0 = .ok (.new 8, 3) := by decide +kernel
theorem d8_3 : decode prog_19_method_3_code 3 = .ok (.dup, 1) := by decide +kernel
theorem d8_4 : decode prog_19_method_3_code 4 = .ok (.getstatic 42, 3) := by decide +kernel
theorem d8_7 : decode prog_19_method_3_code 7 = .ok (.aload_n 0, 1) := by decide +kernel
theorem d8_8 : decode prog_19_method_3_code 8 = .ok (.iconst 1, 1) := by decide +kernel
theorem d8_9 : decode prog_19_method_3_code 9 = .ok (.lload_n 1, 1) := by decide +kernel
theorem d8_10 : decode prog_19_method_3_code 10 = .ok (.invokespecial 39, 3) := by decide +kernel
theorem pd_6 : parseMethodDescriptor "(Lcom/example/tenant_data_scope/tenantdatascope/TenantProfile$Mode;Ljava/lang/String;ZJ)V" = some ⟨[(.object "com/example/tenant_data_scope/tenantdatascope/TenantProfile$Mode"), (.object "java/lang/String"), .boolean, .long], none⟩ := by decide +kernel
theorem d8_13 : decode prog_19_method_3_code 13 = .ok (.areturn, 1) := by decide +kernel
theorem ef_ded (m : MethodId) (x0 : Addr) (x1 : Int64)  : entryFrame m #[(.ref x0), (.long x1)] 3 = mkF m 0 #[.val (.ref x0), .val (.long x1), .second] [] := by first | (simp [entryFrame, mkF, argsToLocals, Value.category]; done) | rfl
def Q_ded (Z : State) (ky : Addr) (j1 : Int64) (mo : Addr) (h0 : Heap) (n0 : Nat) (v : Option Value) (h : Heap) (L : List Loc) : Prop := ∃ (r : Addr), v = some (.ref r) ∧ Fr n0 L ∧ Keep h0 h [] ∧ h0.size ≤ r ∧ (Exa Z h r "com/example/tenant_data_scope/tenantdatascope/TenantProfile") ∧ (Fld Z h r "com/example/tenant_data_scope/tenantdatascope/TenantProfile" "mode" "Lcom/example/tenant_data_scope/tenantdatascope/TenantProfile$Mode;" (.ref mo)) ∧ (Fld Z h r "com/example/tenant_data_scope/tenantdatascope/TenantProfile" "dataSourceKey" "Ljava/lang/String;" (.ref ky)) ∧ (Fld Z h r "com/example/tenant_data_scope/tenantdatascope/TenantProfile" "addsTenantCondition" "Z" (.int (1 : Int32))) ∧ (Fld Z h r "com/example/tenant_data_scope/tenantdatascope/TenantProfile" "version" "J" (.long j1))
set_option maxRecDepth 65536 in
set_option maxHeartbeats 40000000 in
theorem rm_ded (l : Launch) (Z : State) (a0 : Array Value) (hw : ∀ d ∈ tables_1, d.before a0 Z = true) (ws : List Jvm.Cond) (ky : Addr) (j1 : Int64) (mo : Addr) (h0 : Heap) (n0 : Nat) (O0 : Old Z n0 h0) (S0_ : Sta Z Z.heap "com/example/tenant_data_scope/tenantdatascope/TenantProfile$Mode" "DEDICATED" "Lcom/example/tenant_data_scope/tenantdatascope/TenantProfile$Mode;" (.ref mo)) (E1_ : Exa Z h0 ky "java/lang/String") :
    MetFree l (⟨"com/example/tenant_data_scope/tenantdatascope/TenantProfile", "dedicated", "(Ljava/lang/String;J)Lcom/example/tenant_data_scope/tenantdatascope/TenantProfile;"⟩ : MethodName) (head1 (Jvm.Cond.code (⟨"com/example/tenant_data_scope/tenantdatascope/TenantProfile", "dedicated", "(Ljava/lang/String;J)Lcom/example/tenant_data_scope/tenantdatascope/TenantProfile;"⟩ : MethodName) prog_19_method_3_code 3 (some (.object "com/example/tenant_data_scope/tenantdatascope/TenantProfile")) :: ws) ({ frames := 2, cells := 3, slots := 60, locals := 32 } : Room)) (fun a U => a = #[(.ref ky), (.long j1)] ∧ Z.Warmed39 U.vm ∧ U.heap = h0 ∧ CHv Z consts_1 U.vm h0) (fun _ _ _ _ _ => True) (fun _ U o U' => ∃ v L, o = .returned v ∧ Q_ded Z ky j1 mo h0 n0 v U'.heap L ∧ CHr Z consts_1 U.vm U.heap U'.vm U'.heap ∧ ReturnedEndW U o U' L ({ frames := 2, cells := 3, slots := 60, locals := 32 } : Room).cells ({ frames := 2, cells := 3, slots := 60, locals := 32 } : Room).slots) := by
  refine MetFree.of_bodySF (plainFor_of_name pn_com_example_tenant_data_scope_tenantdatascope_TenantProfile) hisR ?_
  intro p e s m args below meth c s₁ Bd hml0 hP hK
  obtain ⟨rfl, hZ, hh, hC0⟩ := hP
  have hx := Bd.exec
  have hby := Bd.bytes
  have hml : c.maxLocals = 3 := hml0
  have hown : s.vm.findClass "com/example/tenant_data_scope/tenantdatascope/TenantProfile" = some m.cls := findClass_of_methodNamed Bd.named
  have hnm := (name_of_methodNamed Bd.named Bd.method).1
  have X0 : Stand p l e ({ frames := 2, cells := 3, slots := 60, locals := 32 } : Room) (s.setVm s.vm) m #[(.ref ky), (.long j1)] below meth c s₁ [] 0 0 := Stand.of_body Bd
  have e0 : s₁.heap = h0 := by rw [← hh, Bd.state]; rfl
  have N0 := Fr.nil n0
  have hS : s.Since s.vm 0 := (State.WarmedH.refl s).since 0
  have hk : 0 ≤ h0.size := Nat.zero_le _
  have hZ : Z.Warmed39 (s.setVm s.vm).vm := hZ
  have hown : (s.setVm s.vm).vm.findClass "com/example/tenant_data_scope/tenantdatascope/TenantProfile" = some m.cls := hown
  have R0 : CHr Z consts_1 s.vm h0 s.vm h0 := CHr.refl hC0
  have g0 : Go p e below s₁ (mkF m 0 #[rv ky, .val (.long j1), .second] []) (s₁.setTop (entryFrame m #[(.ref ky), (.long j1)] 3)) := fun t kont => castTop (ef_ded m ky j1 ) kont
  generalize s₁.setTop (entryFrame m #[(.ref ky), (.long j1)] 3) = A0 at g0 ⊢
  obtain ⟨T101, h101, X101, e101, E101, A101, D101, -, st101⟩ := newO X0 hx hZ hown (hw _ (List.mem_of_getElem? (i := 38) rfl)) (hw _ (List.mem_of_getElem? (i := 39) rfl)) (hw _ (List.mem_of_getElem? (i := 36) rfl)) e0 (g := (mkF m 0 #[rv ky, .val (.long j1), .second] [])) rfl (hb hby d8_0) (by decide) (by decide)
  obtain ⟨b101, gb101⟩ : ∃ z, z = h0.size := ⟨_, rfl⟩
  rw [← gb101] at A101 D101 st101
  have R102 : CHr Z consts_1 s.vm h0 s.vm h101 := R0.trans (CHr.ext E101 R0.1)
  have O103 := O0.ext E101
  have y104 : Fld Z h101 b101 "com/example/tenant_data_scope/tenantdatascope/TenantProfile" "mode" "Lcom/example/tenant_data_scope/tenantdatascope/TenantProfile$Mode;" .null := D101 (Or.inr (hw _ (List.mem_of_getElem? (i := 48) rfl))) (ty := (.object "com/example/tenant_data_scope/tenantdatascope/TenantProfile$Mode")) (by decide)
  have y105 : Fld Z h101 b101 "com/example/tenant_data_scope/tenantdatascope/TenantProfile" "dataSourceKey" "Ljava/lang/String;" .null := D101 (Or.inr (hw _ (List.mem_of_getElem? (i := 58) rfl))) (ty := (.object "java/lang/String")) (by decide)
  have y106 : Fld Z h101 b101 "com/example/tenant_data_scope/tenantdatascope/TenantProfile" "addsTenantCondition" "Z" (.int (0 : Int32)) := D101 (Or.inr (hw _ (List.mem_of_getElem? (i := 60) rfl))) (ty := .boolean) (by decide)
  have y107 : Fld Z h101 b101 "com/example/tenant_data_scope/tenantdatascope/TenantProfile" "version" "J" (.long (0 : Int64)) := D101 (Or.inr (hw _ (List.mem_of_getElem? (i := 62) rfl))) (ty := .long) (by decide)
  have g108 : Go p e below T101 (mkF m 3 #[rv ky, .val (.long j1), .second] [(.ref b101)]) A0 := fun t kont => g0 t (st101 t kont)
  have g109 : Go p e below T101 (mkF m 4 #[rv ky, .val (.long j1), .second] [(.ref b101), (.ref b101)]) A0 := by
    intro t kont
    refine g108 t ?_
    refine XS.dup X101.here hx rfl (hb hby d8_3) rfl rfl ?_
    show Steps p.tables e below (T101.setTop (mkF m 4 #[rv ky, .val (.long j1), .second] [(.ref b101), (.ref b101)])) _
    exact kont
  have y110 : Sta Z h101 "com/example/tenant_data_scope/tenantdatascope/TenantProfile$Mode" "DEDICATED" "Lcom/example/tenant_data_scope/tenantdatascope/TenantProfile$Mode;" (.ref mo) := S0_.ext O103.2
  obtain ⟨T111, X111, e111, st111⟩ := getS2 X101 hx hZ hown (host := "") (Or.inl (hw _ (List.mem_of_getElem? (i := 40) rfl))) Via.refl e101 y110 (g := (mkF m 4 #[rv ky, .val (.long j1), .second] [(.ref b101), (.ref b101)])) rfl (hb hby d8_4)
  have g112 : Go p e below T111 (mkF m 7 #[rv ky, .val (.long j1), .second] [(.ref mo), (.ref b101), (.ref b101)]) A0 := fun t kont => g109 t (st111 t kont)
  have g113 : Go p e below T111 (mkF m 10 #[rv ky, .val (.long j1), .second] [(.long j1), (.int (1 : Int32)), (.ref ky), (.ref mo), (.ref b101), (.ref b101)]) A0 := by
    intro t kont
    refine g112 t ?_
    refine XS.aloadN X111.here hx rfl (hb hby d8_7) rfl rfl ?_
    show Steps p.tables e below (T111.setTop (mkF m 8 #[rv ky, .val (.long j1), .second] [(.ref ky), (.ref mo), (.ref b101), (.ref b101)])) _
    refine XS.iconst X111.here hx rfl (hb hby d8_8) ?_
    show Steps p.tables e below (T111.setTop (mkF m 9 #[rv ky, .val (.long j1), .second] [(.int (1 : Int32)), (.ref ky), (.ref mo), (.ref b101), (.ref b101)])) _
    refine XS.lloadN X111.here hx rfl (hb hby d8_9) rfl ?_
    show Steps p.tables e below (T111.setTop (mkF m 10 #[rv ky, .val (.long j1), .second] [(.long j1), (.int (1 : Int32)), (.ref ky), (.ref mo), (.ref b101), (.ref b101)])) _
    exact kont
  have ge115 : n0 ≤ b101 := Nat.le_trans (own_old_le O0) (Nat.le_of_eq gb101.symm)
  have y116 : Exa Z h101 ky "java/lang/String" := (E1_.ext E101)
  obtain ⟨_, _, ⟨T114, L114, k114, n114⟩, -, X114, hS114, hg114, ⟨Lc114, hQ114, l114, y114, z114, C114⟩, st114⟩ := X111.specialBackS hx (y := (⟨"com/example/tenant_data_scope/tenantdatascope/TenantProfile", "<init>", "(Lcom/example/tenant_data_scope/tenantdatascope/TenantProfile$Mode;Ljava/lang/String;ZJ)V"⟩ : MethodName)) rfl hown (mvT hZ (hw _ (List.mem_of_getElem? (i := 43) rfl))) (mvT hZ (hw _ (List.mem_of_getElem? (i := 44) rfl))) (mvT hZ (hw _ (List.mem_of_getElem? (i := 45) rfl))) (by decide) (backOfSH (W := 1) (rm_ini1 l Z a0 hw [] b101 mo ky j1 h101 n0 O103 y104 y105 y106 y107 A101 ge115 y116) hZ (hw _ (List.mem_of_getElem? (i := 45) rfl)) (hw _ (List.mem_of_getElem? (i := 36) rfl)) (by decide) (by decide) (own_EW hw) R102.1) (g := (mkF m 10 #[rv ky, .val (.long j1), .second] [(.long j1), (.int (1 : Int32)), (.ref ky), (.ref mo), (.ref b101), (.ref b101)])) rfl (by rw [hml]; rfl) (Steps.refl _) (a := b101) (argsL := [(.ref mo), (.ref ky), (.int (1 : Int32)), (.long j1)]) (rest := [(.ref b101)]) (lenOf pd_6 rfl) rfl (by show 2 * 0 + _ ≤ _; exact Nat.le_of_eq rfl) (hb hby d8_10) (fun _ _ => ⟨rfl, e111, (by decide : 1 + 2 ≤ _), (by decide : 4 + 56 ≤ _)⟩)
  dsimp only [Pt.U, Pt.locs, Pt.cells, Pt.slots] at X114 l114 y114 z114 st114 hQ114 hS114 hg114 C114
  subst l114 y114 z114
  obtain ⟨X114, hS, hZ, hown⟩ := rebS hS (n1 := T111.heap.size) (by rw [e111]; exact (Nat.le_trans hk E101.1)) X114 hS114 hg114 hZ hown
  obtain ⟨rfl, M114, K114, y117, y118, y119, y120, y121, y122⟩ := hQ114
  have N114 := Fr.app N0 M114
  have R123 : CHr Z consts_1 s.vm h0 T114.vm T114.heap := R102.trans C114
  have O124 := O103.keep K114 (allS ge115 all0)
  have g125 : Go p e below T114 (mkF m 13 #[rv ky, .val (.long j1), .second] [(.ref b101)]) A0 := fun t kont => g113 t (st114.trans kont)
  have K126 : Keep h0 T114.heap [] := (((Keep.refl h0 []).ext E101).trans K114 (allS (P := fun x => x ∈ [] ∨ h0.size ≤ x) (Or.inr (Nat.le_of_eq gb101.symm)) all0))
  obtain ⟨fs, hr, hrun, hended, hRW⟩ := X114.leaveW hS (Nat.le_refl _) (v := some (.ref b101)) (fun h => by rw [Bd.returns] at h; cases h)
  refine ⟨_, _, g125 _ (retOut X114 hx Bd.returns rfl (Or.inr (Or.inr (Or.inr (Or.inr ⟨rfl, rfl, rfl⟩)))) (hb hby d8_13) hr), hrun, hended, _, _, rfl, ?_, ?_, hRW.1, hRW.2.1, hRW.2.2.1, hRW.2.2.2.mono (by decide) (by decide)⟩
  ·
    show Q_ded Z ky j1 mo h0 n0 _ T114.heap _
    exact ⟨b101, rfl, N114, K126, (Nat.le_of_eq gb101.symm), y117, y118, y119, y120, y121⟩
  ·
    rw [hh]
    show CHr Z consts_1 s.vm h0 T114.vm T114.heap
    exact R123.trans (CHv.at X114 hZ (own_EW hw) R123.1)
theorem d11_0 : decode prog_19_method_5_code 0 = .ok (.aload_n 0, 1) := by decide +kernel
theorem d11_1 : decode prog_19_method_5_code 1 = .ok (.getfield 7, 3) := by decide +kernel
theorem d11_4 : decode prog_19_method_5_code 4 = .ok (.areturn, 1) := by decide +kernel
theorem ef_mod (m : MethodId) (x0 : Addr)  : entryFrame m #[(.ref x0)] 1 = mkF m 0 #[.val (.ref x0)] [] := by first | (simp [entryFrame, mkF, argsToLocals, Value.category]; done) | rfl
def Q_mod (Z : State) (a1 : Addr) (mo : Addr) (h0 : Heap) (n0 : Nat) (v : Option Value) (h : Heap) (L : List Loc) : Prop := v = some (.ref mo) ∧ Fr n0 L ∧ h = h0
set_option maxRecDepth 65536 in
set_option maxHeartbeats 40000000 in
theorem rm_mod (l : Launch) (Z : State) (a0 : Array Value) (hw : ∀ d ∈ tables_1, d.before a0 Z = true) (ws : List Jvm.Cond) (a1 : Addr) (mo : Addr) (h0 : Heap) (n0 : Nat) (O0 : Old Z n0 h0) (F0_ : Fld Z h0 a1 "com/example/tenant_data_scope/tenantdatascope/TenantProfile" "mode" "Lcom/example/tenant_data_scope/tenantdatascope/TenantProfile$Mode;" (.ref mo)) :
    MetFree l (⟨"com/example/tenant_data_scope/tenantdatascope/TenantProfile", "mode", "()Lcom/example/tenant_data_scope/tenantdatascope/TenantProfile$Mode;"⟩ : MethodName) (head1 (Jvm.Cond.code (⟨"com/example/tenant_data_scope/tenantdatascope/TenantProfile", "mode", "()Lcom/example/tenant_data_scope/tenantdatascope/TenantProfile$Mode;"⟩ : MethodName) prog_19_method_5_code 1 (some (.object "com/example/tenant_data_scope/tenantdatascope/TenantProfile$Mode")) :: ws) ({ frames := 0, cells := 0, slots := 0, locals := 0 } : Room)) (fun a U => a = #[(.ref a1)] ∧ Z.Warmed39 U.vm ∧ U.heap = h0) (fun _ _ _ _ _ => True) (fun _ U o U' => ∃ v L, o = .returned v ∧ Q_mod Z a1 mo h0 n0 v U'.heap L ∧ FrameEnd U o U' L ({ frames := 0, cells := 0, slots := 0, locals := 0 } : Room).cells ({ frames := 0, cells := 0, slots := 0, locals := 0 } : Room).slots) := by
  refine MetFree.of_bodySF (plainFor_of_name pn_com_example_tenant_data_scope_tenantdatascope_TenantProfile) hisR ?_
  intro p e s m args below meth c s₁ Bd hml0 hP hK
  obtain ⟨rfl, hZ, hh⟩ := hP
  have hx := Bd.exec
  have hby := Bd.bytes
  have hml : c.maxLocals = 1 := hml0
  have hown : s.vm.findClass "com/example/tenant_data_scope/tenantdatascope/TenantProfile" = some m.cls := findClass_of_methodNamed Bd.named
  have hnm := (name_of_methodNamed Bd.named Bd.method).1
  have X0 : Stand p l e ({ frames := 0, cells := 0, slots := 0, locals := 0 } : Room) s m #[(.ref a1)] below meth c s₁ [] 0 0 := Stand.of_body Bd
  have e0 : s₁.heap = h0 := by rw [← hh, Bd.state]; rfl
  have N0 := Fr.nil n0
  have g0 : Go p e below s₁ (mkF m 0 #[rv a1] []) (s₁.setTop (entryFrame m #[(.ref a1)] 1)) := fun t kont => castTop (ef_mod m a1 ) kont
  generalize s₁.setTop (entryFrame m #[(.ref a1)] 1) = A0 at g0 ⊢
  have g101 : Go p e below s₁ (mkF m 1 #[rv a1] [(.ref a1)]) A0 := by
    intro t kont
    refine g0 t ?_
    refine XS.aloadN X0.here hx rfl (hb hby d11_0) rfl rfl ?_
    show Steps p.tables e below (s₁.setTop (mkF m 1 #[rv a1] [(.ref a1)])) _
    exact kont
  obtain ⟨T102, X102, e102, st102⟩ := getF X0 hx hZ hown (host := "") (Or.inl (hw _ (List.mem_of_getElem? (i := 47) rfl))) Via.refl e0 F0_ (g := (mkF m 1 #[rv a1] [(.ref a1)])) rfl rfl (hb hby d11_1)
  have g103 : Go p e below T102 (mkF m 4 #[rv a1] [(.ref mo)]) A0 := fun t kont => g101 t (st102 t kont)
  obtain ⟨fs, hr, hrun, hended, hW, hsame⟩ := X102.leave (v := some (.ref mo)) (fun h => by rw [Bd.returns] at h; cases h)
  refine ⟨_, _, g103 _ (retOut X102 hx Bd.returns rfl (Or.inr (Or.inr (Or.inr (Or.inr ⟨rfl, rfl, rfl⟩)))) (hb hby d11_4) hr), hrun, hended, _, _, rfl, ?_, ⟨_, rfl⟩, hW, hsame.mono (by decide) (by decide)⟩
  show Q_mod Z a1 mo h0 n0 _ T102.heap _
  rw [e102]
  exact ⟨rfl, N0, rfl⟩
theorem d12_0 : decode prog_19_method_6_code 0 = .ok (.aload_n 0, 1) := by decide +kernel
theorem d12_1 : decode prog_19_method_6_code 1 = .ok (.getfield 23, 3) := by decide +kernel
theorem d12_4 : decode prog_19_method_6_code 4 = .ok (.areturn, 1) := by decide +kernel
theorem ef_dsk (m : MethodId) (x0 : Addr)  : entryFrame m #[(.ref x0)] 1 = mkF m 0 #[.val (.ref x0)] [] := by first | (simp [entryFrame, mkF, argsToLocals, Value.category]; done) | rfl
def Q_dsk (Z : State) (a1 : Addr) (ky : Addr) (h0 : Heap) (n0 : Nat) (v : Option Value) (h : Heap) (L : List Loc) : Prop := v = some (.ref ky) ∧ Fr n0 L ∧ h = h0
set_option maxRecDepth 65536 in
set_option maxHeartbeats 40000000 in
theorem rm_dsk (l : Launch) (Z : State) (a0 : Array Value) (hw : ∀ d ∈ tables_1, d.before a0 Z = true) (ws : List Jvm.Cond) (a1 : Addr) (ky : Addr) (h0 : Heap) (n0 : Nat) (O0 : Old Z n0 h0) (F0_ : Fld Z h0 a1 "com/example/tenant_data_scope/tenantdatascope/TenantProfile" "dataSourceKey" "Ljava/lang/String;" (.ref ky)) :
    MetFree l (⟨"com/example/tenant_data_scope/tenantdatascope/TenantProfile", "dataSourceKey", "()Ljava/lang/String;"⟩ : MethodName) (head1 (Jvm.Cond.code (⟨"com/example/tenant_data_scope/tenantdatascope/TenantProfile", "dataSourceKey", "()Ljava/lang/String;"⟩ : MethodName) prog_19_method_6_code 1 (some (.object "java/lang/String")) :: ws) ({ frames := 0, cells := 0, slots := 0, locals := 0 } : Room)) (fun a U => a = #[(.ref a1)] ∧ Z.Warmed39 U.vm ∧ U.heap = h0) (fun _ _ _ _ _ => True) (fun _ U o U' => ∃ v L, o = .returned v ∧ Q_dsk Z a1 ky h0 n0 v U'.heap L ∧ FrameEnd U o U' L ({ frames := 0, cells := 0, slots := 0, locals := 0 } : Room).cells ({ frames := 0, cells := 0, slots := 0, locals := 0 } : Room).slots) := by
  refine MetFree.of_bodySF (plainFor_of_name pn_com_example_tenant_data_scope_tenantdatascope_TenantProfile) hisR ?_
  intro p e s m args below meth c s₁ Bd hml0 hP hK
  obtain ⟨rfl, hZ, hh⟩ := hP
  have hx := Bd.exec
  have hby := Bd.bytes
  have hml : c.maxLocals = 1 := hml0
  have hown : s.vm.findClass "com/example/tenant_data_scope/tenantdatascope/TenantProfile" = some m.cls := findClass_of_methodNamed Bd.named
  have hnm := (name_of_methodNamed Bd.named Bd.method).1
  have X0 : Stand p l e ({ frames := 0, cells := 0, slots := 0, locals := 0 } : Room) s m #[(.ref a1)] below meth c s₁ [] 0 0 := Stand.of_body Bd
  have e0 : s₁.heap = h0 := by rw [← hh, Bd.state]; rfl
  have N0 := Fr.nil n0
  have g0 : Go p e below s₁ (mkF m 0 #[rv a1] []) (s₁.setTop (entryFrame m #[(.ref a1)] 1)) := fun t kont => castTop (ef_dsk m a1 ) kont
  generalize s₁.setTop (entryFrame m #[(.ref a1)] 1) = A0 at g0 ⊢
  have g101 : Go p e below s₁ (mkF m 1 #[rv a1] [(.ref a1)]) A0 := by
    intro t kont
    refine g0 t ?_
    refine XS.aloadN X0.here hx rfl (hb hby d12_0) rfl rfl ?_
    show Steps p.tables e below (s₁.setTop (mkF m 1 #[rv a1] [(.ref a1)])) _
    exact kont
  obtain ⟨T102, X102, e102, st102⟩ := getF X0 hx hZ hown (host := "") (Or.inl (hw _ (List.mem_of_getElem? (i := 57) rfl))) Via.refl e0 F0_ (g := (mkF m 1 #[rv a1] [(.ref a1)])) rfl rfl (hb hby d12_1)
  have g103 : Go p e below T102 (mkF m 4 #[rv a1] [(.ref ky)]) A0 := fun t kont => g101 t (st102 t kont)
  obtain ⟨fs, hr, hrun, hended, hW, hsame⟩ := X102.leave (v := some (.ref ky)) (fun h => by rw [Bd.returns] at h; cases h)
  refine ⟨_, _, g103 _ (retOut X102 hx Bd.returns rfl (Or.inr (Or.inr (Or.inr (Or.inr ⟨rfl, rfl, rfl⟩)))) (hb hby d12_4) hr), hrun, hended, _, _, rfl, ?_, ⟨_, rfl⟩, hW, hsame.mono (by decide) (by decide)⟩
  show Q_dsk Z a1 ky h0 n0 _ T102.heap _
  rw [e102]
  exact ⟨rfl, N0, rfl⟩
theorem d14_0 : decode prog_19_method_7_code 0 = .ok (.aload_n 0, 1) := by decide +kernel
theorem d14_1 : decode prog_19_method_7_code 1 = .ok (.getfield 26, 3) := by decide +kernel
theorem d14_4 : decode prog_19_method_7_code 4 = .ok (.ireturn, 1) := by decide +kernel
theorem ef_atc0 (m : MethodId) (x0 : Addr)  : entryFrame m #[(.ref x0)] 1 = mkF m 0 #[.val (.ref x0)] [] := by first | (simp [entryFrame, mkF, argsToLocals, Value.category]; done) | rfl
def Q_atc0 (Z : State) (a1 : Addr) (h0 : Heap) (n0 : Nat) (v : Option Value) (h : Heap) (L : List Loc) : Prop := v = some (.int (0 : Int32)) ∧ Fr n0 L ∧ h = h0
set_option maxRecDepth 65536 in
set_option maxHeartbeats 40000000 in
theorem rm_atc0 (l : Launch) (Z : State) (a0 : Array Value) (hw : ∀ d ∈ tables_1, d.before a0 Z = true) (ws : List Jvm.Cond) (a1 : Addr) (h0 : Heap) (n0 : Nat) (O0 : Old Z n0 h0) (F0_ : Fld Z h0 a1 "com/example/tenant_data_scope/tenantdatascope/TenantProfile" "addsTenantCondition" "Z" (.int (0 : Int32))) :
    MetFree l (⟨"com/example/tenant_data_scope/tenantdatascope/TenantProfile", "addsTenantCondition", "()Z"⟩ : MethodName) (head1 (Jvm.Cond.code (⟨"com/example/tenant_data_scope/tenantdatascope/TenantProfile", "addsTenantCondition", "()Z"⟩ : MethodName) prog_19_method_7_code 1 (some .boolean) :: ws) ({ frames := 0, cells := 0, slots := 0, locals := 0 } : Room)) (fun a U => a = #[(.ref a1)] ∧ Z.Warmed39 U.vm ∧ U.heap = h0) (fun _ _ _ _ _ => True) (fun _ U o U' => ∃ v L, o = .returned v ∧ Q_atc0 Z a1 h0 n0 v U'.heap L ∧ FrameEnd U o U' L ({ frames := 0, cells := 0, slots := 0, locals := 0 } : Room).cells ({ frames := 0, cells := 0, slots := 0, locals := 0 } : Room).slots) := by
  refine MetFree.of_bodySF (plainFor_of_name pn_com_example_tenant_data_scope_tenantdatascope_TenantProfile) hisR ?_
  intro p e s m args below meth c s₁ Bd hml0 hP hK
  obtain ⟨rfl, hZ, hh⟩ := hP
  have hx := Bd.exec
  have hby := Bd.bytes
  have hml : c.maxLocals = 1 := hml0
  have hown : s.vm.findClass "com/example/tenant_data_scope/tenantdatascope/TenantProfile" = some m.cls := findClass_of_methodNamed Bd.named
  have hnm := (name_of_methodNamed Bd.named Bd.method).1
  have X0 : Stand p l e ({ frames := 0, cells := 0, slots := 0, locals := 0 } : Room) s m #[(.ref a1)] below meth c s₁ [] 0 0 := Stand.of_body Bd
  have e0 : s₁.heap = h0 := by rw [← hh, Bd.state]; rfl
  have N0 := Fr.nil n0
  have g0 : Go p e below s₁ (mkF m 0 #[rv a1] []) (s₁.setTop (entryFrame m #[(.ref a1)] 1)) := fun t kont => castTop (ef_atc0 m a1 ) kont
  generalize s₁.setTop (entryFrame m #[(.ref a1)] 1) = A0 at g0 ⊢
  have g101 : Go p e below s₁ (mkF m 1 #[rv a1] [(.ref a1)]) A0 := by
    intro t kont
    refine g0 t ?_
    refine XS.aloadN X0.here hx rfl (hb hby d14_0) rfl rfl ?_
    show Steps p.tables e below (s₁.setTop (mkF m 1 #[rv a1] [(.ref a1)])) _
    exact kont
  obtain ⟨T102, X102, e102, st102⟩ := getF X0 hx hZ hown (host := "") (Or.inl (hw _ (List.mem_of_getElem? (i := 59) rfl))) Via.refl e0 F0_ (g := (mkF m 1 #[rv a1] [(.ref a1)])) rfl rfl (hb hby d14_1)
  have g103 : Go p e below T102 (mkF m 4 #[rv a1] [(.int (0 : Int32))]) A0 := fun t kont => g101 t (st102 t kont)
  obtain ⟨fs, hr, hrun, hended, hW, hsame⟩ := X102.leave (v := some (.int (0 : Int32))) (fun h => by rw [Bd.returns] at h; cases h)
  refine ⟨_, _, g103 _ (retN X102 hx (t := .boolean) Bd.returns (by simp) (hb hby d14_4) hr), hrun, hended, _, _, rfl, ?_, ⟨_, rfl⟩, hW, hsame.mono (by decide) (by decide)⟩
  show Q_atc0 Z a1 h0 n0 _ T102.heap _
  rw [e102]
  exact ⟨rfl, N0, rfl⟩
theorem ef_atc1 (m : MethodId) (x0 : Addr)  : entryFrame m #[(.ref x0)] 1 = mkF m 0 #[.val (.ref x0)] [] := by first | (simp [entryFrame, mkF, argsToLocals, Value.category]; done) | rfl
def Q_atc1 (Z : State) (a1 : Addr) (h0 : Heap) (n0 : Nat) (v : Option Value) (h : Heap) (L : List Loc) : Prop := v = some (.int (1 : Int32)) ∧ Fr n0 L ∧ h = h0
set_option maxRecDepth 65536 in
set_option maxHeartbeats 40000000 in
theorem rm_atc1 (l : Launch) (Z : State) (a0 : Array Value) (hw : ∀ d ∈ tables_1, d.before a0 Z = true) (ws : List Jvm.Cond) (a1 : Addr) (h0 : Heap) (n0 : Nat) (O0 : Old Z n0 h0) (F0_ : Fld Z h0 a1 "com/example/tenant_data_scope/tenantdatascope/TenantProfile" "addsTenantCondition" "Z" (.int (1 : Int32))) :
    MetFree l (⟨"com/example/tenant_data_scope/tenantdatascope/TenantProfile", "addsTenantCondition", "()Z"⟩ : MethodName) (head1 (Jvm.Cond.code (⟨"com/example/tenant_data_scope/tenantdatascope/TenantProfile", "addsTenantCondition", "()Z"⟩ : MethodName) prog_19_method_7_code 1 (some .boolean) :: ws) ({ frames := 0, cells := 0, slots := 0, locals := 0 } : Room)) (fun a U => a = #[(.ref a1)] ∧ Z.Warmed39 U.vm ∧ U.heap = h0) (fun _ _ _ _ _ => True) (fun _ U o U' => ∃ v L, o = .returned v ∧ Q_atc1 Z a1 h0 n0 v U'.heap L ∧ FrameEnd U o U' L ({ frames := 0, cells := 0, slots := 0, locals := 0 } : Room).cells ({ frames := 0, cells := 0, slots := 0, locals := 0 } : Room).slots) := by
  refine MetFree.of_bodySF (plainFor_of_name pn_com_example_tenant_data_scope_tenantdatascope_TenantProfile) hisR ?_
  intro p e s m args below meth c s₁ Bd hml0 hP hK
  obtain ⟨rfl, hZ, hh⟩ := hP
  have hx := Bd.exec
  have hby := Bd.bytes
  have hml : c.maxLocals = 1 := hml0
  have hown : s.vm.findClass "com/example/tenant_data_scope/tenantdatascope/TenantProfile" = some m.cls := findClass_of_methodNamed Bd.named
  have hnm := (name_of_methodNamed Bd.named Bd.method).1
  have X0 : Stand p l e ({ frames := 0, cells := 0, slots := 0, locals := 0 } : Room) s m #[(.ref a1)] below meth c s₁ [] 0 0 := Stand.of_body Bd
  have e0 : s₁.heap = h0 := by rw [← hh, Bd.state]; rfl
  have N0 := Fr.nil n0
  have g0 : Go p e below s₁ (mkF m 0 #[rv a1] []) (s₁.setTop (entryFrame m #[(.ref a1)] 1)) := fun t kont => castTop (ef_atc1 m a1 ) kont
  generalize s₁.setTop (entryFrame m #[(.ref a1)] 1) = A0 at g0 ⊢
  have g101 : Go p e below s₁ (mkF m 1 #[rv a1] [(.ref a1)]) A0 := by
    intro t kont
    refine g0 t ?_
    refine XS.aloadN X0.here hx rfl (hb hby d14_0) rfl rfl ?_
    show Steps p.tables e below (s₁.setTop (mkF m 1 #[rv a1] [(.ref a1)])) _
    exact kont
  obtain ⟨T102, X102, e102, st102⟩ := getF X0 hx hZ hown (host := "") (Or.inl (hw _ (List.mem_of_getElem? (i := 59) rfl))) Via.refl e0 F0_ (g := (mkF m 1 #[rv a1] [(.ref a1)])) rfl rfl (hb hby d14_1)
  have g103 : Go p e below T102 (mkF m 4 #[rv a1] [(.int (1 : Int32))]) A0 := fun t kont => g101 t (st102 t kont)
  obtain ⟨fs, hr, hrun, hended, hW, hsame⟩ := X102.leave (v := some (.int (1 : Int32))) (fun h => by rw [Bd.returns] at h; cases h)
  refine ⟨_, _, g103 _ (retN X102 hx (t := .boolean) Bd.returns (by simp) (hb hby d14_4) hr), hrun, hended, _, _, rfl, ?_, ⟨_, rfl⟩, hW, hsame.mono (by decide) (by decide)⟩
  show Q_atc1 Z a1 h0 n0 _ T102.heap _
  rw [e102]
  exact ⟨rfl, N0, rfl⟩
theorem d15_0 : decode prog_19_method_8_code 0 = .ok (.aload_n 0, 1) := by decide +kernel
theorem d15_1 : decode prog_19_method_8_code 1 = .ok (.getfield 30, 3) := by decide +kernel
theorem d15_4 : decode prog_19_method_8_code 4 = .ok (.lreturn, 1) := by decide +kernel
theorem ef_ver (m : MethodId) (x0 : Addr)  : entryFrame m #[(.ref x0)] 1 = mkF m 0 #[.val (.ref x0)] [] := by first | (simp [entryFrame, mkF, argsToLocals, Value.category]; done) | rfl
def Q_ver (Z : State) (a1 : Addr) (j1 : Int64) (h0 : Heap) (n0 : Nat) (v : Option Value) (h : Heap) (L : List Loc) : Prop := v = some (.long j1) ∧ Fr n0 L ∧ h = h0
set_option maxRecDepth 65536 in
set_option maxHeartbeats 40000000 in
theorem rm_ver (l : Launch) (Z : State) (a0 : Array Value) (hw : ∀ d ∈ tables_1, d.before a0 Z = true) (ws : List Jvm.Cond) (a1 : Addr) (j1 : Int64) (h0 : Heap) (n0 : Nat) (O0 : Old Z n0 h0) (F0_ : Fld Z h0 a1 "com/example/tenant_data_scope/tenantdatascope/TenantProfile" "version" "J" (.long j1)) :
    MetFree l (⟨"com/example/tenant_data_scope/tenantdatascope/TenantProfile", "version", "()J"⟩ : MethodName) (head1 (Jvm.Cond.code (⟨"com/example/tenant_data_scope/tenantdatascope/TenantProfile", "version", "()J"⟩ : MethodName) prog_19_method_8_code 1 (some .long) :: ws) ({ frames := 0, cells := 0, slots := 0, locals := 0 } : Room)) (fun a U => a = #[(.ref a1)] ∧ Z.Warmed39 U.vm ∧ U.heap = h0) (fun _ _ _ _ _ => True) (fun _ U o U' => ∃ v L, o = .returned v ∧ Q_ver Z a1 j1 h0 n0 v U'.heap L ∧ FrameEnd U o U' L ({ frames := 0, cells := 0, slots := 0, locals := 0 } : Room).cells ({ frames := 0, cells := 0, slots := 0, locals := 0 } : Room).slots) := by
  refine MetFree.of_bodySF (plainFor_of_name pn_com_example_tenant_data_scope_tenantdatascope_TenantProfile) hisR ?_
  intro p e s m args below meth c s₁ Bd hml0 hP hK
  obtain ⟨rfl, hZ, hh⟩ := hP
  have hx := Bd.exec
  have hby := Bd.bytes
  have hml : c.maxLocals = 1 := hml0
  have hown : s.vm.findClass "com/example/tenant_data_scope/tenantdatascope/TenantProfile" = some m.cls := findClass_of_methodNamed Bd.named
  have hnm := (name_of_methodNamed Bd.named Bd.method).1
  have X0 : Stand p l e ({ frames := 0, cells := 0, slots := 0, locals := 0 } : Room) s m #[(.ref a1)] below meth c s₁ [] 0 0 := Stand.of_body Bd
  have e0 : s₁.heap = h0 := by rw [← hh, Bd.state]; rfl
  have N0 := Fr.nil n0
  have g0 : Go p e below s₁ (mkF m 0 #[rv a1] []) (s₁.setTop (entryFrame m #[(.ref a1)] 1)) := fun t kont => castTop (ef_ver m a1 ) kont
  generalize s₁.setTop (entryFrame m #[(.ref a1)] 1) = A0 at g0 ⊢
  have g101 : Go p e below s₁ (mkF m 1 #[rv a1] [(.ref a1)]) A0 := by
    intro t kont
    refine g0 t ?_
    refine XS.aloadN X0.here hx rfl (hb hby d15_0) rfl rfl ?_
    show Steps p.tables e below (s₁.setTop (mkF m 1 #[rv a1] [(.ref a1)])) _
    exact kont
  obtain ⟨T102, X102, e102, st102⟩ := getF X0 hx hZ hown (host := "") (Or.inl (hw _ (List.mem_of_getElem? (i := 61) rfl))) Via.refl e0 F0_ (g := (mkF m 1 #[rv a1] [(.ref a1)])) rfl rfl (hb hby d15_1)
  have g103 : Go p e below T102 (mkF m 4 #[rv a1] [(.long j1)]) A0 := fun t kont => g101 t (st102 t kont)
  obtain ⟨fs, hr, hrun, hended, hW, hsame⟩ := X102.leave (v := some (.long j1)) (fun h => by rw [Bd.returns] at h; cases h)
  refine ⟨_, _, g103 _ (retOut X102 hx Bd.returns rfl (Or.inr (Or.inl ⟨rfl, rfl, _, rfl⟩)) (hb hby d15_4) hr), hrun, hended, _, _, rfl, ?_, ⟨_, rfl⟩, hW, hsame.mono (by decide) (by decide)⟩
  show Q_ver Z a1 j1 h0 n0 _ T102.heap _
  rw [e102]
  exact ⟨rfl, N0, rfl⟩
theorem d13_0 : decode jdk_42_method_66_code 0 = .ok (.aload_n 0, 1) := by decide +kernel
theorem d13_1 : decode jdk_42_method_66_code 1 = .ok (.aload_n 1, 1) := by decide +kernel
theorem d13_2 : decode jdk_42_method_66_code 2 = .ok (.if_acmp .ne 5, 3) := by decide +kernel
theorem d13_5 : decode jdk_42_method_66_code 5 = .ok (.iconst 1, 1) := by decide +kernel
theorem d13_6 : decode jdk_42_method_66_code 6 = .ok (.ireturn, 1) := by decide +kernel
theorem ef_eqs (m : MethodId) (x0 : Addr) (x1 : Addr)  : entryFrame m #[(.ref x0), (.ref x1)] 3 = mkF m 0 #[.val (.ref x0), .val (.ref x1), .unset] [] := by first | (simp [entryFrame, mkF, argsToLocals, Value.category]; done) | rfl
def Q_eqs (Z : State) (a1 : Addr) (h0 : Heap) (n0 : Nat) (v : Option Value) (h : Heap) (L : List Loc) : Prop := v = some (.int (1 : Int32)) ∧ Fr n0 L ∧ h = h0
set_option maxRecDepth 65536 in
set_option maxHeartbeats 40000000 in
theorem rm_eqs (l : Launch) (Z : State) (a0 : Array Value) (hw : ∀ d ∈ tables_1, d.before a0 Z = true) (ws : List Jvm.Cond) (a1 : Addr) (h0 : Heap) (n0 : Nat) (O0 : Old Z n0 h0)  :
    MetFree l (⟨"java/lang/String", "equals", "(Ljava/lang/Object;)Z"⟩ : MethodName) (head1 (Jvm.Cond.code (⟨"java/lang/String", "equals", "(Ljava/lang/Object;)Z"⟩ : MethodName) jdk_42_method_66_code 3 (some .boolean) :: ws) ({ frames := 0, cells := 0, slots := 0, locals := 0 } : Room)) (fun a U => a = #[(.ref a1), (.ref a1)] ∧ Z.Warmed39 U.vm ∧ U.heap = h0) (fun _ _ _ _ _ => True) (fun _ U o U' => ∃ v L, o = .returned v ∧ Q_eqs Z a1 h0 n0 v U'.heap L ∧ FrameEnd U o U' L ({ frames := 0, cells := 0, slots := 0, locals := 0 } : Room).cells ({ frames := 0, cells := 0, slots := 0, locals := 0 } : Room).slots) := by
  refine MetFree.of_bodySF (plainFor_of_name pn_java_lang_String) hisR ?_
  intro p e s m args below meth c s₁ Bd hml0 hP hK
  obtain ⟨rfl, hZ, hh⟩ := hP
  have hx := Bd.exec
  have hby := Bd.bytes
  have hml : c.maxLocals = 3 := hml0
  have hown : s.vm.findClass "java/lang/String" = some m.cls := findClass_of_methodNamed Bd.named
  have hnm := (name_of_methodNamed Bd.named Bd.method).1
  have X0 : Stand p l e ({ frames := 0, cells := 0, slots := 0, locals := 0 } : Room) s m #[(.ref a1), (.ref a1)] below meth c s₁ [] 0 0 := Stand.of_body Bd
  have e0 : s₁.heap = h0 := by rw [← hh, Bd.state]; rfl
  have N0 := Fr.nil n0
  have g0 : Go p e below s₁ (mkF m 0 #[rv a1, rv a1, .unset] []) (s₁.setTop (entryFrame m #[(.ref a1), (.ref a1)] 3)) := fun t kont => castTop (ef_eqs m a1 a1 ) kont
  generalize s₁.setTop (entryFrame m #[(.ref a1), (.ref a1)] 3) = A0 at g0 ⊢
  have g101 : Go p e below s₁ (mkF m 6 #[rv a1, rv a1, .unset] [(.int (1 : Int32))]) A0 := by
    intro t kont
    refine g0 t ?_
    refine XS.aloadN X0.here hx rfl (hb hby d13_0) rfl rfl ?_
    show Steps p.tables e below (s₁.setTop (mkF m 1 #[rv a1, rv a1, .unset] [(.ref a1)])) _
    refine XS.aloadN X0.here hx rfl (hb hby d13_1) rfl rfl ?_
    show Steps p.tables e below (s₁.setTop (mkF m 2 #[rv a1, rv a1, .unset] [(.ref a1), (.ref a1)])) _
    refine Jvm.RoadKit.acmp (g := (mkF m 2 #[rv a1, rv a1, .unset] [(.ref a1), (.ref a1)])) X0 hx rfl rfl rfl (pc0 := 2) (pc' := 5) (same := true) rfl (hb hby d13_2) rfl (decide_eq_true rfl) (by decide) (by decide) ?_
    show Steps p.tables e below (s₁.setTop (mkF m 5 #[rv a1, rv a1, .unset] [])) _
    refine XS.iconst X0.here hx rfl (hb hby d13_5) ?_
    show Steps p.tables e below (s₁.setTop (mkF m 6 #[rv a1, rv a1, .unset] [(.int (1 : Int32))])) _
    exact kont
  obtain ⟨fs, hr, hrun, hended, hW, hsame⟩ := X0.leave (v := some (.int (1 : Int32))) (fun h => by rw [Bd.returns] at h; cases h)
  refine ⟨_, _, g101 _ (retN X0 hx (t := .boolean) Bd.returns (by simp) (hb hby d13_6) hr), hrun, hended, _, _, rfl, ?_, ⟨_, rfl⟩, hW, hsame.mono (by decide) (by decide)⟩
  show Q_eqs Z a1 h0 n0 _ s₁.heap _
  rw [e0]
  exact ⟨rfl, N0, rfl⟩
theorem d16_0 : decode prog_19_method_4_code 0 = .ok (.aload_n 0, 1) := by decide +kernel
theorem d16_1 : decode prog_19_method_4_code 1 = .ok (.getfield 7, 3) := by decide +kernel
theorem d16_4 : decode prog_19_method_4_code 4 = .ok (.getstatic 34, 3) := by decide +kernel
theorem d16_7 : decode prog_19_method_4_code 7 = .ok (.if_acmp .ne 20, 3) := by decide +kernel
theorem d16_27 : decode prog_19_method_4_code 27 = .ok (.new 8, 3) := by decide +kernel
theorem d16_30 : decode prog_19_method_4_code 30 = .ok (.dup, 1) := by decide +kernel
theorem d16_31 : decode prog_19_method_4_code 31 = .ok (.aload_n 0, 1) := by decide +kernel
theorem d16_32 : decode prog_19_method_4_code 32 = .ok (.getfield 7, 3) := by decide +kernel
theorem d16_35 : decode prog_19_method_4_code 35 = .ok (.aload_n 0, 1) := by decide +kernel
theorem d16_36 : decode prog_19_method_4_code 36 = .ok (.getfield 23, 3) := by decide +kernel
theorem d16_39 : decode prog_19_method_4_code 39 = .ok (.iconst 0, 1) := by decide +kernel
theorem d16_40 : decode prog_19_method_4_code 40 = .ok (.aload_n 0, 1) := by decide +kernel
theorem d16_41 : decode prog_19_method_4_code 41 = .ok (.getfield 30, 3) := by decide +kernel
theorem d16_44 : decode prog_19_method_4_code 44 = .ok (.invokespecial 39, 3) := by decide +kernel
theorem d16_47 : decode prog_19_method_4_code 47 = .ok (.areturn, 1) := by decide +kernel
theorem ef_wtc (m : MethodId) (x0 : Addr)  : entryFrame m #[(.ref x0)] 1 = mkF m 0 #[.val (.ref x0)] [] := by first | (simp [entryFrame, mkF, argsToLocals, Value.category]; done) | rfl
def Q_wtc (Z : State) (a1 : Addr) (mo : Addr) (ky : Addr) (j1 : Int64) (sh : Addr) (h0 : Heap) (n0 : Nat) (v : Option Value) (h : Heap) (L : List Loc) : Prop := ∃ (r : Addr), v = some (.ref r) ∧ Fr n0 L ∧ Keep h0 h [] ∧ h0.size ≤ r ∧ (Exa Z h r "com/example/tenant_data_scope/tenantdatascope/TenantProfile") ∧ (Fld Z h r "com/example/tenant_data_scope/tenantdatascope/TenantProfile" "mode" "Lcom/example/tenant_data_scope/tenantdatascope/TenantProfile$Mode;" (.ref mo)) ∧ (Fld Z h r "com/example/tenant_data_scope/tenantdatascope/TenantProfile" "dataSourceKey" "Ljava/lang/String;" (.ref ky)) ∧ (Fld Z h r "com/example/tenant_data_scope/tenantdatascope/TenantProfile" "addsTenantCondition" "Z" (.int (0 : Int32))) ∧ (Fld Z h r "com/example/tenant_data_scope/tenantdatascope/TenantProfile" "version" "J" (.long j1))
set_option maxRecDepth 65536 in
set_option maxHeartbeats 40000000 in
theorem rm_wtc (l : Launch) (Z : State) (a0 : Array Value) (hw : ∀ d ∈ tables_1, d.before a0 Z = true) (ws : List Jvm.Cond) (a1 : Addr) (mo : Addr) (ky : Addr) (j1 : Int64) (sh : Addr) (h0 : Heap) (n0 : Nat) (O0 : Old Z n0 h0) (E0_ : Exa Z h0 a1 "com/example/tenant_data_scope/tenantdatascope/TenantProfile") (F1_ : Fld Z h0 a1 "com/example/tenant_data_scope/tenantdatascope/TenantProfile" "mode" "Lcom/example/tenant_data_scope/tenantdatascope/TenantProfile$Mode;" (.ref mo)) (F2_ : Fld Z h0 a1 "com/example/tenant_data_scope/tenantdatascope/TenantProfile" "dataSourceKey" "Ljava/lang/String;" (.ref ky)) (F3_ : Fld Z h0 a1 "com/example/tenant_data_scope/tenantdatascope/TenantProfile" "version" "J" (.long j1)) (S4_ : Sta Z Z.heap "com/example/tenant_data_scope/tenantdatascope/TenantProfile$Mode" "SHARED" "Lcom/example/tenant_data_scope/tenantdatascope/TenantProfile$Mode;" (.ref sh)) (NE5_ : ¬ (mo = sh)) (E6_ : Exa Z h0 ky "java/lang/String") :
    MetFree l (⟨"com/example/tenant_data_scope/tenantdatascope/TenantProfile", "withoutTenantCondition", "()Lcom/example/tenant_data_scope/tenantdatascope/TenantProfile;"⟩ : MethodName) (head1 (Jvm.Cond.code (⟨"com/example/tenant_data_scope/tenantdatascope/TenantProfile", "withoutTenantCondition", "()Lcom/example/tenant_data_scope/tenantdatascope/TenantProfile;"⟩ : MethodName) prog_19_method_4_code 1 (some (.object "com/example/tenant_data_scope/tenantdatascope/TenantProfile")) :: ws) ({ frames := 2, cells := 3, slots := 60, locals := 32 } : Room)) (fun a U => a = #[(.ref a1)] ∧ Z.Warmed39 U.vm ∧ U.heap = h0 ∧ CHv Z consts_1 U.vm h0) (fun _ _ _ _ _ => True) (fun _ U o U' => ∃ v L, o = .returned v ∧ Q_wtc Z a1 mo ky j1 sh h0 n0 v U'.heap L ∧ CHr Z consts_1 U.vm U.heap U'.vm U'.heap ∧ ReturnedEndW U o U' L ({ frames := 2, cells := 3, slots := 60, locals := 32 } : Room).cells ({ frames := 2, cells := 3, slots := 60, locals := 32 } : Room).slots) := by
  refine MetFree.of_bodySF (plainFor_of_name pn_com_example_tenant_data_scope_tenantdatascope_TenantProfile) hisR ?_
  intro p e s m args below meth c s₁ Bd hml0 hP hK
  obtain ⟨rfl, hZ, hh, hC0⟩ := hP
  have hx := Bd.exec
  have hby := Bd.bytes
  have hml : c.maxLocals = 1 := hml0
  have hown : s.vm.findClass "com/example/tenant_data_scope/tenantdatascope/TenantProfile" = some m.cls := findClass_of_methodNamed Bd.named
  have hnm := (name_of_methodNamed Bd.named Bd.method).1
  have X0 : Stand p l e ({ frames := 2, cells := 3, slots := 60, locals := 32 } : Room) (s.setVm s.vm) m #[(.ref a1)] below meth c s₁ [] 0 0 := Stand.of_body Bd
  have e0 : s₁.heap = h0 := by rw [← hh, Bd.state]; rfl
  have N0 := Fr.nil n0
  have hS : s.Since s.vm 0 := (State.WarmedH.refl s).since 0
  have hk : 0 ≤ h0.size := Nat.zero_le _
  have hZ : Z.Warmed39 (s.setVm s.vm).vm := hZ
  have hown : (s.setVm s.vm).vm.findClass "com/example/tenant_data_scope/tenantdatascope/TenantProfile" = some m.cls := hown
  have R0 : CHr Z consts_1 s.vm h0 s.vm h0 := CHr.refl hC0
  have g0 : Go p e below s₁ (mkF m 0 #[rv a1] []) (s₁.setTop (entryFrame m #[(.ref a1)] 1)) := fun t kont => castTop (ef_wtc m a1 ) kont
  generalize s₁.setTop (entryFrame m #[(.ref a1)] 1) = A0 at g0 ⊢
  have g101 : Go p e below s₁ (mkF m 1 #[rv a1] [(.ref a1)]) A0 := by
    intro t kont
    refine g0 t ?_
    refine XS.aloadN X0.here hx rfl (hb hby d16_0) rfl rfl ?_
    show Steps p.tables e below (s₁.setTop (mkF m 1 #[rv a1] [(.ref a1)])) _
    exact kont
  obtain ⟨T102, X102, e102, st102⟩ := getF X0 hx hZ hown (host := "") (Or.inl (hw _ (List.mem_of_getElem? (i := 47) rfl))) Via.refl e0 F1_ (g := (mkF m 1 #[rv a1] [(.ref a1)])) rfl rfl (hb hby d16_1)
  have g103 : Go p e below T102 (mkF m 4 #[rv a1] [(.ref mo)]) A0 := fun t kont => g101 t (st102 t kont)
  have y104 : Sta Z h0 "com/example/tenant_data_scope/tenantdatascope/TenantProfile$Mode" "SHARED" "Lcom/example/tenant_data_scope/tenantdatascope/TenantProfile$Mode;" (.ref sh) := S4_.ext O0.2
  obtain ⟨T105, X105, e105, st105⟩ := getS2 X102 hx hZ hown (host := "") (Or.inl (hw _ (List.mem_of_getElem? (i := 94) rfl))) Via.refl e102 y104 (g := (mkF m 4 #[rv a1] [(.ref mo)])) rfl (hb hby d16_4)
  have g106 : Go p e below T105 (mkF m 7 #[rv a1] [(.ref sh), (.ref mo)]) A0 := fun t kont => g103 t (st105 t kont)
  have g107 : Go p e below T105 (mkF m 27 #[rv a1] []) A0 := by
    intro t kont
    refine g106 t ?_
    refine Jvm.RoadKit.acmp (g := (mkF m 7 #[rv a1] [(.ref sh), (.ref mo)])) X105 hx rfl rfl rfl (pc0 := 7) (pc' := 27) (same := false) rfl (hb hby d16_7) rfl (decide_eq_false fun q => NE5_ (Value.ref.inj q)) (by decide) (by decide) ?_
    show Steps p.tables e below (T105.setTop (mkF m 27 #[rv a1] [])) _
    exact kont
  obtain ⟨T108, h108, X108, e108, E108, A108, D108, -, st108⟩ := newO X105 hx hZ hown (hw _ (List.mem_of_getElem? (i := 38) rfl)) (hw _ (List.mem_of_getElem? (i := 39) rfl)) (hw _ (List.mem_of_getElem? (i := 36) rfl)) e105 (g := (mkF m 27 #[rv a1] [])) rfl (hb hby d16_27) (by decide) (by decide)
  obtain ⟨b108, gb108⟩ : ∃ z, z = h0.size := ⟨_, rfl⟩
  rw [← gb108] at A108 D108 st108
  have R109 : CHr Z consts_1 s.vm h0 s.vm h108 := R0.trans (CHr.ext E108 R0.1)
  have O110 := O0.ext E108
  have y111 : Fld Z h108 b108 "com/example/tenant_data_scope/tenantdatascope/TenantProfile" "mode" "Lcom/example/tenant_data_scope/tenantdatascope/TenantProfile$Mode;" .null := D108 (Or.inr (hw _ (List.mem_of_getElem? (i := 48) rfl))) (ty := (.object "com/example/tenant_data_scope/tenantdatascope/TenantProfile$Mode")) (by decide)
  have y112 : Fld Z h108 b108 "com/example/tenant_data_scope/tenantdatascope/TenantProfile" "dataSourceKey" "Ljava/lang/String;" .null := D108 (Or.inr (hw _ (List.mem_of_getElem? (i := 58) rfl))) (ty := (.object "java/lang/String")) (by decide)
  have y113 : Fld Z h108 b108 "com/example/tenant_data_scope/tenantdatascope/TenantProfile" "addsTenantCondition" "Z" (.int (0 : Int32)) := D108 (Or.inr (hw _ (List.mem_of_getElem? (i := 60) rfl))) (ty := .boolean) (by decide)
  have y114 : Fld Z h108 b108 "com/example/tenant_data_scope/tenantdatascope/TenantProfile" "version" "J" (.long (0 : Int64)) := D108 (Or.inr (hw _ (List.mem_of_getElem? (i := 62) rfl))) (ty := .long) (by decide)
  have g115 : Go p e below T108 (mkF m 30 #[rv a1] [(.ref b108)]) A0 := fun t kont => g107 t (st108 t kont)
  have g116 : Go p e below T108 (mkF m 32 #[rv a1] [(.ref a1), (.ref b108), (.ref b108)]) A0 := by
    intro t kont
    refine g115 t ?_
    refine XS.dup X108.here hx rfl (hb hby d16_30) rfl rfl ?_
    show Steps p.tables e below (T108.setTop (mkF m 31 #[rv a1] [(.ref b108), (.ref b108)])) _
    refine XS.aloadN X108.here hx rfl (hb hby d16_31) rfl rfl ?_
    show Steps p.tables e below (T108.setTop (mkF m 32 #[rv a1] [(.ref a1), (.ref b108), (.ref b108)])) _
    exact kont
  have y117 : Fld Z h108 a1 "com/example/tenant_data_scope/tenantdatascope/TenantProfile" "mode" "Lcom/example/tenant_data_scope/tenantdatascope/TenantProfile$Mode;" (.ref mo) := (F1_.ext E108)
  obtain ⟨T118, X118, e118, st118⟩ := getF X108 hx hZ hown (host := "") (Or.inl (hw _ (List.mem_of_getElem? (i := 47) rfl))) Via.refl e108 y117 (g := (mkF m 32 #[rv a1] [(.ref a1), (.ref b108), (.ref b108)])) rfl rfl (hb hby d16_32)
  have g119 : Go p e below T118 (mkF m 35 #[rv a1] [(.ref mo), (.ref b108), (.ref b108)]) A0 := fun t kont => g116 t (st118 t kont)
  have g120 : Go p e below T118 (mkF m 36 #[rv a1] [(.ref a1), (.ref mo), (.ref b108), (.ref b108)]) A0 := by
    intro t kont
    refine g119 t ?_
    refine XS.aloadN X118.here hx rfl (hb hby d16_35) rfl rfl ?_
    show Steps p.tables e below (T118.setTop (mkF m 36 #[rv a1] [(.ref a1), (.ref mo), (.ref b108), (.ref b108)])) _
    exact kont
  have y121 : Fld Z h108 a1 "com/example/tenant_data_scope/tenantdatascope/TenantProfile" "dataSourceKey" "Ljava/lang/String;" (.ref ky) := (F2_.ext E108)
  obtain ⟨T122, X122, e122, st122⟩ := getF X118 hx hZ hown (host := "") (Or.inl (hw _ (List.mem_of_getElem? (i := 57) rfl))) Via.refl e118 y121 (g := (mkF m 36 #[rv a1] [(.ref a1), (.ref mo), (.ref b108), (.ref b108)])) rfl rfl (hb hby d16_36)
  have g123 : Go p e below T122 (mkF m 39 #[rv a1] [(.ref ky), (.ref mo), (.ref b108), (.ref b108)]) A0 := fun t kont => g120 t (st122 t kont)
  have g124 : Go p e below T122 (mkF m 41 #[rv a1] [(.ref a1), (.int (0 : Int32)), (.ref ky), (.ref mo), (.ref b108), (.ref b108)]) A0 := by
    intro t kont
    refine g123 t ?_
    refine XS.iconst X122.here hx rfl (hb hby d16_39) ?_
    show Steps p.tables e below (T122.setTop (mkF m 40 #[rv a1] [(.int (0 : Int32)), (.ref ky), (.ref mo), (.ref b108), (.ref b108)])) _
    refine XS.aloadN X122.here hx rfl (hb hby d16_40) rfl rfl ?_
    show Steps p.tables e below (T122.setTop (mkF m 41 #[rv a1] [(.ref a1), (.int (0 : Int32)), (.ref ky), (.ref mo), (.ref b108), (.ref b108)])) _
    exact kont
  have y125 : Fld Z h108 a1 "com/example/tenant_data_scope/tenantdatascope/TenantProfile" "version" "J" (.long j1) := (F3_.ext E108)
  obtain ⟨T126, X126, e126, st126⟩ := getF X122 hx hZ hown (host := "") (Or.inl (hw _ (List.mem_of_getElem? (i := 61) rfl))) Via.refl e122 y125 (g := (mkF m 41 #[rv a1] [(.ref a1), (.int (0 : Int32)), (.ref ky), (.ref mo), (.ref b108), (.ref b108)])) rfl rfl (hb hby d16_41)
  have g127 : Go p e below T126 (mkF m 44 #[rv a1] [(.long j1), (.int (0 : Int32)), (.ref ky), (.ref mo), (.ref b108), (.ref b108)]) A0 := fun t kont => g124 t (st126 t kont)
  have ge129 : n0 ≤ b108 := Nat.le_trans (own_old_le O0) (Nat.le_of_eq gb108.symm)
  have y130 : Exa Z h108 ky "java/lang/String" := (E6_.ext E108)
  obtain ⟨_, _, ⟨T128, L128, k128, n128⟩, -, X128, hS128, hg128, ⟨Lc128, hQ128, l128, y128, z128, C128⟩, st128⟩ := X126.specialBackS hx (y := (⟨"com/example/tenant_data_scope/tenantdatascope/TenantProfile", "<init>", "(Lcom/example/tenant_data_scope/tenantdatascope/TenantProfile$Mode;Ljava/lang/String;ZJ)V"⟩ : MethodName)) rfl hown (mvT hZ (hw _ (List.mem_of_getElem? (i := 43) rfl))) (mvT hZ (hw _ (List.mem_of_getElem? (i := 44) rfl))) (mvT hZ (hw _ (List.mem_of_getElem? (i := 45) rfl))) (by decide) (backOfSH (W := 1) (rm_ini0 l Z a0 hw [] b108 mo ky j1 h108 n0 O110 y111 y112 y113 y114 A108 ge129 y130) hZ (hw _ (List.mem_of_getElem? (i := 45) rfl)) (hw _ (List.mem_of_getElem? (i := 36) rfl)) (by decide) (by decide) (own_EW hw) R109.1) (g := (mkF m 44 #[rv a1] [(.long j1), (.int (0 : Int32)), (.ref ky), (.ref mo), (.ref b108), (.ref b108)])) rfl (by rw [hml]; rfl) (Steps.refl _) (a := b108) (argsL := [(.ref mo), (.ref ky), (.int (0 : Int32)), (.long j1)]) (rest := [(.ref b108)]) (lenOf pd_6 rfl) rfl (by show 2 * 0 + _ ≤ _; exact Nat.le_of_eq rfl) (hb hby d16_44) (fun _ _ => ⟨rfl, e126, (by decide : 1 + 2 ≤ _), (by decide : 4 + 56 ≤ _)⟩)
  dsimp only [Pt.U, Pt.locs, Pt.cells, Pt.slots] at X128 l128 y128 z128 st128 hQ128 hS128 hg128 C128
  subst l128 y128 z128
  obtain ⟨X128, hS, hZ, hown⟩ := rebS hS (n1 := T126.heap.size) (by rw [e126]; exact (Nat.le_trans hk E108.1)) X128 hS128 hg128 hZ hown
  obtain ⟨rfl, M128, K128, y131, y132, y133, y134, y135, y136⟩ := hQ128
  have N128 := Fr.app N0 M128
  have R137 : CHr Z consts_1 s.vm h0 T128.vm T128.heap := R109.trans C128
  have O138 := O110.keep K128 (allS ge129 all0)
  have g139 : Go p e below T128 (mkF m 47 #[rv a1] [(.ref b108)]) A0 := fun t kont => g127 t (st128.trans kont)
  have K140 : Keep h0 T128.heap [] := (((Keep.refl h0 []).ext E108).trans K128 (allS (P := fun x => x ∈ [] ∨ h0.size ≤ x) (Or.inr (Nat.le_of_eq gb108.symm)) all0))
  obtain ⟨fs, hr, hrun, hended, hRW⟩ := X128.leaveW hS (Nat.le_refl _) (v := some (.ref b108)) (fun h => by rw [Bd.returns] at h; cases h)
  refine ⟨_, _, g139 _ (retOut X128 hx Bd.returns rfl (Or.inr (Or.inr (Or.inr (Or.inr ⟨rfl, rfl, rfl⟩)))) (hb hby d16_47) hr), hrun, hended, _, _, rfl, ?_, ?_, hRW.1, hRW.2.1, hRW.2.2.1, hRW.2.2.2.mono (by decide) (by decide)⟩
  ·
    show Q_wtc Z a1 mo ky j1 sh h0 n0 _ T128.heap _
    exact ⟨b108, rfl, N128, K140, (Nat.le_of_eq gb108.symm), y131, y132, y133, y134, y135⟩
  ·
    rw [hh]
    show CHr Z consts_1 s.vm h0 T128.vm T128.heap
    exact R137.trans (CHv.at X128 hZ (own_EW hw) R137.1)
theorem pd_7 : parseMethodDescriptor "(II)Ljava/lang/String;" = some ⟨[.int, .int], some (.object "java/lang/String")⟩ := by decide +kernel
theorem pd_8 : parseMethodDescriptor "(Ljava/lang/String;J)Lcom/example/tenant_data_scope/tenantdatascope/TenantProfile;" = some ⟨[(.object "java/lang/String"), .long], some (.object "com/example/tenant_data_scope/tenantdatascope/TenantProfile")⟩ := by decide +kernel
theorem pd_9 : parseMethodDescriptor "()Lcom/example/tenant_data_scope/tenantdatascope/TenantProfile$Mode;" = some ⟨[], some (.object "com/example/tenant_data_scope/tenantdatascope/TenantProfile$Mode")⟩ := by decide +kernel
theorem pd_10 : parseMethodDescriptor "()Ljava/lang/String;" = some ⟨[], some (.object "java/lang/String")⟩ := by decide +kernel
theorem pd_11 : parseMethodDescriptor "(Ljava/lang/Object;)Z" = some ⟨[(.object "java/lang/Object")], some .boolean⟩ := by decide +kernel
theorem pd_12 : parseMethodDescriptor "()Z" = some ⟨[], some .boolean⟩ := by decide +kernel
theorem pd_13 : parseMethodDescriptor "()J" = some ⟨[], some .long⟩ := by decide +kernel
theorem pd_14 : parseMethodDescriptor "()Lcom/example/tenant_data_scope/tenantdatascope/TenantProfile;" = some ⟨[], some (.object "com/example/tenant_data_scope/tenantdatascope/TenantProfile")⟩ := by decide +kernel
theorem ef_law (m : MethodId) (x0 : Int32) (x1 : Int32) (x2 : Int64)  : entryFrame m #[(.int x0), (.int x1), (.long x2)] maxLocals = mkF m 0 #[.val (.int x0), .val (.int x1), .val (.long x2), .second, .unset, .unset, .unset, .unset] [] := by first | (simp [entryFrame, mkF, argsToLocals, Value.category, maxLocals]; done) | rfl
def Q_law (Z : State) (p0 : Int32) (p1 : Int32) (p2 : Int64) (w_DEDICATED : Addr) (w_SHARED : Addr) (i_COMPACT_STRINGS : Int32) (h0 : Heap) (n0 : Nat) (v : Option Value) (h : Heap) (L : List Loc) : Prop := v = some (.int (1 : Int32)) ∧ Fr n0 L
set_option maxRecDepth 65536 in
set_option maxHeartbeats 40000000 in
theorem rm_law (l : Launch) (Z : State) (a0 : Array Value) (hw : ∀ d ∈ tables_1, d.before a0 Z = true) (ws : List Jvm.Cond) (p0 : Int32) (p1 : Int32) (p2 : Int64) (w_DEDICATED : Addr) (w_SHARED : Addr) (i_COMPACT_STRINGS : Int32) (h0 : Heap) (n0 : Nat) (O0 : Old Z n0 h0) (S0_ : Sta Z Z.heap "java/lang/String" "COMPACT_STRINGS" "Z" (.int i_COMPACT_STRINGS)) (hcs : ¬ (i_COMPACT_STRINGS = (0 : Int32))) (S2_ : Sta Z Z.heap "com/example/tenant_data_scope/tenantdatascope/TenantProfile$Mode" "DEDICATED" "Lcom/example/tenant_data_scope/tenantdatascope/TenantProfile$Mode;" (.ref w_DEDICATED)) (S3_ : Sta Z Z.heap "com/example/tenant_data_scope/tenantdatascope/TenantProfile$Mode" "SHARED" "Lcom/example/tenant_data_scope/tenantdatascope/TenantProfile$Mode;" (.ref w_SHARED)) (ZE4_ : Exa Z Z.heap w_DEDICATED "com/example/tenant_data_scope/tenantdatascope/TenantProfile$Mode") (ZE5_ : Exa Z Z.heap w_SHARED "com/example/tenant_data_scope/tenantdatascope/TenantProfile$Mode") (NE6_ : ¬ (w_DEDICATED = w_SHARED)) :
    MetFree l x (head1 (Jvm.Cond.code x code maxLocals ret :: ws) room_1) (fun a U => a = #[(.int p0), (.int p1), (.long p2)] ∧ Z.Warmed39 U.vm ∧ U.heap = h0 ∧ CHv Z consts_1 U.vm h0) (fun _ _ _ _ _ => True) (fun _ U o U' => ∃ v L, o = .returned v ∧ Q_law Z p0 p1 p2 w_DEDICATED w_SHARED i_COMPACT_STRINGS h0 n0 v U'.heap L ∧ CHr Z consts_1 U.vm U.heap U'.vm U'.heap ∧ ReturnedEndW U o U' L room_1.cells room_1.slots) := by
  refine MetFree.of_bodySF (plainFor_of_name pn_com_example_tenant_data_scope_tenantdatascope_TenantProfileDedicatedPinLaw) hisR ?_
  intro p e s m args below meth c s₁ Bd hml0 hP hK
  obtain ⟨rfl, hZ, hh, hC0⟩ := hP
  have hx := Bd.exec
  have hby := Bd.bytes
  have hml : c.maxLocals = 8 := hml0
  have hown : s.vm.findClass "com/example/tenant_data_scope/tenantdatascope/TenantProfileDedicatedPinLaw" = some m.cls := findClass_of_methodNamed Bd.named
  have hnm := (name_of_methodNamed Bd.named Bd.method).1
  have X0 : Stand p l e room_1 (s.setVm s.vm) m #[(.int p0), (.int p1), (.long p2)] below meth c s₁ [] 0 0 := Stand.of_body Bd
  have e0 : s₁.heap = h0 := by rw [← hh, Bd.state]; rfl
  have N0 := Fr.nil n0
  have hS : s.Since s.vm 0 := (State.WarmedH.refl s).since 0
  have hk : 0 ≤ h0.size := Nat.zero_le _
  have hZ : Z.Warmed39 (s.setVm s.vm).vm := hZ
  have hown : (s.setVm s.vm).vm.findClass "com/example/tenant_data_scope/tenantdatascope/TenantProfileDedicatedPinLaw" = some m.cls := hown
  have R0 : CHr Z consts_1 s.vm h0 s.vm h0 := CHr.refl hC0
  have g0 : Go p e below s₁ (mkF m 0 #[iv p0, iv p1, .val (.long p2), .second, .unset, .unset, .unset, .unset] []) (s₁.setTop (entryFrame m #[(.int p0), (.int p1), (.long p2)] maxLocals)) := fun t kont => castTop (ef_law m p0 p1 p2 ) kont
  generalize s₁.setTop (entryFrame m #[(.int p0), (.int p1), (.long p2)] maxLocals) = A0 at g0 ⊢
  have g101 : Go p e below s₁ (mkF m 4 #[iv p0, iv p1, .val (.long p2), .second, .unset, .unset, .unset, .unset] [(.int (p1 &&& (3 : Int32))), (.int p0)]) A0 := by
    intro t kont
    refine g0 t ?_
    refine XS.iloadN X0.here hx rfl (hb hby at_0) rfl ?_
    show Steps p.tables e below (s₁.setTop (mkF m 1 #[iv p0, iv p1, .val (.long p2), .second, .unset, .unset, .unset, .unset] [(.int p0)])) _
    refine XS.iloadN X0.here hx rfl (hb hby at_1) rfl ?_
    show Steps p.tables e below (s₁.setTop (mkF m 2 #[iv p0, iv p1, .val (.long p2), .second, .unset, .unset, .unset, .unset] [(.int p1), (.int p0)])) _
    refine XS.iconst X0.here hx rfl (hb hby at_2) ?_
    show Steps p.tables e below (s₁.setTop (mkF m 3 #[iv p0, iv p1, .val (.long p2), .second, .unset, .unset, .unset, .unset] [(.int (3 : Int32)), (.int p1), (.int p0)])) _
    refine XS.iand X0.here hx rfl (hb hby at_3) rfl ?_
    show Steps p.tables e below (s₁.setTop (mkF m 4 #[iv p0, iv p1, .val (.long p2), .second, .unset, .unset, .unset, .unset] [(.int (p1 &&& (3 : Int32))), (.int p0)])) _
    exact kont
  obtain ⟨_, _, ⟨T102, L102, k102, n102⟩, -, X102, hS102, hg102, ⟨Lc102, hQ102, l102, y102, z102, C102⟩, st102⟩ := callSS X0 hx (y := (⟨"com/example/tenant_data_scope/tenantdatascope/TenantProfileDedicatedPinLaw", "key", "(II)Ljava/lang/String;"⟩ : MethodName)) hown (mvT hZ (hw _ (List.mem_of_getElem? (i := 0) rfl))) (mvT hZ (hw _ (List.mem_of_getElem? (i := 1) rfl))) (mvT hZ (hw _ (List.mem_of_getElem? (i := 2) rfl))) (mvT hZ (hw _ (List.mem_of_getElem? (i := 3) rfl))) (by decide) (backOfSH (W := 0) (rm_key l Z a0 hw [] p0 (p1 &&& (3 : Int32)) i_COMPACT_STRINGS h0 n0 O0 S0_ hcs) hZ (hw _ (List.mem_of_getElem? (i := 3) rfl)) (hw _ (List.mem_of_getElem? (i := 2) rfl)) (by decide) (by decide) (own_EW hw) R0.1) (g := (mkF m 4 #[iv p0, iv p1, .val (.long p2), .second, .unset, .unset, .unset, .unset] [(.int (p1 &&& (3 : Int32))), (.int p0)])) rfl (by rw [hml]; rfl) (argsL := [(.int p0), (.int (p1 &&& (3 : Int32)))]) (rest := []) (lenOf pd_7 rfl) rfl (by show 2 * 0 + _ ≤ _; exact Nat.le_of_eq rfl) (hb hby at_4) (fun _ _ => ⟨rfl, e0, (by decide : 0 + 6 ≤ _), (by decide : 0 + 12 ≤ _)⟩)
  dsimp only [Pt.U, Pt.locs, Pt.cells, Pt.slots] at X102 l102 y102 z102 st102 hQ102 hS102 hg102 C102
  subst l102 y102 z102
  obtain ⟨X102, hS, hZ, hown⟩ := rebS hS (n1 := s₁.heap.size) (by rw [e0]; exact hk) X102 hS102 hg102 hZ hown
  obtain ⟨r103, rfl, M102, K102, y104, y105⟩ := hQ102
  have N102 := Fr.app N0 M102
  have R106 : CHr Z consts_1 s.vm h0 T102.vm T102.heap := R0.trans C102
  have O107 := O0.keep K102 all0
  have g108 : Go p e below T102 (mkF m 7 #[iv p0, iv p1, .val (.long p2), .second, .unset, .unset, .unset, .unset] [(.ref r103)]) A0 := fun t kont => g101 t (st102.trans kont)
  have g109 : Go p e below T102 (mkF m 12 #[iv p0, iv p1, .val (.long p2), .second, rv r103, .unset, .unset, .unset] [(.long p2), (.ref r103)]) A0 := by
    intro t kont
    refine g108 t ?_
    refine XS.astore X102.here hx rfl (hb hby at_7) rfl rfl (l' := #[iv p0, iv p1, .val (.long p2), .second, rv r103, .unset, .unset, .unset]) rfl ?_
    show Steps p.tables e below (T102.setTop (mkF m 9 #[iv p0, iv p1, .val (.long p2), .second, rv r103, .unset, .unset, .unset] [])) _
    refine XS.aload X102.here hx rfl (hb hby at_9) rfl rfl ?_
    show Steps p.tables e below (T102.setTop (mkF m 11 #[iv p0, iv p1, .val (.long p2), .second, rv r103, .unset, .unset, .unset] [(.ref r103)])) _
    refine XS.lloadN X102.here hx rfl (hb hby at_11) rfl ?_
    show Steps p.tables e below (T102.setTop (mkF m 12 #[iv p0, iv p1, .val (.long p2), .second, rv r103, .unset, .unset, .unset] [(.long p2), (.ref r103)])) _
    exact kont
  obtain ⟨_, _, ⟨T110, L110, k110, n110⟩, -, X110, hS110, hg110, ⟨Lc110, hQ110, l110, y110, z110, C110⟩, st110⟩ := callSS X102 hx (y := (⟨"com/example/tenant_data_scope/tenantdatascope/TenantProfile", "dedicated", "(Ljava/lang/String;J)Lcom/example/tenant_data_scope/tenantdatascope/TenantProfile;"⟩ : MethodName)) hown (mvT hZ (hw _ (List.mem_of_getElem? (i := 34) rfl))) (mvT hZ (hw _ (List.mem_of_getElem? (i := 35) rfl))) (mvT hZ (hw _ (List.mem_of_getElem? (i := 36) rfl))) (mvT hZ (hw _ (List.mem_of_getElem? (i := 37) rfl))) (by decide) (backOfSH (W := 0) (rm_ded l Z a0 hw [] r103 p2 w_DEDICATED T102.heap n0 O107 S2_ y105) hZ (hw _ (List.mem_of_getElem? (i := 37) rfl)) (hw _ (List.mem_of_getElem? (i := 36) rfl)) (by decide) (by decide) (own_EW hw) R106.1) (g := (mkF m 12 #[iv p0, iv p1, .val (.long p2), .second, rv r103, .unset, .unset, .unset] [(.long p2), (.ref r103)])) rfl (by rw [hml]; rfl) (argsL := [(.ref r103), (.long p2)]) (rest := []) (lenOf pd_8 rfl) rfl (by show 2 * 0 + _ ≤ _; exact Nat.le_of_eq rfl) (hb hby at_12) (fun _ _ => ⟨rfl, rfl, (by decide : 6 + 3 ≤ _), (by decide : 12 + 60 ≤ _)⟩)
  dsimp only [Pt.U, Pt.locs, Pt.cells, Pt.slots] at X110 l110 y110 z110 st110 hQ110 hS110 hg110 C110
  subst l110 y110 z110
  obtain ⟨X110, hS, hZ, hown⟩ := rebS hS (n1 := T102.heap.size) (Nat.le_refl _) X110 hS110 hg110 hZ hown
  obtain ⟨r111, rfl, M110, K110, y112, y113, y114, y115, y116, y117⟩ := hQ110
  have N110 := Fr.app N102 M110
  have R118 : CHr Z consts_1 s.vm h0 T110.vm T110.heap := R106.trans C110
  have O119 := O107.keep K110 all0
  have g120 : Go p e below T110 (mkF m 15 #[iv p0, iv p1, .val (.long p2), .second, rv r103, .unset, .unset, .unset] [(.ref r111)]) A0 := fun t kont => g109 t (st110.trans kont)
  have g121 : Go p e below T110 (mkF m 19 #[iv p0, iv p1, .val (.long p2), .second, rv r103, rv r111, .unset, .unset] [(.ref r111)]) A0 := by
    intro t kont
    refine g120 t ?_
    refine XS.astore X110.here hx rfl (hb hby at_15) rfl rfl (l' := #[iv p0, iv p1, .val (.long p2), .second, rv r103, rv r111, .unset, .unset]) rfl ?_
    show Steps p.tables e below (T110.setTop (mkF m 17 #[iv p0, iv p1, .val (.long p2), .second, rv r103, rv r111, .unset, .unset] [])) _
    refine XS.aload X110.here hx rfl (hb hby at_17) rfl rfl ?_
    show Steps p.tables e below (T110.setTop (mkF m 19 #[iv p0, iv p1, .val (.long p2), .second, rv r103, rv r111, .unset, .unset] [(.ref r111)])) _
    exact kont
  obtain ⟨cq122, kq122, q122a, q122b, q122c⟩ := isOf hZ rfl y113
  obtain ⟨_, _, ⟨T122, L122, k122, n122⟩, -, X122, ⟨Lc122, hQ122, l122, y122, z122⟩, st122⟩ := X110.virtualBack hx (y := (⟨"com/example/tenant_data_scope/tenantdatascope/TenantProfile", "mode", "()Lcom/example/tenant_data_scope/tenantdatascope/TenantProfile$Mode;"⟩ : MethodName)) (z := (⟨"com/example/tenant_data_scope/tenantdatascope/TenantProfile", "mode", "()Lcom/example/tenant_data_scope/tenantdatascope/TenantProfile$Mode;"⟩ : MethodName)) hown (mvT hZ (hw _ (List.mem_of_getElem? (i := 63) rfl))) (mvT hZ (hw _ (List.mem_of_getElem? (i := 64) rfl))) (notFace_of_selects (args := #[]) (mvT hZ (hw _ (List.mem_of_getElem? (i := 66) rfl)))) (mvT hZ (hw _ (List.mem_of_getElem? (i := 66) rfl))) (mvT hZ (hw _ (List.mem_of_getElem? (i := 65) rfl))) (by decide) (backOf (W := 0) (rm_mod l Z a0 hw [] r111 w_DEDICATED T110.heap n0 O119 y114) hZ (hw _ (List.mem_of_getElem? (i := 67) rfl)) (hw _ (List.mem_of_getElem? (i := 36) rfl)) (by decide) (by decide)) q122a q122c (g := (mkF m 19 #[iv p0, iv p1, .val (.long p2), .second, rv r103, rv r111, .unset, .unset] [(.ref r111)])) rfl (by rw [hml]; rfl) (Steps.refl _) (argsL := []) (rest := []) (lenOf pd_9 rfl) rfl (by show 2 * 0 + _ ≤ _; exact Nat.le_of_eq rfl) (hb hby at_19) (fun _ _ => ⟨rfl, rfl, (by decide : 9 + 0 ≤ _), (by decide : 72 + 0 ≤ _)⟩)
  dsimp only [Pt.U, Pt.locs, Pt.cells, Pt.slots] at X122 l122 y122 z122 st122 hQ122
  subst l122 y122 z122
  obtain ⟨rfl, M122, e122⟩ := hQ122
  have N122 := Fr.app N110 M122
  have g123 : Go p e below T122 (mkF m 22 #[iv p0, iv p1, .val (.long p2), .second, rv r103, rv r111, .unset, .unset] [(.ref w_DEDICATED)]) A0 := fun t kont => g121 t (st122.trans kont)
  have y124 : Sta Z T110.heap "com/example/tenant_data_scope/tenantdatascope/TenantProfile$Mode" "DEDICATED" "Lcom/example/tenant_data_scope/tenantdatascope/TenantProfile$Mode;" (.ref w_DEDICATED) := S2_.ext O119.2
  obtain ⟨T125, X125, e125, st125⟩ := getS2 X122 hx hZ hown (host := "") (Or.inl (hw _ (List.mem_of_getElem? (i := 68) rfl))) Via.refl e122 y124 (g := (mkF m 22 #[iv p0, iv p1, .val (.long p2), .second, rv r103, rv r111, .unset, .unset] [(.ref w_DEDICATED)])) rfl (hb hby at_22)
  have g126 : Go p e below T125 (mkF m 25 #[iv p0, iv p1, .val (.long p2), .second, rv r103, rv r111, .unset, .unset] [(.ref w_DEDICATED), (.ref w_DEDICATED)]) A0 := fun t kont => g123 t (st125 t kont)
  have g127 : Go p e below T125 (mkF m 32 #[iv p0, iv p1, .val (.long p2), .second, rv r103, rv r111, .unset, .unset] [(.ref r111)]) A0 := by
    intro t kont
    refine g126 t ?_
    refine Jvm.RoadKit.acmp (g := (mkF m 25 #[iv p0, iv p1, .val (.long p2), .second, rv r103, rv r111, .unset, .unset] [(.ref w_DEDICATED), (.ref w_DEDICATED)])) X125 hx rfl rfl rfl (pc0 := 25) (pc' := 30) (same := true) rfl (hb hby at_25) rfl (decide_eq_true rfl) (by decide) (by decide) ?_
    show Steps p.tables e below (T125.setTop (mkF m 30 #[iv p0, iv p1, .val (.long p2), .second, rv r103, rv r111, .unset, .unset] [])) _
    refine XS.aload X125.here hx rfl (hb hby at_30) rfl rfl ?_
    show Steps p.tables e below (T125.setTop (mkF m 32 #[iv p0, iv p1, .val (.long p2), .second, rv r103, rv r111, .unset, .unset] [(.ref r111)])) _
    exact kont
  obtain ⟨cq128, kq128, q128a, q128b, q128c⟩ := isOf hZ e125 y113
  obtain ⟨_, _, ⟨T128, L128, k128, n128⟩, -, X128, ⟨Lc128, hQ128, l128, y128, z128⟩, st128⟩ := X125.virtualBack hx (y := (⟨"com/example/tenant_data_scope/tenantdatascope/TenantProfile", "dataSourceKey", "()Ljava/lang/String;"⟩ : MethodName)) (z := (⟨"com/example/tenant_data_scope/tenantdatascope/TenantProfile", "dataSourceKey", "()Ljava/lang/String;"⟩ : MethodName)) hown (mvT hZ (hw _ (List.mem_of_getElem? (i := 69) rfl))) (mvT hZ (hw _ (List.mem_of_getElem? (i := 70) rfl))) (notFace_of_selects (args := #[]) (mvT hZ (hw _ (List.mem_of_getElem? (i := 72) rfl)))) (mvT hZ (hw _ (List.mem_of_getElem? (i := 72) rfl))) (mvT hZ (hw _ (List.mem_of_getElem? (i := 71) rfl))) (by decide) (backOf (W := 0) (rm_dsk l Z a0 hw [] r111 r103 T110.heap n0 O119 y115) hZ (hw _ (List.mem_of_getElem? (i := 73) rfl)) (hw _ (List.mem_of_getElem? (i := 36) rfl)) (by decide) (by decide)) q128a q128c (g := (mkF m 32 #[iv p0, iv p1, .val (.long p2), .second, rv r103, rv r111, .unset, .unset] [(.ref r111)])) rfl (by rw [hml]; rfl) (Steps.refl _) (argsL := []) (rest := []) (lenOf pd_10 rfl) rfl (by show 2 * 0 + _ ≤ _; exact Nat.le_of_eq rfl) (hb hby at_32) (fun _ _ => ⟨rfl, e125, (by decide : 9 + 0 ≤ _), (by decide : 72 + 0 ≤ _)⟩)
  dsimp only [Pt.U, Pt.locs, Pt.cells, Pt.slots] at X128 l128 y128 z128 st128 hQ128
  subst l128 y128 z128
  obtain ⟨rfl, M128, e128⟩ := hQ128
  have N128 := Fr.app N122 M128
  have g129 : Go p e below T128 (mkF m 35 #[iv p0, iv p1, .val (.long p2), .second, rv r103, rv r111, .unset, .unset] [(.ref r103)]) A0 := fun t kont => g127 t (st128.trans kont)
  have g130 : Go p e below T128 (mkF m 37 #[iv p0, iv p1, .val (.long p2), .second, rv r103, rv r111, .unset, .unset] [(.ref r103), (.ref r103)]) A0 := by
    intro t kont
    refine g129 t ?_
    refine XS.aload X128.here hx rfl (hb hby at_35) rfl rfl ?_
    show Steps p.tables e below (T128.setTop (mkF m 37 #[iv p0, iv p1, .val (.long p2), .second, rv r103, rv r111, .unset, .unset] [(.ref r103), (.ref r103)])) _
    exact kont
  have y132 : Exa Z T110.heap r103 "java/lang/String" := (y105.keep K110)
  obtain ⟨cq131, kq131, q131a, q131b, q131c⟩ := isOf hZ e128 y132
  obtain ⟨_, _, ⟨T131, L131, k131, n131⟩, -, X131, ⟨Lc131, hQ131, l131, y131, z131⟩, st131⟩ := X128.virtualBack hx (y := (⟨"java/lang/String", "equals", "(Ljava/lang/Object;)Z"⟩ : MethodName)) (z := (⟨"java/lang/String", "equals", "(Ljava/lang/Object;)Z"⟩ : MethodName)) hown (mvT hZ (hw _ (List.mem_of_getElem? (i := 74) rfl))) (mvT hZ (hw _ (List.mem_of_getElem? (i := 75) rfl))) (notFace_of_selects (args := #[]) (mvT hZ (hw _ (List.mem_of_getElem? (i := 77) rfl)))) (mvT hZ (hw _ (List.mem_of_getElem? (i := 77) rfl))) (mvT hZ (hw _ (List.mem_of_getElem? (i := 76) rfl))) (by decide) (backOf (W := 0) (rm_eqs l Z a0 hw [] r103 T110.heap n0 O119 ) hZ (hw _ (List.mem_of_getElem? (i := 78) rfl)) (hw _ (List.mem_of_getElem? (i := 6) rfl)) (by decide) (by decide)) q131a q131c (g := (mkF m 37 #[iv p0, iv p1, .val (.long p2), .second, rv r103, rv r111, .unset, .unset] [(.ref r103), (.ref r103)])) rfl (by rw [hml]; rfl) (Steps.refl _) (argsL := [(.ref r103)]) (rest := []) (lenOf pd_11 rfl) rfl (by show 2 * 0 + _ ≤ _; exact Nat.le_of_eq rfl) (hb hby at_37) (fun _ _ => ⟨rfl, e128, (by decide : 9 + 0 ≤ _), (by decide : 72 + 0 ≤ _)⟩)
  dsimp only [Pt.U, Pt.locs, Pt.cells, Pt.slots] at X131 l131 y131 z131 st131 hQ131
  subst l131 y131 z131
  obtain ⟨rfl, M131, e131⟩ := hQ131
  have N131 := Fr.app N128 M131
  have g133 : Go p e below T131 (mkF m 40 #[iv p0, iv p1, .val (.long p2), .second, rv r103, rv r111, .unset, .unset] [(.int (1 : Int32))]) A0 := fun t kont => g130 t (st131.trans kont)
  have g134 : Go p e below T131 (mkF m 45 #[iv p0, iv p1, .val (.long p2), .second, rv r103, rv r111, .unset, .unset] [(.ref r111)]) A0 := by
    intro t kont
    refine g133 t ?_
    refine XS.ifNo X131.here hx rfl (hb hby at_40) rfl ((if0 _ _).trans (feq (by decide : ¬ ((1 : Int32) = (0 : Int32)))).1) ?_
    show Steps p.tables e below (T131.setTop (mkF m 43 #[iv p0, iv p1, .val (.long p2), .second, rv r103, rv r111, .unset, .unset] [])) _
    refine XS.aload X131.here hx rfl (hb hby at_43) rfl rfl ?_
    show Steps p.tables e below (T131.setTop (mkF m 45 #[iv p0, iv p1, .val (.long p2), .second, rv r103, rv r111, .unset, .unset] [(.ref r111)])) _
    exact kont
  obtain ⟨cq135, kq135, q135a, q135b, q135c⟩ := isOf hZ e131 y113
  obtain ⟨_, _, ⟨T135, L135, k135, n135⟩, -, X135, ⟨Lc135, hQ135, l135, y135, z135⟩, st135⟩ := X131.virtualBack hx (y := (⟨"com/example/tenant_data_scope/tenantdatascope/TenantProfile", "addsTenantCondition", "()Z"⟩ : MethodName)) (z := (⟨"com/example/tenant_data_scope/tenantdatascope/TenantProfile", "addsTenantCondition", "()Z"⟩ : MethodName)) hown (mvT hZ (hw _ (List.mem_of_getElem? (i := 79) rfl))) (mvT hZ (hw _ (List.mem_of_getElem? (i := 80) rfl))) (notFace_of_selects (args := #[]) (mvT hZ (hw _ (List.mem_of_getElem? (i := 82) rfl)))) (mvT hZ (hw _ (List.mem_of_getElem? (i := 82) rfl))) (mvT hZ (hw _ (List.mem_of_getElem? (i := 81) rfl))) (by decide) (backOf (W := 0) (rm_atc1 l Z a0 hw [] r111 T110.heap n0 O119 y116) hZ (hw _ (List.mem_of_getElem? (i := 83) rfl)) (hw _ (List.mem_of_getElem? (i := 36) rfl)) (by decide) (by decide)) q135a q135c (g := (mkF m 45 #[iv p0, iv p1, .val (.long p2), .second, rv r103, rv r111, .unset, .unset] [(.ref r111)])) rfl (by rw [hml]; rfl) (Steps.refl _) (argsL := []) (rest := []) (lenOf pd_12 rfl) rfl (by show 2 * 0 + _ ≤ _; exact Nat.le_of_eq rfl) (hb hby at_45) (fun _ _ => ⟨rfl, e131, (by decide : 9 + 0 ≤ _), (by decide : 72 + 0 ≤ _)⟩)
  dsimp only [Pt.U, Pt.locs, Pt.cells, Pt.slots] at X135 l135 y135 z135 st135 hQ135
  subst l135 y135 z135
  obtain ⟨rfl, M135, e135⟩ := hQ135
  have N135 := Fr.app N131 M135
  have g136 : Go p e below T135 (mkF m 48 #[iv p0, iv p1, .val (.long p2), .second, rv r103, rv r111, .unset, .unset] [(.int (1 : Int32))]) A0 := fun t kont => g134 t (st135.trans kont)
  have g137 : Go p e below T135 (mkF m 53 #[iv p0, iv p1, .val (.long p2), .second, rv r103, rv r111, .unset, .unset] [(.ref r111)]) A0 := by
    intro t kont
    refine g136 t ?_
    refine XS.ifNo X135.here hx rfl (hb hby at_48) rfl ((if0 _ _).trans (feq (by decide : ¬ ((1 : Int32) = (0 : Int32)))).1) ?_
    show Steps p.tables e below (T135.setTop (mkF m 51 #[iv p0, iv p1, .val (.long p2), .second, rv r103, rv r111, .unset, .unset] [])) _
    refine XS.aload X135.here hx rfl (hb hby at_51) rfl rfl ?_
    show Steps p.tables e below (T135.setTop (mkF m 53 #[iv p0, iv p1, .val (.long p2), .second, rv r103, rv r111, .unset, .unset] [(.ref r111)])) _
    exact kont
  obtain ⟨cq138, kq138, q138a, q138b, q138c⟩ := isOf hZ e135 y113
  obtain ⟨_, _, ⟨T138, L138, k138, n138⟩, -, X138, ⟨Lc138, hQ138, l138, y138, z138⟩, st138⟩ := X135.virtualBack hx (y := (⟨"com/example/tenant_data_scope/tenantdatascope/TenantProfile", "version", "()J"⟩ : MethodName)) (z := (⟨"com/example/tenant_data_scope/tenantdatascope/TenantProfile", "version", "()J"⟩ : MethodName)) hown (mvT hZ (hw _ (List.mem_of_getElem? (i := 84) rfl))) (mvT hZ (hw _ (List.mem_of_getElem? (i := 85) rfl))) (notFace_of_selects (args := #[]) (mvT hZ (hw _ (List.mem_of_getElem? (i := 87) rfl)))) (mvT hZ (hw _ (List.mem_of_getElem? (i := 87) rfl))) (mvT hZ (hw _ (List.mem_of_getElem? (i := 86) rfl))) (by decide) (backOf (W := 0) (rm_ver l Z a0 hw [] r111 p2 T110.heap n0 O119 y117) hZ (hw _ (List.mem_of_getElem? (i := 88) rfl)) (hw _ (List.mem_of_getElem? (i := 36) rfl)) (by decide) (by decide)) q138a q138c (g := (mkF m 53 #[iv p0, iv p1, .val (.long p2), .second, rv r103, rv r111, .unset, .unset] [(.ref r111)])) rfl (by rw [hml]; rfl) (Steps.refl _) (argsL := []) (rest := []) (lenOf pd_13 rfl) rfl (by show 2 * 0 + _ ≤ _; exact Nat.le_of_eq rfl) (hb hby at_53) (fun _ _ => ⟨rfl, e135, (by decide : 9 + 0 ≤ _), (by decide : 72 + 0 ≤ _)⟩)
  dsimp only [Pt.U, Pt.locs, Pt.cells, Pt.slots] at X138 l138 y138 z138 st138 hQ138
  subst l138 y138 z138
  obtain ⟨rfl, M138, e138⟩ := hQ138
  have N138 := Fr.app N135 M138
  have g139 : Go p e below T138 (mkF m 56 #[iv p0, iv p1, .val (.long p2), .second, rv r103, rv r111, .unset, .unset] [(.long p2)]) A0 := fun t kont => g137 t (st138.trans kont)
  have g140 : Go p e below T138 (mkF m 77 #[iv p0, iv p1, .val (.long p2), .second, rv r103, rv r111, iv (1 : Int32), .unset] [(.ref r111)]) A0 := by
    intro t kont
    refine g139 t ?_
    refine XS.lloadN X138.here hx rfl (hb hby at_56) rfl ?_
    show Steps p.tables e below (T138.setTop (mkF m 57 #[iv p0, iv p1, .val (.long p2), .second, rv r103, rv r111, .unset, .unset] [(.long p2), (.long p2)])) _
    refine XS.lcmp X138.here hx rfl (hb hby at_57) rfl ?_
    show Steps p.tables e below (T138.setTop (mkF m 58 #[iv p0, iv p1, .val (.long p2), .second, rv r103, rv r111, .unset, .unset] [(.int (lcmpW p2 p2))])) _
    refine XS.ifNo X138.here hx rfl (hb hby at_58) rfl ((if0 _ _).trans (teq (own_lcmp_self _ : (lcmpW p2 p2) = (0 : Int32))).2) ?_
    show Steps p.tables e below (T138.setTop (mkF m 61 #[iv p0, iv p1, .val (.long p2), .second, rv r103, rv r111, .unset, .unset] [])) _
    refine XS.iconst X138.here hx rfl (hb hby at_61) ?_
    show Steps p.tables e below (T138.setTop (mkF m 62 #[iv p0, iv p1, .val (.long p2), .second, rv r103, rv r111, .unset, .unset] [(.int (1 : Int32))])) _
    refine XS.goto X138.here hx rfl (pc0 := 62) (pc' := 66) rfl (hb hby at_62) (by decide) (by decide) ?_
    show Steps p.tables e below (T138.setTop (mkF m 66 #[iv p0, iv p1, .val (.long p2), .second, rv r103, rv r111, .unset, .unset] [(.int (1 : Int32))])) _
    refine XS.istore X138.here hx rfl (hb hby at_66) rfl (l' := #[iv p0, iv p1, .val (.long p2), .second, rv r103, rv r111, iv (1 : Int32), .unset]) rfl ?_
    show Steps p.tables e below (T138.setTop (mkF m 68 #[iv p0, iv p1, .val (.long p2), .second, rv r103, rv r111, iv (1 : Int32), .unset] [])) _
    refine XS.iload X138.here hx rfl (hb hby at_68) rfl ?_
    show Steps p.tables e below (T138.setTop (mkF m 70 #[iv p0, iv p1, .val (.long p2), .second, rv r103, rv r111, iv (1 : Int32), .unset] [(.int (1 : Int32))])) _
    refine XS.ifYes X138.here hx rfl (pc0 := 70) (pc' := 75) rfl (hb hby at_70) rfl ((if0 _ _).trans (feq (by decide : ¬ ((1 : Int32) = (0 : Int32)))).2) (by decide) (by decide) ?_
    show Steps p.tables e below (T138.setTop (mkF m 75 #[iv p0, iv p1, .val (.long p2), .second, rv r103, rv r111, iv (1 : Int32), .unset] [])) _
    refine XS.aload X138.here hx rfl (hb hby at_75) rfl rfl ?_
    show Steps p.tables e below (T138.setTop (mkF m 77 #[iv p0, iv p1, .val (.long p2), .second, rv r103, rv r111, iv (1 : Int32), .unset] [(.ref r111)])) _
    exact kont
  obtain ⟨cq141, kq141, q141a, q141b, q141c⟩ := isOf hZ e138 y113
  obtain ⟨_, _, ⟨T141, L141, k141, n141⟩, -, X141, hS141, hg141, ⟨Lc141, hQ141, l141, y141, z141, C141⟩, st141⟩ := X138.virtualBackS hx (y := (⟨"com/example/tenant_data_scope/tenantdatascope/TenantProfile", "withoutTenantCondition", "()Lcom/example/tenant_data_scope/tenantdatascope/TenantProfile;"⟩ : MethodName)) (z := (⟨"com/example/tenant_data_scope/tenantdatascope/TenantProfile", "withoutTenantCondition", "()Lcom/example/tenant_data_scope/tenantdatascope/TenantProfile;"⟩ : MethodName)) hown (mvT hZ (hw _ (List.mem_of_getElem? (i := 89) rfl))) (mvT hZ (hw _ (List.mem_of_getElem? (i := 90) rfl))) (notFace_of_selects (args := #[]) (mvT hZ (hw _ (List.mem_of_getElem? (i := 92) rfl)))) (mvT hZ (hw _ (List.mem_of_getElem? (i := 92) rfl))) (mvT hZ (hw _ (List.mem_of_getElem? (i := 91) rfl))) (by decide) (backOfSH (W := 0) (rm_wtc l Z a0 hw [] r111 w_DEDICATED r103 p2 w_SHARED T110.heap n0 O119 y113 y114 y115 y117 S3_ NE6_ y132) hZ (hw _ (List.mem_of_getElem? (i := 93) rfl)) (hw _ (List.mem_of_getElem? (i := 36) rfl)) (by decide) (by decide) (own_EW hw) R118.1) q141a q141c (g := (mkF m 77 #[iv p0, iv p1, .val (.long p2), .second, rv r103, rv r111, iv (1 : Int32), .unset] [(.ref r111)])) rfl (by rw [hml]; rfl) (Steps.refl _) (argsL := []) (rest := []) (lenOf pd_14 rfl) rfl (by show 2 * 0 + _ ≤ _; exact Nat.le_of_eq rfl) (hb hby at_77) (fun _ _ => ⟨rfl, e138, (by decide : 9 + 3 ≤ _), (by decide : 72 + 60 ≤ _)⟩)
  dsimp only [Pt.U, Pt.locs, Pt.cells, Pt.slots] at X141 l141 y141 z141 st141 hQ141 hS141 hg141 C141
  subst l141 y141 z141
  obtain ⟨X141, hS, hZ, hown⟩ := rebS hS (n1 := T138.heap.size) (by rw [e138]; exact (Nat.le_refl _)) X141 hS141 hg141 hZ hown
  obtain ⟨r142, rfl, M141, K141, y143, y144, y145, y146, y147, y148⟩ := hQ141
  have N141 := Fr.app N138 M141
  have R149 : CHr Z consts_1 s.vm h0 T141.vm T141.heap := R118.trans C141
  have O150 := O119.keep K141 all0
  have g151 : Go p e below T141 (mkF m 80 #[iv p0, iv p1, .val (.long p2), .second, rv r103, rv r111, iv (1 : Int32), .unset] [(.ref r142)]) A0 := fun t kont => g140 t (st141.trans kont)
  have g152 : Go p e below T141 (mkF m 84 #[iv p0, iv p1, .val (.long p2), .second, rv r103, rv r111, iv (1 : Int32), rv r142] [(.ref r142)]) A0 := by
    intro t kont
    refine g151 t ?_
    refine XS.astore X141.here hx rfl (hb hby at_80) rfl rfl (l' := #[iv p0, iv p1, .val (.long p2), .second, rv r103, rv r111, iv (1 : Int32), rv r142]) rfl ?_
    show Steps p.tables e below (T141.setTop (mkF m 82 #[iv p0, iv p1, .val (.long p2), .second, rv r103, rv r111, iv (1 : Int32), rv r142] [])) _
    refine XS.aload X141.here hx rfl (hb hby at_82) rfl rfl ?_
    show Steps p.tables e below (T141.setTop (mkF m 84 #[iv p0, iv p1, .val (.long p2), .second, rv r103, rv r111, iv (1 : Int32), rv r142] [(.ref r142)])) _
    exact kont
  obtain ⟨cq153, kq153, q153a, q153b, q153c⟩ := isOf hZ rfl y144
  obtain ⟨_, _, ⟨T153, L153, k153, n153⟩, -, X153, ⟨Lc153, hQ153, l153, y153, z153⟩, st153⟩ := X141.virtualBack hx (y := (⟨"com/example/tenant_data_scope/tenantdatascope/TenantProfile", "mode", "()Lcom/example/tenant_data_scope/tenantdatascope/TenantProfile$Mode;"⟩ : MethodName)) (z := (⟨"com/example/tenant_data_scope/tenantdatascope/TenantProfile", "mode", "()Lcom/example/tenant_data_scope/tenantdatascope/TenantProfile$Mode;"⟩ : MethodName)) hown (mvT hZ (hw _ (List.mem_of_getElem? (i := 63) rfl))) (mvT hZ (hw _ (List.mem_of_getElem? (i := 64) rfl))) (notFace_of_selects (args := #[]) (mvT hZ (hw _ (List.mem_of_getElem? (i := 66) rfl)))) (mvT hZ (hw _ (List.mem_of_getElem? (i := 66) rfl))) (mvT hZ (hw _ (List.mem_of_getElem? (i := 65) rfl))) (by decide) (backOf (W := 0) (rm_mod l Z a0 hw [] r142 w_DEDICATED T141.heap n0 O150 y145) hZ (hw _ (List.mem_of_getElem? (i := 67) rfl)) (hw _ (List.mem_of_getElem? (i := 36) rfl)) (by decide) (by decide)) q153a q153c (g := (mkF m 84 #[iv p0, iv p1, .val (.long p2), .second, rv r103, rv r111, iv (1 : Int32), rv r142] [(.ref r142)])) rfl (by rw [hml]; rfl) (Steps.refl _) (argsL := []) (rest := []) (lenOf pd_9 rfl) rfl (by show 2 * 0 + _ ≤ _; exact Nat.le_of_eq rfl) (hb hby at_84) (fun _ _ => ⟨rfl, rfl, (by decide : 12 + 0 ≤ _), (by decide : 132 + 0 ≤ _)⟩)
  dsimp only [Pt.U, Pt.locs, Pt.cells, Pt.slots] at X153 l153 y153 z153 st153 hQ153
  subst l153 y153 z153
  obtain ⟨rfl, M153, e153⟩ := hQ153
  have N153 := Fr.app N141 M153
  have g154 : Go p e below T153 (mkF m 87 #[iv p0, iv p1, .val (.long p2), .second, rv r103, rv r111, iv (1 : Int32), rv r142] [(.ref w_DEDICATED)]) A0 := fun t kont => g152 t (st153.trans kont)
  have y155 : Sta Z T141.heap "com/example/tenant_data_scope/tenantdatascope/TenantProfile$Mode" "DEDICATED" "Lcom/example/tenant_data_scope/tenantdatascope/TenantProfile$Mode;" (.ref w_DEDICATED) := S2_.ext O150.2
  obtain ⟨T156, X156, e156, st156⟩ := getS2 X153 hx hZ hown (host := "") (Or.inl (hw _ (List.mem_of_getElem? (i := 68) rfl))) Via.refl e153 y155 (g := (mkF m 87 #[iv p0, iv p1, .val (.long p2), .second, rv r103, rv r111, iv (1 : Int32), rv r142] [(.ref w_DEDICATED)])) rfl (hb hby at_87)
  have g157 : Go p e below T156 (mkF m 90 #[iv p0, iv p1, .val (.long p2), .second, rv r103, rv r111, iv (1 : Int32), rv r142] [(.ref w_DEDICATED), (.ref w_DEDICATED)]) A0 := fun t kont => g154 t (st156 t kont)
  have g158 : Go p e below T156 (mkF m 95 #[iv p0, iv p1, .val (.long p2), .second, rv r103, rv r111, iv (1 : Int32), rv r142] [(.ref r142)]) A0 := by
    intro t kont
    refine g157 t ?_
    refine Jvm.RoadKit.acmp (g := (mkF m 90 #[iv p0, iv p1, .val (.long p2), .second, rv r103, rv r111, iv (1 : Int32), rv r142] [(.ref w_DEDICATED), (.ref w_DEDICATED)])) X156 hx rfl rfl rfl (pc0 := 90) (pc' := 93) (same := true) rfl (hb hby at_90) rfl (decide_eq_true rfl) (by decide) (by decide) ?_
    show Steps p.tables e below (T156.setTop (mkF m 93 #[iv p0, iv p1, .val (.long p2), .second, rv r103, rv r111, iv (1 : Int32), rv r142] [])) _
    refine XS.aload X156.here hx rfl (hb hby at_93) rfl rfl ?_
    show Steps p.tables e below (T156.setTop (mkF m 95 #[iv p0, iv p1, .val (.long p2), .second, rv r103, rv r111, iv (1 : Int32), rv r142] [(.ref r142)])) _
    exact kont
  obtain ⟨cq159, kq159, q159a, q159b, q159c⟩ := isOf hZ e156 y144
  obtain ⟨_, _, ⟨T159, L159, k159, n159⟩, -, X159, ⟨Lc159, hQ159, l159, y159, z159⟩, st159⟩ := X156.virtualBack hx (y := (⟨"com/example/tenant_data_scope/tenantdatascope/TenantProfile", "dataSourceKey", "()Ljava/lang/String;"⟩ : MethodName)) (z := (⟨"com/example/tenant_data_scope/tenantdatascope/TenantProfile", "dataSourceKey", "()Ljava/lang/String;"⟩ : MethodName)) hown (mvT hZ (hw _ (List.mem_of_getElem? (i := 69) rfl))) (mvT hZ (hw _ (List.mem_of_getElem? (i := 70) rfl))) (notFace_of_selects (args := #[]) (mvT hZ (hw _ (List.mem_of_getElem? (i := 72) rfl)))) (mvT hZ (hw _ (List.mem_of_getElem? (i := 72) rfl))) (mvT hZ (hw _ (List.mem_of_getElem? (i := 71) rfl))) (by decide) (backOf (W := 0) (rm_dsk l Z a0 hw [] r142 r103 T141.heap n0 O150 y146) hZ (hw _ (List.mem_of_getElem? (i := 73) rfl)) (hw _ (List.mem_of_getElem? (i := 36) rfl)) (by decide) (by decide)) q159a q159c (g := (mkF m 95 #[iv p0, iv p1, .val (.long p2), .second, rv r103, rv r111, iv (1 : Int32), rv r142] [(.ref r142)])) rfl (by rw [hml]; rfl) (Steps.refl _) (argsL := []) (rest := []) (lenOf pd_10 rfl) rfl (by show 2 * 0 + _ ≤ _; exact Nat.le_of_eq rfl) (hb hby at_95) (fun _ _ => ⟨rfl, e156, (by decide : 12 + 0 ≤ _), (by decide : 132 + 0 ≤ _)⟩)
  dsimp only [Pt.U, Pt.locs, Pt.cells, Pt.slots] at X159 l159 y159 z159 st159 hQ159
  subst l159 y159 z159
  obtain ⟨rfl, M159, e159⟩ := hQ159
  have N159 := Fr.app N153 M159
  have g160 : Go p e below T159 (mkF m 98 #[iv p0, iv p1, .val (.long p2), .second, rv r103, rv r111, iv (1 : Int32), rv r142] [(.ref r103)]) A0 := fun t kont => g158 t (st159.trans kont)
  have g161 : Go p e below T159 (mkF m 100 #[iv p0, iv p1, .val (.long p2), .second, rv r103, rv r111, iv (1 : Int32), rv r142] [(.ref r103), (.ref r103)]) A0 := by
    intro t kont
    refine g160 t ?_
    refine XS.aload X159.here hx rfl (hb hby at_98) rfl rfl ?_
    show Steps p.tables e below (T159.setTop (mkF m 100 #[iv p0, iv p1, .val (.long p2), .second, rv r103, rv r111, iv (1 : Int32), rv r142] [(.ref r103), (.ref r103)])) _
    exact kont
  have y163 : Exa Z T141.heap r103 "java/lang/String" := (y132.keep K141)
  obtain ⟨cq162, kq162, q162a, q162b, q162c⟩ := isOf hZ e159 y163
  obtain ⟨_, _, ⟨T162, L162, k162, n162⟩, -, X162, ⟨Lc162, hQ162, l162, y162, z162⟩, st162⟩ := X159.virtualBack hx (y := (⟨"java/lang/String", "equals", "(Ljava/lang/Object;)Z"⟩ : MethodName)) (z := (⟨"java/lang/String", "equals", "(Ljava/lang/Object;)Z"⟩ : MethodName)) hown (mvT hZ (hw _ (List.mem_of_getElem? (i := 74) rfl))) (mvT hZ (hw _ (List.mem_of_getElem? (i := 75) rfl))) (notFace_of_selects (args := #[]) (mvT hZ (hw _ (List.mem_of_getElem? (i := 77) rfl)))) (mvT hZ (hw _ (List.mem_of_getElem? (i := 77) rfl))) (mvT hZ (hw _ (List.mem_of_getElem? (i := 76) rfl))) (by decide) (backOf (W := 0) (rm_eqs l Z a0 hw [] r103 T141.heap n0 O150 ) hZ (hw _ (List.mem_of_getElem? (i := 78) rfl)) (hw _ (List.mem_of_getElem? (i := 6) rfl)) (by decide) (by decide)) q162a q162c (g := (mkF m 100 #[iv p0, iv p1, .val (.long p2), .second, rv r103, rv r111, iv (1 : Int32), rv r142] [(.ref r103), (.ref r103)])) rfl (by rw [hml]; rfl) (Steps.refl _) (argsL := [(.ref r103)]) (rest := []) (lenOf pd_11 rfl) rfl (by show 2 * 0 + _ ≤ _; exact Nat.le_of_eq rfl) (hb hby at_100) (fun _ _ => ⟨rfl, e159, (by decide : 12 + 0 ≤ _), (by decide : 132 + 0 ≤ _)⟩)
  dsimp only [Pt.U, Pt.locs, Pt.cells, Pt.slots] at X162 l162 y162 z162 st162 hQ162
  subst l162 y162 z162
  obtain ⟨rfl, M162, e162⟩ := hQ162
  have N162 := Fr.app N159 M162
  have g164 : Go p e below T162 (mkF m 103 #[iv p0, iv p1, .val (.long p2), .second, rv r103, rv r111, iv (1 : Int32), rv r142] [(.int (1 : Int32))]) A0 := fun t kont => g161 t (st162.trans kont)
  have g165 : Go p e below T162 (mkF m 108 #[iv p0, iv p1, .val (.long p2), .second, rv r103, rv r111, iv (1 : Int32), rv r142] [(.ref r142)]) A0 := by
    intro t kont
    refine g164 t ?_
    refine XS.ifNo X162.here hx rfl (hb hby at_103) rfl ((if0 _ _).trans (feq (by decide : ¬ ((1 : Int32) = (0 : Int32)))).1) ?_
    show Steps p.tables e below (T162.setTop (mkF m 106 #[iv p0, iv p1, .val (.long p2), .second, rv r103, rv r111, iv (1 : Int32), rv r142] [])) _
    refine XS.aload X162.here hx rfl (hb hby at_106) rfl rfl ?_
    show Steps p.tables e below (T162.setTop (mkF m 108 #[iv p0, iv p1, .val (.long p2), .second, rv r103, rv r111, iv (1 : Int32), rv r142] [(.ref r142)])) _
    exact kont
  obtain ⟨cq166, kq166, q166a, q166b, q166c⟩ := isOf hZ e162 y144
  obtain ⟨_, _, ⟨T166, L166, k166, n166⟩, -, X166, ⟨Lc166, hQ166, l166, y166, z166⟩, st166⟩ := X162.virtualBack hx (y := (⟨"com/example/tenant_data_scope/tenantdatascope/TenantProfile", "addsTenantCondition", "()Z"⟩ : MethodName)) (z := (⟨"com/example/tenant_data_scope/tenantdatascope/TenantProfile", "addsTenantCondition", "()Z"⟩ : MethodName)) hown (mvT hZ (hw _ (List.mem_of_getElem? (i := 79) rfl))) (mvT hZ (hw _ (List.mem_of_getElem? (i := 80) rfl))) (notFace_of_selects (args := #[]) (mvT hZ (hw _ (List.mem_of_getElem? (i := 82) rfl)))) (mvT hZ (hw _ (List.mem_of_getElem? (i := 82) rfl))) (mvT hZ (hw _ (List.mem_of_getElem? (i := 81) rfl))) (by decide) (backOf (W := 0) (rm_atc0 l Z a0 hw [] r142 T141.heap n0 O150 y147) hZ (hw _ (List.mem_of_getElem? (i := 83) rfl)) (hw _ (List.mem_of_getElem? (i := 36) rfl)) (by decide) (by decide)) q166a q166c (g := (mkF m 108 #[iv p0, iv p1, .val (.long p2), .second, rv r103, rv r111, iv (1 : Int32), rv r142] [(.ref r142)])) rfl (by rw [hml]; rfl) (Steps.refl _) (argsL := []) (rest := []) (lenOf pd_12 rfl) rfl (by show 2 * 0 + _ ≤ _; exact Nat.le_of_eq rfl) (hb hby at_108) (fun _ _ => ⟨rfl, e162, (by decide : 12 + 0 ≤ _), (by decide : 132 + 0 ≤ _)⟩)
  dsimp only [Pt.U, Pt.locs, Pt.cells, Pt.slots] at X166 l166 y166 z166 st166 hQ166
  subst l166 y166 z166
  obtain ⟨rfl, M166, e166⟩ := hQ166
  have N166 := Fr.app N162 M166
  have g167 : Go p e below T166 (mkF m 111 #[iv p0, iv p1, .val (.long p2), .second, rv r103, rv r111, iv (1 : Int32), rv r142] [(.int (0 : Int32))]) A0 := fun t kont => g165 t (st166.trans kont)
  have g168 : Go p e below T166 (mkF m 116 #[iv p0, iv p1, .val (.long p2), .second, rv r103, rv r111, iv (1 : Int32), rv r142] [(.ref r142)]) A0 := by
    intro t kont
    refine g167 t ?_
    refine XS.ifNo X166.here hx rfl (hb hby at_111) rfl ((if0 _ _).trans (teq (by decide : (0 : Int32) = (0 : Int32))).2) ?_
    show Steps p.tables e below (T166.setTop (mkF m 114 #[iv p0, iv p1, .val (.long p2), .second, rv r103, rv r111, iv (1 : Int32), rv r142] [])) _
    refine XS.aload X166.here hx rfl (hb hby at_114) rfl rfl ?_
    show Steps p.tables e below (T166.setTop (mkF m 116 #[iv p0, iv p1, .val (.long p2), .second, rv r103, rv r111, iv (1 : Int32), rv r142] [(.ref r142)])) _
    exact kont
  obtain ⟨cq169, kq169, q169a, q169b, q169c⟩ := isOf hZ e166 y144
  obtain ⟨_, _, ⟨T169, L169, k169, n169⟩, -, X169, ⟨Lc169, hQ169, l169, y169, z169⟩, st169⟩ := X166.virtualBack hx (y := (⟨"com/example/tenant_data_scope/tenantdatascope/TenantProfile", "version", "()J"⟩ : MethodName)) (z := (⟨"com/example/tenant_data_scope/tenantdatascope/TenantProfile", "version", "()J"⟩ : MethodName)) hown (mvT hZ (hw _ (List.mem_of_getElem? (i := 84) rfl))) (mvT hZ (hw _ (List.mem_of_getElem? (i := 85) rfl))) (notFace_of_selects (args := #[]) (mvT hZ (hw _ (List.mem_of_getElem? (i := 87) rfl)))) (mvT hZ (hw _ (List.mem_of_getElem? (i := 87) rfl))) (mvT hZ (hw _ (List.mem_of_getElem? (i := 86) rfl))) (by decide) (backOf (W := 0) (rm_ver l Z a0 hw [] r142 p2 T141.heap n0 O150 y148) hZ (hw _ (List.mem_of_getElem? (i := 88) rfl)) (hw _ (List.mem_of_getElem? (i := 36) rfl)) (by decide) (by decide)) q169a q169c (g := (mkF m 116 #[iv p0, iv p1, .val (.long p2), .second, rv r103, rv r111, iv (1 : Int32), rv r142] [(.ref r142)])) rfl (by rw [hml]; rfl) (Steps.refl _) (argsL := []) (rest := []) (lenOf pd_13 rfl) rfl (by show 2 * 0 + _ ≤ _; exact Nat.le_of_eq rfl) (hb hby at_116) (fun _ _ => ⟨rfl, e166, (by decide : 12 + 0 ≤ _), (by decide : 132 + 0 ≤ _)⟩)
  dsimp only [Pt.U, Pt.locs, Pt.cells, Pt.slots] at X169 l169 y169 z169 st169 hQ169
  subst l169 y169 z169
  obtain ⟨rfl, M169, e169⟩ := hQ169
  have N169 := Fr.app N166 M169
  have g170 : Go p e below T169 (mkF m 119 #[iv p0, iv p1, .val (.long p2), .second, rv r103, rv r111, iv (1 : Int32), rv r142] [(.long p2)]) A0 := fun t kont => g168 t (st169.trans kont)
  have g171 : Go p e below T169 (mkF m 129 #[iv p0, iv p1, .val (.long p2), .second, rv r103, rv r111, iv (1 : Int32), rv r142] [(.int (1 : Int32))]) A0 := by
    intro t kont
    refine g170 t ?_
    refine XS.lloadN X169.here hx rfl (hb hby at_119) rfl ?_
    show Steps p.tables e below (T169.setTop (mkF m 120 #[iv p0, iv p1, .val (.long p2), .second, rv r103, rv r111, iv (1 : Int32), rv r142] [(.long p2), (.long p2)])) _
    refine XS.lcmp X169.here hx rfl (hb hby at_120) rfl ?_
    show Steps p.tables e below (T169.setTop (mkF m 121 #[iv p0, iv p1, .val (.long p2), .second, rv r103, rv r111, iv (1 : Int32), rv r142] [(.int (lcmpW p2 p2))])) _
    refine XS.ifNo X169.here hx rfl (hb hby at_121) rfl ((if0 _ _).trans (teq (own_lcmp_self _ : (lcmpW p2 p2) = (0 : Int32))).2) ?_
    show Steps p.tables e below (T169.setTop (mkF m 124 #[iv p0, iv p1, .val (.long p2), .second, rv r103, rv r111, iv (1 : Int32), rv r142] [])) _
    refine XS.iconst X169.here hx rfl (hb hby at_124) ?_
    show Steps p.tables e below (T169.setTop (mkF m 125 #[iv p0, iv p1, .val (.long p2), .second, rv r103, rv r111, iv (1 : Int32), rv r142] [(.int (1 : Int32))])) _
    refine XS.goto X169.here hx rfl (pc0 := 125) (pc' := 129) rfl (hb hby at_125) (by decide) (by decide) ?_
    show Steps p.tables e below (T169.setTop (mkF m 129 #[iv p0, iv p1, .val (.long p2), .second, rv r103, rv r111, iv (1 : Int32), rv r142] [(.int (1 : Int32))])) _
    exact kont
  obtain ⟨fs, hr, hrun, hended, hRW⟩ := X169.leaveW hS (by rw [e169]; exact (Nat.le_refl _)) (v := some (.int (1 : Int32))) (fun h => by rw [Bd.returns] at h; cases h)
  refine ⟨_, _, g171 _ (retN X169 hx (t := .boolean) Bd.returns (by simp) (hb hby at_129) hr), hrun, hended, _, _, rfl, ?_, ?_, hRW.1, hRW.2.1, hRW.2.2.1, hRW.2.2.2.mono (by decide) (by decide)⟩
  ·
    show Q_law Z p0 p1 p2 w_DEDICATED w_SHARED i_COMPACT_STRINGS h0 n0 _ T169.heap _
    rw [e169]
    exact ⟨rfl, N169⟩
  ·
    rw [hh]
    show CHr Z consts_1 s.vm h0 T169.vm T169.heap
    rw [e169]
    exact R149.trans (CHv.at X169 hZ (own_EW hw) R149.1)
set_option maxRecDepth 65536 in
set_option maxHeartbeats 40000000 in
theorem comes_1 {Post : Tables → Env → Array Value → State → Outcome → State → Prop} (hpost : ∀ tb e args s v u, (limb_1_1.after args s (.returned v) u = true ∧ limb_1_2.after args s (.returned v) u = true ∧ True) → ReturnedEndW s (.returned v) u (Jvm.fieldLocs frame_1_writes args s ++ Jvm.arrayLocs frame_1_arrays args s ++ Jvm.staticLocs frame_1_statics s) 24 2176 → Post tb e args s (.returned v) u) :
    ArmFor flags0 classFile x code maxLocals ret World_1 tables_1 room_1 Calls_1 rest_1 Pre_1 Post := by
  intro l hfl _ _ p e ha hc hk s m args below hf hA hF happ hP
  obtain ⟨hcalls, hrest, hpre⟩ := hP
  obtain ⟨-, -, -, hnamed, -, -, -, hat⟩ := (Spec.applies_iff hf).mp happ
  obtain ⟨hg, hn⟩ := and_e (Cond.before_iff.mp (show (Jvm.Cond.and given_1 narrow_1).before args s = true from hpre))
  obtain ⟨hcount, hg⟩ := and_e hg
  obtain ⟨ha0, hg⟩ := and_e hg
  obtain ⟨ha1, hg⟩ := and_e hg
  have ha2 := hg
  obtain ⟨w0, w1, w2, rfl⟩ : ∃ w0 w1 w2 : Value, args = #[w0, w1, w2] := by
    have hs : args.size = 3 := by simpa [Cond.value, given_1] using hcount
    obtain ⟨L⟩ := args
    match L, hs with
    | [w0, w1, w2], _ => exact ⟨w0, w1, w2, rfl⟩
  have hw := fun d (hd : d ∈ tables_1) => atoms_spec (ws := Jvm.Cond.code x code maxLocals ret :: tables_1) hat d (List.mem_cons_of_mem _ hd)
  obtain ⟨hsets, hown0⟩ := atoms_of _ (rest_1_c_eq ▸ (show rest_1_c.before _ s = true from hrest))
  have hfit : Fit s := fun {y c} hc i hi => by
    obtain ⟨ha, rfl⟩ := Array.getElem?_eq_some_iff.mp hc
    have q := List.all_eq_true.mp ((Array.all_eq_true_iff_forall_mem.mp hF) _ (Array.getElem_mem ha)) i (List.mem_range.mpr hi)
    simpa [Array.getElem?_eq_getElem hi] using q
  obtain ⟨p0, ea0⟩ := is_v ha0
  obtain rfl : w0 = (.int p0) := Option.some.inj ea0
  obtain ⟨p1, ea1⟩ := is_v ha1
  obtain rfl : w1 = (.int p1) := Option.some.inj ea1
  obtain ⟨p2, ea2⟩ := isL_v ha2
  obtain rfl : w2 = (.long p2) := Option.some.inj ea2
  obtain ⟨i_COMPACT_STRINGS, ev_COMPACT_STRINGS⟩ := is_v (Cond.before_iff.mp (hsets _ (List.mem_of_getElem? (i := 1) rfl)))
  obtain ⟨v_SIOOBE_FORMATTER, ev_SIOOBE_FORMATTER, r_SIOOBE_FORMATTER⟩ := isR_v (Cond.before_iff.mp (hsets _ (List.mem_of_getElem? (i := 8) rfl)))
  have S_COMPACT_STRINGS : Sta s s.heap "java/lang/String" "COMPACT_STRINGS" "Z" (.int i_COMPACT_STRINGS) := Sta.start ev_COMPACT_STRINGS (Or.inl (hsets _ (List.mem_of_getElem? (i := 0) rfl)))
  have S_SIOOBE_FORMATTER : Sta s s.heap "jdk/internal/util/Preconditions" "SIOOBE_FORMATTER" "Ljava/util/function/BiFunction;" v_SIOOBE_FORMATTER := Sta.start ev_SIOOBE_FORMATTER (Or.inl (hsets _ (List.mem_of_getElem? (i := 7) rfl)))
  have c_COMPACT_STRINGS : ¬ (i_COMPACT_STRINGS = (0 : Int32)) := gotF (Cond.eq_ints ev_COMPACT_STRINGS (Term.int_eval (0))) (not_v (Cond.before_iff.mp (hsets _ (List.mem_of_getElem? (i := 2) rfl))))
  obtain ⟨hn0, hn⟩ := and_e hn
  obtain ⟨hn1, hn⟩ := and_e hn
  obtain ⟨hn2, hn⟩ := and_e hn
  have hn3 := hn
  obtain ⟨w_DEDICATED, ev_DEDICATED⟩ := exa_v hn0
  have S_DEDICATED : Sta s s.heap "com/example/tenant_data_scope/tenantdatascope/TenantProfile$Mode" "DEDICATED" "Lcom/example/tenant_data_scope/tenantdatascope/TenantProfile$Mode;" (.ref w_DEDICATED) := Sta.start ev_DEDICATED (Or.inr ⟨(hw _ (List.mem_of_getElem? (i := 41) rfl)), (hw _ (List.mem_of_getElem? (i := 42) rfl))⟩)
  have E_DEDICATED : Exa s s.heap w_DEDICATED "com/example/tenant_data_scope/tenantdatascope/TenantProfile$Mode" := Exa.start ev_DEDICATED hn0
  obtain ⟨w_SHARED, ev_SHARED⟩ := exa_v hn1
  have S_SHARED : Sta s s.heap "com/example/tenant_data_scope/tenantdatascope/TenantProfile$Mode" "SHARED" "Lcom/example/tenant_data_scope/tenantdatascope/TenantProfile$Mode;" (.ref w_SHARED) := Sta.start ev_SHARED (Or.inr ⟨(hw _ (List.mem_of_getElem? (i := 41) rfl)), (hw _ (List.mem_of_getElem? (i := 95) rfl))⟩)
  have E_SHARED : Exa s s.heap w_SHARED "com/example/tenant_data_scope/tenantdatascope/TenantProfile$Mode" := Exa.start ev_SHARED hn1
  have F_DEDICATED := own_fld_int hn2 ev_DEDICATED
  have F_SHARED := own_fld_int hn3 ev_SHARED
  have ne0 : ¬ (w_DEDICATED = w_SHARED) := Fld.ne F_DEDICATED F_SHARED (by decide)
  have hch : CHv s consts_1 s.vm s.heap := CHv.start (own_EW hw) (fun p hp => hcalls.1 p hp) (own_compact hsets) (hw _ (List.mem_of_getElem? (i := 23) rfl)) (hw _ (List.mem_of_getElem? (i := 5) rfl))
  obtain ⟨n, o, h1, h2, h3, _, L, rfl, ⟨rfl, N⟩, -, hq⟩ := rm_law l s _ hw tables_1 p0 p1 p2 w_DEDICATED w_SHARED i_COMPACT_STRINGS s.heap s.heap.size (Old.start s) S_COMPACT_STRINGS c_COMPACT_STRINGS S_DEDICATED S_SHARED E_DEDICATED E_SHARED ne0 p e ha hc hk s m _ below hf ((Spec.applies_iff_loose hf).mp happ).1 ⟨rfl, State.Warmed39.refl s, rfl, hch⟩ trivial
  refine ⟨n, _, h1, h2, h3, hpost _ _ _ _ _ _ ⟨Cond.after_iff.mpr rfl, Cond.after_iff.mpr (eq_i res_at (Term.int_eval (1)) rfl), trivial⟩ ⟨hq.1, hq.2.1, hq.2.2.1, (hq.2.2.2.sift fun y hy => Or.inr (N y hy)).mono (by decide) (by decide)⟩⟩
theorem main_1_1 : Claimed_1_1 := comes_1 fun _ _ _ _ _ _ h hF => ⟨h.1, hF⟩
theorem main_1_2 : Claimed_1_2 := comes_1 fun _ _ _ _ _ _ h hF => ⟨h.2.1, hF⟩
end Jvm.Pilot.@@N@@
namespace Jvm.Pilot.@@N@@
open Jvm Jvm.ClassFile Sem Op Lib Jvm.Free Jvm.Stand Jvm.Pilot.@@N@@.Jvm.D
/-! MADE BY PROGRAM (witnessworld.py) out of the Statement's table words and the real class files: 23 classes; the members and pool entries that the words name. The judged class is class 1, her method 1. -/
namespace start1
open Jvm.ClassFile
def u (s : String) : CpInfo := .utf8 (stringToUtf16 s)
/-- a pool by its gaps: so many unusable entries, then the entry; so many at the end -/
def gap : Nat → List CpInfo → List CpInfo
  | 0, r => r
  | n + 1, r => .unusable :: gap n r
def poolList (es : List (Nat × CpInfo)) (last : Nat) : List CpInfo := es.foldr (fun e r => gap e.1 (e.2 :: r)) (gap last [])
def pool (es : List (Nat × CpInfo)) (last : Nat) : Array CpInfo := ⟨poolList es last⟩
def fileOf (pool : Array CpInfo) (this : Nat) (attrs : Array Attribute := #[]) (ms : Array MethodInfo := #[]) (fl : Nat := 33) (sup : Nat := 0) (ifs : Array Nat := #[]) (fds : Array FieldInfo := #[]) : ClassFile where
  minorVersion := 0
  majorVersion := 65
  constantPool := pool
  accessFlags := fl
  thisClass := this
  superClass := sup
  interfaces := ifs
  fields := fds
  methods := ms
  attributes := attrs
def plain (name : String) (sup : Option ClassId) : Class where
  name := name
  kind := .ordinary
  loader := none
  accessFlags := 33
  super := sup
  interfaces := #[]
  cf := none
  fields := #[]
  methods := #[]
  instanceTypes := #[]
  staticTypes := #[]
  resolved := #[]
  callSites := []
  init := .initialized
  statics := none
  mirror := none

def pool0 : Array CpInfo := pool [(5, u "<init>"), (0, u "()V"), (1, .class_ 10), (1, u "java/lang/Object")] 113

def k0c0 : Code := { maxStack := 0, maxLocals := 1, code := object_method_1_code, exceptionTable := #[], attributes := #[] }
def k0m0 : Method := { name := "<init>", desc := "()V", sig := { parameters := [], returnType := none }, accessFlags := 1, code := some k0c0 }
/-- java/lang/Object -/
def k0 : Class := { plain "java/lang/Object" none with
  accessFlags := 33
  interfaces := #[]
  cf := some (fileOf pool0 8 #[] #[{ accessFlags := 1, nameIndex := 5, descriptorIndex := 6, attributes := #[] }] 33 0 #[] #[])
  fields := #[]
  methods := #[k0m0]
  instanceTypes := #[]
  staticTypes := #[]
  resolved := Array.replicate 124 none
  statics := none }

def pool1 : Array CpInfo := pool [(2, .class_ 4), (1, u "java/lang/Object"), (0, u "<init>"), (0, u "()V"), (0, .methodref 8 9), (0, .class_ 10), (0, .nameAndType 11 12), (0, u "com/example/tenant_data_scope/tenantdatascope/TenantProfileDedicatedPinLaw"), (0, u "key"), (0, u "(II)Ljava/lang/String;"), (0, .methodref 14 15), (0, .class_ 16), (0, .nameAndType 17 18), (0, u "com/example/tenant_data_scope/tenantdatascope/TenantProfile"), (0, u "dedicated"), (0, u "(Ljava/lang/String;J)Lcom/example/tenant_data_scope/tenantdatascope/TenantProfile;"), (0, .methodref 14 20), (0, .nameAndType 21 22), (0, u "mode"), (0, u "()Lcom/example/tenant_data_scope/tenantdatascope/TenantProfile$Mode;"), (0, .fieldref 24 25), (0, .class_ 26), (0, .nameAndType 27 28), (0, u "com/example/tenant_data_scope/tenantdatascope/TenantProfile$Mode"), (0, u "DEDICATED"), (0, u "Lcom/example/tenant_data_scope/tenantdatascope/TenantProfile$Mode;"), (0, .methodref 14 30), (0, .nameAndType 31 32), (0, u "dataSourceKey"), (0, u "()Ljava/lang/String;"), (0, .methodref 34 35), (0, .class_ 36), (0, .nameAndType 37 38), (0, u "java/lang/String"), (0, u "equals"), (0, u "(Ljava/lang/Object;)Z"), (0, .methodref 14 40), (0, .nameAndType 41 42), (0, u "addsTenantCondition"), (0, u "()Z"), (0, .methodref 14 44), (0, .nameAndType 45 46), (0, u "version"), (0, u "()J"), (0, .methodref 14 48), (0, .nameAndType 49 50), (0, u "withoutTenantCondition"), (0, u "()Lcom/example/tenant_data_scope/tenantdatascope/TenantProfile;"), (0, .methodref 34 52), (0, .nameAndType 5 53), (0, u "([C)V"), (2, u "law"), (0, u "(IIJ)Z")] 5

def k1m0 : Method := { name := "<init>", desc := "()V", sig := { parameters := [], returnType := none }, accessFlags := 1, code := none }
def k1c1 : Code := { maxStack := 4, maxLocals := 8, code := code, exceptionTable := #[], attributes := #[] }
def k1m1 : Method := { name := "law", desc := "(IIJ)Z", sig := { parameters := [.int, .int, .long], returnType := some .boolean }, accessFlags := 9, code := some k1c1 }
def k1c2 : Code := { maxStack := 6, maxLocals := 6, code := method_3_code, exceptionTable := #[], attributes := #[] }
def k1m2 : Method := { name := "key", desc := "(II)Ljava/lang/String;", sig := { parameters := [.int, .int], returnType := some (.object "java/lang/String") }, accessFlags := 10, code := some k1c2 }
/-- com/example/tenant_data_scope/tenantdatascope/TenantProfileDedicatedPinLaw -/
def k1 : Class := { plain "com/example/tenant_data_scope/tenantdatascope/TenantProfileDedicatedPinLaw" (some 0) with
  accessFlags := 49
  interfaces := #[]
  cf := some (fileOf pool1 8 #[] #[{ accessFlags := 1, nameIndex := 5, descriptorIndex := 6, attributes := #[] }, { accessFlags := 9, nameIndex := 56, descriptorIndex := 57, attributes := #[] }, { accessFlags := 10, nameIndex := 11, descriptorIndex := 12, attributes := #[] }] 49 2 #[] #[])
  fields := #[]
  methods := #[k1m0, k1m1, k1m2]
  instanceTypes := #[]
  staticTypes := #[]
  resolved := Array.replicate 63 none
  statics := none }

def pool2 : Array CpInfo := pool [(1, .class_ 2), (0, u "java/io/Serializable"), (0, .class_ 4), (0, u "java/lang/Object")] 2

/-- java/io/Serializable -/
def k2 : Class := { plain "java/io/Serializable" (some 0) with
  accessFlags := 1537
  interfaces := #[]
  cf := some (fileOf pool2 1 #[] #[] 1537 3 #[] #[])
  fields := #[]
  methods := #[]
  instanceTypes := #[]
  staticTypes := #[]
  resolved := Array.replicate 7 none
  statics := none }

def pool3 : Array CpInfo := pool [(1, .class_ 2), (0, u "java/lang/Comparable"), (0, .class_ 4), (0, u "java/lang/Object")] 7

/-- java/lang/Comparable -/
def k3 : Class := { plain "java/lang/Comparable" (some 0) with
  accessFlags := 1537
  interfaces := #[]
  cf := some (fileOf pool3 1 #[] #[] 1537 3 #[] #[])
  fields := #[]
  methods := #[]
  instanceTypes := #[]
  staticTypes := #[]
  resolved := Array.replicate 12 none
  statics := none }

def pool4 : Array CpInfo := pool [(2, .class_ 4), (1, u "java/lang/CharSequence"), (42, .class_ 48), (0, u "java/lang/CharSequence$1CodePointIterator"), (10, .class_ 60), (0, u "java/lang/CharSequence$1CharIterator"), (5, .class_ 67), (0, u "java/lang/Object")] 63

/-- java/lang/CharSequence -/
def k4 : Class := { plain "java/lang/CharSequence" (some 0) with
  accessFlags := 1537
  interfaces := #[]
  cf := some (fileOf pool4 2 #[.nestMembers #[47, 59]] #[] 1537 66 #[] #[])
  fields := #[]
  methods := #[]
  instanceTypes := #[]
  staticTypes := #[]
  resolved := Array.replicate 131 none
  statics := none }

def pool5 : Array CpInfo := pool [(1, .class_ 2), (0, u "java/lang/constant/Constable"), (0, .class_ 4), (0, u "java/lang/Object")] 6

/-- java/lang/constant/Constable -/
def k5 : Class := { plain "java/lang/constant/Constable" (some 0) with
  accessFlags := 1537
  interfaces := #[]
  cf := some (fileOf pool5 1 #[] #[] 1537 3 #[] #[])
  fields := #[]
  methods := #[]
  instanceTypes := #[]
  staticTypes := #[]
  resolved := Array.replicate 11 none
  statics := none }

def pool6 : Array CpInfo := pool [(1, .class_ 2), (0, u "java/lang/constant/ConstantDesc"), (0, .class_ 4), (0, u "java/lang/Object")] 32

/-- java/lang/constant/ConstantDesc -/
def k6 : Class := { plain "java/lang/constant/ConstantDesc" (some 0) with
  accessFlags := 1537
  interfaces := #[]
  cf := some (fileOf pool6 1 #[] #[] 1537 3 #[] #[])
  fields := #[]
  methods := #[]
  instanceTypes := #[]
  staticTypes := #[]
  resolved := Array.replicate 37 none
  statics := none }

def pool7 : Array CpInfo := pool [(1, .methodref 2 3), (0, .class_ 4), (0, .nameAndType 5 6), (0, u "java/lang/Object"), (0, u "<init>"), (0, u "()V"), (0, .string 8), (0, u ""), (0, .fieldref 10 11), (0, .class_ 12), (0, .nameAndType 13 14), (0, u "java/lang/String"), (0, u "value"), (0, u "[B"), (0, .fieldref 10 16), (0, .nameAndType 17 18), (0, u "coder"), (0, u "B"), (2, u "hash"), (0, u "I"), (2, u "hashIsZero"), (0, u "Z"), (0, .methodref 10 28), (0, .nameAndType 5 29), (0, u "([CIILjava/lang/Void;)V"), (8, .fieldref 10 39), (0, .nameAndType 40 26), (0, u "COMPACT_STRINGS"), (1, .class_ 44), (1, u "java/lang/StringUTF16"), (0, u "compress"), (1, .methodref 42 48), (0, .nameAndType 49 50), (0, u "coderFromArrayLen"), (0, u "([BI)B"), (126, .methodref 42 178), (0, .nameAndType 45 179), (0, u "([CII)[B"), (363, u "equals"), (29, u "(Ljava/lang/Object;)Z"), (1, .class_ 576), (0, u "java/lang/CharSequence"), (22, u "CASE_INSENSITIVE_ORDER"), (0, u "Ljava/util/Comparator;"), (409, u "([C)V"), (90, u "serialPersistentFields"), (0, u "[Ljava/io/ObjectStreamField;"), (0, .class_ 1104), (0, u "java/lang/String$CaseInsensitiveComparator"), (1, .class_ 1107), (0, u "java/io/Serializable"), (0, .class_ 1109), (0, u "java/lang/Comparable"), (0, .class_ 1111), (0, u "java/lang/constant/Constable"), (0, .class_ 1113), (0, u "java/lang/constant/ConstantDesc"), (2, u "serialVersionUID"), (0, u "J"), (3, u "REPL"), (0, u "C"), (2, u "LATIN1"), (1, u "UTF16")] 323

def k7m0 : Method := { name := "<init>", desc := "()V", sig := { parameters := [], returnType := none }, accessFlags := 1, code := none }
def k7c1 : Code := { maxStack := 5, maxLocals := 2, code := jdk_42_method_3_code, exceptionTable := #[], attributes := #[] }
def k7m1 : Method := { name := "<init>", desc := "([C)V", sig := { parameters := [(.array .char)], returnType := none }, accessFlags := 1, code := some k7c1 }
def k7c2 : Code := { maxStack := 2, maxLocals := 3, code := jdk_42_method_66_code, exceptionTable := #[], attributes := #[] }
def k7m2 : Method := { name := "equals", desc := "(Ljava/lang/Object;)Z", sig := { parameters := [(.object "java/lang/Object")], returnType := some .boolean }, accessFlags := 1, code := some k7c2 }
def k7c3 : Code := { maxStack := 4, maxLocals := 6, code := jdk_42_method_149_code, exceptionTable := #[], attributes := #[] }
def k7m3 : Method := { name := "<init>", desc := "([CIILjava/lang/Void;)V", sig := { parameters := [(.array .char), .int, .int, (.object "java/lang/Void")], returnType := none }, accessFlags := 2, code := some k7c3 }
/-- java/lang/String -/
def k7 : Class := { plain "java/lang/String" (some 0) with
  accessFlags := 49
  interfaces := #[2, 3, 4, 5, 6]
  cf := some (fileOf pool7 10 #[.nestMembers #[1103]] #[{ accessFlags := 1, nameIndex := 5, descriptorIndex := 6, attributes := #[] }, { accessFlags := 1, nameIndex := 5, descriptorIndex := 1010, attributes := #[] }, { accessFlags := 1, nameIndex := 543, descriptorIndex := 573, attributes := #[] }, { accessFlags := 2, nameIndex := 5, descriptorIndex := 29, attributes := #[] }] 49 2 #[1106, 1108, 575, 1110, 1112] #[{ accessFlags := 18, nameIndex := 13, descriptorIndex := 14, attributes := #[] }, { accessFlags := 18, nameIndex := 17, descriptorIndex := 18, attributes := #[] }, { accessFlags := 2, nameIndex := 21, descriptorIndex := 22, attributes := #[] }, { accessFlags := 2, nameIndex := 25, descriptorIndex := 26, attributes := #[] }, { accessFlags := 26, nameIndex := 1116, descriptorIndex := 1117, attributes := #[] }, { accessFlags := 24, nameIndex := 40, descriptorIndex := 26, attributes := #[] }, { accessFlags := 26, nameIndex := 1101, descriptorIndex := 1102, attributes := #[] }, { accessFlags := 26, nameIndex := 1121, descriptorIndex := 1122, attributes := #[] }, { accessFlags := 25, nameIndex := 599, descriptorIndex := 600, attributes := #[] }, { accessFlags := 24, nameIndex := 1125, descriptorIndex := 18, attributes := #[] }, { accessFlags := 24, nameIndex := 1127, descriptorIndex := 18, attributes := #[] }])
  fields := #[{ name := "value", type := (.array .byte), accessFlags := 18, slot := 0, constantValue := 0 }, { name := "coder", type := .byte, accessFlags := 18, slot := 1, constantValue := 0 }, { name := "hash", type := .int, accessFlags := 2, slot := 2, constantValue := 0 }, { name := "hashIsZero", type := .boolean, accessFlags := 2, slot := 3, constantValue := 0 }, { name := "serialVersionUID", type := .long, accessFlags := 26, slot := 0, constantValue := 0 }, { name := "COMPACT_STRINGS", type := .boolean, accessFlags := 24, slot := 1, constantValue := 0 }, { name := "serialPersistentFields", type := (.array (.object "java/io/ObjectStreamField")), accessFlags := 26, slot := 2, constantValue := 0 }, { name := "REPL", type := .char, accessFlags := 26, slot := 3, constantValue := 0 }, { name := "CASE_INSENSITIVE_ORDER", type := (.object "java/util/Comparator"), accessFlags := 25, slot := 4, constantValue := 0 }, { name := "LATIN1", type := .byte, accessFlags := 24, slot := 5, constantValue := 0 }, { name := "UTF16", type := .byte, accessFlags := 24, slot := 6, constantValue := 0 }]
  methods := #[k7m0, k7m1, k7m2, k7m3]
  instanceTypes := #[(.array .byte), .byte, .int, .boolean]
  staticTypes := #[.long, .boolean, (.array (.object "java/io/ObjectStreamField")), .char, (.object "java/util/Comparator"), .byte, .byte]
  resolved := Array.replicate 1451 none
  statics := some 0 }

def pool8 : Array CpInfo := pool [(6, .class_ 8), (1, u "java/lang/Object"), (0, u "<init>"), (0, u "()V"), (1, .class_ 14), (1, u "java/lang/StringUTF16"), (31, u "$assertionsDisabled"), (0, u "Z"), (13, u "HI_BYTE_SHIFT"), (0, u "I"), (2, u "LO_BYTE_SHIFT"), (49, .methodref 12 116), (0, .nameAndType 117 118), (0, u "compress"), (0, u "([CI[BII)I"), (3, u "([CII)[B"), (138, u "coderFromArrayLen"), (0, u "([BI)B"), (106, .class_ 371), (1, u "java/lang/StringUTF16$LinesSpliterator"), (58, u "MAX_LENGTH"), (196, .class_ 628), (0, u "java/lang/StringUTF16$CodePointsSpliterator"), (0, .class_ 630), (0, u "java/lang/StringUTF16$CharsSpliterator")] 4

def k8m0 : Method := { name := "<init>", desc := "()V", sig := { parameters := [], returnType := none }, accessFlags := 0, code := none }
def k8c1 : Code := { maxStack := 2, maxLocals := 2, code := jdk_52_method_15_code, exceptionTable := #[], attributes := #[] }
def k8m1 : Method := { name := "coderFromArrayLen", desc := "([BI)B", sig := { parameters := [(.array .byte), .int], returnType := some .byte }, accessFlags := 8, code := some k8c1 }
def k8c2 : Code := { maxStack := 5, maxLocals := 6, code := jdk_52_method_16_code, exceptionTable := #[], attributes := #[] }
def k8m2 : Method := { name := "compress", desc := "([CII)[B", sig := { parameters := [(.array .char), .int, .int], returnType := some (.array .byte) }, accessFlags := 9, code := some k8c2 }
def k8c3 : Code := { maxStack := 3, maxLocals := 7, code := jdk_52_method_21_code, exceptionTable := #[], attributes := #[] }
def k8m3 : Method := { name := "compress", desc := "([CI[BII)I", sig := { parameters := [(.array .char), .int, (.array .byte), .int, .int], returnType := some .int }, accessFlags := 9, code := some k8c3 }
/-- java/lang/StringUTF16 -/
def k8 : Class := { plain "java/lang/StringUTF16" (some 0) with
  accessFlags := 48
  interfaces := #[]
  cf := some (fileOf pool8 12 #[.nestMembers #[627, 629, 369]] #[{ accessFlags := 0, nameIndex := 9, descriptorIndex := 10, attributes := #[] }, { accessFlags := 8, nameIndex := 261, descriptorIndex := 262, attributes := #[] }, { accessFlags := 9, nameIndex := 117, descriptorIndex := 122, attributes := #[] }, { accessFlags := 9, nameIndex := 117, descriptorIndex := 118, attributes := #[] }] 48 6 #[] #[{ accessFlags := 26, nameIndex := 61, descriptorIndex := 62, attributes := #[] }, { accessFlags := 26, nameIndex := 65, descriptorIndex := 62, attributes := #[] }, { accessFlags := 24, nameIndex := 430, descriptorIndex := 62, attributes := #[] }, { accessFlags := 4120, nameIndex := 46, descriptorIndex := 47, attributes := #[] }])
  fields := #[{ name := "HI_BYTE_SHIFT", type := .int, accessFlags := 26, slot := 0, constantValue := 0 }, { name := "LO_BYTE_SHIFT", type := .int, accessFlags := 26, slot := 1, constantValue := 0 }, { name := "MAX_LENGTH", type := .int, accessFlags := 24, slot := 2, constantValue := 0 }, { name := "$assertionsDisabled", type := .boolean, accessFlags := 4120, slot := 3, constantValue := 0 }]
  methods := #[k8m0, k8m1, k8m2, k8m3]
  instanceTypes := #[]
  staticTypes := #[.int, .int, .int, .boolean]
  resolved := Array.replicate 635 none
  statics := none }

def pool9 : Array CpInfo := pool [(1, .methodref 2 3), (0, .class_ 4), (0, .nameAndType 5 6), (0, u "java/lang/Object"), (0, u "<init>"), (0, u "()V"), (0, .fieldref 8 9), (0, .class_ 10), (0, .nameAndType 11 12), (0, u "com/example/tenant_data_scope/tenantdatascope/TenantProfile"), (0, u "mode"), (0, u "Lcom/example/tenant_data_scope/tenantdatascope/TenantProfile$Mode;"), (0, .string 14), (0, u "dataSourceKey"), (0, .methodref 16 17), (0, .class_ 18), (0, .nameAndType 19 20), (0, u "java/util/Objects"), (0, u "requireNonNull"), (0, u "(Ljava/lang/Object;Ljava/lang/String;)Ljava/lang/Object;"), (0, .class_ 22), (0, u "java/lang/String"), (0, .fieldref 8 24), (0, .nameAndType 14 25), (0, u "Ljava/lang/String;"), (0, .fieldref 8 27), (0, .nameAndType 28 29), (0, u "addsTenantCondition"), (0, u "Z"), (0, .fieldref 8 31), (0, .nameAndType 32 33), (0, u "version"), (0, u "J"), (0, .fieldref 35 36), (0, .class_ 37), (0, .nameAndType 38 12), (0, u "com/example/tenant_data_scope/tenantdatascope/TenantProfile$Mode"), (0, u "SHARED"), (0, .methodref 8 40), (0, .nameAndType 5 41), (0, u "(Lcom/example/tenant_data_scope/tenantdatascope/TenantProfile$Mode;Ljava/lang/String;ZJ)V"), (0, .fieldref 35 43), (0, .nameAndType 44 12), (0, u "DEDICATED"), (35, u "(Ljava/lang/String;J)Lcom/example/tenant_data_scope/tenantdatascope/TenantProfile;"), (0, u "dedicated"), (0, u "withoutTenantCondition"), (0, u "()Lcom/example/tenant_data_scope/tenantdatascope/TenantProfile;"), (1, u "()Lcom/example/tenant_data_scope/tenantdatascope/TenantProfile$Mode;"), (0, u "()Ljava/lang/String;"), (0, u "()Z"), (0, u "()J")] 25

def k9c0 : Code := { maxStack := 3, maxLocals := 6, code := prog_19_method_1_code, exceptionTable := #[], attributes := #[] }
def k9m0 : Method := { name := "<init>", desc := "(Lcom/example/tenant_data_scope/tenantdatascope/TenantProfile$Mode;Ljava/lang/String;ZJ)V", sig := { parameters := [(.object "com/example/tenant_data_scope/tenantdatascope/TenantProfile$Mode"), (.object "java/lang/String"), .boolean, .long], returnType := none }, accessFlags := 2, code := some k9c0 }
def k9c1 : Code := { maxStack := 7, maxLocals := 3, code := prog_19_method_3_code, exceptionTable := #[], attributes := #[] }
def k9m1 : Method := { name := "dedicated", desc := "(Ljava/lang/String;J)Lcom/example/tenant_data_scope/tenantdatascope/TenantProfile;", sig := { parameters := [(.object "java/lang/String"), .long], returnType := some (.object "com/example/tenant_data_scope/tenantdatascope/TenantProfile") }, accessFlags := 9, code := some k9c1 }
def k9c2 : Code := { maxStack := 7, maxLocals := 1, code := prog_19_method_4_code, exceptionTable := #[], attributes := #[] }
def k9m2 : Method := { name := "withoutTenantCondition", desc := "()Lcom/example/tenant_data_scope/tenantdatascope/TenantProfile;", sig := { parameters := [], returnType := some (.object "com/example/tenant_data_scope/tenantdatascope/TenantProfile") }, accessFlags := 1, code := some k9c2 }
def k9c3 : Code := { maxStack := 1, maxLocals := 1, code := prog_19_method_5_code, exceptionTable := #[], attributes := #[] }
def k9m3 : Method := { name := "mode", desc := "()Lcom/example/tenant_data_scope/tenantdatascope/TenantProfile$Mode;", sig := { parameters := [], returnType := some (.object "com/example/tenant_data_scope/tenantdatascope/TenantProfile$Mode") }, accessFlags := 1, code := some k9c3 }
def k9c4 : Code := { maxStack := 1, maxLocals := 1, code := prog_19_method_6_code, exceptionTable := #[], attributes := #[] }
def k9m4 : Method := { name := "dataSourceKey", desc := "()Ljava/lang/String;", sig := { parameters := [], returnType := some (.object "java/lang/String") }, accessFlags := 1, code := some k9c4 }
def k9c5 : Code := { maxStack := 1, maxLocals := 1, code := prog_19_method_7_code, exceptionTable := #[], attributes := #[] }
def k9m5 : Method := { name := "addsTenantCondition", desc := "()Z", sig := { parameters := [], returnType := some .boolean }, accessFlags := 1, code := some k9c5 }
def k9c6 : Code := { maxStack := 2, maxLocals := 1, code := prog_19_method_8_code, exceptionTable := #[], attributes := #[] }
def k9m6 : Method := { name := "version", desc := "()J", sig := { parameters := [], returnType := some .long }, accessFlags := 1, code := some k9c6 }
/-- com/example/tenant_data_scope/tenantdatascope/TenantProfile -/
def k9 : Class := { plain "com/example/tenant_data_scope/tenantdatascope/TenantProfile" (some 0) with
  accessFlags := 49
  interfaces := #[]
  cf := some (fileOf pool9 8 #[.nestMembers #[35]] #[{ accessFlags := 2, nameIndex := 5, descriptorIndex := 41, attributes := #[] }, { accessFlags := 9, nameIndex := 81, descriptorIndex := 80, attributes := #[] }, { accessFlags := 1, nameIndex := 82, descriptorIndex := 83, attributes := #[] }, { accessFlags := 1, nameIndex := 11, descriptorIndex := 85, attributes := #[] }, { accessFlags := 1, nameIndex := 14, descriptorIndex := 86, attributes := #[] }, { accessFlags := 1, nameIndex := 28, descriptorIndex := 87, attributes := #[] }, { accessFlags := 1, nameIndex := 32, descriptorIndex := 88, attributes := #[] }] 49 2 #[] #[{ accessFlags := 18, nameIndex := 11, descriptorIndex := 12, attributes := #[] }, { accessFlags := 18, nameIndex := 14, descriptorIndex := 25, attributes := #[] }, { accessFlags := 18, nameIndex := 28, descriptorIndex := 29, attributes := #[] }, { accessFlags := 18, nameIndex := 32, descriptorIndex := 33, attributes := #[] }])
  fields := #[{ name := "mode", type := (.object "com/example/tenant_data_scope/tenantdatascope/TenantProfile$Mode"), accessFlags := 18, slot := 0, constantValue := 0 }, { name := "dataSourceKey", type := (.object "java/lang/String"), accessFlags := 18, slot := 1, constantValue := 0 }, { name := "addsTenantCondition", type := .boolean, accessFlags := 18, slot := 2, constantValue := 0 }, { name := "version", type := .long, accessFlags := 18, slot := 3, constantValue := 0 }]
  methods := #[k9m0, k9m1, k9m2, k9m3, k9m4, k9m5, k9m6]
  instanceTypes := #[(.object "com/example/tenant_data_scope/tenantdatascope/TenantProfile$Mode"), (.object "java/lang/String"), .boolean, .long]
  staticTypes := #[]
  resolved := Array.replicate 114 none
  statics := none }

def pool10 : Array CpInfo := pool [(2, .class_ 4), (1, u "java/lang/Enum"), (0, u "name"), (0, u "Ljava/lang/String;"), (2, u "ordinal"), (0, u "I"), (1, .class_ 14), (1, u "java/lang/Object"), (4, u "hash"), (86, .class_ 108), (1, u "java/lang/Enum$EnumDesc"), (2, .class_ 112), (0, u "java/lang/constant/Constable"), (0, .class_ 114), (0, u "java/lang/Comparable"), (0, .class_ 116), (0, u "java/io/Serializable")] 87

/-- java/lang/Enum -/
def k10 : Class := { plain "java/lang/Enum" (some 0) with
  accessFlags := 1057
  interfaces := #[5, 3, 2]
  cf := some (fileOf pool10 2 #[.nestMembers #[106]] #[] 1057 12 #[111, 113, 115] #[{ accessFlags := 18, nameIndex := 5, descriptorIndex := 6, attributes := #[] }, { accessFlags := 18, nameIndex := 9, descriptorIndex := 10, attributes := #[] }, { accessFlags := 2, nameIndex := 19, descriptorIndex := 10, attributes := #[] }])
  fields := #[{ name := "name", type := (.object "java/lang/String"), accessFlags := 18, slot := 0, constantValue := 0 }, { name := "ordinal", type := .int, accessFlags := 18, slot := 1, constantValue := 0 }, { name := "hash", type := .int, accessFlags := 2, slot := 2, constantValue := 0 }]
  methods := #[]
  instanceTypes := #[(.object "java/lang/String"), .int, .int]
  staticTypes := #[]
  resolved := Array.replicate 204 none
  statics := none }

def pool11 : Array CpInfo := pool [(1, .class_ 2), (0, u "com/example/tenant_data_scope/tenantdatascope/TenantProfile$Mode"), (2, u "SHARED"), (0, u "Lcom/example/tenant_data_scope/tenantdatascope/TenantProfile$Mode;"), (2, u "DEDICATED"), (2, u "$VALUES"), (0, u "[Lcom/example/tenant_data_scope/tenantdatascope/TenantProfile$Mode;"), (6, .class_ 22), (1, u "java/lang/Enum"), (25, .class_ 49), (0, u "com/example/tenant_data_scope/tenantdatascope/TenantProfile")] 2

/-- com/example/tenant_data_scope/tenantdatascope/TenantProfile$Mode -/
def k11 : Class := { plain "com/example/tenant_data_scope/tenantdatascope/TenantProfile$Mode" (some 10) with
  accessFlags := 16433
  interfaces := #[]
  cf := some (fileOf pool11 1 #[.nestHost 48] #[] 16433 20 #[] #[{ accessFlags := 16409, nameIndex := 5, descriptorIndex := 6, attributes := #[] }, { accessFlags := 16409, nameIndex := 9, descriptorIndex := 6, attributes := #[] }, { accessFlags := 4122, nameIndex := 12, descriptorIndex := 13, attributes := #[] }])
  fields := #[{ name := "SHARED", type := (.object "com/example/tenant_data_scope/tenantdatascope/TenantProfile$Mode"), accessFlags := 16409, slot := 0, constantValue := 0 }, { name := "DEDICATED", type := (.object "com/example/tenant_data_scope/tenantdatascope/TenantProfile$Mode"), accessFlags := 16409, slot := 1, constantValue := 0 }, { name := "$VALUES", type := (.array (.object "com/example/tenant_data_scope/tenantdatascope/TenantProfile$Mode")), accessFlags := 4122, slot := 2, constantValue := 0 }]
  methods := #[]
  instanceTypes := #[(.object "java/lang/String"), .int, .int]
  staticTypes := #[(.object "com/example/tenant_data_scope/tenantdatascope/TenantProfile$Mode"), (.object "com/example/tenant_data_scope/tenantdatascope/TenantProfile$Mode"), (.array (.object "com/example/tenant_data_scope/tenantdatascope/TenantProfile$Mode"))]
  resolved := Array.replicate 52 none
  statics := some 1 }

def pool12 : Array CpInfo := pool [(2, .class_ 4), (1, u "java/lang/Object"), (0, u "<init>"), (0, u "()V"), (35, .class_ 44), (1, u "java/util/Objects"), (0, u "requireNonNull"), (48, u "(Ljava/lang/Object;Ljava/lang/String;)Ljava/lang/Object;")] 89

def k12m0 : Method := { name := "<init>", desc := "()V", sig := { parameters := [], returnType := none }, accessFlags := 2, code := none }
def k12c1 : Code := { maxStack := 3, maxLocals := 2, code := jdk_31_method_11_code, exceptionTable := #[], attributes := #[] }
def k12m1 : Method := { name := "requireNonNull", desc := "(Ljava/lang/Object;Ljava/lang/String;)Ljava/lang/Object;", sig := { parameters := [(.object "java/lang/Object"), (.object "java/lang/String")], returnType := some (.object "java/lang/Object") }, accessFlags := 9, code := some k12c1 }
/-- java/util/Objects -/
def k12 : Class := { plain "java/util/Objects" (some 0) with
  accessFlags := 49
  interfaces := #[]
  cf := some (fileOf pool12 42 #[] #[{ accessFlags := 2, nameIndex := 5, descriptorIndex := 6, attributes := #[] }, { accessFlags := 9, nameIndex := 45, descriptorIndex := 94, attributes := #[] }] 49 2 #[] #[])
  fields := #[]
  methods := #[k12m0, k12m1]
  instanceTypes := #[]
  staticTypes := #[]
  resolved := Array.replicate 184 none
  statics := none }

def pool13 : Array CpInfo := pool [(4, .class_ 6), (1, u "java/lang/Object"), (0, u "<init>"), (0, u "()V"), (5, .class_ 16), (1, u "java/lang/StringLatin1"), (104, u "$assertionsDisabled"), (0, u "Z"), (98, .class_ 223), (1, u "java/lang/StringLatin1$LinesSpliterator"), (166, .class_ 391), (0, u "java/lang/StringLatin1$CharsSpliterator")] 3

def k13m0 : Method := { name := "<init>", desc := "()V", sig := { parameters := [], returnType := none }, accessFlags := 0, code := none }
/-- java/lang/StringLatin1 -/
def k13 : Class := { plain "java/lang/StringLatin1" (some 0) with
  accessFlags := 48
  interfaces := #[]
  cf := some (fileOf pool13 14 #[.nestMembers #[390, 221]] #[{ accessFlags := 0, nameIndex := 7, descriptorIndex := 8, attributes := #[] }] 48 4 #[] #[{ accessFlags := 4120, nameIndex := 121, descriptorIndex := 122, attributes := #[] }])
  fields := #[{ name := "$assertionsDisabled", type := .boolean, accessFlags := 4120, slot := 0, constantValue := 0 }]
  methods := #[k13m0]
  instanceTypes := #[]
  staticTypes := #[.boolean]
  resolved := Array.replicate 395 none
  statics := none }

def pool14 : Array CpInfo := pool [(2, .class_ 4), (1, u "java/lang/Object"), (0, u "<init>"), (0, u "()V"), (17, .class_ 26), (1, u "jdk/internal/util/Preconditions"), (28, .class_ 56), (0, u "jdk/internal/util/Preconditions$4"), (57, .class_ 115), (0, u "jdk/internal/util/Preconditions$1"), (7, u "SIOOBE_FORMATTER"), (0, u "Ljava/util/function/BiFunction;"), (0, .class_ 126), (0, u "jdk/internal/util/Preconditions$2"), (3, u "AIOOBE_FORMATTER"), (0, .class_ 132), (0, u "jdk/internal/util/Preconditions$3"), (3, u "IOOBE_FORMATTER")] 57

def k14m0 : Method := { name := "<init>", desc := "()V", sig := { parameters := [], returnType := none }, accessFlags := 1, code := none }
/-- jdk/internal/util/Preconditions -/
def k14 : Class := { plain "jdk/internal/util/Preconditions" (some 0) with
  accessFlags := 33
  interfaces := #[]
  cf := some (fileOf pool14 24 #[.nestMembers #[55, 131, 125, 114]] #[{ accessFlags := 1, nameIndex := 5, descriptorIndex := 6, attributes := #[] }] 33 2 #[] #[{ accessFlags := 25, nameIndex := 123, descriptorIndex := 124, attributes := #[] }, { accessFlags := 25, nameIndex := 130, descriptorIndex := 124, attributes := #[] }, { accessFlags := 25, nameIndex := 136, descriptorIndex := 124, attributes := #[] }])
  fields := #[{ name := "SIOOBE_FORMATTER", type := (.object "java/util/function/BiFunction"), accessFlags := 25, slot := 0, constantValue := 0 }, { name := "AIOOBE_FORMATTER", type := (.object "java/util/function/BiFunction"), accessFlags := 25, slot := 1, constantValue := 0 }, { name := "IOOBE_FORMATTER", type := (.object "java/util/function/BiFunction"), accessFlags := 25, slot := 2, constantValue := 0 }]
  methods := #[k14m0]
  instanceTypes := #[]
  staticTypes := #[(.object "java/util/function/BiFunction"), (.object "java/util/function/BiFunction"), (.object "java/util/function/BiFunction")]
  resolved := Array.replicate 194 none
  statics := some 2 }

def pool15 : Array CpInfo := pool [(9, u "<init>"), (6, .class_ 18), (1, u "java/lang/Object"), (0, u "()V"), (1, .class_ 23), (1, u "jdk/internal/util/ArraysSupport"), (0, u "LOG2_ARRAY_LONG_INDEX_SCALE"), (0, u "I"), (2, u "U"), (0, u "Ljdk/internal/misc/Unsafe;"), (8, u "BIG_ENDIAN"), (0, u "Z"), (8, u "LOG2_BYTE_BIT_SIZE"), (4, u "LOG2_ARRAY_INT_INDEX_SCALE"), (54, u "JLA"), (0, u "Ljdk/internal/access/JavaLangAccess;"), (11, u "LOG2_ARRAY_BOOLEAN_INDEX_SCALE"), (9, u "LOG2_ARRAY_BYTE_INDEX_SCALE"), (5, u "LOG2_ARRAY_CHAR_INDEX_SCALE"), (5, u "LOG2_ARRAY_SHORT_INDEX_SCALE"), (18, u "LOG2_ARRAY_FLOAT_INDEX_SCALE"), (24, u "LOG2_ARRAY_DOUBLE_INDEX_SCALE"), (89, u "T_BOOLEAN"), (2, u "T_CHAR"), (1, u "T_FLOAT"), (1, u "T_DOUBLE"), (1, u "T_BYTE"), (1, u "T_SHORT"), (1, u "T_INT"), (1, u "T_LONG"), (1, u "SOFT_MAX_ARRAY_LENGTH")] 83

def k15m0 : Method := { name := "<init>", desc := "()V", sig := { parameters := [], returnType := none }, accessFlags := 2, code := none }
/-- jdk/internal/util/ArraysSupport -/
def k15 : Class := { plain "jdk/internal/util/ArraysSupport" (some 0) with
  accessFlags := 33
  interfaces := #[]
  cf := some (fileOf pool15 21 #[] #[{ accessFlags := 2, nameIndex := 9, descriptorIndex := 19, attributes := #[] }] 33 16 #[] #[{ accessFlags := 24, nameIndex := 28, descriptorIndex := 29, attributes := #[] }, { accessFlags := 26, nameIndex := 38, descriptorIndex := 39, attributes := #[] }, { accessFlags := 25, nameIndex := 121, descriptorIndex := 25, attributes := #[] }, { accessFlags := 25, nameIndex := 131, descriptorIndex := 25, attributes := #[] }, { accessFlags := 25, nameIndex := 137, descriptorIndex := 25, attributes := #[] }, { accessFlags := 25, nameIndex := 143, descriptorIndex := 25, attributes := #[] }, { accessFlags := 25, nameIndex := 53, descriptorIndex := 25, attributes := #[] }, { accessFlags := 25, nameIndex := 24, descriptorIndex := 25, attributes := #[] }, { accessFlags := 25, nameIndex := 162, descriptorIndex := 25, attributes := #[] }, { accessFlags := 25, nameIndex := 187, descriptorIndex := 25, attributes := #[] }, { accessFlags := 26, nameIndex := 48, descriptorIndex := 25, attributes := #[] }, { accessFlags := 25, nameIndex := 277, descriptorIndex := 25, attributes := #[] }, { accessFlags := 25, nameIndex := 280, descriptorIndex := 25, attributes := #[] }, { accessFlags := 25, nameIndex := 282, descriptorIndex := 25, attributes := #[] }, { accessFlags := 25, nameIndex := 284, descriptorIndex := 25, attributes := #[] }, { accessFlags := 25, nameIndex := 286, descriptorIndex := 25, attributes := #[] }, { accessFlags := 25, nameIndex := 288, descriptorIndex := 25, attributes := #[] }, { accessFlags := 25, nameIndex := 290, descriptorIndex := 25, attributes := #[] }, { accessFlags := 25, nameIndex := 292, descriptorIndex := 25, attributes := #[] }, { accessFlags := 26, nameIndex := 108, descriptorIndex := 109, attributes := #[] }, { accessFlags := 25, nameIndex := 294, descriptorIndex := 25, attributes := #[] }])
  fields := #[{ name := "U", type := (.object "jdk/internal/misc/Unsafe"), accessFlags := 24, slot := 0, constantValue := 0 }, { name := "BIG_ENDIAN", type := .boolean, accessFlags := 26, slot := 1, constantValue := 0 }, { name := "LOG2_ARRAY_BOOLEAN_INDEX_SCALE", type := .int, accessFlags := 25, slot := 2, constantValue := 0 }, { name := "LOG2_ARRAY_BYTE_INDEX_SCALE", type := .int, accessFlags := 25, slot := 3, constantValue := 0 }, { name := "LOG2_ARRAY_CHAR_INDEX_SCALE", type := .int, accessFlags := 25, slot := 4, constantValue := 0 }, { name := "LOG2_ARRAY_SHORT_INDEX_SCALE", type := .int, accessFlags := 25, slot := 5, constantValue := 0 }, { name := "LOG2_ARRAY_INT_INDEX_SCALE", type := .int, accessFlags := 25, slot := 6, constantValue := 0 }, { name := "LOG2_ARRAY_LONG_INDEX_SCALE", type := .int, accessFlags := 25, slot := 7, constantValue := 0 }, { name := "LOG2_ARRAY_FLOAT_INDEX_SCALE", type := .int, accessFlags := 25, slot := 8, constantValue := 0 }, { name := "LOG2_ARRAY_DOUBLE_INDEX_SCALE", type := .int, accessFlags := 25, slot := 9, constantValue := 0 }, { name := "LOG2_BYTE_BIT_SIZE", type := .int, accessFlags := 26, slot := 10, constantValue := 0 }, { name := "T_BOOLEAN", type := .int, accessFlags := 25, slot := 11, constantValue := 0 }, { name := "T_CHAR", type := .int, accessFlags := 25, slot := 12, constantValue := 0 }, { name := "T_FLOAT", type := .int, accessFlags := 25, slot := 13, constantValue := 0 }, { name := "T_DOUBLE", type := .int, accessFlags := 25, slot := 14, constantValue := 0 }, { name := "T_BYTE", type := .int, accessFlags := 25, slot := 15, constantValue := 0 }, { name := "T_SHORT", type := .int, accessFlags := 25, slot := 16, constantValue := 0 }, { name := "T_INT", type := .int, accessFlags := 25, slot := 17, constantValue := 0 }, { name := "T_LONG", type := .int, accessFlags := 25, slot := 18, constantValue := 0 }, { name := "JLA", type := (.object "jdk/internal/access/JavaLangAccess"), accessFlags := 26, slot := 19, constantValue := 0 }, { name := "SOFT_MAX_ARRAY_LENGTH", type := .int, accessFlags := 25, slot := 20, constantValue := 0 }]
  methods := #[k15m0]
  instanceTypes := #[]
  staticTypes := #[(.object "jdk/internal/misc/Unsafe"), .boolean, .int, .int, .int, .int, .int, .int, .int, .int, .int, .int, .int, .int, .int, .int, .int, .int, .int, (.object "jdk/internal/access/JavaLangAccess"), .int]
  resolved := Array.replicate 378 none
  statics := none }

def pool16 : Array CpInfo := pool [(1, u "java/lang/Cloneable"), (0, .class_ 1), (0, u "java/lang/Object"), (0, .class_ 3)] 3

/-- java/lang/Cloneable -/
def k16 : Class := { plain "java/lang/Cloneable" (some 0) with
  accessFlags := 1537
  interfaces := #[]
  cf := some (fileOf pool16 2 #[] #[] 1537 4 #[] #[])
  fields := #[]
  methods := #[]
  instanceTypes := #[]
  staticTypes := #[]
  resolved := Array.replicate 8 none
  statics := none }

/-- the primitive byte -/
def k17 : Class := { plain "byte" none with kind := .primitive 'B', accessFlags := 0x411 }
/-- [B -/
def k18 : Class := { plain "[B" (some 0) with kind := .array 17 .byte, interfaces := #[16, 2], accessFlags := 1041 }

/-- the primitive char -/
def k19 : Class := { plain "char" none with kind := .primitive 'C', accessFlags := 0x411 }
/-- [C -/
def k20 : Class := { plain "[C" (some 0) with kind := .array 19 .char, interfaces := #[16, 2], accessFlags := 1041 }

/-- the primitive int -/
def k21 : Class := { plain "int" none with kind := .primitive 'I', accessFlags := 0x411 }
/-- [I -/
def k22 : Class := { plain "[I" (some 0) with kind := .array 21 .int, interfaces := #[16, 2], accessFlags := 1041 }

def heap : Heap := #[{ cls := 7, slots := #[.long 0, .int 1, .null, .int 0, .null, .int 0, .int 0], vm := .statics 7 },
  { cls := 11, slots := #[.ref 4, .ref 3, .null], vm := .statics 11 },
  { cls := 14, slots := #[.null, .null, .null], vm := .statics 14 },
  { cls := 11, slots := #[.null, .int 1, .int 0], vm := .none },
  { cls := 11, slots := #[.null, .int 0, .int 0], vm := .none }]
def classes : Array Class := #[k0, k1, k2, k3, k4, k5, k6, k7, k8, k9, k10, k11, k12, k13, k14, k15, k16, k17, k18, k19, k20, k21, k22]
def interned : List (Array UInt16 × Addr) := []
def slotsUsed : Nat := 19
def theMethod : MethodId := ⟨1, 1⟩
def args0 : Array Value := #[.int 65, .int 1, .long 5]
def aboutOver (below : List Frame) : State where
  vm := { classes := classes, interned := interned.toArray }
  heap := heap
  slotsUsed := slotsUsed
  threads := #[{ frames := .invoking theMethod args0 :: below }]
def below0 : List Frame := [.native { method := ⟨0, 0⟩, args := #[] }]
def about1 : State := aboutOver below0
def p0 : Program := .bare "" "" ""
def e0 : Env := launch0.env 0 0 0
theorem w_frames : about1.frames = Frame.invoking theMethod args0 :: below0 := rfl
set_option maxRecDepth 65536 in
theorem w_args : argsFit about1.vm theMethod args0 = true := by decide +kernel
set_option maxRecDepth 65536 in
theorem w_heap : heapFits about1 = true := by decide +kernel
set_option maxRecDepth 65536 in
theorem w_runnable : about1.curStatus? = some .runnable := by decide +kernel
set_option maxRecDepth 65536 in
theorem w_alone : about1.alone = true := by decide +kernel
set_option maxRecDepth 65536 in
theorem w_named : about1.methodNamed? x = some theMethod := by decide +kernel
set_option maxRecDepth 65536 in
theorem w_hears : about1.hears theMethod below0 = true := by decide +kernel
set_option maxRecDepth 65536 in
theorem w_ripe : about1.ripe theMethod args0 below0 = true := by decide +kernel
theorem w_running : about1.status = .running := rfl
set_option maxRecDepth 65536 in
theorem w_room : about1.hasRoom e0.platform room_1 = true :=
  launch0.hasRoom_least _ room_1 (by decide +kernel) (by decide +kernel) (by decide +kernel) (by decide +kernel) (by decide +kernel) (by decide +kernel)
theorem allAtoms_all (ts : List Jvm.Cond) (a : Array Jvm.Value) (st : Jvm.State) : (allAtoms ts).before a st = ts.all (fun c => c.before a st) := by
  induction ts with
  | nil => rfl
  | cons c t ih =>
    show (Jvm.Cond.and c (allAtoms t)).before a st = _
    rw [Jvm.Cond.before_and, ih, List.all_cons]
def words1 : List Jvm.Cond := Jvm.Cond.code x code maxLocals ret :: tables_1
/-- a 'code' word, met by the world's own term for the bytes: nothing is compared byte by byte -/
theorem code_word {y : MethodName} {bytes : ByteArray} {mx : Nat} {rt : Option FieldType} {a : Array Value} {s : State} {m : MethodId} {meth : Method} {c : Code} (h1 : s.methodNamed? y = some m) (h2 : s.vm.method? m = some meth) (h3 : meth.code = some c) (h4 : c.code = bytes)
    (h5 : (c.maxLocals == mx && c.exceptionTable.isEmpty && decide (c.maxStack ≤ mostOperands) && decide (meth.sig.returnType = rt) && !meth.locks && decide (parseMethodDescriptor y.desc = some meth.sig)) = true) : (Jvm.Cond.code y bytes mx rt).before a s = true := by
  simp only [Bool.and_eq_true, beq_iff_eq, Bool.not_eq_true', decide_eq_true_eq] at h5
  obtain ⟨⟨⟨⟨⟨g1, g2⟩, g3⟩, g4⟩, g5⟩, g6⟩ := h5
  simp [Cond.before, Cond.holds, Cond.value, h1, h2, h3, h4, g1, g2, g3, g4, g5, g6]
def isCode : Jvm.Cond → Bool
  | .code _ _ _ _ => true
  | _ => false
theorem all_split {L : List Jvm.Cond} {P : Jvm.Cond → Bool} (h1 : L.all (fun c => isCode c || P c) = true) (h2 : ∀ c ∈ L.filter isCode, P c = true) : L.all P = true := by
  refine List.all_eq_true.mpr fun c hc => ?_
  have h := List.all_eq_true.mp h1 c hc
  rcases Bool.eq_false_or_eq_true (isCode c) with hi | hi
  · exact h2 c (List.mem_filter.mpr ⟨hc, hi⟩)
  · simpa [hi] using h
set_option maxRecDepth 65536 in
theorem w_c0 : (Jvm.Cond.code x code maxLocals ret).before args0 about1 = true := code_word (m := ⟨1, 1⟩) (meth := k1m1) (c := k1c1) (by decide +kernel) rfl rfl rfl (by decide +kernel)
set_option maxRecDepth 65536 in
theorem w_c1 : (Jvm.Cond.code ({ cls := "com/example/tenant_data_scope/tenantdatascope/TenantProfileDedicatedPinLaw", name := "key", desc := "(II)Ljava/lang/String;" } : Jvm.MethodName) method_3_code (6 : Nat) (Option.some (Jvm.ClassFile.FieldType.object "java/lang/String"))).before args0 about1 = true := code_word (m := ⟨1, 2⟩) (meth := k1m2) (c := k1c2) (by decide +kernel) rfl rfl rfl (by decide +kernel)
set_option maxRecDepth 65536 in
theorem w_c2 : (Jvm.Cond.code ({ cls := "java/lang/String", name := "<init>", desc := "([C)V" } : Jvm.MethodName) jdk_42_method_3_code (2 : Nat) (Option.none : Option Jvm.ClassFile.FieldType)).before args0 about1 = true := code_word (m := ⟨7, 1⟩) (meth := k7m1) (c := k7c1) (by decide +kernel) rfl rfl rfl (by decide +kernel)
set_option maxRecDepth 65536 in
theorem w_c3 : (Jvm.Cond.code ({ cls := "java/lang/String", name := "<init>", desc := "([CIILjava/lang/Void;)V" } : Jvm.MethodName) jdk_42_method_149_code (6 : Nat) (Option.none : Option Jvm.ClassFile.FieldType)).before args0 about1 = true := code_word (m := ⟨7, 3⟩) (meth := k7m3) (c := k7c3) (by decide +kernel) rfl rfl rfl (by decide +kernel)
set_option maxRecDepth 65536 in
theorem w_c4 : (Jvm.Cond.code ({ cls := "java/lang/Object", name := "<init>", desc := "()V" } : Jvm.MethodName) object_method_1_code (1 : Nat) (Option.none : Option Jvm.ClassFile.FieldType)).before args0 about1 = true := code_word (m := ⟨0, 0⟩) (meth := k0m0) (c := k0c0) (by decide +kernel) rfl rfl rfl (by decide +kernel)
set_option maxRecDepth 65536 in
theorem w_c5 : (Jvm.Cond.code ({ cls := "java/lang/StringUTF16", name := "compress", desc := "([CII)[B" } : Jvm.MethodName) jdk_52_method_16_code (6 : Nat) (Option.some (Jvm.ClassFile.FieldType.array Jvm.ClassFile.FieldType.byte))).before args0 about1 = true := code_word (m := ⟨8, 2⟩) (meth := k8m2) (c := k8c2) (by decide +kernel) rfl rfl rfl (by decide +kernel)
set_option maxRecDepth 65536 in
theorem w_c6 : (Jvm.Cond.code ({ cls := "java/lang/StringUTF16", name := "compress", desc := "([CI[BII)I" } : Jvm.MethodName) jdk_52_method_21_code (7 : Nat) (Option.some Jvm.ClassFile.FieldType.int)).before args0 about1 = true := code_word (m := ⟨8, 3⟩) (meth := k8m3) (c := k8c3) (by decide +kernel) rfl rfl rfl (by decide +kernel)
set_option maxRecDepth 65536 in
theorem w_c7 : (Jvm.Cond.code ({ cls := "java/lang/StringUTF16", name := "coderFromArrayLen", desc := "([BI)B" } : Jvm.MethodName) jdk_52_method_15_code (2 : Nat) (Option.some Jvm.ClassFile.FieldType.byte)).before args0 about1 = true := code_word (m := ⟨8, 1⟩) (meth := k8m1) (c := k8c1) (by decide +kernel) rfl rfl rfl (by decide +kernel)
set_option maxRecDepth 65536 in
theorem w_c8 : (Jvm.Cond.code ({ cls := "com/example/tenant_data_scope/tenantdatascope/TenantProfile", name := "dedicated", desc := "(Ljava/lang/String;J)Lcom/example/tenant_data_scope/tenantdatascope/TenantProfile;" } : Jvm.MethodName) prog_19_method_3_code (3 : Nat) (Option.some (Jvm.ClassFile.FieldType.object "com/example/tenant_data_scope/tenantdatascope/TenantProfile"))).before args0 about1 = true := code_word (m := ⟨9, 1⟩) (meth := k9m1) (c := k9c1) (by decide +kernel) rfl rfl rfl (by decide +kernel)
set_option maxRecDepth 65536 in
theorem w_c9 : (Jvm.Cond.code ({ cls := "com/example/tenant_data_scope/tenantdatascope/TenantProfile", name := "<init>", desc := "(Lcom/example/tenant_data_scope/tenantdatascope/TenantProfile$Mode;Ljava/lang/String;ZJ)V" } : Jvm.MethodName) prog_19_method_1_code (6 : Nat) (Option.none : Option Jvm.ClassFile.FieldType)).before args0 about1 = true := code_word (m := ⟨9, 0⟩) (meth := k9m0) (c := k9c0) (by decide +kernel) rfl rfl rfl (by decide +kernel)
set_option maxRecDepth 65536 in
theorem w_c10 : (Jvm.Cond.code ({ cls := "java/util/Objects", name := "requireNonNull", desc := "(Ljava/lang/Object;Ljava/lang/String;)Ljava/lang/Object;" } : Jvm.MethodName) jdk_31_method_11_code (2 : Nat) (Option.some (Jvm.ClassFile.FieldType.object "java/lang/Object"))).before args0 about1 = true := code_word (m := ⟨12, 1⟩) (meth := k12m1) (c := k12c1) (by decide +kernel) rfl rfl rfl (by decide +kernel)
set_option maxRecDepth 65536 in
theorem w_c11 : (Jvm.Cond.code ({ cls := "com/example/tenant_data_scope/tenantdatascope/TenantProfile", name := "mode", desc := "()Lcom/example/tenant_data_scope/tenantdatascope/TenantProfile$Mode;" } : Jvm.MethodName) prog_19_method_5_code (1 : Nat) (Option.some (Jvm.ClassFile.FieldType.object "com/example/tenant_data_scope/tenantdatascope/TenantProfile$Mode"))).before args0 about1 = true := code_word (m := ⟨9, 3⟩) (meth := k9m3) (c := k9c3) (by decide +kernel) rfl rfl rfl (by decide +kernel)
set_option maxRecDepth 65536 in
theorem w_c12 : (Jvm.Cond.code ({ cls := "com/example/tenant_data_scope/tenantdatascope/TenantProfile", name := "dataSourceKey", desc := "()Ljava/lang/String;" } : Jvm.MethodName) prog_19_method_6_code (1 : Nat) (Option.some (Jvm.ClassFile.FieldType.object "java/lang/String"))).before args0 about1 = true := code_word (m := ⟨9, 4⟩) (meth := k9m4) (c := k9c4) (by decide +kernel) rfl rfl rfl (by decide +kernel)
set_option maxRecDepth 65536 in
theorem w_c13 : (Jvm.Cond.code ({ cls := "java/lang/String", name := "equals", desc := "(Ljava/lang/Object;)Z" } : Jvm.MethodName) jdk_42_method_66_code (3 : Nat) (Option.some Jvm.ClassFile.FieldType.boolean)).before args0 about1 = true := code_word (m := ⟨7, 2⟩) (meth := k7m2) (c := k7c2) (by decide +kernel) rfl rfl rfl (by decide +kernel)
set_option maxRecDepth 65536 in
theorem w_c14 : (Jvm.Cond.code ({ cls := "com/example/tenant_data_scope/tenantdatascope/TenantProfile", name := "addsTenantCondition", desc := "()Z" } : Jvm.MethodName) prog_19_method_7_code (1 : Nat) (Option.some Jvm.ClassFile.FieldType.boolean)).before args0 about1 = true := code_word (m := ⟨9, 5⟩) (meth := k9m5) (c := k9c5) (by decide +kernel) rfl rfl rfl (by decide +kernel)
set_option maxRecDepth 65536 in
theorem w_c15 : (Jvm.Cond.code ({ cls := "com/example/tenant_data_scope/tenantdatascope/TenantProfile", name := "version", desc := "()J" } : Jvm.MethodName) prog_19_method_8_code (1 : Nat) (Option.some Jvm.ClassFile.FieldType.long)).before args0 about1 = true := code_word (m := ⟨9, 6⟩) (meth := k9m6) (c := k9c6) (by decide +kernel) rfl rfl rfl (by decide +kernel)
set_option maxRecDepth 65536 in
theorem w_c16 : (Jvm.Cond.code ({ cls := "com/example/tenant_data_scope/tenantdatascope/TenantProfile", name := "withoutTenantCondition", desc := "()Lcom/example/tenant_data_scope/tenantdatascope/TenantProfile;" } : Jvm.MethodName) prog_19_method_4_code (1 : Nat) (Option.some (Jvm.ClassFile.FieldType.object "com/example/tenant_data_scope/tenantdatascope/TenantProfile"))).before args0 about1 = true := code_word (m := ⟨9, 2⟩) (meth := k9m2) (c := k9c2) (by decide +kernel) rfl rfl rfl (by decide +kernel)
def codes1 : List Jvm.Cond := [Jvm.Cond.code x code maxLocals ret, Jvm.Cond.code ({ cls := "com/example/tenant_data_scope/tenantdatascope/TenantProfileDedicatedPinLaw", name := "key", desc := "(II)Ljava/lang/String;" } : Jvm.MethodName) method_3_code (6 : Nat) (Option.some (Jvm.ClassFile.FieldType.object "java/lang/String")), Jvm.Cond.code ({ cls := "java/lang/String", name := "<init>", desc := "([C)V" } : Jvm.MethodName) jdk_42_method_3_code (2 : Nat) (Option.none : Option Jvm.ClassFile.FieldType), Jvm.Cond.code ({ cls := "java/lang/String", name := "<init>", desc := "([CIILjava/lang/Void;)V" } : Jvm.MethodName) jdk_42_method_149_code (6 : Nat) (Option.none : Option Jvm.ClassFile.FieldType), Jvm.Cond.code ({ cls := "java/lang/Object", name := "<init>", desc := "()V" } : Jvm.MethodName) object_method_1_code (1 : Nat) (Option.none : Option Jvm.ClassFile.FieldType), Jvm.Cond.code ({ cls := "java/lang/StringUTF16", name := "compress", desc := "([CII)[B" } : Jvm.MethodName) jdk_52_method_16_code (6 : Nat) (Option.some (Jvm.ClassFile.FieldType.array Jvm.ClassFile.FieldType.byte)), Jvm.Cond.code ({ cls := "java/lang/StringUTF16", name := "compress", desc := "([CI[BII)I" } : Jvm.MethodName) jdk_52_method_21_code (7 : Nat) (Option.some Jvm.ClassFile.FieldType.int), Jvm.Cond.code ({ cls := "java/lang/StringUTF16", name := "coderFromArrayLen", desc := "([BI)B" } : Jvm.MethodName) jdk_52_method_15_code (2 : Nat) (Option.some Jvm.ClassFile.FieldType.byte), Jvm.Cond.code ({ cls := "com/example/tenant_data_scope/tenantdatascope/TenantProfile", name := "dedicated", desc := "(Ljava/lang/String;J)Lcom/example/tenant_data_scope/tenantdatascope/TenantProfile;" } : Jvm.MethodName) prog_19_method_3_code (3 : Nat) (Option.some (Jvm.ClassFile.FieldType.object "com/example/tenant_data_scope/tenantdatascope/TenantProfile")), Jvm.Cond.code ({ cls := "com/example/tenant_data_scope/tenantdatascope/TenantProfile", name := "<init>", desc := "(Lcom/example/tenant_data_scope/tenantdatascope/TenantProfile$Mode;Ljava/lang/String;ZJ)V" } : Jvm.MethodName) prog_19_method_1_code (6 : Nat) (Option.none : Option Jvm.ClassFile.FieldType), Jvm.Cond.code ({ cls := "java/util/Objects", name := "requireNonNull", desc := "(Ljava/lang/Object;Ljava/lang/String;)Ljava/lang/Object;" } : Jvm.MethodName) jdk_31_method_11_code (2 : Nat) (Option.some (Jvm.ClassFile.FieldType.object "java/lang/Object")), Jvm.Cond.code ({ cls := "com/example/tenant_data_scope/tenantdatascope/TenantProfile", name := "mode", desc := "()Lcom/example/tenant_data_scope/tenantdatascope/TenantProfile$Mode;" } : Jvm.MethodName) prog_19_method_5_code (1 : Nat) (Option.some (Jvm.ClassFile.FieldType.object "com/example/tenant_data_scope/tenantdatascope/TenantProfile$Mode")), Jvm.Cond.code ({ cls := "com/example/tenant_data_scope/tenantdatascope/TenantProfile", name := "dataSourceKey", desc := "()Ljava/lang/String;" } : Jvm.MethodName) prog_19_method_6_code (1 : Nat) (Option.some (Jvm.ClassFile.FieldType.object "java/lang/String")), Jvm.Cond.code ({ cls := "java/lang/String", name := "equals", desc := "(Ljava/lang/Object;)Z" } : Jvm.MethodName) jdk_42_method_66_code (3 : Nat) (Option.some Jvm.ClassFile.FieldType.boolean), Jvm.Cond.code ({ cls := "com/example/tenant_data_scope/tenantdatascope/TenantProfile", name := "addsTenantCondition", desc := "()Z" } : Jvm.MethodName) prog_19_method_7_code (1 : Nat) (Option.some Jvm.ClassFile.FieldType.boolean), Jvm.Cond.code ({ cls := "com/example/tenant_data_scope/tenantdatascope/TenantProfile", name := "version", desc := "()J" } : Jvm.MethodName) prog_19_method_8_code (1 : Nat) (Option.some Jvm.ClassFile.FieldType.long), Jvm.Cond.code ({ cls := "com/example/tenant_data_scope/tenantdatascope/TenantProfile", name := "withoutTenantCondition", desc := "()Lcom/example/tenant_data_scope/tenantdatascope/TenantProfile;" } : Jvm.MethodName) prog_19_method_4_code (1 : Nat) (Option.some (Jvm.ClassFile.FieldType.object "com/example/tenant_data_scope/tenantdatascope/TenantProfile"))]
set_option maxRecDepth 65536 in
theorem codes_eq : words1.filter isCode = codes1 := rfl
theorem w_codes : ∀ c ∈ words1.filter isCode, c.before args0 about1 = true := by
  rw [codes_eq]
  intro c hc
  simp only [codes1, List.mem_cons, List.not_mem_nil, or_false] at hc
  rcases hc with rfl | rfl | rfl | rfl | rfl | rfl | rfl | rfl | rfl | rfl | rfl | rfl | rfl | rfl | rfl | rfl | rfl
  · exact w_c0
  · exact w_c1
  · exact w_c2
  · exact w_c3
  · exact w_c4
  · exact w_c5
  · exact w_c6
  · exact w_c7
  · exact w_c8
  · exact w_c9
  · exact w_c10
  · exact w_c11
  · exact w_c12
  · exact w_c13
  · exact w_c14
  · exact w_c15
  · exact w_c16
set_option maxRecDepth 65536 in
theorem w_t1 : (words1.take 24).all (fun c => isCode c || c.before args0 about1) = true := by decide +kernel
set_option maxRecDepth 65536 in
theorem w_t2 : ((words1.drop 24).take 24).all (fun c => isCode c || c.before args0 about1) = true := by decide +kernel
set_option maxRecDepth 65536 in
theorem w_t3 : (((words1.drop 24).drop 24).take 24).all (fun c => isCode c || c.before args0 about1) = true := by decide +kernel
set_option maxRecDepth 65536 in
theorem w_t4 : ((((words1.drop 24).drop 24).drop 24).take 24).all (fun c => isCode c || c.before args0 about1) = true := by decide +kernel
set_option maxRecDepth 65536 in
theorem w_t5 : ((((words1.drop 24).drop 24).drop 24).drop 24).all (fun c => isCode c || c.before args0 about1) = true := by decide +kernel
theorem w_tables : (allAtoms (Jvm.Cond.code x code maxLocals ret :: tables_1)).before args0 about1 = true := by
  rw [allAtoms_all]
  show words1.all (fun c => c.before args0 about1) = true
  refine all_split ?_ w_codes
  rw [← List.take_append_drop 24 words1, List.all_append, w_t1, ← List.take_append_drop 24 (words1.drop 24), List.all_append, w_t2, ← List.take_append_drop 24 ((words1.drop 24).drop 24), List.all_append, w_t3, ← List.take_append_drop 24 (((words1.drop 24).drop 24).drop 24), List.all_append, w_t4, w_t5]
  rfl
set_option maxRecDepth 65536 in
theorem w_rest : rest_1_c.before args0 about1 = true := by decide +kernel
set_option maxRecDepth 65536 in
theorem w_case : (Jvm.Cond.and given_1 narrow_1).before args0 about1 = true := by decide +kernel
set_option maxRecDepth 65536 in
theorem w_consts : constsHeld consts_1 about1 := Jvm.Lit.constsHeldB_iff.mp (by decide +kernel)
theorem w_applies : (headSpec (Jvm.Cond.code x code maxLocals ret :: tables_1) room_1).applies x e0.platform about1 = true :=
  (Spec.applies_iff w_frames).mpr ⟨w_running, w_runnable, w_alone, w_named, w_hears, w_ripe, w_room, w_tables⟩
theorem atStart : AtStart classFile x code maxLocals ret World_1 tables_1 room_1 Calls_1 rest_1 Pre_1 launch0 p0 e0 about1 theMethod args0 below0 :=
  ⟨lists_1, trivial, launch0.admits_env _ _ _, launch0.least_env, fairChoices_fair.cas, fairChoices_fair.clock, w_frames, w_args, w_heap, w_applies, ⟨w_consts, trivial⟩, w_rest, w_case⟩
end start1
theorem witness_1 : WitnessClaimed_1 := ⟨start1.p0, start1.e0, start1.about1, start1.theMethod, start1.args0, start1.below0, start1.atStart⟩
end Jvm.Pilot.@@N@@
