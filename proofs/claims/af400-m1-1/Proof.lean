import JvmDerived
import JvmDerived.Pilot.@@N@@Statement
import JvmDerived.Pilot.@@N@@Code
set_option linter.unusedVariables false
set_option linter.unusedSimpArgs false
namespace Jvm.RoadKit
open Sem ClassFile Op Lib Jvm.Stand Jvm.Free Jvm.LawKit
section New
variable {p : Program} {l : Launch} {e : Env} {R : Room} {s : State} {m : MethodId} {args : Array Value} {below : List Frame} {meth : Method} {c : Code} {T : State} {locs : List Loc} {cells slots : Nat}
theorem retI (X : Stand p l e R s m args below meth c T locs cells slots) (hx : p.tables.exec = Jvm.exec) {pc : Nat} {Ls : Array Slot} {z : Int32} {rest : List Value} (hret : meth.sig.returnType = some .int) (hd : decode c.code pc = .ok (.ireturn, 1)) {fs : List Frame}
    (hl : ∀ (f : JFrame) (acts : List Action), f.method = m → f.locked = none → f.entered = [] → (doReturn e (T.setTop f) acts (some (.int z))).1 = T.setFrames fs) : Steps p.tables e below (T.setTop (mkF m pc Ls (.int z :: rest))) (T.setFrames fs) := by
  have hm' : T.vm.method? m = some meth := X.method'
  have hn : narrow .int (.int z) = .int z := rfl
  show Steps p.tables e below (T.setTop { method := m, pc := pc, locals := Ls, stack := _ :: rest, locked := none }) _
  jvm_step X.here [X.here.top, hx, hd, hm', hret, hn]
  first | (intro acts; rw [hl _ acts rfl rfl rfl]) | rw [hl _ _ rfl rfl rfl]
  exact Steps.refl _
end New
abbrev Go (p : Program) (e : Env) (below : List Frame) (T : State) (f : JFrame) (A : State) : Prop := ∀ t, Steps p.tables e below (T.setTop f) t → Steps p.tables e below A t
theorem own_retA (w : Value) (h : w.isRef = true) (t : FieldType) (ht : t.isReference = true) : narrow t w = w := by
  cases w <;> simp [Value.isRef] at h <;> cases t <;> simp [FieldType.isReference] at ht <;> rfl
theorem own_fitA (w : Value) (h : w.isRef = true) (t : FieldType) (ht : t.isReference = true) : fits t w = true := by
  cases w <;> simp [Value.isRef] at h <;> cases t <;> simp [FieldType.isReference] at ht <;> rfl
theorem own_narb (x : Int32) : nar .byte (x.toInt8.toInt32) = x.toInt8.toInt32 := by
  show x.toInt8.toInt32.toInt8.toInt32 = _
  simp
theorem own_ft_byte {z y : Int32} (e : nar .byte z = y) : fits .byte (.int y) = true := by rw [← e]; exact fits_nar_byte z
theorem own_ft_char {z y : Int32} (e : nar .char z = y) : fits .char (.int y) = true := by rw [← e]; exact fits_nar_char z
theorem own_ft_short {z y : Int32} (e : nar .short z = y) : fits .short (.int y) = true := by rw [← e]; exact fits_nar_short z
theorem own_ft_boolean {z y : Int32} (e : nar .boolean z = y) : fits .boolean (.int y) = true := by rw [← e]; exact fits_nar_bool z
theorem own_nw_byte {z y : Int32} (e : nar .byte z = y) : narrow .byte (.int z) = .int y := by rw [← e]; rfl
theorem own_nw_char {z y : Int32} (e : nar .char z = y) : narrow .char (.int z) = .int y := by rw [← e]; rfl
theorem own_nw_short {z y : Int32} (e : nar .short z = y) : narrow .short (.int z) = .int y := by rw [← e]; rfl
theorem own_nw_boolean {z y : Int32} (e : nar .boolean z = y) : narrow .boolean (.int z) = .int y := by rw [← e]; rfl
theorem own_narc (x : Int32) : nar .char (x.toUInt32.toUInt16.toUInt32.toInt32) = x.toUInt32.toUInt16.toUInt32.toInt32 := by
  show x.toUInt32.toUInt16.toUInt32.toInt32.toUInt32.toUInt16.toUInt32.toInt32 = _
  have q := c_i2c x
  have r := c_i2c x.toUInt32.toUInt16.toUInt32.toInt32
  apply Int32.toInt_inj.mp
  omega
theorem own_ext_refl {h : Heap} : Ext h h := ⟨Nat.le_refl _, fun _ _ q => q⟩
theorem own_ext_trans {h h' h2 : Heap} (A : Ext h h') (B : Ext h' h2) : Ext h h2 := ⟨Nat.le_trans A.1 B.1, fun a c q => B.2 a c (A.2 a c q)⟩
theorem own_ext_keep {h h' : Heap} (K : Keep h h' []) : Ext h h' := ⟨K.1, fun a c q => K.2.1 a c q nin0⟩
theorem own_lcmp_self (x : Int64) : lcmpW x x = (0 : Int32) := by rw [lcW]; exact (lc_eq x x).mpr rfl
theorem own_catV {v : Value} (h : v.isRef = true) : v.category = 1 := by cases v <;> simp [Value.isRef] at h <;> rfl
end Jvm.RoadKit
namespace Jvm.RoadKit
open Sem ClassFile Op Lib Jvm.Stand Jvm.Free Jvm.LawKit
theorem own_old_le {Z : State} {n0 : Nat} {h : Heap} (O : Old Z n0 h) : n0 ≤ h.size := O.1 ▸ O.2.1
theorem own_fld_int {args : Array Value} {s : State} {t : Term} {C n d : String} {k : Int32} {a : Addr} (h : (Cond.eq (.field t C n d) (.int k)).value args s none s [] = some true) (ev : t.eval args s none [] s = some (.ref a)) : Fld s s.heap a C n d (.int k) := by
  obtain ⟨x, y, h1, h2, -, k2⟩ := cmp_v (Or.inl h)
  cases h2.symm.trans (Term.int_eval k)
  obtain ⟨z, rfl⟩ := k2
  have e : z = k := gotT (Cond.eq_ints h1 h2) h
  subst e
  exact Fld.start ((fld_at ev).symm.trans h1)
theorem own_eqint {args : Array Value} {s : State} {t : Term} {k : Int32} (h : (Cond.eq t (.int k)).value args s none s [] = some true) : t.eval args s none [] s = some (.int k) := by
  obtain ⟨x, y, h1, h2, -, k2⟩ := cmp_v (Or.inl h)
  cases h2.symm.trans (Term.int_eval k)
  obtain ⟨z, rfl⟩ := k2
  have e : z = k := gotT (Cond.eq_ints h1 h2) h
  subst e
  exact h1
end Jvm.RoadKit
namespace Jvm.RoadKit
open Sem ClassFile Op Lib Jvm.Stand Jvm.Free Jvm.LawKit
theorem own_c255 (x : Int32) : ¬ ((255 : Int32) < ((x &&& (255 : Int32)).toUInt32.toUInt16.toUInt32.toInt32)) := by
  rw [i2c_mask, Int32.lt_iff_toInt_lt]
  have h : (x &&& 255).toInt ≤ 255 := (c_and x 255 (by decide)).2
  show ¬ (255 < (x &&& 255).toInt)
  omega
theorem own_c0 (x : Int32) : ¬ (((x &&& (255 : Int32)).toUInt32.toUInt16.toUInt32.toInt32) < (0 : Int32)) := by
  rw [i2c_mask, Int32.lt_iff_toInt_lt]
  have h : 0 ≤ (x &&& 255).toInt := (c_and x 255 (by decide)).1
  show ¬ ((x &&& 255).toInt < 0)
  omega
end Jvm.RoadKit
namespace Jvm.RoadKit
open Sem ClassFile Op Lib Jvm.Stand Jvm.Free Jvm.LawKit
theorem own_safe_null {Z : State} {EL : List (String × Nat)} {vm : Vm} {h : Heap} {x : Addr} (hal : Z.vm.Alike vm) (E : Exa Z h x "java/lang/String") (F : Fld Z h x "java/lang/String" "value" "[B" .null) : Safe Z EL vm h x := fun B => by
  obtain ⟨p, -, u, a, -, q, -, G, rfl | rfl⟩ := B
  · obtain ⟨cS, ⟨⟨s1, s2, s3, ⟨cv, kv, iv, s4, s4'⟩, -, s6, s7, s8, -⟩, hfS, hcS⟩, -⟩ := G
    obtain ⟨cell, cf, k, i, f, h1, h2, h3, h4, h5, h6, h7⟩ := F
    obtain ⟨k', z4⟩ := ff_back (U := Wst Z vm h) hal s4
    cases (show h[q.sa]? = some q.sC from s1).symm.trans h1
    cases h2.symm.trans z4
    cases h7.symm.trans s8
  · obtain ⟨cell, k, e1, e2, e3, -, -⟩ := E
    cases (show h[q.sd]? = some q.SA from G.hd).symm.trans e1
    obtain ⟨cS, -, -, f, -⟩ := G
    have f : vm.findClass "[B" = some q.SA.cls := f
    rw [hal.findClass] at f
    obtain ⟨k1, q1, q2⟩ := Vm.findClass_spec f
    obtain ⟨k2, q3, q4⟩ := Vm.findClass_spec e2
    cases q1.symm.trans q3
    exact absurd (q2.symm.trans q4) (by decide)
end Jvm.RoadKit
namespace Jvm.Pilot.@@N@@
open Jvm Jvm.ClassFile Sem Op Lib Jvm.Free Jvm.Stand Jvm.LawKit Jvm.RoadKit Bundle Jvm.Pilot.@@N@@.Jvm.D
theorem own_EW {Z : State} {a0 : Array Value} (hw : ∀ d ∈ tables_1, d.before a0 Z = true) : EW Z a0 consts_1 := (EW.cons (hw _ (List.mem_of_getElem? (i := 52) rfl)) (by decide) EW.nil)
theorem own_wS {Z : State} {a0 : Array Value} (hw : ∀ d ∈ tables_1, d.before a0 Z = true) : ∀ a ∈ Bundle.stringAtoms, a.before a0 Z = true := by
  intro a ha
  simp only [Bundle.stringAtoms, Bundle.sN, List.mem_cons, List.not_mem_nil, or_false] at ha
  rcases ha with rfl | rfl | rfl | rfl | rfl | rfl | rfl
  · exact (hw _ (List.mem_of_getElem? (i := 4) rfl))
  · exact (hw _ (List.mem_of_getElem? (i := 3) rfl))
  · exact (hw _ (List.mem_of_getElem? (i := 20) rfl))
  · exact (hw _ (List.mem_of_getElem? (i := 30) rfl))
  · exact (hw _ (List.mem_of_getElem? (i := 28) rfl))
  · exact (hw _ (List.mem_of_getElem? (i := 53) rfl))
  · exact (hw _ (List.mem_of_getElem? (i := 54) rfl))
theorem own_compact {Z : State} {a0 : Array Value} (hsets : ∀ d ∈ jdkStatics_1, d.before a0 Z = true) : Jvm.Lit.compactW.before a0 Z = true := hsets _ (List.mem_of_getElem? (i := 2) rfl)
theorem d5_0 : decode jdk_52_method_21_code 0 = .ok (.iconst 0, 1) := by decide +kernel
theorem d5_1 : decode jdk_52_method_21_code 1 = .ok (.istore 5, 2) := by decide +kernel
theorem d5_3 : decode jdk_52_method_21_code 3 = .ok (.iload 5, 2) := by decide +kernel
theorem d5_5 : decode jdk_52_method_21_code 5 = .ok (.iload 4, 2) := by decide +kernel
theorem d5_7 : decode jdk_52_method_21_code 7 = .ok (.if_icmp .ge 37, 3) := by decide +kernel
theorem d5_10 : decode jdk_52_method_21_code 10 = .ok (.aload_n 0, 1) := by decide +kernel
theorem d5_11 : decode jdk_52_method_21_code 11 = .ok (.iload_n 1, 1) := by decide +kernel
theorem d5_12 : decode jdk_52_method_21_code 12 = .ok (.caload, 1) := by decide +kernel
theorem d5_13 : decode jdk_52_method_21_code 13 = .ok (.istore 6, 2) := by decide +kernel
theorem d5_15 : decode jdk_52_method_21_code 15 = .ok (.iload 6, 2) := by decide +kernel
theorem d5_17 : decode jdk_52_method_21_code 17 = .ok (.sipush 255, 3) := by decide +kernel
theorem d5_20 : decode jdk_52_method_21_code 20 = .ok (.if_icmp .le 6, 3) := by decide +kernel
theorem d5_26 : decode jdk_52_method_21_code 26 = .ok (.aload_n 2, 1) := by decide +kernel
theorem d5_27 : decode jdk_52_method_21_code 27 = .ok (.iload_n 3, 1) := by decide +kernel
theorem d5_28 : decode jdk_52_method_21_code 28 = .ok (.iload 6, 2) := by decide +kernel
theorem d5_30 : decode jdk_52_method_21_code 30 = .ok (.i2b, 1) := by decide +kernel
theorem d5_31 : decode jdk_52_method_21_code 31 = .ok (.bastore, 1) := by decide +kernel
theorem d5_32 : decode jdk_52_method_21_code 32 = .ok (.iinc 1 1, 3) := by decide +kernel
theorem d5_35 : decode jdk_52_method_21_code 35 = .ok (.iinc 3 1, 3) := by decide +kernel
theorem d5_38 : decode jdk_52_method_21_code 38 = .ok (.iinc 5 1, 3) := by decide +kernel
theorem d5_41 : decode jdk_52_method_21_code 41 = .ok (.goto (-38), 3) := by decide +kernel
theorem d5_44 : decode jdk_52_method_21_code 44 = .ok (.iload 4, 2) := by decide +kernel
theorem d5_46 : decode jdk_52_method_21_code 46 = .ok (.ireturn, 1) := by decide +kernel
theorem pn_java_lang_StringUTF16 : plainName "java/lang/StringUTF16" = true := by first | (simp [plainName, overriddenIn]; done) | decide +kernel
theorem ef_cmp1 (m : MethodId) (x0 : Addr) (x1 : Int32) (x2 : Addr) (x3 : Int32) (x4 : Int32)  : entryFrame m #[(.ref x0), (.int x1), (.ref x2), (.int x3), (.int x4)] 7 = mkF m 0 #[.val (.ref x0), .val (.int x1), .val (.ref x2), .val (.int x3), .val (.int x4), .unset, .unset] [] := by first | (simp [entryFrame, mkF, argsToLocals, Value.category]; done) | rfl
def Q_cmp1 (Z : State) (s1 : Addr) (d1 : Addr) (ks : ClassId) (kd : ClassId) (c0_ : Int32) (h0 : Heap) (n0 : Nat) (v : Option Value) (h : Heap) (L : List Loc) : Prop := v = some (.int (1 : Int32)) ∧ Fr n0 L ∧ Keep h0 h [d1] ∧ (Arv Z h d1 kd .byte (1 : Int32) [(.int (c0_.toInt8.toInt32))] (.int (0 : Int32)))
set_option maxRecDepth 65536 in
set_option maxHeartbeats 40000000 in
theorem rm_cmp1 (l : Launch) (Z : State) (a0 : Array Value) (hw : ∀ d ∈ tables_1, d.before a0 Z = true) (ws : List Jvm.Cond) (s1 : Addr) (d1 : Addr) (ks : ClassId) (kd : ClassId) (c0_ : Int32) (h0 : Heap) (n0 : Nat) (O0 : Old Z n0 h0) (A0_ : Arv Z h0 s1 ks .char (1 : Int32) [(.int c0_)] (.int (0 : Int32))) (A1_ : Arv Z h0 d1 kd .byte (1 : Int32) [(.int (0 : Int32))] (.int (0 : Int32))) (G2_ : n0 ≤ d1) (NE3_ : ¬ (s1 = d1)) (hc0 : ¬ ((255 : Int32) < c0_)) :
    MetFree l (⟨"java/lang/StringUTF16", "compress", "([CI[BII)I"⟩ : MethodName) (head1 (Jvm.Cond.code (⟨"java/lang/StringUTF16", "compress", "([CI[BII)I"⟩ : MethodName) jdk_52_method_21_code 7 (some .int) :: ws) ({ frames := 0, cells := 0, slots := 0, locals := 0 } : Room)) (fun a U => a = #[(.ref s1), (.int (0 : Int32)), (.ref d1), (.int (0 : Int32)), (.int (1 : Int32))] ∧ Z.Warmed39 U.vm ∧ U.heap = h0) (fun _ _ _ _ _ => True) (fun _ U o U' => ∃ v L, o = .returned v ∧ Q_cmp1 Z s1 d1 ks kd c0_ h0 n0 v U'.heap L ∧ FrameEnd U o U' L ({ frames := 0, cells := 0, slots := 0, locals := 0 } : Room).cells ({ frames := 0, cells := 0, slots := 0, locals := 0 } : Room).slots) := by
  refine MetFree.of_bodySF (plainFor_of_name pn_java_lang_StringUTF16) hisR ?_
  intro p e s m args below meth c s₁ Bd hml0 hP hK
  obtain ⟨rfl, hZ, hh⟩ := hP
  have hx := Bd.exec
  have hby := Bd.bytes
  have hml : c.maxLocals = 7 := hml0
  have hown : s.vm.findClass "java/lang/StringUTF16" = some m.cls := findClass_of_methodNamed Bd.named
  have hnm := (name_of_methodNamed Bd.named Bd.method).1
  have X0 : Stand p l e ({ frames := 0, cells := 0, slots := 0, locals := 0 } : Room) s m #[(.ref s1), (.int (0 : Int32)), (.ref d1), (.int (0 : Int32)), (.int (1 : Int32))] below meth c s₁ [] 0 0 := Stand.of_body Bd
  have e0 : s₁.heap = h0 := by rw [← hh, Bd.state]; rfl
  have N0 := Fr.nil n0
  have g0 : Go p e below s₁ (mkF m 0 #[rv s1, iv (0 : Int32), rv d1, iv (0 : Int32), iv (1 : Int32), .unset, .unset] []) (s₁.setTop (entryFrame m #[(.ref s1), (.int (0 : Int32)), (.ref d1), (.int (0 : Int32)), (.int (1 : Int32))] 7)) := fun t kont => castTop (ef_cmp1 m s1 (0 : Int32) d1 (0 : Int32) (1 : Int32) ) kont
  generalize s₁.setTop (entryFrame m #[(.ref s1), (.int (0 : Int32)), (.ref d1), (.int (0 : Int32)), (.int (1 : Int32))] 7) = A0 at g0 ⊢
  have g101 : Go p e below s₁ (mkF m 12 #[rv s1, iv (0 : Int32), rv d1, iv (0 : Int32), iv (1 : Int32), iv (0 : Int32), .unset] [(.int (0 : Int32)), (.ref s1)]) A0 := by
    intro t kont
    refine g0 t ?_
    refine XS.iconst X0.here hx rfl (hb hby d5_0) ?_
    show Steps p.tables e below (s₁.setTop (mkF m 1 #[rv s1, iv (0 : Int32), rv d1, iv (0 : Int32), iv (1 : Int32), .unset, .unset] [(.int (0 : Int32))])) _
    refine XS.istore X0.here hx rfl (hb hby d5_1) rfl (l' := #[rv s1, iv (0 : Int32), rv d1, iv (0 : Int32), iv (1 : Int32), iv (0 : Int32), .unset]) rfl ?_
    show Steps p.tables e below (s₁.setTop (mkF m 3 #[rv s1, iv (0 : Int32), rv d1, iv (0 : Int32), iv (1 : Int32), iv (0 : Int32), .unset] [])) _
    refine XS.iload X0.here hx rfl (hb hby d5_3) rfl ?_
    show Steps p.tables e below (s₁.setTop (mkF m 5 #[rv s1, iv (0 : Int32), rv d1, iv (0 : Int32), iv (1 : Int32), iv (0 : Int32), .unset] [(.int (0 : Int32))])) _
    refine XS.iload X0.here hx rfl (hb hby d5_5) rfl ?_
    show Steps p.tables e below (s₁.setTop (mkF m 7 #[rv s1, iv (0 : Int32), rv d1, iv (0 : Int32), iv (1 : Int32), iv (0 : Int32), .unset] [(.int (1 : Int32)), (.int (0 : Int32))])) _
    refine XS.icmpNo X0.here hx rfl (hb hby d5_7) rfl (tlt (by decide : (0 : Int32) < (1 : Int32))).2.1 ?_
    show Steps p.tables e below (s₁.setTop (mkF m 10 #[rv s1, iv (0 : Int32), rv d1, iv (0 : Int32), iv (1 : Int32), iv (0 : Int32), .unset] [])) _
    refine XS.aloadN X0.here hx rfl (hb hby d5_10) rfl rfl ?_
    show Steps p.tables e below (s₁.setTop (mkF m 11 #[rv s1, iv (0 : Int32), rv d1, iv (0 : Int32), iv (1 : Int32), iv (0 : Int32), .unset] [(.ref s1)])) _
    refine XS.iloadN X0.here hx rfl (hb hby d5_11) rfl ?_
    show Steps p.tables e below (s₁.setTop (mkF m 12 #[rv s1, iv (0 : Int32), rv d1, iv (0 : Int32), iv (1 : Int32), iv (0 : Int32), .unset] [(.int (0 : Int32)), (.ref s1)])) _
    exact kont
  have zz102 := A0_
  obtain ⟨cl102, Ar102, q102, S102, M102, H102, G102⟩ := zz102
  have in102 : ¬ ((0 : Int32) < 0 ∨ cl102.slots.size ≤ ((0 : Int32)).toNatClampNeg) := inb_of S102 ⟨by decide, by decide⟩
  have at102 : cl102.slots[((0 : Int32)).toNatClampNeg]? = some (.int c0_) := Has.at H102 in102 rfl
  have g103 : Go p e below s₁ (mkF m 13 #[rv s1, iv (0 : Int32), rv d1, iv (0 : Int32), iv (1 : Int32), iv (0 : Int32), .unset] [(.int c0_)]) A0 := fun t kont => g101 t (X0.caload hx (j := (0 : Int32)) (v := (.int c0_)) (by rw [e0]; exact Ar102.1) (State.isArrayOf_alike hZ.alike Ar102.2.1) Ar102.2.2 in102 at102 (g := (mkF m 12 #[rv s1, iv (0 : Int32), rv d1, iv (0 : Int32), iv (1 : Int32), iv (0 : Int32), .unset] [(.int (0 : Int32)), (.ref s1)])) rfl rfl (hb hby d5_12) t kont)
  have g104 : Go p e below s₁ (mkF m 31 #[rv s1, iv (0 : Int32), rv d1, iv (0 : Int32), iv (1 : Int32), iv (0 : Int32), iv c0_] [(.int (c0_.toInt8.toInt32)), (.int (0 : Int32)), (.ref d1)]) A0 := by
    intro t kont
    refine g103 t ?_
    refine XS.istore X0.here hx rfl (hb hby d5_13) rfl (l' := #[rv s1, iv (0 : Int32), rv d1, iv (0 : Int32), iv (1 : Int32), iv (0 : Int32), iv c0_]) rfl ?_
    show Steps p.tables e below (s₁.setTop (mkF m 15 #[rv s1, iv (0 : Int32), rv d1, iv (0 : Int32), iv (1 : Int32), iv (0 : Int32), iv c0_] [])) _
    refine XS.iload X0.here hx rfl (hb hby d5_15) rfl ?_
    show Steps p.tables e below (s₁.setTop (mkF m 17 #[rv s1, iv (0 : Int32), rv d1, iv (0 : Int32), iv (1 : Int32), iv (0 : Int32), iv c0_] [(.int c0_)])) _
    refine XS.sipush X0.here hx rfl (hb hby d5_17) ?_
    show Steps p.tables e below (s₁.setTop (mkF m 20 #[rv s1, iv (0 : Int32), rv d1, iv (0 : Int32), iv (1 : Int32), iv (0 : Int32), iv c0_] [(.int (255 : Int32)), (.int c0_)])) _
    refine XS.icmpYes X0.here hx rfl (pc0 := 20) (pc' := 26) rfl (hb hby d5_20) rfl (flt hc0).2.2.2 (by decide) (by decide) ?_
    show Steps p.tables e below (s₁.setTop (mkF m 26 #[rv s1, iv (0 : Int32), rv d1, iv (0 : Int32), iv (1 : Int32), iv (0 : Int32), iv c0_] [])) _
    refine XS.aloadN X0.here hx rfl (hb hby d5_26) rfl rfl ?_
    show Steps p.tables e below (s₁.setTop (mkF m 27 #[rv s1, iv (0 : Int32), rv d1, iv (0 : Int32), iv (1 : Int32), iv (0 : Int32), iv c0_] [(.ref d1)])) _
    refine XS.iloadN X0.here hx rfl (hb hby d5_27) rfl ?_
    show Steps p.tables e below (s₁.setTop (mkF m 28 #[rv s1, iv (0 : Int32), rv d1, iv (0 : Int32), iv (1 : Int32), iv (0 : Int32), iv c0_] [(.int (0 : Int32)), (.ref d1)])) _
    refine XS.iload X0.here hx rfl (hb hby d5_28) rfl ?_
    show Steps p.tables e below (s₁.setTop (mkF m 30 #[rv s1, iv (0 : Int32), rv d1, iv (0 : Int32), iv (1 : Int32), iv (0 : Int32), iv c0_] [(.int c0_), (.int (0 : Int32)), (.ref d1)])) _
    refine XS.i2b X0.here hx rfl (hb hby d5_30) rfl ?_
    show Steps p.tables e below (s₁.setTop (mkF m 31 #[rv s1, iv (0 : Int32), rv d1, iv (0 : Int32), iv (1 : Int32), iv (0 : Int32), iv c0_] [(.int (c0_.toInt8.toInt32)), (.int (0 : Int32)), (.ref d1)])) _
    exact kont
  have zz105 := A1_
  obtain ⟨cl105, Ar105, q105, S105, M105, H105, G105⟩ := zz105
  have in105 : ¬ ((0 : Int32) < 0 ∨ cl105.slots.size ≤ ((0 : Int32)).toNatClampNeg) := inb_of S105 ⟨by decide, by decide⟩
  obtain ⟨T105, h105, X105, e105, W105, st105⟩ := stB X0 hx hZ e0 Ar105 (j := (0 : Int32)) in105 (g := (mkF m 31 #[rv s1, iv (0 : Int32), rv d1, iv (0 : Int32), iv (1 : Int32), iv (0 : Int32), iv c0_] [(.int (c0_.toInt8.toInt32)), (.int (0 : Int32)), (.ref d1)])) rfl rfl (hb hby d5_31)
  rw [show nar .byte (c0_.toInt8.toInt32) = (c0_.toInt8.toInt32) from (own_narb _)] at W105
  have O106 := O0.wr W105 G2_
  have y107 : Arv Z h105 d1 kd .byte (1 : Int32) [(.int (c0_.toInt8.toInt32))] (.int (0 : Int32)) := Arv.set Ar105 q105 S105 M105 H105 G105 (own_ft_byte (z := (c0_.toInt8.toInt32)) (own_narb _)) W105 0 rfl (Nat.le_of_ble_eq_true rfl)
  have N105 := Fr.snoc X105 N0 G2_
  have g108 : Go p e below T105 (mkF m 32 #[rv s1, iv (0 : Int32), rv d1, iv (0 : Int32), iv (1 : Int32), iv (0 : Int32), iv c0_] []) A0 := fun t kont => g104 t (st105 t kont)
  have g109 : Go p e below T105 (mkF m 46 #[rv s1, iv (1 : Int32), rv d1, iv (1 : Int32), iv (1 : Int32), iv (1 : Int32), iv c0_] [(.int (1 : Int32))]) A0 := by
    intro t kont
    refine g108 t ?_
    refine XS.iinc X105.here hx rfl (hb hby d5_32) rfl (l' := #[rv s1, iv (1 : Int32), rv d1, iv (0 : Int32), iv (1 : Int32), iv (0 : Int32), iv c0_]) rfl ?_
    show Steps p.tables e below (T105.setTop (mkF m 35 #[rv s1, iv (1 : Int32), rv d1, iv (0 : Int32), iv (1 : Int32), iv (0 : Int32), iv c0_] [])) _
    refine XS.iinc X105.here hx rfl (hb hby d5_35) rfl (l' := #[rv s1, iv (1 : Int32), rv d1, iv (1 : Int32), iv (1 : Int32), iv (0 : Int32), iv c0_]) rfl ?_
    show Steps p.tables e below (T105.setTop (mkF m 38 #[rv s1, iv (1 : Int32), rv d1, iv (1 : Int32), iv (1 : Int32), iv (0 : Int32), iv c0_] [])) _
    refine XS.iinc X105.here hx rfl (hb hby d5_38) rfl (l' := #[rv s1, iv (1 : Int32), rv d1, iv (1 : Int32), iv (1 : Int32), iv (1 : Int32), iv c0_]) rfl ?_
    show Steps p.tables e below (T105.setTop (mkF m 41 #[rv s1, iv (1 : Int32), rv d1, iv (1 : Int32), iv (1 : Int32), iv (1 : Int32), iv c0_] [])) _
    refine XS.goto X105.here hx rfl (pc0 := 41) (pc' := 3) rfl (hb hby d5_41) (by decide) (by decide) ?_
    show Steps p.tables e below (T105.setTop (mkF m 3 #[rv s1, iv (1 : Int32), rv d1, iv (1 : Int32), iv (1 : Int32), iv (1 : Int32), iv c0_] [])) _
    refine XS.iload X105.here hx rfl (hb hby d5_3) rfl ?_
    show Steps p.tables e below (T105.setTop (mkF m 5 #[rv s1, iv (1 : Int32), rv d1, iv (1 : Int32), iv (1 : Int32), iv (1 : Int32), iv c0_] [(.int (1 : Int32))])) _
    refine XS.iload X105.here hx rfl (hb hby d5_5) rfl ?_
    show Steps p.tables e below (T105.setTop (mkF m 7 #[rv s1, iv (1 : Int32), rv d1, iv (1 : Int32), iv (1 : Int32), iv (1 : Int32), iv c0_] [(.int (1 : Int32)), (.int (1 : Int32))])) _
    refine XS.icmpYes X105.here hx rfl (pc0 := 7) (pc' := 44) rfl (hb hby d5_7) rfl (flt (by decide : ¬ ((1 : Int32) < (1 : Int32)))).2.1 (by decide) (by decide) ?_
    show Steps p.tables e below (T105.setTop (mkF m 44 #[rv s1, iv (1 : Int32), rv d1, iv (1 : Int32), iv (1 : Int32), iv (1 : Int32), iv c0_] [])) _
    refine XS.iload X105.here hx rfl (hb hby d5_44) rfl ?_
    show Steps p.tables e below (T105.setTop (mkF m 46 #[rv s1, iv (1 : Int32), rv d1, iv (1 : Int32), iv (1 : Int32), iv (1 : Int32), iv c0_] [(.int (1 : Int32))])) _
    exact kont
  have K110 : Keep h0 h105 [d1] := ((Keep.refl h0 [d1]).wr W105 (Or.inl (List.mem_of_getElem? (i := 0) rfl)))
  obtain ⟨fs, hr, hrun, hended, hW, hsame⟩ := X105.leave (v := some (.int (1 : Int32))) (fun h => by rw [Bd.returns] at h; cases h)
  refine ⟨_, _, g109 _ (retI X105 hx Bd.returns (hb hby d5_46) hr), hrun, hended, _, _, rfl, ?_, ⟨_, rfl⟩, hW, hsame.mono (by decide) (by decide)⟩
  show Q_cmp1 Z s1 d1 ks kd c0_ h0 n0 _ T105.heap _
  rw [e105]
  exact ⟨rfl, N105, K110, y107⟩
theorem d4_0 : decode jdk_52_method_16_code 0 = .ok (.iload_n 2, 1) := by decide +kernel
theorem d4_1 : decode jdk_52_method_16_code 1 = .ok (.newarray .byte, 2) := by decide +kernel
theorem d4_3 : decode jdk_52_method_16_code 3 = .ok (.astore_n 3, 1) := by decide +kernel
theorem d4_4 : decode jdk_52_method_16_code 4 = .ok (.aload_n 0, 1) := by decide +kernel
theorem d4_5 : decode jdk_52_method_16_code 5 = .ok (.iload_n 1, 1) := by decide +kernel
theorem d4_6 : decode jdk_52_method_16_code 6 = .ok (.aload_n 3, 1) := by decide +kernel
theorem d4_7 : decode jdk_52_method_16_code 7 = .ok (.iconst 0, 1) := by decide +kernel
theorem d4_8 : decode jdk_52_method_16_code 8 = .ok (.iload_n 2, 1) := by decide +kernel
theorem d4_9 : decode jdk_52_method_16_code 9 = .ok (.invokestatic 115, 3) := by decide +kernel
theorem pd_0 : parseMethodDescriptor "([CI[BII)I" = some ⟨[(.array .char), .int, (.array .byte), .int, .int], some .int⟩ := by decide +kernel
theorem d4_12 : decode jdk_52_method_16_code 12 = .ok (.istore 4, 2) := by decide +kernel
theorem d4_14 : decode jdk_52_method_16_code 14 = .ok (.iload 4, 2) := by decide +kernel
theorem d4_16 : decode jdk_52_method_16_code 16 = .ok (.iload_n 2, 1) := by decide +kernel
theorem d4_17 : decode jdk_52_method_16_code 17 = .ok (.if_icmp .eq 40, 3) := by decide +kernel
theorem d4_57 : decode jdk_52_method_16_code 57 = .ok (.aload_n 3, 1) := by decide +kernel
theorem d4_58 : decode jdk_52_method_16_code 58 = .ok (.areturn, 1) := by decide +kernel
theorem ef_com1 (m : MethodId) (x0 : Addr) (x1 : Int32) (x2 : Int32)  : entryFrame m #[(.ref x0), (.int x1), (.int x2)] 6 = mkF m 0 #[.val (.ref x0), .val (.int x1), .val (.int x2), .unset, .unset, .unset] [] := by first | (simp [entryFrame, mkF, argsToLocals, Value.category]; done) | rfl
def Q_com1 (Z : State) (s1 : Addr) (ks : ClassId) (c0_ : Int32) (h0 : Heap) (n0 : Nat) (v : Option Value) (h : Heap) (L : List Loc) : Prop := ∃ (r : Addr), ∃ (kid : ClassId), v = some (.ref r) ∧ Fr n0 L ∧ Keep h0 h [] ∧ h0.size ≤ r ∧ (Exa Z h r "[B") ∧ (Arv Z h r kid .byte (1 : Int32) [(.int (c0_.toInt8.toInt32))] (.int (0 : Int32)))
set_option maxRecDepth 65536 in
set_option maxHeartbeats 40000000 in
theorem rm_com1 (l : Launch) (Z : State) (a0 : Array Value) (hw : ∀ d ∈ tables_1, d.before a0 Z = true) (ws : List Jvm.Cond) (s1 : Addr) (ks : ClassId) (c0_ : Int32) (h0 : Heap) (n0 : Nat) (O0 : Old Z n0 h0) (A0_ : Arv Z h0 s1 ks .char (1 : Int32) [(.int c0_)] (.int (0 : Int32))) (hc0 : ¬ ((255 : Int32) < c0_)) :
    MetFree l (⟨"java/lang/StringUTF16", "compress", "([CII)[B"⟩ : MethodName) (head1 (Jvm.Cond.code (⟨"java/lang/StringUTF16", "compress", "([CII)[B"⟩ : MethodName) jdk_52_method_16_code 6 (some (.array .byte)) :: ws) ({ frames := 1, cells := 1, slots := 1, locals := 18 } : Room)) (fun a U => a = #[(.ref s1), (.int (0 : Int32)), (.int (1 : Int32))] ∧ Z.Warmed39 U.vm ∧ U.heap = h0) (fun _ _ _ _ _ => True) (fun _ U o U' => ∃ v L, o = .returned v ∧ Q_com1 Z s1 ks c0_ h0 n0 v U'.heap L ∧ FrameEnd U o U' L ({ frames := 1, cells := 1, slots := 1, locals := 18 } : Room).cells ({ frames := 1, cells := 1, slots := 1, locals := 18 } : Room).slots) := by
  refine MetFree.of_bodySF (plainFor_of_name pn_java_lang_StringUTF16) hisR ?_
  intro p e s m args below meth c s₁ Bd hml0 hP hK
  obtain ⟨rfl, hZ, hh⟩ := hP
  have hx := Bd.exec
  have hby := Bd.bytes
  have hml : c.maxLocals = 6 := hml0
  have hown : s.vm.findClass "java/lang/StringUTF16" = some m.cls := findClass_of_methodNamed Bd.named
  have hnm := (name_of_methodNamed Bd.named Bd.method).1
  have X0 : Stand p l e ({ frames := 1, cells := 1, slots := 1, locals := 18 } : Room) s m #[(.ref s1), (.int (0 : Int32)), (.int (1 : Int32))] below meth c s₁ [] 0 0 := Stand.of_body Bd
  have e0 : s₁.heap = h0 := by rw [← hh, Bd.state]; rfl
  have N0 := Fr.nil n0
  have g0 : Go p e below s₁ (mkF m 0 #[rv s1, iv (0 : Int32), iv (1 : Int32), .unset, .unset, .unset] []) (s₁.setTop (entryFrame m #[(.ref s1), (.int (0 : Int32)), (.int (1 : Int32))] 6)) := fun t kont => castTop (ef_com1 m s1 (0 : Int32) (1 : Int32) ) kont
  generalize s₁.setTop (entryFrame m #[(.ref s1), (.int (0 : Int32)), (.int (1 : Int32))] 6) = A0 at g0 ⊢
  have g101 : Go p e below s₁ (mkF m 1 #[rv s1, iv (0 : Int32), iv (1 : Int32), .unset, .unset, .unset] [(.int (1 : Int32))]) A0 := by
    intro t kont
    refine g0 t ?_
    refine XS.iloadN X0.here hx rfl (hb hby d4_0) rfl ?_
    show Steps p.tables e below (s₁.setTop (mkF m 1 #[rv s1, iv (0 : Int32), iv (1 : Int32), .unset, .unset, .unset] [(.int (1 : Int32))])) _
    exact kont
  obtain ⟨T102, h102, k102, X102, e102, E102, A102, F102, st102⟩ := newPE X0 hx hZ (hw _ (List.mem_of_getElem? (i := 20) rfl)) e0 (g := (mkF m 1 #[rv s1, iv (0 : Int32), iv (1 : Int32), .unset, .unset, .unset] [(.int (1 : Int32))])) rfl (hb hby d4_1) rfl (by decide) (cap := 1) (by decide) (by decide) (by decide) (by decide) (ad := "[B") (by decide)
  obtain ⟨b102, gb102⟩ : ∃ z, z = h0.size := ⟨_, rfl⟩
  rw [← gb102] at A102 F102 st102
  have O103 := O0.ext E102
  have y104 : Arv Z h102 b102 k102 .byte (1 : Int32) [(.int (0 : Int32))] (.int (0 : Int32)) := (Arv.new A102 (by decide)).pad (pad_rep [] (.int (0 : Int32)) 1)
  have g105 : Go p e below T102 (mkF m 3 #[rv s1, iv (0 : Int32), iv (1 : Int32), .unset, .unset, .unset] [(.ref b102)]) A0 := fun t kont => g101 t (st102 t kont)
  have g106 : Go p e below T102 (mkF m 9 #[rv s1, iv (0 : Int32), iv (1 : Int32), rv b102, .unset, .unset] [(.int (1 : Int32)), (.int (0 : Int32)), (.ref b102), (.int (0 : Int32)), (.ref s1)]) A0 := by
    intro t kont
    refine g105 t ?_
    refine XS.astoreN X102.here hx rfl (hb hby d4_3) rfl rfl (l' := #[rv s1, iv (0 : Int32), iv (1 : Int32), rv b102, .unset, .unset]) rfl ?_
    show Steps p.tables e below (T102.setTop (mkF m 4 #[rv s1, iv (0 : Int32), iv (1 : Int32), rv b102, .unset, .unset] [])) _
    refine XS.aloadN X102.here hx rfl (hb hby d4_4) rfl rfl ?_
    show Steps p.tables e below (T102.setTop (mkF m 5 #[rv s1, iv (0 : Int32), iv (1 : Int32), rv b102, .unset, .unset] [(.ref s1)])) _
    refine XS.iloadN X102.here hx rfl (hb hby d4_5) rfl ?_
    show Steps p.tables e below (T102.setTop (mkF m 6 #[rv s1, iv (0 : Int32), iv (1 : Int32), rv b102, .unset, .unset] [(.int (0 : Int32)), (.ref s1)])) _
    refine XS.aloadN X102.here hx rfl (hb hby d4_6) rfl rfl ?_
    show Steps p.tables e below (T102.setTop (mkF m 7 #[rv s1, iv (0 : Int32), iv (1 : Int32), rv b102, .unset, .unset] [(.ref b102), (.int (0 : Int32)), (.ref s1)])) _
    refine XS.iconst X102.here hx rfl (hb hby d4_7) ?_
    show Steps p.tables e below (T102.setTop (mkF m 8 #[rv s1, iv (0 : Int32), iv (1 : Int32), rv b102, .unset, .unset] [(.int (0 : Int32)), (.ref b102), (.int (0 : Int32)), (.ref s1)])) _
    refine XS.iloadN X102.here hx rfl (hb hby d4_8) rfl ?_
    show Steps p.tables e below (T102.setTop (mkF m 9 #[rv s1, iv (0 : Int32), iv (1 : Int32), rv b102, .unset, .unset] [(.int (1 : Int32)), (.int (0 : Int32)), (.ref b102), (.int (0 : Int32)), (.ref s1)])) _
    exact kont
  have y108 : Arv Z h102 s1 ks .char (1 : Int32) [(.int c0_)] (.int (0 : Int32)) := (A0_.ext E102)
  have ge109 : n0 ≤ b102 := Nat.le_trans (own_old_le O0) (Nat.le_of_eq gb102.symm)
  obtain ⟨_, _, ⟨T107, L107, k107, n107⟩, -, X107, ⟨Lc107, hQ107, l107, y107, z107⟩, st107⟩ := Jvm.LawKit.callS X102 hx (y := (⟨"java/lang/StringUTF16", "compress", "([CI[BII)I"⟩ : MethodName)) hown (mvT hZ (hw _ (List.mem_of_getElem? (i := 21) rfl))) (mvT hZ (hw _ (List.mem_of_getElem? (i := 22) rfl))) (mvT hZ (hw _ (List.mem_of_getElem? (i := 18) rfl))) (mvT hZ (hw _ (List.mem_of_getElem? (i := 23) rfl))) (by decide) (backOf (W := 0) (rm_cmp1 l Z a0 hw [] s1 b102 ks k102 c0_ h102 n0 O103 y108 y104 ge109 (Nat.ne_of_lt (Nat.lt_of_lt_of_le A0_.lt (Nat.le_of_eq gb102.symm))) hc0) hZ (hw _ (List.mem_of_getElem? (i := 23) rfl)) (hw _ (List.mem_of_getElem? (i := 18) rfl)) (by decide) (by decide)) (g := (mkF m 9 #[rv s1, iv (0 : Int32), iv (1 : Int32), rv b102, .unset, .unset] [(.int (1 : Int32)), (.int (0 : Int32)), (.ref b102), (.int (0 : Int32)), (.ref s1)])) rfl (by rw [hml]; rfl) (argsL := [(.ref s1), (.int (0 : Int32)), (.ref b102), (.int (0 : Int32)), (.int (1 : Int32))]) (rest := []) (lenOf pd_0 rfl) rfl (by show 2 * 0 + _ ≤ _; exact Nat.le_of_eq rfl) (hb hby d4_9) (fun _ _ => ⟨rfl, e102, (by decide : 1 + 0 ≤ _), (by decide : 1 + 0 ≤ _)⟩)
  dsimp only [Pt.U, Pt.locs, Pt.cells, Pt.slots] at X107 l107 y107 z107 st107 hQ107
  subst l107 y107 z107
  obtain ⟨rfl, M107, K107, y110⟩ := hQ107
  have N107 := Fr.app N0 M107
  have O111 := O103.keep K107 (allS ge109 all0)
  have g112 : Go p e below T107 (mkF m 12 #[rv s1, iv (0 : Int32), iv (1 : Int32), rv b102, .unset, .unset] [(.int (1 : Int32))]) A0 := fun t kont => g106 t (st107 t kont)
  have g113 : Go p e below T107 (mkF m 58 #[rv s1, iv (0 : Int32), iv (1 : Int32), rv b102, iv (1 : Int32), .unset] [(.ref b102)]) A0 := by
    intro t kont
    refine g112 t ?_
    refine XS.istore X107.here hx rfl (hb hby d4_12) rfl (l' := #[rv s1, iv (0 : Int32), iv (1 : Int32), rv b102, iv (1 : Int32), .unset]) rfl ?_
    show Steps p.tables e below (T107.setTop (mkF m 14 #[rv s1, iv (0 : Int32), iv (1 : Int32), rv b102, iv (1 : Int32), .unset] [])) _
    refine XS.iload X107.here hx rfl (hb hby d4_14) rfl ?_
    show Steps p.tables e below (T107.setTop (mkF m 16 #[rv s1, iv (0 : Int32), iv (1 : Int32), rv b102, iv (1 : Int32), .unset] [(.int (1 : Int32))])) _
    refine XS.iloadN X107.here hx rfl (hb hby d4_16) rfl ?_
    show Steps p.tables e below (T107.setTop (mkF m 17 #[rv s1, iv (0 : Int32), iv (1 : Int32), rv b102, iv (1 : Int32), .unset] [(.int (1 : Int32)), (.int (1 : Int32))])) _
    refine XS.icmpYes X107.here hx rfl (pc0 := 17) (pc' := 57) rfl (hb hby d4_17) rfl (teq (by decide : (1 : Int32) = (1 : Int32))).1 (by decide) (by decide) ?_
    show Steps p.tables e below (T107.setTop (mkF m 57 #[rv s1, iv (0 : Int32), iv (1 : Int32), rv b102, iv (1 : Int32), .unset] [])) _
    refine XS.aloadN X107.here hx rfl (hb hby d4_57) rfl rfl ?_
    show Steps p.tables e below (T107.setTop (mkF m 58 #[rv s1, iv (0 : Int32), iv (1 : Int32), rv b102, iv (1 : Int32), .unset] [(.ref b102)])) _
    exact kont
  have K114 : Keep h0 T107.heap [] := (((Keep.refl h0 []).ext E102).trans K107 (allS (P := fun x => x ∈ [] ∨ h0.size ≤ x) (Or.inr (Nat.le_of_eq gb102.symm)) all0))
  have y115 : Exa Z T107.heap b102 "[B" := (F102.keep K107)
  obtain ⟨fs, hr, hrun, hended, hW, hsame⟩ := X107.leave (v := some (.ref b102)) (fun h => by rw [Bd.returns] at h; cases h)
  refine ⟨_, _, g113 _ (retOut X107 hx Bd.returns rfl (Or.inr (Or.inr (Or.inr (Or.inr ⟨rfl, rfl, rfl⟩)))) (hb hby d4_58) hr), hrun, hended, _, _, rfl, ?_, ⟨_, rfl⟩, hW, hsame.mono (by decide) (by decide)⟩
  show Q_com1 Z s1 ks c0_ h0 n0 _ T107.heap _
  exact ⟨b102, k102, rfl, N107, K114, (Nat.le_of_eq gb102.symm), y115, y110⟩
theorem d6_0 : decode jdk_52_method_15_code 0 = .ok (.iload_n 1, 1) := by decide +kernel
theorem d6_1 : decode jdk_52_method_15_code 1 = .ok (.aload_n 0, 1) := by decide +kernel
theorem d6_2 : decode jdk_52_method_15_code 2 = .ok (.arraylength, 1) := by decide +kernel
theorem d6_3 : decode jdk_52_method_15_code 3 = .ok (.isub, 1) := by decide +kernel
theorem d6_4 : decode jdk_52_method_15_code 4 = .ok (.bipush 31, 2) := by decide +kernel
theorem d6_6 : decode jdk_52_method_15_code 6 = .ok (.iushr, 1) := by decide +kernel
theorem d6_7 : decode jdk_52_method_15_code 7 = .ok (.i2b, 1) := by decide +kernel
theorem d6_8 : decode jdk_52_method_15_code 8 = .ok (.ireturn, 1) := by decide +kernel
theorem ef_cfa1 (m : MethodId) (x0 : Addr) (x1 : Int32)  : entryFrame m #[(.ref x0), (.int x1)] 2 = mkF m 0 #[.val (.ref x0), .val (.int x1)] [] := by first | (simp [entryFrame, mkF, argsToLocals, Value.category]; done) | rfl
def Q_cfa1 (Z : State) (b1 : Addr) (kid : ClassId) (vs : List Value) (h0 : Heap) (n0 : Nat) (v : Option Value) (h : Heap) (L : List Loc) : Prop := v = some (.int (0 : Int32)) ∧ Fr n0 L ∧ h = h0
set_option maxRecDepth 65536 in
set_option maxHeartbeats 40000000 in
theorem rm_cfa1 (l : Launch) (Z : State) (a0 : Array Value) (hw : ∀ d ∈ tables_1, d.before a0 Z = true) (ws : List Jvm.Cond) (b1 : Addr) (kid : ClassId) (vs : List Value) (h0 : Heap) (n0 : Nat) (O0 : Old Z n0 h0) (A0_ : Arv Z h0 b1 kid .byte (1 : Int32) vs (.int (0 : Int32))) :
    MetFree l (⟨"java/lang/StringUTF16", "coderFromArrayLen", "([BI)B"⟩ : MethodName) (head1 (Jvm.Cond.code (⟨"java/lang/StringUTF16", "coderFromArrayLen", "([BI)B"⟩ : MethodName) jdk_52_method_15_code 2 (some .byte) :: ws) ({ frames := 0, cells := 0, slots := 0, locals := 0 } : Room)) (fun a U => a = #[(.ref b1), (.int (1 : Int32))] ∧ Z.Warmed39 U.vm ∧ U.heap = h0) (fun _ _ _ _ _ => True) (fun _ U o U' => ∃ v L, o = .returned v ∧ Q_cfa1 Z b1 kid vs h0 n0 v U'.heap L ∧ FrameEnd U o U' L ({ frames := 0, cells := 0, slots := 0, locals := 0 } : Room).cells ({ frames := 0, cells := 0, slots := 0, locals := 0 } : Room).slots) := by
  refine MetFree.of_bodySF (plainFor_of_name pn_java_lang_StringUTF16) hisR ?_
  intro p e s m args below meth c s₁ Bd hml0 hP hK
  obtain ⟨rfl, hZ, hh⟩ := hP
  have hx := Bd.exec
  have hby := Bd.bytes
  have hml : c.maxLocals = 2 := hml0
  have hown : s.vm.findClass "java/lang/StringUTF16" = some m.cls := findClass_of_methodNamed Bd.named
  have hnm := (name_of_methodNamed Bd.named Bd.method).1
  have X0 : Stand p l e ({ frames := 0, cells := 0, slots := 0, locals := 0 } : Room) s m #[(.ref b1), (.int (1 : Int32))] below meth c s₁ [] 0 0 := Stand.of_body Bd
  have e0 : s₁.heap = h0 := by rw [← hh, Bd.state]; rfl
  have N0 := Fr.nil n0
  have g0 : Go p e below s₁ (mkF m 0 #[rv b1, iv (1 : Int32)] []) (s₁.setTop (entryFrame m #[(.ref b1), (.int (1 : Int32))] 2)) := fun t kont => castTop (ef_cfa1 m b1 (1 : Int32) ) kont
  generalize s₁.setTop (entryFrame m #[(.ref b1), (.int (1 : Int32))] 2) = A0 at g0 ⊢
  have g101 : Go p e below s₁ (mkF m 2 #[rv b1, iv (1 : Int32)] [(.ref b1), (.int (1 : Int32))]) A0 := by
    intro t kont
    refine g0 t ?_
    refine XS.iloadN X0.here hx rfl (hb hby d6_0) rfl ?_
    show Steps p.tables e below (s₁.setTop (mkF m 1 #[rv b1, iv (1 : Int32)] [(.int (1 : Int32))])) _
    refine XS.aloadN X0.here hx rfl (hb hby d6_1) rfl rfl ?_
    show Steps p.tables e below (s₁.setTop (mkF m 2 #[rv b1, iv (1 : Int32)] [(.ref b1), (.int (1 : Int32))])) _
    exact kont
  have zz102 := A0_
  obtain ⟨cl102, Ar102, -, S102, M102, -, -⟩ := zz102
  have g103 : Go p e below s₁ (mkF m 3 #[rv b1, iv (1 : Int32)] [(.int (1 : Int32)), (.int (1 : Int32))]) A0 := by
    intro t kont
    refine g101 t ?_
    refine X0.arraylength hx (by rw [e0]; exact Ar102.1) (State.isArrayOf_alike hZ.alike Ar102.2.1) (g := (mkF m 2 #[rv b1, iv (1 : Int32)] [(.ref b1), (.int (1 : Int32))])) rfl rfl (hb hby d6_2) _ ?_
    rw [len_of S102 M102]
    exact kont
  have g104 : Go p e below s₁ (mkF m 8 #[rv b1, iv (1 : Int32)] [(.int (0 : Int32))]) A0 := by
    intro t kont
    refine g103 t ?_
    refine XS.isub X0.here hx rfl (hb hby d6_3) rfl ?_
    show Steps p.tables e below (s₁.setTop (mkF m 4 #[rv b1, iv (1 : Int32)] [(.int (0 : Int32))])) _
    refine XS.bipush X0.here hx rfl (hb hby d6_4) ?_
    show Steps p.tables e below (s₁.setTop (mkF m 6 #[rv b1, iv (1 : Int32)] [(.int (31 : Int32)), (.int (0 : Int32))])) _
    refine XS.iushr X0.here hx rfl (hb hby d6_6) rfl ?_
    show Steps p.tables e below (s₁.setTop (mkF m 7 #[rv b1, iv (1 : Int32)] [(.int (0 : Int32))])) _
    refine XS.i2b X0.here hx rfl (hb hby d6_7) rfl ?_
    show Steps p.tables e below (s₁.setTop (mkF m 8 #[rv b1, iv (1 : Int32)] [(.int (0 : Int32))])) _
    exact kont
  obtain ⟨fs, hr, hrun, hended, hW, hsame⟩ := X0.leave (v := some (.int (0 : Int32))) (fun h => by rw [Bd.returns] at h; cases h)
  refine ⟨_, _, g104 _ (retN X0 hx (t := .byte) Bd.returns (by simp) (hb hby d6_8) hr), hrun, hended, _, _, rfl, ?_, ⟨_, rfl⟩, hW, hsame.mono (by decide) (by decide)⟩
  show Q_cfa1 Z b1 kid vs h0 n0 _ s₁.heap _
  rw [e0]
  exact ⟨rfl, N0, rfl⟩
theorem d2_0 : decode jdk_42_method_149_code 0 = .ok (.aload_n 0, 1) := by decide +kernel
theorem d2_1 : decode jdk_42_method_149_code 1 = .ok (.invokespecial 1, 3) := by decide +kernel
theorem d2_4 : decode jdk_42_method_149_code 4 = .ok (.iload_n 3, 1) := by decide +kernel
theorem d2_5 : decode jdk_42_method_149_code 5 = .ok (.ifCond .ne 22, 3) := by decide +kernel
theorem d2_27 : decode jdk_42_method_149_code 27 = .ok (.getstatic 38, 3) := by decide +kernel
theorem d2_30 : decode jdk_42_method_149_code 30 = .ok (.ifCond .eq 28, 3) := by decide +kernel
theorem d2_33 : decode jdk_42_method_149_code 33 = .ok (.aload_n 1, 1) := by decide +kernel
theorem d2_34 : decode jdk_42_method_149_code 34 = .ok (.iload_n 2, 1) := by decide +kernel
theorem d2_35 : decode jdk_42_method_149_code 35 = .ok (.iload_n 3, 1) := by decide +kernel
theorem d2_36 : decode jdk_42_method_149_code 36 = .ok (.invokestatic 177, 3) := by decide +kernel
theorem pd_1 : parseMethodDescriptor "([CII)[B" = some ⟨[(.array .char), .int, .int], some (.array .byte)⟩ := by decide +kernel
theorem d2_39 : decode jdk_42_method_149_code 39 = .ok (.astore 5, 2) := by decide +kernel
theorem d2_41 : decode jdk_42_method_149_code 41 = .ok (.aload_n 0, 1) := by decide +kernel
theorem d2_42 : decode jdk_42_method_149_code 42 = .ok (.aload 5, 2) := by decide +kernel
theorem d2_44 : decode jdk_42_method_149_code 44 = .ok (.iload_n 3, 1) := by decide +kernel
theorem d2_45 : decode jdk_42_method_149_code 45 = .ok (.invokestatic 47, 3) := by decide +kernel
theorem pd_2 : parseMethodDescriptor "([BI)B" = some ⟨[(.array .byte), .int], some .byte⟩ := by decide +kernel
theorem d2_48 : decode jdk_42_method_149_code 48 = .ok (.putfield 15, 3) := by decide +kernel
theorem d2_51 : decode jdk_42_method_149_code 51 = .ok (.aload_n 0, 1) := by decide +kernel
theorem d2_52 : decode jdk_42_method_149_code 52 = .ok (.aload 5, 2) := by decide +kernel
theorem d2_54 : decode jdk_42_method_149_code 54 = .ok (.putfield 9, 3) := by decide +kernel
theorem d2_57 : decode jdk_42_method_149_code 57 = .ok (.return_, 1) := by decide +kernel
theorem pn_java_lang_String : plainName "java/lang/String" = true := by first | (simp [plainName, overriddenIn]; done) | decide +kernel
theorem ef_sin1 (m : MethodId) (x0 : Addr) (x1 : Addr) (x2 : Int32) (x3 : Int32)  : entryFrame m #[(.ref x0), (.ref x1), (.int x2), (.int x3), .null] 6 = mkF m 0 #[.val (.ref x0), .val (.ref x1), .val (.int x2), .val (.int x3), .val .null, .unset] [] := by first | (simp [entryFrame, mkF, argsToLocals, Value.category]; done) | rfl
def Q_sin1 (Z : State) (a1 : Addr) (s1 : Addr) (ks : ClassId) (c0_ : Int32) (cs : Int32) (h0 : Heap) (n0 : Nat) (v : Option Value) (h : Heap) (L : List Loc) : Prop := ∃ (r : Addr), ∃ (kid : ClassId), v = none ∧ Fr n0 L ∧ Keep h0 h [a1] ∧ (Exa Z h a1 "java/lang/String") ∧ (Fld Z h a1 "java/lang/String" "coder" "B" (.int (0 : Int32))) ∧ (Fld Z h a1 "java/lang/String" "value" "[B" (.ref r)) ∧ h0.size ≤ r ∧ (Arv Z h r kid .byte (1 : Int32) [(.int (c0_.toInt8.toInt32))] (.int (0 : Int32)))
set_option maxRecDepth 65536 in
set_option maxHeartbeats 40000000 in
theorem rm_sin1 (l : Launch) (Z : State) (a0 : Array Value) (hw : ∀ d ∈ tables_1, d.before a0 Z = true) (ws : List Jvm.Cond) (a1 : Addr) (s1 : Addr) (ks : ClassId) (c0_ : Int32) (cs : Int32) (h0 : Heap) (n0 : Nat) (O0 : Old Z n0 h0) (F0_ : Fld Z h0 a1 "java/lang/String" "value" "[B" .null) (F1_ : Fld Z h0 a1 "java/lang/String" "coder" "B" (.int (0 : Int32))) (E2_ : Exa Z h0 a1 "java/lang/String") (G3_ : n0 ≤ a1) (A4_ : Arv Z h0 s1 ks .char (1 : Int32) [(.int c0_)] (.int (0 : Int32))) (hc0 : ¬ ((255 : Int32) < c0_)) (S6_ : Sta Z Z.heap "java/lang/String" "COMPACT_STRINGS" "Z" (.int cs)) (hcs : ¬ (cs = (0 : Int32))) :
    MetFree l (⟨"java/lang/String", "<init>", "([CIILjava/lang/Void;)V"⟩ : MethodName) (head1 (Jvm.Cond.code (⟨"java/lang/String", "<init>", "([CIILjava/lang/Void;)V"⟩ : MethodName) jdk_42_method_149_code 6 none :: ws) ({ frames := 2, cells := 1, slots := 1, locals := 35 } : Room)) (fun a U => a = #[(.ref a1), (.ref s1), (.int (0 : Int32)), (.int (1 : Int32)), .null] ∧ Z.Warmed39 U.vm ∧ U.heap = h0) (fun _ _ _ _ _ => True) (fun _ U o U' => ∃ v L, o = .returned v ∧ Q_sin1 Z a1 s1 ks c0_ cs h0 n0 v U'.heap L ∧ FrameEnd U o U' L ({ frames := 2, cells := 1, slots := 1, locals := 35 } : Room).cells ({ frames := 2, cells := 1, slots := 1, locals := 35 } : Room).slots) := by
  refine MetFree.of_bodySF (plainFor_of_name pn_java_lang_String) hisR ?_
  intro p e s m args below meth c s₁ Bd hml0 hP hK
  obtain ⟨rfl, hZ, hh⟩ := hP
  have hx := Bd.exec
  have hby := Bd.bytes
  have hml : c.maxLocals = 6 := hml0
  have hown : s.vm.findClass "java/lang/String" = some m.cls := findClass_of_methodNamed Bd.named
  have hnm := (name_of_methodNamed Bd.named Bd.method).1
  have X0 : Stand p l e ({ frames := 2, cells := 1, slots := 1, locals := 35 } : Room) s m #[(.ref a1), (.ref s1), (.int (0 : Int32)), (.int (1 : Int32)), .null] below meth c s₁ [] 0 0 := Stand.of_body Bd
  have e0 : s₁.heap = h0 := by rw [← hh, Bd.state]; rfl
  have N0 := Fr.nil n0
  have g0 : Go p e below s₁ (mkF m 0 #[rv a1, rv s1, iv (0 : Int32), iv (1 : Int32), .val .null, .unset] []) (s₁.setTop (entryFrame m #[(.ref a1), (.ref s1), (.int (0 : Int32)), (.int (1 : Int32)), .null] 6)) := fun t kont => castTop (ef_sin1 m a1 s1 (0 : Int32) (1 : Int32) ) kont
  generalize s₁.setTop (entryFrame m #[(.ref a1), (.ref s1), (.int (0 : Int32)), (.int (1 : Int32)), .null] 6) = A0 at g0 ⊢
  have g101 : Go p e below s₁ (mkF m 1 #[rv a1, rv s1, iv (0 : Int32), iv (1 : Int32), .val .null, .unset] [(.ref a1)]) A0 := by
    intro t kont
    refine g0 t ?_
    refine XS.aloadN X0.here hx rfl (hb hby d2_0) rfl rfl ?_
    show Steps p.tables e below (s₁.setTop (mkF m 1 #[rv a1, rv s1, iv (0 : Int32), iv (1 : Int32), .val .null, .unset] [(.ref a1)])) _
    exact kont
  obtain ⟨T102, X102, e102, st102⟩ := initO X0 hx hZ hown (hw _ (List.mem_of_getElem? (i := 12) rfl)) (hw _ (List.mem_of_getElem? (i := 13) rfl)) (hw _ (List.mem_of_getElem? (i := 14) rfl)) e0 (g := (mkF m 1 #[rv a1, rv s1, iv (0 : Int32), iv (1 : Int32), .val .null, .unset] [(.ref a1)])) rfl (by rw [hml]; rfl) rfl (hb hby d2_1) (by decide) (W := 0) (by show 2 * 0 + _ ≤ _; exact Nat.le_of_eq rfl) (by decide)
  have g103 : Go p e below T102 (mkF m 4 #[rv a1, rv s1, iv (0 : Int32), iv (1 : Int32), .val .null, .unset] []) A0 := fun t kont => g101 t (st102 t kont)
  have g104 : Go p e below T102 (mkF m 27 #[rv a1, rv s1, iv (0 : Int32), iv (1 : Int32), .val .null, .unset] []) A0 := by
    intro t kont
    refine g103 t ?_
    refine XS.iloadN X102.here hx rfl (hb hby d2_4) rfl ?_
    show Steps p.tables e below (T102.setTop (mkF m 5 #[rv a1, rv s1, iv (0 : Int32), iv (1 : Int32), .val .null, .unset] [(.int (1 : Int32))])) _
    refine XS.ifYes X102.here hx rfl (pc0 := 5) (pc' := 27) rfl (hb hby d2_5) rfl ((if0 _ _).trans (feq (by decide : ¬ ((1 : Int32) = (0 : Int32)))).2) (by decide) (by decide) ?_
    show Steps p.tables e below (T102.setTop (mkF m 27 #[rv a1, rv s1, iv (0 : Int32), iv (1 : Int32), .val .null, .unset] [])) _
    exact kont
  have y105 : Sta Z h0 "java/lang/String" "COMPACT_STRINGS" "Z" (.int cs) := S6_.ext O0.2
  obtain ⟨T106, X106, e106, st106⟩ := getS2 X102 hx hZ hown (host := "") (Or.inl (hw _ (List.mem_of_getElem? (i := 15) rfl))) Via.refl e102 y105 (g := (mkF m 27 #[rv a1, rv s1, iv (0 : Int32), iv (1 : Int32), .val .null, .unset] [])) rfl (hb hby d2_27)
  have g107 : Go p e below T106 (mkF m 30 #[rv a1, rv s1, iv (0 : Int32), iv (1 : Int32), .val .null, .unset] [(.int cs)]) A0 := fun t kont => g104 t (st106 t kont)
  have g108 : Go p e below T106 (mkF m 36 #[rv a1, rv s1, iv (0 : Int32), iv (1 : Int32), .val .null, .unset] [(.int (1 : Int32)), (.int (0 : Int32)), (.ref s1)]) A0 := by
    intro t kont
    refine g107 t ?_
    refine XS.ifNo X106.here hx rfl (hb hby d2_30) rfl ((if0 _ _).trans (feq hcs).1) ?_
    show Steps p.tables e below (T106.setTop (mkF m 33 #[rv a1, rv s1, iv (0 : Int32), iv (1 : Int32), .val .null, .unset] [])) _
    refine XS.aloadN X106.here hx rfl (hb hby d2_33) rfl rfl ?_
    show Steps p.tables e below (T106.setTop (mkF m 34 #[rv a1, rv s1, iv (0 : Int32), iv (1 : Int32), .val .null, .unset] [(.ref s1)])) _
    refine XS.iloadN X106.here hx rfl (hb hby d2_34) rfl ?_
    show Steps p.tables e below (T106.setTop (mkF m 35 #[rv a1, rv s1, iv (0 : Int32), iv (1 : Int32), .val .null, .unset] [(.int (0 : Int32)), (.ref s1)])) _
    refine XS.iloadN X106.here hx rfl (hb hby d2_35) rfl ?_
    show Steps p.tables e below (T106.setTop (mkF m 36 #[rv a1, rv s1, iv (0 : Int32), iv (1 : Int32), .val .null, .unset] [(.int (1 : Int32)), (.int (0 : Int32)), (.ref s1)])) _
    exact kont
  obtain ⟨_, _, ⟨T109, L109, k109, n109⟩, -, X109, ⟨Lc109, hQ109, l109, y109, z109⟩, st109⟩ := Jvm.LawKit.callS X106 hx (y := (⟨"java/lang/StringUTF16", "compress", "([CII)[B"⟩ : MethodName)) hown (mvT hZ (hw _ (List.mem_of_getElem? (i := 16) rfl))) (mvT hZ (hw _ (List.mem_of_getElem? (i := 17) rfl))) (mvT hZ (hw _ (List.mem_of_getElem? (i := 18) rfl))) (mvT hZ (hw _ (List.mem_of_getElem? (i := 19) rfl))) (by decide) (backOf (W := 0) (rm_com1 l Z a0 hw [] s1 ks c0_ h0 n0 O0 A4_ hc0) hZ (hw _ (List.mem_of_getElem? (i := 19) rfl)) (hw _ (List.mem_of_getElem? (i := 18) rfl)) (by decide) (by decide)) (g := (mkF m 36 #[rv a1, rv s1, iv (0 : Int32), iv (1 : Int32), .val .null, .unset] [(.int (1 : Int32)), (.int (0 : Int32)), (.ref s1)])) rfl (by rw [hml]; rfl) (argsL := [(.ref s1), (.int (0 : Int32)), (.int (1 : Int32))]) (rest := []) (lenOf pd_1 rfl) rfl (by show 2 * 0 + _ ≤ _; exact Nat.le_of_eq rfl) (hb hby d2_36) (fun _ _ => ⟨rfl, e106, (by decide : 0 + 1 ≤ _), (by decide : 0 + 1 ≤ _)⟩)
  dsimp only [Pt.U, Pt.locs, Pt.cells, Pt.slots] at X109 l109 y109 z109 st109 hQ109
  subst l109 y109 z109
  obtain ⟨r110, r111, rfl, M109, K109, y112, y113, y114⟩ := hQ109
  have N109 := Fr.app N0 M109
  have O115 := O0.keep K109 all0
  have g116 : Go p e below T109 (mkF m 39 #[rv a1, rv s1, iv (0 : Int32), iv (1 : Int32), .val .null, .unset] [(.ref r110)]) A0 := fun t kont => g108 t (st109 t kont)
  have g117 : Go p e below T109 (mkF m 45 #[rv a1, rv s1, iv (0 : Int32), iv (1 : Int32), .val .null, rv r110] [(.int (1 : Int32)), (.ref r110), (.ref a1)]) A0 := by
    intro t kont
    refine g116 t ?_
    refine XS.astore X109.here hx rfl (hb hby d2_39) rfl rfl (l' := #[rv a1, rv s1, iv (0 : Int32), iv (1 : Int32), .val .null, rv r110]) rfl ?_
    show Steps p.tables e below (T109.setTop (mkF m 41 #[rv a1, rv s1, iv (0 : Int32), iv (1 : Int32), .val .null, rv r110] [])) _
    refine XS.aloadN X109.here hx rfl (hb hby d2_41) rfl rfl ?_
    show Steps p.tables e below (T109.setTop (mkF m 42 #[rv a1, rv s1, iv (0 : Int32), iv (1 : Int32), .val .null, rv r110] [(.ref a1)])) _
    refine XS.aload X109.here hx rfl (hb hby d2_42) rfl rfl ?_
    show Steps p.tables e below (T109.setTop (mkF m 44 #[rv a1, rv s1, iv (0 : Int32), iv (1 : Int32), .val .null, rv r110] [(.ref r110), (.ref a1)])) _
    refine XS.iloadN X109.here hx rfl (hb hby d2_44) rfl ?_
    show Steps p.tables e below (T109.setTop (mkF m 45 #[rv a1, rv s1, iv (0 : Int32), iv (1 : Int32), .val .null, rv r110] [(.int (1 : Int32)), (.ref r110), (.ref a1)])) _
    exact kont
  obtain ⟨_, _, ⟨T118, L118, k118, n118⟩, -, X118, ⟨Lc118, hQ118, l118, y118, z118⟩, st118⟩ := Jvm.LawKit.callS X109 hx (y := (⟨"java/lang/StringUTF16", "coderFromArrayLen", "([BI)B"⟩ : MethodName)) hown (mvT hZ (hw _ (List.mem_of_getElem? (i := 24) rfl))) (mvT hZ (hw _ (List.mem_of_getElem? (i := 25) rfl))) (mvT hZ (hw _ (List.mem_of_getElem? (i := 18) rfl))) (mvT hZ (hw _ (List.mem_of_getElem? (i := 26) rfl))) (by decide) (backOf (W := 1) (rm_cfa1 l Z a0 hw [] r110 r111 [(.int (c0_.toInt8.toInt32))] T109.heap n0 O115 y114) hZ (hw _ (List.mem_of_getElem? (i := 26) rfl)) (hw _ (List.mem_of_getElem? (i := 18) rfl)) (by decide) (by decide)) (g := (mkF m 45 #[rv a1, rv s1, iv (0 : Int32), iv (1 : Int32), .val .null, rv r110] [(.int (1 : Int32)), (.ref r110), (.ref a1)])) rfl (by rw [hml]; rfl) (argsL := [(.ref r110), (.int (1 : Int32))]) (rest := [(.ref a1)]) (lenOf pd_2 rfl) rfl (by show 2 * 0 + _ ≤ _; exact Nat.le_of_eq rfl) (hb hby d2_45) (fun _ _ => ⟨rfl, rfl, (by decide : 1 + 0 ≤ _), (by decide : 1 + 0 ≤ _)⟩)
  dsimp only [Pt.U, Pt.locs, Pt.cells, Pt.slots] at X118 l118 y118 z118 st118 hQ118
  subst l118 y118 z118
  obtain ⟨rfl, M118, e118⟩ := hQ118
  have N118 := Fr.app N109 M118
  have g119 : Go p e below T118 (mkF m 48 #[rv a1, rv s1, iv (0 : Int32), iv (1 : Int32), .val .null, rv r110] [(.int (0 : Int32)), (.ref a1)]) A0 := fun t kont => g117 t (st118 t kont)
  have y120 : Exa Z T109.heap a1 "java/lang/String" := (E2_.keep K109)
  have y121 : Fld Z T109.heap a1 "java/lang/String" "coder" "B" (.int (0 : Int32)) := (F1_.keep K109 nin0)
  obtain ⟨T122, h122, X122, e122, W122, st122⟩ := putFN X118 hx hZ hown (hw _ (List.mem_of_getElem? (i := 27) rfl)) Via.refl e118 y121 y120 (Or.inr ⟨(hw _ (List.mem_of_getElem? (i := 28) rfl)), rfl, hnm⟩) (hw _ (List.mem_of_getElem? (i := 3) rfl)) (ty := .byte) (v := (.int (0 : Int32))) (v' := (.int (0 : Int32))) (by decide) (own_nw_byte (by decide : nar .byte (0 : Int32) = (0 : Int32))) (own_ft_byte (by decide : nar .byte (0 : Int32) = (0 : Int32))) (g := (mkF m 48 #[rv a1, rv s1, iv (0 : Int32), iv (1 : Int32), .val .null, rv r110] [(.int (0 : Int32)), (.ref a1)])) rfl rfl (hb hby d2_48)
  have O123 := O115.wr W122 G3_
  have y124 : Fld Z h122 a1 "java/lang/String" "coder" "B" (.int (0 : Int32)) := y121.same W122
  have N122 := Fr.snoc X122 N118 G3_
  have g125 : Go p e below T122 (mkF m 51 #[rv a1, rv s1, iv (0 : Int32), iv (1 : Int32), .val .null, rv r110] []) A0 := fun t kont => g119 t (st122 t kont)
  have g126 : Go p e below T122 (mkF m 54 #[rv a1, rv s1, iv (0 : Int32), iv (1 : Int32), .val .null, rv r110] [(.ref r110), (.ref a1)]) A0 := by
    intro t kont
    refine g125 t ?_
    refine XS.aloadN X122.here hx rfl (hb hby d2_51) rfl rfl ?_
    show Steps p.tables e below (T122.setTop (mkF m 52 #[rv a1, rv s1, iv (0 : Int32), iv (1 : Int32), .val .null, rv r110] [(.ref a1)])) _
    refine XS.aload X122.here hx rfl (hb hby d2_52) rfl rfl ?_
    show Steps p.tables e below (T122.setTop (mkF m 54 #[rv a1, rv s1, iv (0 : Int32), iv (1 : Int32), .val .null, rv r110] [(.ref r110), (.ref a1)])) _
    exact kont
  have y127 : Exa Z h122 a1 "java/lang/String" := (y120.wr W122)
  have y128 : Fld Z h122 a1 "java/lang/String" "value" "[B" .null := ((F0_.keep K109 nin0).other W122 (Or.inr (slot_ne (Or.inr (hw _ (List.mem_of_getElem? (i := 30) rfl))) (Or.inr (hw _ (List.mem_of_getElem? (i := 28) rfl))) (by decide) (t := (.array .byte)) (t' := .byte) (by decide) (by decide))))
  obtain ⟨T129, h129, X129, e129, W129, st129⟩ := putF X122 hx hZ hown (host := "") (Or.inl (hw _ (List.mem_of_getElem? (i := 29) rfl))) Via.refl e122 y128 y127 (Or.inr ⟨(hw _ (List.mem_of_getElem? (i := 30) rfl)), rfl, hnm⟩) (hw _ (List.mem_of_getElem? (i := 3) rfl)) (ty := (.array .byte)) (by decide) rfl rfl (g := (mkF m 54 #[rv a1, rv s1, iv (0 : Int32), iv (1 : Int32), .val .null, rv r110] [(.ref r110), (.ref a1)])) rfl rfl (hb hby d2_54)
  have O130 := O123.wr W129 G3_
  have y131 : Fld Z h129 a1 "java/lang/String" "value" "[B" (.ref r110) := y128.same W129
  have N129 := Fr.snoc X129 N122 G3_
  have g132 : Go p e below T129 (mkF m 57 #[rv a1, rv s1, iv (0 : Int32), iv (1 : Int32), .val .null, rv r110] []) A0 := fun t kont => g126 t (st129 t kont)
  have K133 : Keep h0 h129 [a1] := ((((Keep.refl h0 [a1]).trans K109 (fun x hx => nomatch hx)).wr W122 (Or.inl (List.mem_of_getElem? (i := 0) rfl))).wr W129 (Or.inl (List.mem_of_getElem? (i := 0) rfl)))
  have y134 : Exa Z h129 a1 "java/lang/String" := (y127.wr W129)
  have y135 : Fld Z h129 a1 "java/lang/String" "coder" "B" (.int (0 : Int32)) := (y124.other W129 (Or.inr (slot_ne (Or.inr (hw _ (List.mem_of_getElem? (i := 28) rfl))) (Or.inr (hw _ (List.mem_of_getElem? (i := 30) rfl))) (by decide) (t := .byte) (t' := (.array .byte)) (by decide) (by decide))))
  have y136 : Arv Z h129 r110 r111 .byte (1 : Int32) [(.int (c0_.toInt8.toInt32))] (.int (0 : Int32)) := ((y114.other W122 (Ne.symm (Nat.ne_of_lt (Nat.lt_of_lt_of_le F0_.lt y112)))).other W129 (Ne.symm (Nat.ne_of_lt (Nat.lt_of_lt_of_le F0_.lt y112))))
  obtain ⟨fs, hr, hrun, hended, hW, hsame⟩ := X129.leave (v := none) (fun _ => rfl)
  refine ⟨_, _, g132 _ (X129.returnOut hx Bd.returns (hb hby d2_57) hr), hrun, hended, _, _, rfl, ?_, ⟨_, rfl⟩, hW, hsame.mono (by decide) (by decide)⟩
  show Q_sin1 Z a1 s1 ks c0_ cs h0 n0 _ T129.heap _
  rw [e129]
  exact ⟨r110, r111, rfl, N129, K133, y134, y135, y131, y112, y136⟩
theorem d1_0 : decode jdk_42_method_3_code 0 = .ok (.aload_n 0, 1) := by decide +kernel
theorem d1_1 : decode jdk_42_method_3_code 1 = .ok (.aload_n 1, 1) := by decide +kernel
theorem d1_2 : decode jdk_42_method_3_code 2 = .ok (.iconst 0, 1) := by decide +kernel
theorem d1_3 : decode jdk_42_method_3_code 3 = .ok (.aload_n 1, 1) := by decide +kernel
theorem d1_4 : decode jdk_42_method_3_code 4 = .ok (.arraylength, 1) := by decide +kernel
theorem d1_5 : decode jdk_42_method_3_code 5 = .ok (.aconst_null, 1) := by decide +kernel
theorem d1_6 : decode jdk_42_method_3_code 6 = .ok (.invokespecial 27, 3) := by decide +kernel
theorem pd_3 : parseMethodDescriptor "([CIILjava/lang/Void;)V" = some ⟨[(.array .char), .int, .int, (.object "java/lang/Void")], none⟩ := by decide +kernel
theorem d1_9 : decode jdk_42_method_3_code 9 = .ok (.return_, 1) := by decide +kernel
theorem ef_sIni1 (m : MethodId) (x0 : Addr) (x1 : Addr)  : entryFrame m #[(.ref x0), (.ref x1)] 2 = mkF m 0 #[.val (.ref x0), .val (.ref x1)] [] := by first | (simp [entryFrame, mkF, argsToLocals, Value.category]; done) | rfl
def Q_sIni1 (Z : State) (a1 : Addr) (s1 : Addr) (ks : ClassId) (c0_ : Int32) (cs : Int32) (h0 : Heap) (n0 : Nat) (v : Option Value) (h : Heap) (L : List Loc) : Prop := ∃ (r : Addr), ∃ (kid : ClassId), v = none ∧ Fr n0 L ∧ Keep h0 h [a1] ∧ (Exa Z h a1 "java/lang/String") ∧ (Fld Z h a1 "java/lang/String" "coder" "B" (.int (0 : Int32))) ∧ (Fld Z h a1 "java/lang/String" "value" "[B" (.ref r)) ∧ h0.size ≤ r ∧ (Arv Z h r kid .byte (1 : Int32) [(.int (c0_.toInt8.toInt32))] (.int (0 : Int32)))
set_option maxRecDepth 65536 in
set_option maxHeartbeats 40000000 in
theorem rm_sIni1 (l : Launch) (Z : State) (a0 : Array Value) (hw : ∀ d ∈ tables_1, d.before a0 Z = true) (ws : List Jvm.Cond) (a1 : Addr) (s1 : Addr) (ks : ClassId) (c0_ : Int32) (cs : Int32) (h0 : Heap) (n0 : Nat) (O0 : Old Z n0 h0) (F0_ : Fld Z h0 a1 "java/lang/String" "value" "[B" .null) (F1_ : Fld Z h0 a1 "java/lang/String" "coder" "B" (.int (0 : Int32))) (E2_ : Exa Z h0 a1 "java/lang/String") (G3_ : n0 ≤ a1) (A4_ : Arv Z h0 s1 ks .char (1 : Int32) [(.int c0_)] (.int (0 : Int32))) (hc0 : ¬ ((255 : Int32) < c0_)) (S6_ : Sta Z Z.heap "java/lang/String" "COMPACT_STRINGS" "Z" (.int cs)) (hcs : ¬ (cs = (0 : Int32))) :
    MetFree l (⟨"java/lang/String", "<init>", "([C)V"⟩ : MethodName) (head1 (Jvm.Cond.code (⟨"java/lang/String", "<init>", "([C)V"⟩ : MethodName) jdk_42_method_3_code 2 none :: ws) ({ frames := 3, cells := 1, slots := 1, locals := 52 } : Room)) (fun a U => a = #[(.ref a1), (.ref s1)] ∧ Z.Warmed39 U.vm ∧ U.heap = h0) (fun _ _ _ _ _ => True) (fun _ U o U' => ∃ v L, o = .returned v ∧ Q_sIni1 Z a1 s1 ks c0_ cs h0 n0 v U'.heap L ∧ FrameEnd U o U' L ({ frames := 3, cells := 1, slots := 1, locals := 52 } : Room).cells ({ frames := 3, cells := 1, slots := 1, locals := 52 } : Room).slots) := by
  refine MetFree.of_bodySF (plainFor_of_name pn_java_lang_String) hisR ?_
  intro p e s m args below meth c s₁ Bd hml0 hP hK
  obtain ⟨rfl, hZ, hh⟩ := hP
  have hx := Bd.exec
  have hby := Bd.bytes
  have hml : c.maxLocals = 2 := hml0
  have hown : s.vm.findClass "java/lang/String" = some m.cls := findClass_of_methodNamed Bd.named
  have hnm := (name_of_methodNamed Bd.named Bd.method).1
  have X0 : Stand p l e ({ frames := 3, cells := 1, slots := 1, locals := 52 } : Room) s m #[(.ref a1), (.ref s1)] below meth c s₁ [] 0 0 := Stand.of_body Bd
  have e0 : s₁.heap = h0 := by rw [← hh, Bd.state]; rfl
  have N0 := Fr.nil n0
  have g0 : Go p e below s₁ (mkF m 0 #[rv a1, rv s1] []) (s₁.setTop (entryFrame m #[(.ref a1), (.ref s1)] 2)) := fun t kont => castTop (ef_sIni1 m a1 s1 ) kont
  generalize s₁.setTop (entryFrame m #[(.ref a1), (.ref s1)] 2) = A0 at g0 ⊢
  have g101 : Go p e below s₁ (mkF m 4 #[rv a1, rv s1] [(.ref s1), (.int (0 : Int32)), (.ref s1), (.ref a1)]) A0 := by
    intro t kont
    refine g0 t ?_
    refine XS.aloadN X0.here hx rfl (hb hby d1_0) rfl rfl ?_
    show Steps p.tables e below (s₁.setTop (mkF m 1 #[rv a1, rv s1] [(.ref a1)])) _
    refine XS.aloadN X0.here hx rfl (hb hby d1_1) rfl rfl ?_
    show Steps p.tables e below (s₁.setTop (mkF m 2 #[rv a1, rv s1] [(.ref s1), (.ref a1)])) _
    refine XS.iconst X0.here hx rfl (hb hby d1_2) ?_
    show Steps p.tables e below (s₁.setTop (mkF m 3 #[rv a1, rv s1] [(.int (0 : Int32)), (.ref s1), (.ref a1)])) _
    refine XS.aloadN X0.here hx rfl (hb hby d1_3) rfl rfl ?_
    show Steps p.tables e below (s₁.setTop (mkF m 4 #[rv a1, rv s1] [(.ref s1), (.int (0 : Int32)), (.ref s1), (.ref a1)])) _
    exact kont
  have zz102 := A4_
  obtain ⟨cl102, Ar102, -, S102, M102, -, -⟩ := zz102
  have g103 : Go p e below s₁ (mkF m 5 #[rv a1, rv s1] [(.int (1 : Int32)), (.int (0 : Int32)), (.ref s1), (.ref a1)]) A0 := by
    intro t kont
    refine g101 t ?_
    refine X0.arraylength hx (by rw [e0]; exact Ar102.1) (State.isArrayOf_alike hZ.alike Ar102.2.1) (g := (mkF m 4 #[rv a1, rv s1] [(.ref s1), (.int (0 : Int32)), (.ref s1), (.ref a1)])) rfl rfl (hb hby d1_4) _ ?_
    rw [len_of S102 M102]
    exact kont
  have g104 : Go p e below s₁ (mkF m 6 #[rv a1, rv s1] [.null, (.int (1 : Int32)), (.int (0 : Int32)), (.ref s1), (.ref a1)]) A0 := by
    intro t kont
    refine g103 t ?_
    refine XS.aconstNull X0.here hx rfl (hb hby d1_5) ?_
    show Steps p.tables e below (s₁.setTop (mkF m 6 #[rv a1, rv s1] [.null, (.int (1 : Int32)), (.int (0 : Int32)), (.ref s1), (.ref a1)])) _
    exact kont
  obtain ⟨_, _, ⟨T105, L105, k105, n105⟩, -, X105, ⟨Lc105, hQ105, l105, y105, z105⟩, st105⟩ := X0.specialBack hx (y := (⟨"java/lang/String", "<init>", "([CIILjava/lang/Void;)V"⟩ : MethodName)) rfl hown (mvT hZ (hw _ (List.mem_of_getElem? (i := 8) rfl))) (mvT hZ (hw _ (List.mem_of_getElem? (i := 9) rfl))) (mvT hZ (hw _ (List.mem_of_getElem? (i := 11) rfl))) (by decide) (backOf (W := 0) (rm_sin1 l Z a0 hw [] a1 s1 ks c0_ cs h0 n0 O0 F0_ F1_ E2_ G3_ A4_ hc0 S6_ hcs) hZ (hw _ (List.mem_of_getElem? (i := 11) rfl)) (hw _ (List.mem_of_getElem? (i := 4) rfl)) (by decide) (by decide)) (g := (mkF m 6 #[rv a1, rv s1] [.null, (.int (1 : Int32)), (.int (0 : Int32)), (.ref s1), (.ref a1)])) rfl (by rw [hml]; rfl) (Steps.refl _) (a := a1) (argsL := [(.ref s1), (.int (0 : Int32)), (.int (1 : Int32)), .null]) (rest := []) (lenOf pd_3 rfl) rfl (by show 2 * 0 + _ ≤ _; exact Nat.le_of_eq rfl) (hb hby d1_6) (fun _ _ => ⟨rfl, e0, (by decide : 0 + 1 ≤ _), (by decide : 0 + 1 ≤ _)⟩)
  dsimp only [Pt.U, Pt.locs, Pt.cells, Pt.slots] at X105 l105 y105 z105 st105 hQ105
  subst l105 y105 z105
  obtain ⟨r106, r107, rfl, M105, K105, y108, y109, y110, y111, y112⟩ := hQ105
  have N105 := Fr.app N0 M105
  have O113 := O0.keep K105 (allS G3_ all0)
  have g114 : Go p e below T105 (mkF m 9 #[rv a1, rv s1] []) A0 := fun t kont => g104 t (st105.trans kont)
  have K115 : Keep h0 T105.heap [a1] := ((Keep.refl h0 [a1]).trans K105 (allS (P := fun x => x ∈ [a1] ∨ h0.size ≤ x) (Or.inl (List.mem_of_getElem? (i := 0) rfl)) all0))
  obtain ⟨fs, hr, hrun, hended, hW, hsame⟩ := X105.leave (v := none) (fun _ => rfl)
  refine ⟨_, _, g114 _ (X105.returnOut hx Bd.returns (hb hby d1_9) hr), hrun, hended, _, _, rfl, ?_, ⟨_, rfl⟩, hW, hsame.mono (by decide) (by decide)⟩
  show Q_sIni1 Z a1 s1 ks c0_ cs h0 n0 _ T105.heap _
  exact ⟨r106, r107, rfl, N105, K115, y108, y109, y110, y111, y112⟩
theorem ef_cmp2 (m : MethodId) (x0 : Addr) (x1 : Int32) (x2 : Addr) (x3 : Int32) (x4 : Int32)  : entryFrame m #[(.ref x0), (.int x1), (.ref x2), (.int x3), (.int x4)] 7 = mkF m 0 #[.val (.ref x0), .val (.int x1), .val (.ref x2), .val (.int x3), .val (.int x4), .unset, .unset] [] := by first | (simp [entryFrame, mkF, argsToLocals, Value.category]; done) | rfl
def Q_cmp2 (Z : State) (s1 : Addr) (d1 : Addr) (ks : ClassId) (kd : ClassId) (c0_ : Int32) (c1_ : Int32) (h0 : Heap) (n0 : Nat) (v : Option Value) (h : Heap) (L : List Loc) : Prop := v = some (.int (2 : Int32)) ∧ Fr n0 L ∧ Keep h0 h [d1] ∧ (Arv Z h d1 kd .byte (2 : Int32) [(.int (c0_.toInt8.toInt32)), (.int (c1_.toInt8.toInt32))] (.int (0 : Int32)))
set_option maxRecDepth 65536 in
set_option maxHeartbeats 40000000 in
theorem rm_cmp2 (l : Launch) (Z : State) (a0 : Array Value) (hw : ∀ d ∈ tables_1, d.before a0 Z = true) (ws : List Jvm.Cond) (s1 : Addr) (d1 : Addr) (ks : ClassId) (kd : ClassId) (c0_ : Int32) (c1_ : Int32) (h0 : Heap) (n0 : Nat) (O0 : Old Z n0 h0) (A0_ : Arv Z h0 s1 ks .char (2 : Int32) [(.int c0_), (.int c1_)] (.int (0 : Int32))) (A1_ : Arv Z h0 d1 kd .byte (2 : Int32) [(.int (0 : Int32)), (.int (0 : Int32))] (.int (0 : Int32))) (G2_ : n0 ≤ d1) (NE3_ : ¬ (s1 = d1)) (hc0 : ¬ ((255 : Int32) < c0_)) (hc1 : ¬ ((255 : Int32) < c1_)) :
    MetFree l (⟨"java/lang/StringUTF16", "compress", "([CI[BII)I"⟩ : MethodName) (head1 (Jvm.Cond.code (⟨"java/lang/StringUTF16", "compress", "([CI[BII)I"⟩ : MethodName) jdk_52_method_21_code 7 (some .int) :: ws) ({ frames := 0, cells := 0, slots := 0, locals := 0 } : Room)) (fun a U => a = #[(.ref s1), (.int (0 : Int32)), (.ref d1), (.int (0 : Int32)), (.int (2 : Int32))] ∧ Z.Warmed39 U.vm ∧ U.heap = h0) (fun _ _ _ _ _ => True) (fun _ U o U' => ∃ v L, o = .returned v ∧ Q_cmp2 Z s1 d1 ks kd c0_ c1_ h0 n0 v U'.heap L ∧ FrameEnd U o U' L ({ frames := 0, cells := 0, slots := 0, locals := 0 } : Room).cells ({ frames := 0, cells := 0, slots := 0, locals := 0 } : Room).slots) := by
  refine MetFree.of_bodySF (plainFor_of_name pn_java_lang_StringUTF16) hisR ?_
  intro p e s m args below meth c s₁ Bd hml0 hP hK
  obtain ⟨rfl, hZ, hh⟩ := hP
  have hx := Bd.exec
  have hby := Bd.bytes
  have hml : c.maxLocals = 7 := hml0
  have hown : s.vm.findClass "java/lang/StringUTF16" = some m.cls := findClass_of_methodNamed Bd.named
  have hnm := (name_of_methodNamed Bd.named Bd.method).1
  have X0 : Stand p l e ({ frames := 0, cells := 0, slots := 0, locals := 0 } : Room) s m #[(.ref s1), (.int (0 : Int32)), (.ref d1), (.int (0 : Int32)), (.int (2 : Int32))] below meth c s₁ [] 0 0 := Stand.of_body Bd
  have e0 : s₁.heap = h0 := by rw [← hh, Bd.state]; rfl
  have N0 := Fr.nil n0
  have g0 : Go p e below s₁ (mkF m 0 #[rv s1, iv (0 : Int32), rv d1, iv (0 : Int32), iv (2 : Int32), .unset, .unset] []) (s₁.setTop (entryFrame m #[(.ref s1), (.int (0 : Int32)), (.ref d1), (.int (0 : Int32)), (.int (2 : Int32))] 7)) := fun t kont => castTop (ef_cmp2 m s1 (0 : Int32) d1 (0 : Int32) (2 : Int32) ) kont
  generalize s₁.setTop (entryFrame m #[(.ref s1), (.int (0 : Int32)), (.ref d1), (.int (0 : Int32)), (.int (2 : Int32))] 7) = A0 at g0 ⊢
  have g101 : Go p e below s₁ (mkF m 12 #[rv s1, iv (0 : Int32), rv d1, iv (0 : Int32), iv (2 : Int32), iv (0 : Int32), .unset] [(.int (0 : Int32)), (.ref s1)]) A0 := by
    intro t kont
    refine g0 t ?_
    refine XS.iconst X0.here hx rfl (hb hby d5_0) ?_
    show Steps p.tables e below (s₁.setTop (mkF m 1 #[rv s1, iv (0 : Int32), rv d1, iv (0 : Int32), iv (2 : Int32), .unset, .unset] [(.int (0 : Int32))])) _
    refine XS.istore X0.here hx rfl (hb hby d5_1) rfl (l' := #[rv s1, iv (0 : Int32), rv d1, iv (0 : Int32), iv (2 : Int32), iv (0 : Int32), .unset]) rfl ?_
    show Steps p.tables e below (s₁.setTop (mkF m 3 #[rv s1, iv (0 : Int32), rv d1, iv (0 : Int32), iv (2 : Int32), iv (0 : Int32), .unset] [])) _
    refine XS.iload X0.here hx rfl (hb hby d5_3) rfl ?_
    show Steps p.tables e below (s₁.setTop (mkF m 5 #[rv s1, iv (0 : Int32), rv d1, iv (0 : Int32), iv (2 : Int32), iv (0 : Int32), .unset] [(.int (0 : Int32))])) _
    refine XS.iload X0.here hx rfl (hb hby d5_5) rfl ?_
    show Steps p.tables e below (s₁.setTop (mkF m 7 #[rv s1, iv (0 : Int32), rv d1, iv (0 : Int32), iv (2 : Int32), iv (0 : Int32), .unset] [(.int (2 : Int32)), (.int (0 : Int32))])) _
    refine XS.icmpNo X0.here hx rfl (hb hby d5_7) rfl (tlt (by decide : (0 : Int32) < (2 : Int32))).2.1 ?_
    show Steps p.tables e below (s₁.setTop (mkF m 10 #[rv s1, iv (0 : Int32), rv d1, iv (0 : Int32), iv (2 : Int32), iv (0 : Int32), .unset] [])) _
    refine XS.aloadN X0.here hx rfl (hb hby d5_10) rfl rfl ?_
    show Steps p.tables e below (s₁.setTop (mkF m 11 #[rv s1, iv (0 : Int32), rv d1, iv (0 : Int32), iv (2 : Int32), iv (0 : Int32), .unset] [(.ref s1)])) _
    refine XS.iloadN X0.here hx rfl (hb hby d5_11) rfl ?_
    show Steps p.tables e below (s₁.setTop (mkF m 12 #[rv s1, iv (0 : Int32), rv d1, iv (0 : Int32), iv (2 : Int32), iv (0 : Int32), .unset] [(.int (0 : Int32)), (.ref s1)])) _
    exact kont
  have zz102 := A0_
  obtain ⟨cl102, Ar102, q102, S102, M102, H102, G102⟩ := zz102
  have in102 : ¬ ((0 : Int32) < 0 ∨ cl102.slots.size ≤ ((0 : Int32)).toNatClampNeg) := inb_of S102 ⟨by decide, by decide⟩
  have at102 : cl102.slots[((0 : Int32)).toNatClampNeg]? = some (.int c0_) := Has.at H102 in102 rfl
  have g103 : Go p e below s₁ (mkF m 13 #[rv s1, iv (0 : Int32), rv d1, iv (0 : Int32), iv (2 : Int32), iv (0 : Int32), .unset] [(.int c0_)]) A0 := fun t kont => g101 t (X0.caload hx (j := (0 : Int32)) (v := (.int c0_)) (by rw [e0]; exact Ar102.1) (State.isArrayOf_alike hZ.alike Ar102.2.1) Ar102.2.2 in102 at102 (g := (mkF m 12 #[rv s1, iv (0 : Int32), rv d1, iv (0 : Int32), iv (2 : Int32), iv (0 : Int32), .unset] [(.int (0 : Int32)), (.ref s1)])) rfl rfl (hb hby d5_12) t kont)
  have g104 : Go p e below s₁ (mkF m 31 #[rv s1, iv (0 : Int32), rv d1, iv (0 : Int32), iv (2 : Int32), iv (0 : Int32), iv c0_] [(.int (c0_.toInt8.toInt32)), (.int (0 : Int32)), (.ref d1)]) A0 := by
    intro t kont
    refine g103 t ?_
    refine XS.istore X0.here hx rfl (hb hby d5_13) rfl (l' := #[rv s1, iv (0 : Int32), rv d1, iv (0 : Int32), iv (2 : Int32), iv (0 : Int32), iv c0_]) rfl ?_
    show Steps p.tables e below (s₁.setTop (mkF m 15 #[rv s1, iv (0 : Int32), rv d1, iv (0 : Int32), iv (2 : Int32), iv (0 : Int32), iv c0_] [])) _
    refine XS.iload X0.here hx rfl (hb hby d5_15) rfl ?_
    show Steps p.tables e below (s₁.setTop (mkF m 17 #[rv s1, iv (0 : Int32), rv d1, iv (0 : Int32), iv (2 : Int32), iv (0 : Int32), iv c0_] [(.int c0_)])) _
    refine XS.sipush X0.here hx rfl (hb hby d5_17) ?_
    show Steps p.tables e below (s₁.setTop (mkF m 20 #[rv s1, iv (0 : Int32), rv d1, iv (0 : Int32), iv (2 : Int32), iv (0 : Int32), iv c0_] [(.int (255 : Int32)), (.int c0_)])) _
    refine XS.icmpYes X0.here hx rfl (pc0 := 20) (pc' := 26) rfl (hb hby d5_20) rfl (flt hc0).2.2.2 (by decide) (by decide) ?_
    show Steps p.tables e below (s₁.setTop (mkF m 26 #[rv s1, iv (0 : Int32), rv d1, iv (0 : Int32), iv (2 : Int32), iv (0 : Int32), iv c0_] [])) _
    refine XS.aloadN X0.here hx rfl (hb hby d5_26) rfl rfl ?_
    show Steps p.tables e below (s₁.setTop (mkF m 27 #[rv s1, iv (0 : Int32), rv d1, iv (0 : Int32), iv (2 : Int32), iv (0 : Int32), iv c0_] [(.ref d1)])) _
    refine XS.iloadN X0.here hx rfl (hb hby d5_27) rfl ?_
    show Steps p.tables e below (s₁.setTop (mkF m 28 #[rv s1, iv (0 : Int32), rv d1, iv (0 : Int32), iv (2 : Int32), iv (0 : Int32), iv c0_] [(.int (0 : Int32)), (.ref d1)])) _
    refine XS.iload X0.here hx rfl (hb hby d5_28) rfl ?_
    show Steps p.tables e below (s₁.setTop (mkF m 30 #[rv s1, iv (0 : Int32), rv d1, iv (0 : Int32), iv (2 : Int32), iv (0 : Int32), iv c0_] [(.int c0_), (.int (0 : Int32)), (.ref d1)])) _
    refine XS.i2b X0.here hx rfl (hb hby d5_30) rfl ?_
    show Steps p.tables e below (s₁.setTop (mkF m 31 #[rv s1, iv (0 : Int32), rv d1, iv (0 : Int32), iv (2 : Int32), iv (0 : Int32), iv c0_] [(.int (c0_.toInt8.toInt32)), (.int (0 : Int32)), (.ref d1)])) _
    exact kont
  have zz105 := A1_
  obtain ⟨cl105, Ar105, q105, S105, M105, H105, G105⟩ := zz105
  have in105 : ¬ ((0 : Int32) < 0 ∨ cl105.slots.size ≤ ((0 : Int32)).toNatClampNeg) := inb_of S105 ⟨by decide, by decide⟩
  obtain ⟨T105, h105, X105, e105, W105, st105⟩ := stB X0 hx hZ e0 Ar105 (j := (0 : Int32)) in105 (g := (mkF m 31 #[rv s1, iv (0 : Int32), rv d1, iv (0 : Int32), iv (2 : Int32), iv (0 : Int32), iv c0_] [(.int (c0_.toInt8.toInt32)), (.int (0 : Int32)), (.ref d1)])) rfl rfl (hb hby d5_31)
  rw [show nar .byte (c0_.toInt8.toInt32) = (c0_.toInt8.toInt32) from (own_narb _)] at W105
  have O106 := O0.wr W105 G2_
  have y107 : Arv Z h105 d1 kd .byte (2 : Int32) [(.int (c0_.toInt8.toInt32)), (.int (0 : Int32))] (.int (0 : Int32)) := Arv.set Ar105 q105 S105 M105 H105 G105 (own_ft_byte (z := (c0_.toInt8.toInt32)) (own_narb _)) W105 0 rfl (Nat.le_of_ble_eq_true rfl)
  have N105 := Fr.snoc X105 N0 G2_
  have g108 : Go p e below T105 (mkF m 32 #[rv s1, iv (0 : Int32), rv d1, iv (0 : Int32), iv (2 : Int32), iv (0 : Int32), iv c0_] []) A0 := fun t kont => g104 t (st105 t kont)
  have g109 : Go p e below T105 (mkF m 12 #[rv s1, iv (1 : Int32), rv d1, iv (1 : Int32), iv (2 : Int32), iv (1 : Int32), iv c0_] [(.int (1 : Int32)), (.ref s1)]) A0 := by
    intro t kont
    refine g108 t ?_
    refine XS.iinc X105.here hx rfl (hb hby d5_32) rfl (l' := #[rv s1, iv (1 : Int32), rv d1, iv (0 : Int32), iv (2 : Int32), iv (0 : Int32), iv c0_]) rfl ?_
    show Steps p.tables e below (T105.setTop (mkF m 35 #[rv s1, iv (1 : Int32), rv d1, iv (0 : Int32), iv (2 : Int32), iv (0 : Int32), iv c0_] [])) _
    refine XS.iinc X105.here hx rfl (hb hby d5_35) rfl (l' := #[rv s1, iv (1 : Int32), rv d1, iv (1 : Int32), iv (2 : Int32), iv (0 : Int32), iv c0_]) rfl ?_
    show Steps p.tables e below (T105.setTop (mkF m 38 #[rv s1, iv (1 : Int32), rv d1, iv (1 : Int32), iv (2 : Int32), iv (0 : Int32), iv c0_] [])) _
    refine XS.iinc X105.here hx rfl (hb hby d5_38) rfl (l' := #[rv s1, iv (1 : Int32), rv d1, iv (1 : Int32), iv (2 : Int32), iv (1 : Int32), iv c0_]) rfl ?_
    show Steps p.tables e below (T105.setTop (mkF m 41 #[rv s1, iv (1 : Int32), rv d1, iv (1 : Int32), iv (2 : Int32), iv (1 : Int32), iv c0_] [])) _
    refine XS.goto X105.here hx rfl (pc0 := 41) (pc' := 3) rfl (hb hby d5_41) (by decide) (by decide) ?_
    show Steps p.tables e below (T105.setTop (mkF m 3 #[rv s1, iv (1 : Int32), rv d1, iv (1 : Int32), iv (2 : Int32), iv (1 : Int32), iv c0_] [])) _
    refine XS.iload X105.here hx rfl (hb hby d5_3) rfl ?_
    show Steps p.tables e below (T105.setTop (mkF m 5 #[rv s1, iv (1 : Int32), rv d1, iv (1 : Int32), iv (2 : Int32), iv (1 : Int32), iv c0_] [(.int (1 : Int32))])) _
    refine XS.iload X105.here hx rfl (hb hby d5_5) rfl ?_
    show Steps p.tables e below (T105.setTop (mkF m 7 #[rv s1, iv (1 : Int32), rv d1, iv (1 : Int32), iv (2 : Int32), iv (1 : Int32), iv c0_] [(.int (2 : Int32)), (.int (1 : Int32))])) _
    refine XS.icmpNo X105.here hx rfl (hb hby d5_7) rfl (tlt (by decide : (1 : Int32) < (2 : Int32))).2.1 ?_
    show Steps p.tables e below (T105.setTop (mkF m 10 #[rv s1, iv (1 : Int32), rv d1, iv (1 : Int32), iv (2 : Int32), iv (1 : Int32), iv c0_] [])) _
    refine XS.aloadN X105.here hx rfl (hb hby d5_10) rfl rfl ?_
    show Steps p.tables e below (T105.setTop (mkF m 11 #[rv s1, iv (1 : Int32), rv d1, iv (1 : Int32), iv (2 : Int32), iv (1 : Int32), iv c0_] [(.ref s1)])) _
    refine XS.iloadN X105.here hx rfl (hb hby d5_11) rfl ?_
    show Steps p.tables e below (T105.setTop (mkF m 12 #[rv s1, iv (1 : Int32), rv d1, iv (1 : Int32), iv (2 : Int32), iv (1 : Int32), iv c0_] [(.int (1 : Int32)), (.ref s1)])) _
    exact kont
  have y110 : Arv Z h105 s1 ks .char (2 : Int32) [(.int c0_), (.int c1_)] (.int (0 : Int32)) := (A0_.other W105 NE3_)
  have zz111 := y110
  obtain ⟨cl111, Ar111, q111, S111, M111, H111, G111⟩ := zz111
  have in111 : ¬ ((1 : Int32) < 0 ∨ cl111.slots.size ≤ ((1 : Int32)).toNatClampNeg) := inb_of S111 ⟨by decide, by decide⟩
  have at111 : cl111.slots[((1 : Int32)).toNatClampNeg]? = some (.int c1_) := Has.at H111 in111 rfl
  have g112 : Go p e below T105 (mkF m 13 #[rv s1, iv (1 : Int32), rv d1, iv (1 : Int32), iv (2 : Int32), iv (1 : Int32), iv c0_] [(.int c1_)]) A0 := fun t kont => g109 t (X105.caload hx (j := (1 : Int32)) (v := (.int c1_)) (by rw [e105]; exact Ar111.1) (State.isArrayOf_alike hZ.alike Ar111.2.1) Ar111.2.2 in111 at111 (g := (mkF m 12 #[rv s1, iv (1 : Int32), rv d1, iv (1 : Int32), iv (2 : Int32), iv (1 : Int32), iv c0_] [(.int (1 : Int32)), (.ref s1)])) rfl rfl (hb hby d5_12) t kont)
  have g113 : Go p e below T105 (mkF m 31 #[rv s1, iv (1 : Int32), rv d1, iv (1 : Int32), iv (2 : Int32), iv (1 : Int32), iv c1_] [(.int (c1_.toInt8.toInt32)), (.int (1 : Int32)), (.ref d1)]) A0 := by
    intro t kont
    refine g112 t ?_
    refine XS.istore X105.here hx rfl (hb hby d5_13) rfl (l' := #[rv s1, iv (1 : Int32), rv d1, iv (1 : Int32), iv (2 : Int32), iv (1 : Int32), iv c1_]) rfl ?_
    show Steps p.tables e below (T105.setTop (mkF m 15 #[rv s1, iv (1 : Int32), rv d1, iv (1 : Int32), iv (2 : Int32), iv (1 : Int32), iv c1_] [])) _
    refine XS.iload X105.here hx rfl (hb hby d5_15) rfl ?_
    show Steps p.tables e below (T105.setTop (mkF m 17 #[rv s1, iv (1 : Int32), rv d1, iv (1 : Int32), iv (2 : Int32), iv (1 : Int32), iv c1_] [(.int c1_)])) _
    refine XS.sipush X105.here hx rfl (hb hby d5_17) ?_
    show Steps p.tables e below (T105.setTop (mkF m 20 #[rv s1, iv (1 : Int32), rv d1, iv (1 : Int32), iv (2 : Int32), iv (1 : Int32), iv c1_] [(.int (255 : Int32)), (.int c1_)])) _
    refine XS.icmpYes X105.here hx rfl (pc0 := 20) (pc' := 26) rfl (hb hby d5_20) rfl (flt hc1).2.2.2 (by decide) (by decide) ?_
    show Steps p.tables e below (T105.setTop (mkF m 26 #[rv s1, iv (1 : Int32), rv d1, iv (1 : Int32), iv (2 : Int32), iv (1 : Int32), iv c1_] [])) _
    refine XS.aloadN X105.here hx rfl (hb hby d5_26) rfl rfl ?_
    show Steps p.tables e below (T105.setTop (mkF m 27 #[rv s1, iv (1 : Int32), rv d1, iv (1 : Int32), iv (2 : Int32), iv (1 : Int32), iv c1_] [(.ref d1)])) _
    refine XS.iloadN X105.here hx rfl (hb hby d5_27) rfl ?_
    show Steps p.tables e below (T105.setTop (mkF m 28 #[rv s1, iv (1 : Int32), rv d1, iv (1 : Int32), iv (2 : Int32), iv (1 : Int32), iv c1_] [(.int (1 : Int32)), (.ref d1)])) _
    refine XS.iload X105.here hx rfl (hb hby d5_28) rfl ?_
    show Steps p.tables e below (T105.setTop (mkF m 30 #[rv s1, iv (1 : Int32), rv d1, iv (1 : Int32), iv (2 : Int32), iv (1 : Int32), iv c1_] [(.int c1_), (.int (1 : Int32)), (.ref d1)])) _
    refine XS.i2b X105.here hx rfl (hb hby d5_30) rfl ?_
    show Steps p.tables e below (T105.setTop (mkF m 31 #[rv s1, iv (1 : Int32), rv d1, iv (1 : Int32), iv (2 : Int32), iv (1 : Int32), iv c1_] [(.int (c1_.toInt8.toInt32)), (.int (1 : Int32)), (.ref d1)])) _
    exact kont
  have zz114 := y107
  obtain ⟨cl114, Ar114, q114, S114, M114, H114, G114⟩ := zz114
  have in114 : ¬ ((1 : Int32) < 0 ∨ cl114.slots.size ≤ ((1 : Int32)).toNatClampNeg) := inb_of S114 ⟨by decide, by decide⟩
  obtain ⟨T114, h114, X114, e114, W114, st114⟩ := stB X105 hx hZ e105 Ar114 (j := (1 : Int32)) in114 (g := (mkF m 31 #[rv s1, iv (1 : Int32), rv d1, iv (1 : Int32), iv (2 : Int32), iv (1 : Int32), iv c1_] [(.int (c1_.toInt8.toInt32)), (.int (1 : Int32)), (.ref d1)])) rfl rfl (hb hby d5_31)
  rw [show nar .byte (c1_.toInt8.toInt32) = (c1_.toInt8.toInt32) from (own_narb _)] at W114
  have O115 := O106.wr W114 G2_
  have y116 : Arv Z h114 d1 kd .byte (2 : Int32) [(.int (c0_.toInt8.toInt32)), (.int (c1_.toInt8.toInt32))] (.int (0 : Int32)) := Arv.set Ar114 q114 S114 M114 H114 G114 (own_ft_byte (z := (c1_.toInt8.toInt32)) (own_narb _)) W114 1 rfl (Nat.le_of_ble_eq_true rfl)
  have N114 := Fr.snoc X114 N105 G2_
  have g117 : Go p e below T114 (mkF m 32 #[rv s1, iv (1 : Int32), rv d1, iv (1 : Int32), iv (2 : Int32), iv (1 : Int32), iv c1_] []) A0 := fun t kont => g113 t (st114 t kont)
  have g118 : Go p e below T114 (mkF m 46 #[rv s1, iv (2 : Int32), rv d1, iv (2 : Int32), iv (2 : Int32), iv (2 : Int32), iv c1_] [(.int (2 : Int32))]) A0 := by
    intro t kont
    refine g117 t ?_
    refine XS.iinc X114.here hx rfl (hb hby d5_32) rfl (l' := #[rv s1, iv (2 : Int32), rv d1, iv (1 : Int32), iv (2 : Int32), iv (1 : Int32), iv c1_]) rfl ?_
    show Steps p.tables e below (T114.setTop (mkF m 35 #[rv s1, iv (2 : Int32), rv d1, iv (1 : Int32), iv (2 : Int32), iv (1 : Int32), iv c1_] [])) _
    refine XS.iinc X114.here hx rfl (hb hby d5_35) rfl (l' := #[rv s1, iv (2 : Int32), rv d1, iv (2 : Int32), iv (2 : Int32), iv (1 : Int32), iv c1_]) rfl ?_
    show Steps p.tables e below (T114.setTop (mkF m 38 #[rv s1, iv (2 : Int32), rv d1, iv (2 : Int32), iv (2 : Int32), iv (1 : Int32), iv c1_] [])) _
    refine XS.iinc X114.here hx rfl (hb hby d5_38) rfl (l' := #[rv s1, iv (2 : Int32), rv d1, iv (2 : Int32), iv (2 : Int32), iv (2 : Int32), iv c1_]) rfl ?_
    show Steps p.tables e below (T114.setTop (mkF m 41 #[rv s1, iv (2 : Int32), rv d1, iv (2 : Int32), iv (2 : Int32), iv (2 : Int32), iv c1_] [])) _
    refine XS.goto X114.here hx rfl (pc0 := 41) (pc' := 3) rfl (hb hby d5_41) (by decide) (by decide) ?_
    show Steps p.tables e below (T114.setTop (mkF m 3 #[rv s1, iv (2 : Int32), rv d1, iv (2 : Int32), iv (2 : Int32), iv (2 : Int32), iv c1_] [])) _
    refine XS.iload X114.here hx rfl (hb hby d5_3) rfl ?_
    show Steps p.tables e below (T114.setTop (mkF m 5 #[rv s1, iv (2 : Int32), rv d1, iv (2 : Int32), iv (2 : Int32), iv (2 : Int32), iv c1_] [(.int (2 : Int32))])) _
    refine XS.iload X114.here hx rfl (hb hby d5_5) rfl ?_
    show Steps p.tables e below (T114.setTop (mkF m 7 #[rv s1, iv (2 : Int32), rv d1, iv (2 : Int32), iv (2 : Int32), iv (2 : Int32), iv c1_] [(.int (2 : Int32)), (.int (2 : Int32))])) _
    refine XS.icmpYes X114.here hx rfl (pc0 := 7) (pc' := 44) rfl (hb hby d5_7) rfl (flt (by decide : ¬ ((2 : Int32) < (2 : Int32)))).2.1 (by decide) (by decide) ?_
    show Steps p.tables e below (T114.setTop (mkF m 44 #[rv s1, iv (2 : Int32), rv d1, iv (2 : Int32), iv (2 : Int32), iv (2 : Int32), iv c1_] [])) _
    refine XS.iload X114.here hx rfl (hb hby d5_44) rfl ?_
    show Steps p.tables e below (T114.setTop (mkF m 46 #[rv s1, iv (2 : Int32), rv d1, iv (2 : Int32), iv (2 : Int32), iv (2 : Int32), iv c1_] [(.int (2 : Int32))])) _
    exact kont
  have K119 : Keep h0 h114 [d1] := (((Keep.refl h0 [d1]).wr W105 (Or.inl (List.mem_of_getElem? (i := 0) rfl))).wr W114 (Or.inl (List.mem_of_getElem? (i := 0) rfl)))
  obtain ⟨fs, hr, hrun, hended, hW, hsame⟩ := X114.leave (v := some (.int (2 : Int32))) (fun h => by rw [Bd.returns] at h; cases h)
  refine ⟨_, _, g118 _ (retI X114 hx Bd.returns (hb hby d5_46) hr), hrun, hended, _, _, rfl, ?_, ⟨_, rfl⟩, hW, hsame.mono (by decide) (by decide)⟩
  show Q_cmp2 Z s1 d1 ks kd c0_ c1_ h0 n0 _ T114.heap _
  rw [e114]
  exact ⟨rfl, N114, K119, y116⟩
theorem ef_com2 (m : MethodId) (x0 : Addr) (x1 : Int32) (x2 : Int32)  : entryFrame m #[(.ref x0), (.int x1), (.int x2)] 6 = mkF m 0 #[.val (.ref x0), .val (.int x1), .val (.int x2), .unset, .unset, .unset] [] := by first | (simp [entryFrame, mkF, argsToLocals, Value.category]; done) | rfl
def Q_com2 (Z : State) (s1 : Addr) (ks : ClassId) (c0_ : Int32) (c1_ : Int32) (h0 : Heap) (n0 : Nat) (v : Option Value) (h : Heap) (L : List Loc) : Prop := ∃ (r : Addr), ∃ (kid : ClassId), v = some (.ref r) ∧ Fr n0 L ∧ Keep h0 h [] ∧ h0.size ≤ r ∧ (Exa Z h r "[B") ∧ (Arv Z h r kid .byte (2 : Int32) [(.int (c0_.toInt8.toInt32)), (.int (c1_.toInt8.toInt32))] (.int (0 : Int32)))
set_option maxRecDepth 65536 in
set_option maxHeartbeats 40000000 in
theorem rm_com2 (l : Launch) (Z : State) (a0 : Array Value) (hw : ∀ d ∈ tables_1, d.before a0 Z = true) (ws : List Jvm.Cond) (s1 : Addr) (ks : ClassId) (c0_ : Int32) (c1_ : Int32) (h0 : Heap) (n0 : Nat) (O0 : Old Z n0 h0) (A0_ : Arv Z h0 s1 ks .char (2 : Int32) [(.int c0_), (.int c1_)] (.int (0 : Int32))) (hc0 : ¬ ((255 : Int32) < c0_)) (hc1 : ¬ ((255 : Int32) < c1_)) :
    MetFree l (⟨"java/lang/StringUTF16", "compress", "([CII)[B"⟩ : MethodName) (head1 (Jvm.Cond.code (⟨"java/lang/StringUTF16", "compress", "([CII)[B"⟩ : MethodName) jdk_52_method_16_code 6 (some (.array .byte)) :: ws) ({ frames := 1, cells := 1, slots := 2, locals := 18 } : Room)) (fun a U => a = #[(.ref s1), (.int (0 : Int32)), (.int (2 : Int32))] ∧ Z.Warmed39 U.vm ∧ U.heap = h0) (fun _ _ _ _ _ => True) (fun _ U o U' => ∃ v L, o = .returned v ∧ Q_com2 Z s1 ks c0_ c1_ h0 n0 v U'.heap L ∧ FrameEnd U o U' L ({ frames := 1, cells := 1, slots := 2, locals := 18 } : Room).cells ({ frames := 1, cells := 1, slots := 2, locals := 18 } : Room).slots) := by
  refine MetFree.of_bodySF (plainFor_of_name pn_java_lang_StringUTF16) hisR ?_
  intro p e s m args below meth c s₁ Bd hml0 hP hK
  obtain ⟨rfl, hZ, hh⟩ := hP
  have hx := Bd.exec
  have hby := Bd.bytes
  have hml : c.maxLocals = 6 := hml0
  have hown : s.vm.findClass "java/lang/StringUTF16" = some m.cls := findClass_of_methodNamed Bd.named
  have hnm := (name_of_methodNamed Bd.named Bd.method).1
  have X0 : Stand p l e ({ frames := 1, cells := 1, slots := 2, locals := 18 } : Room) s m #[(.ref s1), (.int (0 : Int32)), (.int (2 : Int32))] below meth c s₁ [] 0 0 := Stand.of_body Bd
  have e0 : s₁.heap = h0 := by rw [← hh, Bd.state]; rfl
  have N0 := Fr.nil n0
  have g0 : Go p e below s₁ (mkF m 0 #[rv s1, iv (0 : Int32), iv (2 : Int32), .unset, .unset, .unset] []) (s₁.setTop (entryFrame m #[(.ref s1), (.int (0 : Int32)), (.int (2 : Int32))] 6)) := fun t kont => castTop (ef_com2 m s1 (0 : Int32) (2 : Int32) ) kont
  generalize s₁.setTop (entryFrame m #[(.ref s1), (.int (0 : Int32)), (.int (2 : Int32))] 6) = A0 at g0 ⊢
  have g101 : Go p e below s₁ (mkF m 1 #[rv s1, iv (0 : Int32), iv (2 : Int32), .unset, .unset, .unset] [(.int (2 : Int32))]) A0 := by
    intro t kont
    refine g0 t ?_
    refine XS.iloadN X0.here hx rfl (hb hby d4_0) rfl ?_
    show Steps p.tables e below (s₁.setTop (mkF m 1 #[rv s1, iv (0 : Int32), iv (2 : Int32), .unset, .unset, .unset] [(.int (2 : Int32))])) _
    exact kont
  obtain ⟨T102, h102, k102, X102, e102, E102, A102, F102, st102⟩ := newPE X0 hx hZ (hw _ (List.mem_of_getElem? (i := 20) rfl)) e0 (g := (mkF m 1 #[rv s1, iv (0 : Int32), iv (2 : Int32), .unset, .unset, .unset] [(.int (2 : Int32))])) rfl (hb hby d4_1) rfl (by decide) (cap := 2) (by decide) (by decide) (by decide) (by decide) (ad := "[B") (by decide)
  obtain ⟨b102, gb102⟩ : ∃ z, z = h0.size := ⟨_, rfl⟩
  rw [← gb102] at A102 F102 st102
  have O103 := O0.ext E102
  have y104 : Arv Z h102 b102 k102 .byte (2 : Int32) [(.int (0 : Int32)), (.int (0 : Int32))] (.int (0 : Int32)) := (Arv.new A102 (by decide)).pad (pad_rep [] (.int (0 : Int32)) 2)
  have g105 : Go p e below T102 (mkF m 3 #[rv s1, iv (0 : Int32), iv (2 : Int32), .unset, .unset, .unset] [(.ref b102)]) A0 := fun t kont => g101 t (st102 t kont)
  have g106 : Go p e below T102 (mkF m 9 #[rv s1, iv (0 : Int32), iv (2 : Int32), rv b102, .unset, .unset] [(.int (2 : Int32)), (.int (0 : Int32)), (.ref b102), (.int (0 : Int32)), (.ref s1)]) A0 := by
    intro t kont
    refine g105 t ?_
    refine XS.astoreN X102.here hx rfl (hb hby d4_3) rfl rfl (l' := #[rv s1, iv (0 : Int32), iv (2 : Int32), rv b102, .unset, .unset]) rfl ?_
    show Steps p.tables e below (T102.setTop (mkF m 4 #[rv s1, iv (0 : Int32), iv (2 : Int32), rv b102, .unset, .unset] [])) _
    refine XS.aloadN X102.here hx rfl (hb hby d4_4) rfl rfl ?_
    show Steps p.tables e below (T102.setTop (mkF m 5 #[rv s1, iv (0 : Int32), iv (2 : Int32), rv b102, .unset, .unset] [(.ref s1)])) _
    refine XS.iloadN X102.here hx rfl (hb hby d4_5) rfl ?_
    show Steps p.tables e below (T102.setTop (mkF m 6 #[rv s1, iv (0 : Int32), iv (2 : Int32), rv b102, .unset, .unset] [(.int (0 : Int32)), (.ref s1)])) _
    refine XS.aloadN X102.here hx rfl (hb hby d4_6) rfl rfl ?_
    show Steps p.tables e below (T102.setTop (mkF m 7 #[rv s1, iv (0 : Int32), iv (2 : Int32), rv b102, .unset, .unset] [(.ref b102), (.int (0 : Int32)), (.ref s1)])) _
    refine XS.iconst X102.here hx rfl (hb hby d4_7) ?_
    show Steps p.tables e below (T102.setTop (mkF m 8 #[rv s1, iv (0 : Int32), iv (2 : Int32), rv b102, .unset, .unset] [(.int (0 : Int32)), (.ref b102), (.int (0 : Int32)), (.ref s1)])) _
    refine XS.iloadN X102.here hx rfl (hb hby d4_8) rfl ?_
    show Steps p.tables e below (T102.setTop (mkF m 9 #[rv s1, iv (0 : Int32), iv (2 : Int32), rv b102, .unset, .unset] [(.int (2 : Int32)), (.int (0 : Int32)), (.ref b102), (.int (0 : Int32)), (.ref s1)])) _
    exact kont
  have y108 : Arv Z h102 s1 ks .char (2 : Int32) [(.int c0_), (.int c1_)] (.int (0 : Int32)) := (A0_.ext E102)
  have ge109 : n0 ≤ b102 := Nat.le_trans (own_old_le O0) (Nat.le_of_eq gb102.symm)
  obtain ⟨_, _, ⟨T107, L107, k107, n107⟩, -, X107, ⟨Lc107, hQ107, l107, y107, z107⟩, st107⟩ := Jvm.LawKit.callS X102 hx (y := (⟨"java/lang/StringUTF16", "compress", "([CI[BII)I"⟩ : MethodName)) hown (mvT hZ (hw _ (List.mem_of_getElem? (i := 21) rfl))) (mvT hZ (hw _ (List.mem_of_getElem? (i := 22) rfl))) (mvT hZ (hw _ (List.mem_of_getElem? (i := 18) rfl))) (mvT hZ (hw _ (List.mem_of_getElem? (i := 23) rfl))) (by decide) (backOf (W := 0) (rm_cmp2 l Z a0 hw [] s1 b102 ks k102 c0_ c1_ h102 n0 O103 y108 y104 ge109 (Nat.ne_of_lt (Nat.lt_of_lt_of_le A0_.lt (Nat.le_of_eq gb102.symm))) hc0 hc1) hZ (hw _ (List.mem_of_getElem? (i := 23) rfl)) (hw _ (List.mem_of_getElem? (i := 18) rfl)) (by decide) (by decide)) (g := (mkF m 9 #[rv s1, iv (0 : Int32), iv (2 : Int32), rv b102, .unset, .unset] [(.int (2 : Int32)), (.int (0 : Int32)), (.ref b102), (.int (0 : Int32)), (.ref s1)])) rfl (by rw [hml]; rfl) (argsL := [(.ref s1), (.int (0 : Int32)), (.ref b102), (.int (0 : Int32)), (.int (2 : Int32))]) (rest := []) (lenOf pd_0 rfl) rfl (by show 2 * 0 + _ ≤ _; exact Nat.le_of_eq rfl) (hb hby d4_9) (fun _ _ => ⟨rfl, e102, (by decide : 1 + 0 ≤ _), (by decide : 2 + 0 ≤ _)⟩)
  dsimp only [Pt.U, Pt.locs, Pt.cells, Pt.slots] at X107 l107 y107 z107 st107 hQ107
  subst l107 y107 z107
  obtain ⟨rfl, M107, K107, y110⟩ := hQ107
  have N107 := Fr.app N0 M107
  have O111 := O103.keep K107 (allS ge109 all0)
  have g112 : Go p e below T107 (mkF m 12 #[rv s1, iv (0 : Int32), iv (2 : Int32), rv b102, .unset, .unset] [(.int (2 : Int32))]) A0 := fun t kont => g106 t (st107 t kont)
  have g113 : Go p e below T107 (mkF m 58 #[rv s1, iv (0 : Int32), iv (2 : Int32), rv b102, iv (2 : Int32), .unset] [(.ref b102)]) A0 := by
    intro t kont
    refine g112 t ?_
    refine XS.istore X107.here hx rfl (hb hby d4_12) rfl (l' := #[rv s1, iv (0 : Int32), iv (2 : Int32), rv b102, iv (2 : Int32), .unset]) rfl ?_
    show Steps p.tables e below (T107.setTop (mkF m 14 #[rv s1, iv (0 : Int32), iv (2 : Int32), rv b102, iv (2 : Int32), .unset] [])) _
    refine XS.iload X107.here hx rfl (hb hby d4_14) rfl ?_
    show Steps p.tables e below (T107.setTop (mkF m 16 #[rv s1, iv (0 : Int32), iv (2 : Int32), rv b102, iv (2 : Int32), .unset] [(.int (2 : Int32))])) _
    refine XS.iloadN X107.here hx rfl (hb hby d4_16) rfl ?_
    show Steps p.tables e below (T107.setTop (mkF m 17 #[rv s1, iv (0 : Int32), iv (2 : Int32), rv b102, iv (2 : Int32), .unset] [(.int (2 : Int32)), (.int (2 : Int32))])) _
    refine XS.icmpYes X107.here hx rfl (pc0 := 17) (pc' := 57) rfl (hb hby d4_17) rfl (teq (by decide : (2 : Int32) = (2 : Int32))).1 (by decide) (by decide) ?_
    show Steps p.tables e below (T107.setTop (mkF m 57 #[rv s1, iv (0 : Int32), iv (2 : Int32), rv b102, iv (2 : Int32), .unset] [])) _
    refine XS.aloadN X107.here hx rfl (hb hby d4_57) rfl rfl ?_
    show Steps p.tables e below (T107.setTop (mkF m 58 #[rv s1, iv (0 : Int32), iv (2 : Int32), rv b102, iv (2 : Int32), .unset] [(.ref b102)])) _
    exact kont
  have K114 : Keep h0 T107.heap [] := (((Keep.refl h0 []).ext E102).trans K107 (allS (P := fun x => x ∈ [] ∨ h0.size ≤ x) (Or.inr (Nat.le_of_eq gb102.symm)) all0))
  have y115 : Exa Z T107.heap b102 "[B" := (F102.keep K107)
  obtain ⟨fs, hr, hrun, hended, hW, hsame⟩ := X107.leave (v := some (.ref b102)) (fun h => by rw [Bd.returns] at h; cases h)
  refine ⟨_, _, g113 _ (retOut X107 hx Bd.returns rfl (Or.inr (Or.inr (Or.inr (Or.inr ⟨rfl, rfl, rfl⟩)))) (hb hby d4_58) hr), hrun, hended, _, _, rfl, ?_, ⟨_, rfl⟩, hW, hsame.mono (by decide) (by decide)⟩
  show Q_com2 Z s1 ks c0_ c1_ h0 n0 _ T107.heap _
  exact ⟨b102, k102, rfl, N107, K114, (Nat.le_of_eq gb102.symm), y115, y110⟩
theorem ef_cfa2 (m : MethodId) (x0 : Addr) (x1 : Int32)  : entryFrame m #[(.ref x0), (.int x1)] 2 = mkF m 0 #[.val (.ref x0), .val (.int x1)] [] := by first | (simp [entryFrame, mkF, argsToLocals, Value.category]; done) | rfl
def Q_cfa2 (Z : State) (b1 : Addr) (kid : ClassId) (vs : List Value) (h0 : Heap) (n0 : Nat) (v : Option Value) (h : Heap) (L : List Loc) : Prop := v = some (.int (0 : Int32)) ∧ Fr n0 L ∧ h = h0
set_option maxRecDepth 65536 in
set_option maxHeartbeats 40000000 in
theorem rm_cfa2 (l : Launch) (Z : State) (a0 : Array Value) (hw : ∀ d ∈ tables_1, d.before a0 Z = true) (ws : List Jvm.Cond) (b1 : Addr) (kid : ClassId) (vs : List Value) (h0 : Heap) (n0 : Nat) (O0 : Old Z n0 h0) (A0_ : Arv Z h0 b1 kid .byte (2 : Int32) vs (.int (0 : Int32))) :
    MetFree l (⟨"java/lang/StringUTF16", "coderFromArrayLen", "([BI)B"⟩ : MethodName) (head1 (Jvm.Cond.code (⟨"java/lang/StringUTF16", "coderFromArrayLen", "([BI)B"⟩ : MethodName) jdk_52_method_15_code 2 (some .byte) :: ws) ({ frames := 0, cells := 0, slots := 0, locals := 0 } : Room)) (fun a U => a = #[(.ref b1), (.int (2 : Int32))] ∧ Z.Warmed39 U.vm ∧ U.heap = h0) (fun _ _ _ _ _ => True) (fun _ U o U' => ∃ v L, o = .returned v ∧ Q_cfa2 Z b1 kid vs h0 n0 v U'.heap L ∧ FrameEnd U o U' L ({ frames := 0, cells := 0, slots := 0, locals := 0 } : Room).cells ({ frames := 0, cells := 0, slots := 0, locals := 0 } : Room).slots) := by
  refine MetFree.of_bodySF (plainFor_of_name pn_java_lang_StringUTF16) hisR ?_
  intro p e s m args below meth c s₁ Bd hml0 hP hK
  obtain ⟨rfl, hZ, hh⟩ := hP
  have hx := Bd.exec
  have hby := Bd.bytes
  have hml : c.maxLocals = 2 := hml0
  have hown : s.vm.findClass "java/lang/StringUTF16" = some m.cls := findClass_of_methodNamed Bd.named
  have hnm := (name_of_methodNamed Bd.named Bd.method).1
  have X0 : Stand p l e ({ frames := 0, cells := 0, slots := 0, locals := 0 } : Room) s m #[(.ref b1), (.int (2 : Int32))] below meth c s₁ [] 0 0 := Stand.of_body Bd
  have e0 : s₁.heap = h0 := by rw [← hh, Bd.state]; rfl
  have N0 := Fr.nil n0
  have g0 : Go p e below s₁ (mkF m 0 #[rv b1, iv (2 : Int32)] []) (s₁.setTop (entryFrame m #[(.ref b1), (.int (2 : Int32))] 2)) := fun t kont => castTop (ef_cfa2 m b1 (2 : Int32) ) kont
  generalize s₁.setTop (entryFrame m #[(.ref b1), (.int (2 : Int32))] 2) = A0 at g0 ⊢
  have g101 : Go p e below s₁ (mkF m 2 #[rv b1, iv (2 : Int32)] [(.ref b1), (.int (2 : Int32))]) A0 := by
    intro t kont
    refine g0 t ?_
    refine XS.iloadN X0.here hx rfl (hb hby d6_0) rfl ?_
    show Steps p.tables e below (s₁.setTop (mkF m 1 #[rv b1, iv (2 : Int32)] [(.int (2 : Int32))])) _
    refine XS.aloadN X0.here hx rfl (hb hby d6_1) rfl rfl ?_
    show Steps p.tables e below (s₁.setTop (mkF m 2 #[rv b1, iv (2 : Int32)] [(.ref b1), (.int (2 : Int32))])) _
    exact kont
  have zz102 := A0_
  obtain ⟨cl102, Ar102, -, S102, M102, -, -⟩ := zz102
  have g103 : Go p e below s₁ (mkF m 3 #[rv b1, iv (2 : Int32)] [(.int (2 : Int32)), (.int (2 : Int32))]) A0 := by
    intro t kont
    refine g101 t ?_
    refine X0.arraylength hx (by rw [e0]; exact Ar102.1) (State.isArrayOf_alike hZ.alike Ar102.2.1) (g := (mkF m 2 #[rv b1, iv (2 : Int32)] [(.ref b1), (.int (2 : Int32))])) rfl rfl (hb hby d6_2) _ ?_
    rw [len_of S102 M102]
    exact kont
  have g104 : Go p e below s₁ (mkF m 8 #[rv b1, iv (2 : Int32)] [(.int (0 : Int32))]) A0 := by
    intro t kont
    refine g103 t ?_
    refine XS.isub X0.here hx rfl (hb hby d6_3) rfl ?_
    show Steps p.tables e below (s₁.setTop (mkF m 4 #[rv b1, iv (2 : Int32)] [(.int (0 : Int32))])) _
    refine XS.bipush X0.here hx rfl (hb hby d6_4) ?_
    show Steps p.tables e below (s₁.setTop (mkF m 6 #[rv b1, iv (2 : Int32)] [(.int (31 : Int32)), (.int (0 : Int32))])) _
    refine XS.iushr X0.here hx rfl (hb hby d6_6) rfl ?_
    show Steps p.tables e below (s₁.setTop (mkF m 7 #[rv b1, iv (2 : Int32)] [(.int (0 : Int32))])) _
    refine XS.i2b X0.here hx rfl (hb hby d6_7) rfl ?_
    show Steps p.tables e below (s₁.setTop (mkF m 8 #[rv b1, iv (2 : Int32)] [(.int (0 : Int32))])) _
    exact kont
  obtain ⟨fs, hr, hrun, hended, hW, hsame⟩ := X0.leave (v := some (.int (0 : Int32))) (fun h => by rw [Bd.returns] at h; cases h)
  refine ⟨_, _, g104 _ (retN X0 hx (t := .byte) Bd.returns (by simp) (hb hby d6_8) hr), hrun, hended, _, _, rfl, ?_, ⟨_, rfl⟩, hW, hsame.mono (by decide) (by decide)⟩
  show Q_cfa2 Z b1 kid vs h0 n0 _ s₁.heap _
  rw [e0]
  exact ⟨rfl, N0, rfl⟩
theorem ef_sin2 (m : MethodId) (x0 : Addr) (x1 : Addr) (x2 : Int32) (x3 : Int32)  : entryFrame m #[(.ref x0), (.ref x1), (.int x2), (.int x3), .null] 6 = mkF m 0 #[.val (.ref x0), .val (.ref x1), .val (.int x2), .val (.int x3), .val .null, .unset] [] := by first | (simp [entryFrame, mkF, argsToLocals, Value.category]; done) | rfl
def Q_sin2 (Z : State) (a1 : Addr) (s1 : Addr) (ks : ClassId) (c0_ : Int32) (c1_ : Int32) (cs : Int32) (h0 : Heap) (n0 : Nat) (v : Option Value) (h : Heap) (L : List Loc) : Prop := ∃ (r : Addr), ∃ (kid : ClassId), v = none ∧ Fr n0 L ∧ Keep h0 h [a1] ∧ (Exa Z h a1 "java/lang/String") ∧ (Fld Z h a1 "java/lang/String" "coder" "B" (.int (0 : Int32))) ∧ (Fld Z h a1 "java/lang/String" "value" "[B" (.ref r)) ∧ h0.size ≤ r ∧ (Arv Z h r kid .byte (2 : Int32) [(.int (c0_.toInt8.toInt32)), (.int (c1_.toInt8.toInt32))] (.int (0 : Int32)))
set_option maxRecDepth 65536 in
set_option maxHeartbeats 40000000 in
theorem rm_sin2 (l : Launch) (Z : State) (a0 : Array Value) (hw : ∀ d ∈ tables_1, d.before a0 Z = true) (ws : List Jvm.Cond) (a1 : Addr) (s1 : Addr) (ks : ClassId) (c0_ : Int32) (c1_ : Int32) (cs : Int32) (h0 : Heap) (n0 : Nat) (O0 : Old Z n0 h0) (F0_ : Fld Z h0 a1 "java/lang/String" "value" "[B" .null) (F1_ : Fld Z h0 a1 "java/lang/String" "coder" "B" (.int (0 : Int32))) (E2_ : Exa Z h0 a1 "java/lang/String") (G3_ : n0 ≤ a1) (A4_ : Arv Z h0 s1 ks .char (2 : Int32) [(.int c0_), (.int c1_)] (.int (0 : Int32))) (hc0 : ¬ ((255 : Int32) < c0_)) (hc1 : ¬ ((255 : Int32) < c1_)) (S7_ : Sta Z Z.heap "java/lang/String" "COMPACT_STRINGS" "Z" (.int cs)) (hcs : ¬ (cs = (0 : Int32))) :
    MetFree l (⟨"java/lang/String", "<init>", "([CIILjava/lang/Void;)V"⟩ : MethodName) (head1 (Jvm.Cond.code (⟨"java/lang/String", "<init>", "([CIILjava/lang/Void;)V"⟩ : MethodName) jdk_42_method_149_code 6 none :: ws) ({ frames := 2, cells := 1, slots := 2, locals := 35 } : Room)) (fun a U => a = #[(.ref a1), (.ref s1), (.int (0 : Int32)), (.int (2 : Int32)), .null] ∧ Z.Warmed39 U.vm ∧ U.heap = h0) (fun _ _ _ _ _ => True) (fun _ U o U' => ∃ v L, o = .returned v ∧ Q_sin2 Z a1 s1 ks c0_ c1_ cs h0 n0 v U'.heap L ∧ FrameEnd U o U' L ({ frames := 2, cells := 1, slots := 2, locals := 35 } : Room).cells ({ frames := 2, cells := 1, slots := 2, locals := 35 } : Room).slots) := by
  refine MetFree.of_bodySF (plainFor_of_name pn_java_lang_String) hisR ?_
  intro p e s m args below meth c s₁ Bd hml0 hP hK
  obtain ⟨rfl, hZ, hh⟩ := hP
  have hx := Bd.exec
  have hby := Bd.bytes
  have hml : c.maxLocals = 6 := hml0
  have hown : s.vm.findClass "java/lang/String" = some m.cls := findClass_of_methodNamed Bd.named
  have hnm := (name_of_methodNamed Bd.named Bd.method).1
  have X0 : Stand p l e ({ frames := 2, cells := 1, slots := 2, locals := 35 } : Room) s m #[(.ref a1), (.ref s1), (.int (0 : Int32)), (.int (2 : Int32)), .null] below meth c s₁ [] 0 0 := Stand.of_body Bd
  have e0 : s₁.heap = h0 := by rw [← hh, Bd.state]; rfl
  have N0 := Fr.nil n0
  have g0 : Go p e below s₁ (mkF m 0 #[rv a1, rv s1, iv (0 : Int32), iv (2 : Int32), .val .null, .unset] []) (s₁.setTop (entryFrame m #[(.ref a1), (.ref s1), (.int (0 : Int32)), (.int (2 : Int32)), .null] 6)) := fun t kont => castTop (ef_sin2 m a1 s1 (0 : Int32) (2 : Int32) ) kont
  generalize s₁.setTop (entryFrame m #[(.ref a1), (.ref s1), (.int (0 : Int32)), (.int (2 : Int32)), .null] 6) = A0 at g0 ⊢
  have g101 : Go p e below s₁ (mkF m 1 #[rv a1, rv s1, iv (0 : Int32), iv (2 : Int32), .val .null, .unset] [(.ref a1)]) A0 := by
    intro t kont
    refine g0 t ?_
    refine XS.aloadN X0.here hx rfl (hb hby d2_0) rfl rfl ?_
    show Steps p.tables e below (s₁.setTop (mkF m 1 #[rv a1, rv s1, iv (0 : Int32), iv (2 : Int32), .val .null, .unset] [(.ref a1)])) _
    exact kont
  obtain ⟨T102, X102, e102, st102⟩ := initO X0 hx hZ hown (hw _ (List.mem_of_getElem? (i := 12) rfl)) (hw _ (List.mem_of_getElem? (i := 13) rfl)) (hw _ (List.mem_of_getElem? (i := 14) rfl)) e0 (g := (mkF m 1 #[rv a1, rv s1, iv (0 : Int32), iv (2 : Int32), .val .null, .unset] [(.ref a1)])) rfl (by rw [hml]; rfl) rfl (hb hby d2_1) (by decide) (W := 0) (by show 2 * 0 + _ ≤ _; exact Nat.le_of_eq rfl) (by decide)
  have g103 : Go p e below T102 (mkF m 4 #[rv a1, rv s1, iv (0 : Int32), iv (2 : Int32), .val .null, .unset] []) A0 := fun t kont => g101 t (st102 t kont)
  have g104 : Go p e below T102 (mkF m 27 #[rv a1, rv s1, iv (0 : Int32), iv (2 : Int32), .val .null, .unset] []) A0 := by
    intro t kont
    refine g103 t ?_
    refine XS.iloadN X102.here hx rfl (hb hby d2_4) rfl ?_
    show Steps p.tables e below (T102.setTop (mkF m 5 #[rv a1, rv s1, iv (0 : Int32), iv (2 : Int32), .val .null, .unset] [(.int (2 : Int32))])) _
    refine XS.ifYes X102.here hx rfl (pc0 := 5) (pc' := 27) rfl (hb hby d2_5) rfl ((if0 _ _).trans (feq (by decide : ¬ ((2 : Int32) = (0 : Int32)))).2) (by decide) (by decide) ?_
    show Steps p.tables e below (T102.setTop (mkF m 27 #[rv a1, rv s1, iv (0 : Int32), iv (2 : Int32), .val .null, .unset] [])) _
    exact kont
  have y105 : Sta Z h0 "java/lang/String" "COMPACT_STRINGS" "Z" (.int cs) := S7_.ext O0.2
  obtain ⟨T106, X106, e106, st106⟩ := getS2 X102 hx hZ hown (host := "") (Or.inl (hw _ (List.mem_of_getElem? (i := 15) rfl))) Via.refl e102 y105 (g := (mkF m 27 #[rv a1, rv s1, iv (0 : Int32), iv (2 : Int32), .val .null, .unset] [])) rfl (hb hby d2_27)
  have g107 : Go p e below T106 (mkF m 30 #[rv a1, rv s1, iv (0 : Int32), iv (2 : Int32), .val .null, .unset] [(.int cs)]) A0 := fun t kont => g104 t (st106 t kont)
  have g108 : Go p e below T106 (mkF m 36 #[rv a1, rv s1, iv (0 : Int32), iv (2 : Int32), .val .null, .unset] [(.int (2 : Int32)), (.int (0 : Int32)), (.ref s1)]) A0 := by
    intro t kont
    refine g107 t ?_
    refine XS.ifNo X106.here hx rfl (hb hby d2_30) rfl ((if0 _ _).trans (feq hcs).1) ?_
    show Steps p.tables e below (T106.setTop (mkF m 33 #[rv a1, rv s1, iv (0 : Int32), iv (2 : Int32), .val .null, .unset] [])) _
    refine XS.aloadN X106.here hx rfl (hb hby d2_33) rfl rfl ?_
    show Steps p.tables e below (T106.setTop (mkF m 34 #[rv a1, rv s1, iv (0 : Int32), iv (2 : Int32), .val .null, .unset] [(.ref s1)])) _
    refine XS.iloadN X106.here hx rfl (hb hby d2_34) rfl ?_
    show Steps p.tables e below (T106.setTop (mkF m 35 #[rv a1, rv s1, iv (0 : Int32), iv (2 : Int32), .val .null, .unset] [(.int (0 : Int32)), (.ref s1)])) _
    refine XS.iloadN X106.here hx rfl (hb hby d2_35) rfl ?_
    show Steps p.tables e below (T106.setTop (mkF m 36 #[rv a1, rv s1, iv (0 : Int32), iv (2 : Int32), .val .null, .unset] [(.int (2 : Int32)), (.int (0 : Int32)), (.ref s1)])) _
    exact kont
  obtain ⟨_, _, ⟨T109, L109, k109, n109⟩, -, X109, ⟨Lc109, hQ109, l109, y109, z109⟩, st109⟩ := Jvm.LawKit.callS X106 hx (y := (⟨"java/lang/StringUTF16", "compress", "([CII)[B"⟩ : MethodName)) hown (mvT hZ (hw _ (List.mem_of_getElem? (i := 16) rfl))) (mvT hZ (hw _ (List.mem_of_getElem? (i := 17) rfl))) (mvT hZ (hw _ (List.mem_of_getElem? (i := 18) rfl))) (mvT hZ (hw _ (List.mem_of_getElem? (i := 19) rfl))) (by decide) (backOf (W := 0) (rm_com2 l Z a0 hw [] s1 ks c0_ c1_ h0 n0 O0 A4_ hc0 hc1) hZ (hw _ (List.mem_of_getElem? (i := 19) rfl)) (hw _ (List.mem_of_getElem? (i := 18) rfl)) (by decide) (by decide)) (g := (mkF m 36 #[rv a1, rv s1, iv (0 : Int32), iv (2 : Int32), .val .null, .unset] [(.int (2 : Int32)), (.int (0 : Int32)), (.ref s1)])) rfl (by rw [hml]; rfl) (argsL := [(.ref s1), (.int (0 : Int32)), (.int (2 : Int32))]) (rest := []) (lenOf pd_1 rfl) rfl (by show 2 * 0 + _ ≤ _; exact Nat.le_of_eq rfl) (hb hby d2_36) (fun _ _ => ⟨rfl, e106, (by decide : 0 + 1 ≤ _), (by decide : 0 + 2 ≤ _)⟩)
  dsimp only [Pt.U, Pt.locs, Pt.cells, Pt.slots] at X109 l109 y109 z109 st109 hQ109
  subst l109 y109 z109
  obtain ⟨r110, r111, rfl, M109, K109, y112, y113, y114⟩ := hQ109
  have N109 := Fr.app N0 M109
  have O115 := O0.keep K109 all0
  have g116 : Go p e below T109 (mkF m 39 #[rv a1, rv s1, iv (0 : Int32), iv (2 : Int32), .val .null, .unset] [(.ref r110)]) A0 := fun t kont => g108 t (st109 t kont)
  have g117 : Go p e below T109 (mkF m 45 #[rv a1, rv s1, iv (0 : Int32), iv (2 : Int32), .val .null, rv r110] [(.int (2 : Int32)), (.ref r110), (.ref a1)]) A0 := by
    intro t kont
    refine g116 t ?_
    refine XS.astore X109.here hx rfl (hb hby d2_39) rfl rfl (l' := #[rv a1, rv s1, iv (0 : Int32), iv (2 : Int32), .val .null, rv r110]) rfl ?_
    show Steps p.tables e below (T109.setTop (mkF m 41 #[rv a1, rv s1, iv (0 : Int32), iv (2 : Int32), .val .null, rv r110] [])) _
    refine XS.aloadN X109.here hx rfl (hb hby d2_41) rfl rfl ?_
    show Steps p.tables e below (T109.setTop (mkF m 42 #[rv a1, rv s1, iv (0 : Int32), iv (2 : Int32), .val .null, rv r110] [(.ref a1)])) _
    refine XS.aload X109.here hx rfl (hb hby d2_42) rfl rfl ?_
    show Steps p.tables e below (T109.setTop (mkF m 44 #[rv a1, rv s1, iv (0 : Int32), iv (2 : Int32), .val .null, rv r110] [(.ref r110), (.ref a1)])) _
    refine XS.iloadN X109.here hx rfl (hb hby d2_44) rfl ?_
    show Steps p.tables e below (T109.setTop (mkF m 45 #[rv a1, rv s1, iv (0 : Int32), iv (2 : Int32), .val .null, rv r110] [(.int (2 : Int32)), (.ref r110), (.ref a1)])) _
    exact kont
  obtain ⟨_, _, ⟨T118, L118, k118, n118⟩, -, X118, ⟨Lc118, hQ118, l118, y118, z118⟩, st118⟩ := Jvm.LawKit.callS X109 hx (y := (⟨"java/lang/StringUTF16", "coderFromArrayLen", "([BI)B"⟩ : MethodName)) hown (mvT hZ (hw _ (List.mem_of_getElem? (i := 24) rfl))) (mvT hZ (hw _ (List.mem_of_getElem? (i := 25) rfl))) (mvT hZ (hw _ (List.mem_of_getElem? (i := 18) rfl))) (mvT hZ (hw _ (List.mem_of_getElem? (i := 26) rfl))) (by decide) (backOf (W := 1) (rm_cfa2 l Z a0 hw [] r110 r111 [(.int (c0_.toInt8.toInt32)), (.int (c1_.toInt8.toInt32))] T109.heap n0 O115 y114) hZ (hw _ (List.mem_of_getElem? (i := 26) rfl)) (hw _ (List.mem_of_getElem? (i := 18) rfl)) (by decide) (by decide)) (g := (mkF m 45 #[rv a1, rv s1, iv (0 : Int32), iv (2 : Int32), .val .null, rv r110] [(.int (2 : Int32)), (.ref r110), (.ref a1)])) rfl (by rw [hml]; rfl) (argsL := [(.ref r110), (.int (2 : Int32))]) (rest := [(.ref a1)]) (lenOf pd_2 rfl) rfl (by show 2 * 0 + _ ≤ _; exact Nat.le_of_eq rfl) (hb hby d2_45) (fun _ _ => ⟨rfl, rfl, (by decide : 1 + 0 ≤ _), (by decide : 2 + 0 ≤ _)⟩)
  dsimp only [Pt.U, Pt.locs, Pt.cells, Pt.slots] at X118 l118 y118 z118 st118 hQ118
  subst l118 y118 z118
  obtain ⟨rfl, M118, e118⟩ := hQ118
  have N118 := Fr.app N109 M118
  have g119 : Go p e below T118 (mkF m 48 #[rv a1, rv s1, iv (0 : Int32), iv (2 : Int32), .val .null, rv r110] [(.int (0 : Int32)), (.ref a1)]) A0 := fun t kont => g117 t (st118 t kont)
  have y120 : Exa Z T109.heap a1 "java/lang/String" := (E2_.keep K109)
  have y121 : Fld Z T109.heap a1 "java/lang/String" "coder" "B" (.int (0 : Int32)) := (F1_.keep K109 nin0)
  obtain ⟨T122, h122, X122, e122, W122, st122⟩ := putFN X118 hx hZ hown (hw _ (List.mem_of_getElem? (i := 27) rfl)) Via.refl e118 y121 y120 (Or.inr ⟨(hw _ (List.mem_of_getElem? (i := 28) rfl)), rfl, hnm⟩) (hw _ (List.mem_of_getElem? (i := 3) rfl)) (ty := .byte) (v := (.int (0 : Int32))) (v' := (.int (0 : Int32))) (by decide) (own_nw_byte (by decide : nar .byte (0 : Int32) = (0 : Int32))) (own_ft_byte (by decide : nar .byte (0 : Int32) = (0 : Int32))) (g := (mkF m 48 #[rv a1, rv s1, iv (0 : Int32), iv (2 : Int32), .val .null, rv r110] [(.int (0 : Int32)), (.ref a1)])) rfl rfl (hb hby d2_48)
  have O123 := O115.wr W122 G3_
  have y124 : Fld Z h122 a1 "java/lang/String" "coder" "B" (.int (0 : Int32)) := y121.same W122
  have N122 := Fr.snoc X122 N118 G3_
  have g125 : Go p e below T122 (mkF m 51 #[rv a1, rv s1, iv (0 : Int32), iv (2 : Int32), .val .null, rv r110] []) A0 := fun t kont => g119 t (st122 t kont)
  have g126 : Go p e below T122 (mkF m 54 #[rv a1, rv s1, iv (0 : Int32), iv (2 : Int32), .val .null, rv r110] [(.ref r110), (.ref a1)]) A0 := by
    intro t kont
    refine g125 t ?_
    refine XS.aloadN X122.here hx rfl (hb hby d2_51) rfl rfl ?_
    show Steps p.tables e below (T122.setTop (mkF m 52 #[rv a1, rv s1, iv (0 : Int32), iv (2 : Int32), .val .null, rv r110] [(.ref a1)])) _
    refine XS.aload X122.here hx rfl (hb hby d2_52) rfl rfl ?_
    show Steps p.tables e below (T122.setTop (mkF m 54 #[rv a1, rv s1, iv (0 : Int32), iv (2 : Int32), .val .null, rv r110] [(.ref r110), (.ref a1)])) _
    exact kont
  have y127 : Exa Z h122 a1 "java/lang/String" := (y120.wr W122)
  have y128 : Fld Z h122 a1 "java/lang/String" "value" "[B" .null := ((F0_.keep K109 nin0).other W122 (Or.inr (slot_ne (Or.inr (hw _ (List.mem_of_getElem? (i := 30) rfl))) (Or.inr (hw _ (List.mem_of_getElem? (i := 28) rfl))) (by decide) (t := (.array .byte)) (t' := .byte) (by decide) (by decide))))
  obtain ⟨T129, h129, X129, e129, W129, st129⟩ := putF X122 hx hZ hown (host := "") (Or.inl (hw _ (List.mem_of_getElem? (i := 29) rfl))) Via.refl e122 y128 y127 (Or.inr ⟨(hw _ (List.mem_of_getElem? (i := 30) rfl)), rfl, hnm⟩) (hw _ (List.mem_of_getElem? (i := 3) rfl)) (ty := (.array .byte)) (by decide) rfl rfl (g := (mkF m 54 #[rv a1, rv s1, iv (0 : Int32), iv (2 : Int32), .val .null, rv r110] [(.ref r110), (.ref a1)])) rfl rfl (hb hby d2_54)
  have O130 := O123.wr W129 G3_
  have y131 : Fld Z h129 a1 "java/lang/String" "value" "[B" (.ref r110) := y128.same W129
  have N129 := Fr.snoc X129 N122 G3_
  have g132 : Go p e below T129 (mkF m 57 #[rv a1, rv s1, iv (0 : Int32), iv (2 : Int32), .val .null, rv r110] []) A0 := fun t kont => g126 t (st129 t kont)
  have K133 : Keep h0 h129 [a1] := ((((Keep.refl h0 [a1]).trans K109 (fun x hx => nomatch hx)).wr W122 (Or.inl (List.mem_of_getElem? (i := 0) rfl))).wr W129 (Or.inl (List.mem_of_getElem? (i := 0) rfl)))
  have y134 : Exa Z h129 a1 "java/lang/String" := (y127.wr W129)
  have y135 : Fld Z h129 a1 "java/lang/String" "coder" "B" (.int (0 : Int32)) := (y124.other W129 (Or.inr (slot_ne (Or.inr (hw _ (List.mem_of_getElem? (i := 28) rfl))) (Or.inr (hw _ (List.mem_of_getElem? (i := 30) rfl))) (by decide) (t := .byte) (t' := (.array .byte)) (by decide) (by decide))))
  have y136 : Arv Z h129 r110 r111 .byte (2 : Int32) [(.int (c0_.toInt8.toInt32)), (.int (c1_.toInt8.toInt32))] (.int (0 : Int32)) := ((y114.other W122 (Ne.symm (Nat.ne_of_lt (Nat.lt_of_lt_of_le F0_.lt y112)))).other W129 (Ne.symm (Nat.ne_of_lt (Nat.lt_of_lt_of_le F0_.lt y112))))
  obtain ⟨fs, hr, hrun, hended, hW, hsame⟩ := X129.leave (v := none) (fun _ => rfl)
  refine ⟨_, _, g132 _ (X129.returnOut hx Bd.returns (hb hby d2_57) hr), hrun, hended, _, _, rfl, ?_, ⟨_, rfl⟩, hW, hsame.mono (by decide) (by decide)⟩
  show Q_sin2 Z a1 s1 ks c0_ c1_ cs h0 n0 _ T129.heap _
  rw [e129]
  exact ⟨r110, r111, rfl, N129, K133, y134, y135, y131, y112, y136⟩
theorem ef_sIni2 (m : MethodId) (x0 : Addr) (x1 : Addr)  : entryFrame m #[(.ref x0), (.ref x1)] 2 = mkF m 0 #[.val (.ref x0), .val (.ref x1)] [] := by first | (simp [entryFrame, mkF, argsToLocals, Value.category]; done) | rfl
def Q_sIni2 (Z : State) (a1 : Addr) (s1 : Addr) (ks : ClassId) (c0_ : Int32) (c1_ : Int32) (cs : Int32) (h0 : Heap) (n0 : Nat) (v : Option Value) (h : Heap) (L : List Loc) : Prop := ∃ (r : Addr), ∃ (kid : ClassId), v = none ∧ Fr n0 L ∧ Keep h0 h [a1] ∧ (Exa Z h a1 "java/lang/String") ∧ (Fld Z h a1 "java/lang/String" "coder" "B" (.int (0 : Int32))) ∧ (Fld Z h a1 "java/lang/String" "value" "[B" (.ref r)) ∧ h0.size ≤ r ∧ (Arv Z h r kid .byte (2 : Int32) [(.int (c0_.toInt8.toInt32)), (.int (c1_.toInt8.toInt32))] (.int (0 : Int32)))
set_option maxRecDepth 65536 in
set_option maxHeartbeats 40000000 in
theorem rm_sIni2 (l : Launch) (Z : State) (a0 : Array Value) (hw : ∀ d ∈ tables_1, d.before a0 Z = true) (ws : List Jvm.Cond) (a1 : Addr) (s1 : Addr) (ks : ClassId) (c0_ : Int32) (c1_ : Int32) (cs : Int32) (h0 : Heap) (n0 : Nat) (O0 : Old Z n0 h0) (F0_ : Fld Z h0 a1 "java/lang/String" "value" "[B" .null) (F1_ : Fld Z h0 a1 "java/lang/String" "coder" "B" (.int (0 : Int32))) (E2_ : Exa Z h0 a1 "java/lang/String") (G3_ : n0 ≤ a1) (A4_ : Arv Z h0 s1 ks .char (2 : Int32) [(.int c0_), (.int c1_)] (.int (0 : Int32))) (hc0 : ¬ ((255 : Int32) < c0_)) (hc1 : ¬ ((255 : Int32) < c1_)) (S7_ : Sta Z Z.heap "java/lang/String" "COMPACT_STRINGS" "Z" (.int cs)) (hcs : ¬ (cs = (0 : Int32))) :
    MetFree l (⟨"java/lang/String", "<init>", "([C)V"⟩ : MethodName) (head1 (Jvm.Cond.code (⟨"java/lang/String", "<init>", "([C)V"⟩ : MethodName) jdk_42_method_3_code 2 none :: ws) ({ frames := 3, cells := 1, slots := 2, locals := 52 } : Room)) (fun a U => a = #[(.ref a1), (.ref s1)] ∧ Z.Warmed39 U.vm ∧ U.heap = h0) (fun _ _ _ _ _ => True) (fun _ U o U' => ∃ v L, o = .returned v ∧ Q_sIni2 Z a1 s1 ks c0_ c1_ cs h0 n0 v U'.heap L ∧ FrameEnd U o U' L ({ frames := 3, cells := 1, slots := 2, locals := 52 } : Room).cells ({ frames := 3, cells := 1, slots := 2, locals := 52 } : Room).slots) := by
  refine MetFree.of_bodySF (plainFor_of_name pn_java_lang_String) hisR ?_
  intro p e s m args below meth c s₁ Bd hml0 hP hK
  obtain ⟨rfl, hZ, hh⟩ := hP
  have hx := Bd.exec
  have hby := Bd.bytes
  have hml : c.maxLocals = 2 := hml0
  have hown : s.vm.findClass "java/lang/String" = some m.cls := findClass_of_methodNamed Bd.named
  have hnm := (name_of_methodNamed Bd.named Bd.method).1
  have X0 : Stand p l e ({ frames := 3, cells := 1, slots := 2, locals := 52 } : Room) s m #[(.ref a1), (.ref s1)] below meth c s₁ [] 0 0 := Stand.of_body Bd
  have e0 : s₁.heap = h0 := by rw [← hh, Bd.state]; rfl
  have N0 := Fr.nil n0
  have g0 : Go p e below s₁ (mkF m 0 #[rv a1, rv s1] []) (s₁.setTop (entryFrame m #[(.ref a1), (.ref s1)] 2)) := fun t kont => castTop (ef_sIni2 m a1 s1 ) kont
  generalize s₁.setTop (entryFrame m #[(.ref a1), (.ref s1)] 2) = A0 at g0 ⊢
  have g101 : Go p e below s₁ (mkF m 4 #[rv a1, rv s1] [(.ref s1), (.int (0 : Int32)), (.ref s1), (.ref a1)]) A0 := by
    intro t kont
    refine g0 t ?_
    refine XS.aloadN X0.here hx rfl (hb hby d1_0) rfl rfl ?_
    show Steps p.tables e below (s₁.setTop (mkF m 1 #[rv a1, rv s1] [(.ref a1)])) _
    refine XS.aloadN X0.here hx rfl (hb hby d1_1) rfl rfl ?_
    show Steps p.tables e below (s₁.setTop (mkF m 2 #[rv a1, rv s1] [(.ref s1), (.ref a1)])) _
    refine XS.iconst X0.here hx rfl (hb hby d1_2) ?_
    show Steps p.tables e below (s₁.setTop (mkF m 3 #[rv a1, rv s1] [(.int (0 : Int32)), (.ref s1), (.ref a1)])) _
    refine XS.aloadN X0.here hx rfl (hb hby d1_3) rfl rfl ?_
    show Steps p.tables e below (s₁.setTop (mkF m 4 #[rv a1, rv s1] [(.ref s1), (.int (0 : Int32)), (.ref s1), (.ref a1)])) _
    exact kont
  have zz102 := A4_
  obtain ⟨cl102, Ar102, -, S102, M102, -, -⟩ := zz102
  have g103 : Go p e below s₁ (mkF m 5 #[rv a1, rv s1] [(.int (2 : Int32)), (.int (0 : Int32)), (.ref s1), (.ref a1)]) A0 := by
    intro t kont
    refine g101 t ?_
    refine X0.arraylength hx (by rw [e0]; exact Ar102.1) (State.isArrayOf_alike hZ.alike Ar102.2.1) (g := (mkF m 4 #[rv a1, rv s1] [(.ref s1), (.int (0 : Int32)), (.ref s1), (.ref a1)])) rfl rfl (hb hby d1_4) _ ?_
    rw [len_of S102 M102]
    exact kont
  have g104 : Go p e below s₁ (mkF m 6 #[rv a1, rv s1] [.null, (.int (2 : Int32)), (.int (0 : Int32)), (.ref s1), (.ref a1)]) A0 := by
    intro t kont
    refine g103 t ?_
    refine XS.aconstNull X0.here hx rfl (hb hby d1_5) ?_
    show Steps p.tables e below (s₁.setTop (mkF m 6 #[rv a1, rv s1] [.null, (.int (2 : Int32)), (.int (0 : Int32)), (.ref s1), (.ref a1)])) _
    exact kont
  obtain ⟨_, _, ⟨T105, L105, k105, n105⟩, -, X105, ⟨Lc105, hQ105, l105, y105, z105⟩, st105⟩ := X0.specialBack hx (y := (⟨"java/lang/String", "<init>", "([CIILjava/lang/Void;)V"⟩ : MethodName)) rfl hown (mvT hZ (hw _ (List.mem_of_getElem? (i := 8) rfl))) (mvT hZ (hw _ (List.mem_of_getElem? (i := 9) rfl))) (mvT hZ (hw _ (List.mem_of_getElem? (i := 11) rfl))) (by decide) (backOf (W := 0) (rm_sin2 l Z a0 hw [] a1 s1 ks c0_ c1_ cs h0 n0 O0 F0_ F1_ E2_ G3_ A4_ hc0 hc1 S7_ hcs) hZ (hw _ (List.mem_of_getElem? (i := 11) rfl)) (hw _ (List.mem_of_getElem? (i := 4) rfl)) (by decide) (by decide)) (g := (mkF m 6 #[rv a1, rv s1] [.null, (.int (2 : Int32)), (.int (0 : Int32)), (.ref s1), (.ref a1)])) rfl (by rw [hml]; rfl) (Steps.refl _) (a := a1) (argsL := [(.ref s1), (.int (0 : Int32)), (.int (2 : Int32)), .null]) (rest := []) (lenOf pd_3 rfl) rfl (by show 2 * 0 + _ ≤ _; exact Nat.le_of_eq rfl) (hb hby d1_6) (fun _ _ => ⟨rfl, e0, (by decide : 0 + 1 ≤ _), (by decide : 0 + 2 ≤ _)⟩)
  dsimp only [Pt.U, Pt.locs, Pt.cells, Pt.slots] at X105 l105 y105 z105 st105 hQ105
  subst l105 y105 z105
  obtain ⟨r106, r107, rfl, M105, K105, y108, y109, y110, y111, y112⟩ := hQ105
  have N105 := Fr.app N0 M105
  have O113 := O0.keep K105 (allS G3_ all0)
  have g114 : Go p e below T105 (mkF m 9 #[rv a1, rv s1] []) A0 := fun t kont => g104 t (st105.trans kont)
  have K115 : Keep h0 T105.heap [a1] := ((Keep.refl h0 [a1]).trans K105 (allS (P := fun x => x ∈ [a1] ∨ h0.size ≤ x) (Or.inl (List.mem_of_getElem? (i := 0) rfl)) all0))
  obtain ⟨fs, hr, hrun, hended, hW, hsame⟩ := X105.leave (v := none) (fun _ => rfl)
  refine ⟨_, _, g114 _ (X105.returnOut hx Bd.returns (hb hby d1_9) hr), hrun, hended, _, _, rfl, ?_, ⟨_, rfl⟩, hW, hsame.mono (by decide) (by decide)⟩
  show Q_sIni2 Z a1 s1 ks c0_ c1_ cs h0 n0 _ T105.heap _
  exact ⟨r106, r107, rfl, N105, K115, y108, y109, y110, y111, y112⟩
theorem d2_8 : decode jdk_42_method_149_code 8 = .ok (.aload_n 0, 1) := by decide +kernel
theorem d2_9 : decode jdk_42_method_149_code 9 = .ok (.ldc 7, 2) := by decide +kernel
theorem d2_11 : decode jdk_42_method_149_code 11 = .ok (.getfield 9, 3) := by decide +kernel
theorem d2_14 : decode jdk_42_method_149_code 14 = .ok (.putfield 9, 3) := by decide +kernel
theorem d2_17 : decode jdk_42_method_149_code 17 = .ok (.aload_n 0, 1) := by decide +kernel
theorem d2_18 : decode jdk_42_method_149_code 18 = .ok (.ldc 7, 2) := by decide +kernel
theorem d2_20 : decode jdk_42_method_149_code 20 = .ok (.getfield 15, 3) := by decide +kernel
theorem d2_23 : decode jdk_42_method_149_code 23 = .ok (.putfield 15, 3) := by decide +kernel
theorem d2_26 : decode jdk_42_method_149_code 26 = .ok (.return_, 1) := by decide +kernel
theorem ef_sin0 (m : MethodId) (x0 : Addr) (x1 : Addr) (x2 : Int32) (x3 : Int32)  : entryFrame m #[(.ref x0), (.ref x1), (.int x2), (.int x3), .null] 6 = mkF m 0 #[.val (.ref x0), .val (.ref x1), .val (.int x2), .val (.int x3), .val .null, .unset] [] := by first | (simp [entryFrame, mkF, argsToLocals, Value.category]; done) | rfl
def Q_sin0 (Z : State) (a1 : Addr) (s1 : Addr) (h0 : Heap) (n0 : Nat) (v : Option Value) (h : Heap) (L : List Loc) : Prop := ∃ (r : Addr), ∃ (kid : ClassId), v = none ∧ Fr n0 L ∧ Keep h0 h [a1] ∧ (Exa Z h a1 "java/lang/String") ∧ (Fld Z h a1 "java/lang/String" "coder" "B" (.int (0 : Int32))) ∧ (Fld Z h a1 "java/lang/String" "value" "[B" (.ref r)) ∧ (Arv Z h r kid .byte (0 : Int32) [] (.int (0 : Int32)))
set_option maxRecDepth 65536 in
set_option maxHeartbeats 40000000 in
theorem rm_sin0 (l : Launch) (Z : State) (a0 : Array Value) (hw : ∀ d ∈ tables_1, d.before a0 Z = true) (ws : List Jvm.Cond) (a1 : Addr) (s1 : Addr) (h0 : Heap) (n0 : Nat) (O0 : Old Z n0 h0) (F0_ : Fld Z h0 a1 "java/lang/String" "value" "[B" .null) (F1_ : Fld Z h0 a1 "java/lang/String" "coder" "B" (.int (0 : Int32))) (E2_ : Exa Z h0 a1 "java/lang/String") (G3_ : n0 ≤ a1) :
    MetFree l (⟨"java/lang/String", "<init>", "([CIILjava/lang/Void;)V"⟩ : MethodName) (head1 (Jvm.Cond.code (⟨"java/lang/String", "<init>", "([CIILjava/lang/Void;)V"⟩ : MethodName) jdk_42_method_149_code 6 none :: ws) ({ frames := 1, cells := 4, slots := 8, locals := 12 } : Room)) (fun a U => a = #[(.ref a1), (.ref s1), (.int (0 : Int32)), (.int (0 : Int32)), .null] ∧ Z.Warmed39 U.vm ∧ U.heap = h0 ∧ CHv Z consts_1 U.vm h0) (fun _ _ _ _ _ => True) (fun _ U o U' => ∃ v L, o = .returned v ∧ Q_sin0 Z a1 s1 h0 n0 v U'.heap L ∧ CHr Z consts_1 U.vm U.heap U'.vm U'.heap ∧ ReturnedEndW U o U' L ({ frames := 1, cells := 4, slots := 8, locals := 12 } : Room).cells ({ frames := 1, cells := 4, slots := 8, locals := 12 } : Room).slots) := by
  refine MetFree.of_bodySF (plainFor_of_name pn_java_lang_String) hisR ?_
  intro p e s m args below meth c s₁ Bd hml0 hP hK
  obtain ⟨rfl, hZ, hh, hC0⟩ := hP
  have hx := Bd.exec
  have hby := Bd.bytes
  have hml : c.maxLocals = 6 := hml0
  have hown : s.vm.findClass "java/lang/String" = some m.cls := findClass_of_methodNamed Bd.named
  have hnm := (name_of_methodNamed Bd.named Bd.method).1
  have X0 : Stand p l e ({ frames := 1, cells := 4, slots := 8, locals := 12 } : Room) (s.setVm s.vm) m #[(.ref a1), (.ref s1), (.int (0 : Int32)), (.int (0 : Int32)), .null] below meth c s₁ [] 0 0 := Stand.of_body Bd
  have e0 : s₁.heap = h0 := by rw [← hh, Bd.state]; rfl
  have N0 := Fr.nil n0
  have hS : s.Since s.vm 0 := (State.WarmedH.refl s).since 0
  have hk : 0 ≤ h0.size := Nat.zero_le _
  have hZ : Z.Warmed39 (s.setVm s.vm).vm := hZ
  have hown : (s.setVm s.vm).vm.findClass "java/lang/String" = some m.cls := hown
  have R0 : CHr Z consts_1 s.vm h0 s.vm h0 := CHr.refl hC0
  have g0 : Go p e below s₁ (mkF m 0 #[rv a1, rv s1, iv (0 : Int32), iv (0 : Int32), .val .null, .unset] []) (s₁.setTop (entryFrame m #[(.ref a1), (.ref s1), (.int (0 : Int32)), (.int (0 : Int32)), .null] 6)) := fun t kont => castTop (ef_sin0 m a1 s1 (0 : Int32) (0 : Int32) ) kont
  generalize s₁.setTop (entryFrame m #[(.ref a1), (.ref s1), (.int (0 : Int32)), (.int (0 : Int32)), .null] 6) = A0 at g0 ⊢
  have g101 : Go p e below s₁ (mkF m 1 #[rv a1, rv s1, iv (0 : Int32), iv (0 : Int32), .val .null, .unset] [(.ref a1)]) A0 := by
    intro t kont
    refine g0 t ?_
    refine XS.aloadN X0.here hx rfl (hb hby d2_0) rfl rfl ?_
    show Steps p.tables e below (s₁.setTop (mkF m 1 #[rv a1, rv s1, iv (0 : Int32), iv (0 : Int32), .val .null, .unset] [(.ref a1)])) _
    exact kont
  obtain ⟨T102, X102, e102, st102⟩ := initO X0 hx hZ hown (hw _ (List.mem_of_getElem? (i := 12) rfl)) (hw _ (List.mem_of_getElem? (i := 13) rfl)) (hw _ (List.mem_of_getElem? (i := 14) rfl)) e0 (g := (mkF m 1 #[rv a1, rv s1, iv (0 : Int32), iv (0 : Int32), .val .null, .unset] [(.ref a1)])) rfl (by rw [hml]; rfl) rfl (hb hby d2_1) (by decide) (W := 0) (by show 2 * 0 + _ ≤ _; exact Nat.le_of_eq rfl) (by decide)
  have g103 : Go p e below T102 (mkF m 4 #[rv a1, rv s1, iv (0 : Int32), iv (0 : Int32), .val .null, .unset] []) A0 := fun t kont => g101 t (st102 t kont)
  have g104 : Go p e below T102 (mkF m 9 #[rv a1, rv s1, iv (0 : Int32), iv (0 : Int32), .val .null, .unset] [(.ref a1)]) A0 := by
    intro t kont
    refine g103 t ?_
    refine XS.iloadN X102.here hx rfl (hb hby d2_4) rfl ?_
    show Steps p.tables e below (T102.setTop (mkF m 5 #[rv a1, rv s1, iv (0 : Int32), iv (0 : Int32), .val .null, .unset] [(.int (0 : Int32))])) _
    refine XS.ifNo X102.here hx rfl (hb hby d2_5) rfl ((if0 _ _).trans (teq (by decide : (0 : Int32) = (0 : Int32))).2) ?_
    show Steps p.tables e below (T102.setTop (mkF m 8 #[rv a1, rv s1, iv (0 : Int32), iv (0 : Int32), .val .null, .unset] [])) _
    refine XS.aloadN X102.here hx rfl (hb hby d2_8) rfl rfl ?_
    show Steps p.tables e below (T102.setTop (mkF m 9 #[rv a1, rv s1, iv (0 : Int32), iv (0 : Int32), .val .null, .unset] [(.ref a1)])) _
    exact kont
  have sf106 : Safe Z consts_1 s.vm h0 a1 := own_safe_null hZ.alike E2_ F0_
  obtain ⟨b105, T105, h105, k105, c105, kc105, X105, e105, E105, hS, hk, hZ, hown, A105, F105, G105, V105, la105, lb105, C105, -, ne105, st105⟩ := ldcCH X102 hx hZ hown (hw _ (List.mem_of_getElem? (i := 52) rfl)) (own_wS hw) e102 hS hk (own_EW hw) (List.mem_of_getElem? (i := 0) rfl) R0.1 (vs := []) (z := (0 : Int32)) ⟨by decide, by decide⟩ (by decide) rfl (g := (mkF m 9 #[rv a1, rv s1, iv (0 : Int32), iv (0 : Int32), .val .null, .unset] [(.ref a1)])) rfl (hb hby d2_9) (n := 0) (by decide) (by decide) (by decide) (by decide)
  have R107 : CHr Z consts_1 s.vm h0 T105.vm h105 := R0.trans C105
  have O108 := O0.ext E105
  have sf109 : Safe Z consts_1 T105.vm h105 a1 := (CHr.safe C105 F0_.lt sf106)
  have hn110 := ne105 a1 sf109
  have g111 : Go p e below T105 (mkF m 11 #[rv a1, rv s1, iv (0 : Int32), iv (0 : Int32), .val .null, .unset] [(.ref b105), (.ref a1)]) A0 := fun t kont => g104 t (st105 t kont)
  obtain ⟨T112, X112, e112, st112⟩ := getF X105 hx hZ hown (host := "") (Or.inl (hw _ (List.mem_of_getElem? (i := 29) rfl))) Via.refl e105 G105 (g := (mkF m 11 #[rv a1, rv s1, iv (0 : Int32), iv (0 : Int32), .val .null, .unset] [(.ref b105), (.ref a1)])) rfl rfl (hb hby d2_11)
  have g113 : Go p e below T112 (mkF m 14 #[rv a1, rv s1, iv (0 : Int32), iv (0 : Int32), .val .null, .unset] [(.ref c105), (.ref a1)]) A0 := fun t kont => g111 t (st112 t kont)
  have y114 : Exa Z h105 a1 "java/lang/String" := (E2_.ext E105)
  have y115 : Fld Z h105 a1 "java/lang/String" "value" "[B" .null := (F0_.ext E105)
  obtain ⟨T116, h116, X116, e116, W116, st116⟩ := putF X112 hx hZ hown (host := "") (Or.inl (hw _ (List.mem_of_getElem? (i := 29) rfl))) Via.refl e112 y115 y114 (Or.inr ⟨(hw _ (List.mem_of_getElem? (i := 30) rfl)), rfl, hnm⟩) (hw _ (List.mem_of_getElem? (i := 3) rfl)) (ty := (.array .byte)) (by decide) rfl rfl (g := (mkF m 14 #[rv a1, rv s1, iv (0 : Int32), iv (0 : Int32), .val .null, .unset] [(.ref c105), (.ref a1)])) rfl rfl (hb hby d2_14)
  have R117 : CHr Z consts_1 s.vm h0 T105.vm h116 := R107.trans (CHr.wr W116 sf109 R107.1)
  have O118 := O108.wr W116 G3_
  have y119 : Fld Z h116 a1 "java/lang/String" "value" "[B" (.ref c105) := y115.same W116
  have N116 := Fr.snoc X116 N0 G3_
  have g120 : Go p e below T116 (mkF m 17 #[rv a1, rv s1, iv (0 : Int32), iv (0 : Int32), .val .null, .unset] []) A0 := fun t kont => g113 t (st116 t kont)
  have g121 : Go p e below T116 (mkF m 18 #[rv a1, rv s1, iv (0 : Int32), iv (0 : Int32), .val .null, .unset] [(.ref a1)]) A0 := by
    intro t kont
    refine g120 t ?_
    refine XS.aloadN X116.here hx rfl (hb hby d2_17) rfl rfl ?_
    show Steps p.tables e below (T116.setTop (mkF m 18 #[rv a1, rv s1, iv (0 : Int32), iv (0 : Int32), .val .null, .unset] [(.ref a1)])) _
    exact kont
  obtain ⟨b122, T122, h122, k122, c122, kc122, X122, e122, E122, hS, hk, hZ, hown, A122, F122, G122, V122, la122, lb122, C122, -, ne122, st122⟩ := ldcCH X116 hx hZ hown (hw _ (List.mem_of_getElem? (i := 52) rfl)) (own_wS hw) e116 hS (Nat.le_trans hk (Keep.of_wr W116).1) (own_EW hw) (List.mem_of_getElem? (i := 0) rfl) R117.1 (vs := []) (z := (0 : Int32)) ⟨by decide, by decide⟩ (by decide) rfl (g := (mkF m 18 #[rv a1, rv s1, iv (0 : Int32), iv (0 : Int32), .val .null, .unset] [(.ref a1)])) rfl (hb hby d2_18) (n := 0) (by decide) (by decide) (by decide) (by decide)
  have R123 : CHr Z consts_1 s.vm h0 T122.vm h122 := R117.trans C122
  have O124 := O118.ext E122
  have sf125 : Safe Z consts_1 T122.vm h122 a1 := (CHr.safe C122 (Nat.lt_of_lt_of_le F0_.lt (Nat.le_trans E105.1 (Keep.of_wr W116).1)) (Safe.wr W116 sf109 R107.1 sf109))
  have hn126 := ne122 a1 sf125
  have g127 : Go p e below T122 (mkF m 20 #[rv a1, rv s1, iv (0 : Int32), iv (0 : Int32), .val .null, .unset] [(.ref b122), (.ref a1)]) A0 := fun t kont => g121 t (st122 t kont)
  obtain ⟨T128, X128, e128, st128⟩ := getF X122 hx hZ hown (host := "") (Or.inl (hw _ (List.mem_of_getElem? (i := 27) rfl))) Via.refl e122 F122 (g := (mkF m 20 #[rv a1, rv s1, iv (0 : Int32), iv (0 : Int32), .val .null, .unset] [(.ref b122), (.ref a1)])) rfl rfl (hb hby d2_20)
  have g129 : Go p e below T128 (mkF m 23 #[rv a1, rv s1, iv (0 : Int32), iv (0 : Int32), .val .null, .unset] [(.int (0 : Int32)), (.ref a1)]) A0 := fun t kont => g127 t (st128 t kont)
  have y130 : Exa Z h122 a1 "java/lang/String" := ((y114.wr W116).ext E122)
  have y131 : Fld Z h122 a1 "java/lang/String" "coder" "B" (.int (0 : Int32)) := (((F1_.ext E105).other W116 (Or.inr (slot_ne (Or.inr (hw _ (List.mem_of_getElem? (i := 28) rfl))) (Or.inr (hw _ (List.mem_of_getElem? (i := 30) rfl))) (by decide) (t := .byte) (t' := (.array .byte)) (by decide) (by decide)))).ext E122)
  obtain ⟨T132, h132, X132, e132, W132, st132⟩ := putFN X128 hx hZ hown (hw _ (List.mem_of_getElem? (i := 27) rfl)) Via.refl e128 y131 y130 (Or.inr ⟨(hw _ (List.mem_of_getElem? (i := 28) rfl)), rfl, hnm⟩) (hw _ (List.mem_of_getElem? (i := 3) rfl)) (ty := .byte) (v := (.int (0 : Int32))) (v' := (.int (0 : Int32))) (by decide) (own_nw_byte (by decide : nar .byte (0 : Int32) = (0 : Int32))) (own_ft_byte (by decide : nar .byte (0 : Int32) = (0 : Int32))) (g := (mkF m 23 #[rv a1, rv s1, iv (0 : Int32), iv (0 : Int32), .val .null, .unset] [(.int (0 : Int32)), (.ref a1)])) rfl rfl (hb hby d2_23)
  have R133 : CHr Z consts_1 s.vm h0 T122.vm h132 := R123.trans (CHr.wr W132 sf125 R123.1)
  have O134 := O124.wr W132 G3_
  have y135 : Fld Z h132 a1 "java/lang/String" "coder" "B" (.int (0 : Int32)) := y131.same W132
  have N132 := Fr.snoc X132 N116 G3_
  have g136 : Go p e below T132 (mkF m 26 #[rv a1, rv s1, iv (0 : Int32), iv (0 : Int32), .val .null, .unset] []) A0 := fun t kont => g129 t (st132 t kont)
  have K137 : Keep h0 h132 [a1] := (((((Keep.refl h0 [a1]).ext E105).wr W116 (Or.inl (List.mem_of_getElem? (i := 0) rfl))).ext E122).wr W132 (Or.inl (List.mem_of_getElem? (i := 0) rfl)))
  have y138 : Exa Z h132 a1 "java/lang/String" := (y130.wr W132)
  have y139 : Fld Z h132 a1 "java/lang/String" "value" "[B" (.ref c105) := ((y119.ext E122).other W132 (Or.inr (slot_ne (Or.inr (hw _ (List.mem_of_getElem? (i := 30) rfl))) (Or.inr (hw _ (List.mem_of_getElem? (i := 28) rfl))) (by decide) (t := (.array .byte)) (t' := .byte) (by decide) (by decide))))
  have y140 : Arv Z h132 c105 kc105 .byte (0 : Int32) [] (.int (0 : Int32)) := (((V105.other W116 (Ne.symm hn110.2)).ext E122).other W132 (Ne.symm hn110.2))
  obtain ⟨fs, hr, hrun, hended, hRW⟩ := X132.leaveW hS (by rw [e132]; exact (Nat.le_trans hk (Keep.of_wr W132).1)) (v := none) (fun _ => rfl)
  refine ⟨_, _, g136 _ (X132.returnOut hx Bd.returns (hb hby d2_26) hr), hrun, hended, _, _, rfl, ?_, ?_, hRW.1, hRW.2.1, hRW.2.2.1, hRW.2.2.2.mono (by decide) (by decide)⟩
  ·
    show Q_sin0 Z a1 s1 h0 n0 _ T132.heap _
    rw [e132]
    exact ⟨c105, kc105, rfl, N132, K137, y138, y135, y139, y140⟩
  ·
    rw [hh]
    show CHr Z consts_1 s.vm h0 T132.vm T132.heap
    rw [e132]
    exact R133.trans (CHv.at X132 hZ (own_EW hw) R133.1)
theorem ef_sIni0 (m : MethodId) (x0 : Addr) (x1 : Addr)  : entryFrame m #[(.ref x0), (.ref x1)] 2 = mkF m 0 #[.val (.ref x0), .val (.ref x1)] [] := by first | (simp [entryFrame, mkF, argsToLocals, Value.category]; done) | rfl
def Q_sIni0 (Z : State) (a1 : Addr) (s1 : Addr) (ks : ClassId) (h0 : Heap) (n0 : Nat) (v : Option Value) (h : Heap) (L : List Loc) : Prop := ∃ (r : Addr), ∃ (kid : ClassId), v = none ∧ Fr n0 L ∧ Keep h0 h [a1] ∧ (Exa Z h a1 "java/lang/String") ∧ (Fld Z h a1 "java/lang/String" "coder" "B" (.int (0 : Int32))) ∧ (Fld Z h a1 "java/lang/String" "value" "[B" (.ref r)) ∧ (Arv Z h r kid .byte (0 : Int32) [] (.int (0 : Int32)))
set_option maxRecDepth 65536 in
set_option maxHeartbeats 40000000 in
theorem rm_sIni0 (l : Launch) (Z : State) (a0 : Array Value) (hw : ∀ d ∈ tables_1, d.before a0 Z = true) (ws : List Jvm.Cond) (a1 : Addr) (s1 : Addr) (ks : ClassId) (h0 : Heap) (n0 : Nat) (O0 : Old Z n0 h0) (F0_ : Fld Z h0 a1 "java/lang/String" "value" "[B" .null) (F1_ : Fld Z h0 a1 "java/lang/String" "coder" "B" (.int (0 : Int32))) (E2_ : Exa Z h0 a1 "java/lang/String") (G3_ : n0 ≤ a1) (A4_ : Arv Z h0 s1 ks .char (0 : Int32) [] (.int (0 : Int32))) :
    MetFree l (⟨"java/lang/String", "<init>", "([C)V"⟩ : MethodName) (head1 (Jvm.Cond.code (⟨"java/lang/String", "<init>", "([C)V"⟩ : MethodName) jdk_42_method_3_code 2 none :: ws) ({ frames := 2, cells := 4, slots := 8, locals := 29 } : Room)) (fun a U => a = #[(.ref a1), (.ref s1)] ∧ Z.Warmed39 U.vm ∧ U.heap = h0 ∧ CHv Z consts_1 U.vm h0) (fun _ _ _ _ _ => True) (fun _ U o U' => ∃ v L, o = .returned v ∧ Q_sIni0 Z a1 s1 ks h0 n0 v U'.heap L ∧ CHr Z consts_1 U.vm U.heap U'.vm U'.heap ∧ ReturnedEndW U o U' L ({ frames := 2, cells := 4, slots := 8, locals := 29 } : Room).cells ({ frames := 2, cells := 4, slots := 8, locals := 29 } : Room).slots) := by
  refine MetFree.of_bodySF (plainFor_of_name pn_java_lang_String) hisR ?_
  intro p e s m args below meth c s₁ Bd hml0 hP hK
  obtain ⟨rfl, hZ, hh, hC0⟩ := hP
  have hx := Bd.exec
  have hby := Bd.bytes
  have hml : c.maxLocals = 2 := hml0
  have hown : s.vm.findClass "java/lang/String" = some m.cls := findClass_of_methodNamed Bd.named
  have hnm := (name_of_methodNamed Bd.named Bd.method).1
  have X0 : Stand p l e ({ frames := 2, cells := 4, slots := 8, locals := 29 } : Room) (s.setVm s.vm) m #[(.ref a1), (.ref s1)] below meth c s₁ [] 0 0 := Stand.of_body Bd
  have e0 : s₁.heap = h0 := by rw [← hh, Bd.state]; rfl
  have N0 := Fr.nil n0
  have hS : s.Since s.vm 0 := (State.WarmedH.refl s).since 0
  have hk : 0 ≤ h0.size := Nat.zero_le _
  have hZ : Z.Warmed39 (s.setVm s.vm).vm := hZ
  have hown : (s.setVm s.vm).vm.findClass "java/lang/String" = some m.cls := hown
  have R0 : CHr Z consts_1 s.vm h0 s.vm h0 := CHr.refl hC0
  have g0 : Go p e below s₁ (mkF m 0 #[rv a1, rv s1] []) (s₁.setTop (entryFrame m #[(.ref a1), (.ref s1)] 2)) := fun t kont => castTop (ef_sIni0 m a1 s1 ) kont
  generalize s₁.setTop (entryFrame m #[(.ref a1), (.ref s1)] 2) = A0 at g0 ⊢
  have g101 : Go p e below s₁ (mkF m 4 #[rv a1, rv s1] [(.ref s1), (.int (0 : Int32)), (.ref s1), (.ref a1)]) A0 := by
    intro t kont
    refine g0 t ?_
    refine XS.aloadN X0.here hx rfl (hb hby d1_0) rfl rfl ?_
    show Steps p.tables e below (s₁.setTop (mkF m 1 #[rv a1, rv s1] [(.ref a1)])) _
    refine XS.aloadN X0.here hx rfl (hb hby d1_1) rfl rfl ?_
    show Steps p.tables e below (s₁.setTop (mkF m 2 #[rv a1, rv s1] [(.ref s1), (.ref a1)])) _
    refine XS.iconst X0.here hx rfl (hb hby d1_2) ?_
    show Steps p.tables e below (s₁.setTop (mkF m 3 #[rv a1, rv s1] [(.int (0 : Int32)), (.ref s1), (.ref a1)])) _
    refine XS.aloadN X0.here hx rfl (hb hby d1_3) rfl rfl ?_
    show Steps p.tables e below (s₁.setTop (mkF m 4 #[rv a1, rv s1] [(.ref s1), (.int (0 : Int32)), (.ref s1), (.ref a1)])) _
    exact kont
  have zz102 := A4_
  obtain ⟨cl102, Ar102, -, S102, M102, -, -⟩ := zz102
  have g103 : Go p e below s₁ (mkF m 5 #[rv a1, rv s1] [(.int (0 : Int32)), (.int (0 : Int32)), (.ref s1), (.ref a1)]) A0 := by
    intro t kont
    refine g101 t ?_
    refine X0.arraylength hx (by rw [e0]; exact Ar102.1) (State.isArrayOf_alike hZ.alike Ar102.2.1) (g := (mkF m 4 #[rv a1, rv s1] [(.ref s1), (.int (0 : Int32)), (.ref s1), (.ref a1)])) rfl rfl (hb hby d1_4) _ ?_
    rw [len_of S102 M102]
    exact kont
  have g104 : Go p e below s₁ (mkF m 6 #[rv a1, rv s1] [.null, (.int (0 : Int32)), (.int (0 : Int32)), (.ref s1), (.ref a1)]) A0 := by
    intro t kont
    refine g103 t ?_
    refine XS.aconstNull X0.here hx rfl (hb hby d1_5) ?_
    show Steps p.tables e below (s₁.setTop (mkF m 6 #[rv a1, rv s1] [.null, (.int (0 : Int32)), (.int (0 : Int32)), (.ref s1), (.ref a1)])) _
    exact kont
  obtain ⟨_, _, ⟨T105, L105, k105, n105⟩, -, X105, hS105, hg105, ⟨Lc105, hQ105, l105, y105, z105, C105⟩, st105⟩ := X0.specialBackS hx (y := (⟨"java/lang/String", "<init>", "([CIILjava/lang/Void;)V"⟩ : MethodName)) rfl hown (mvT hZ (hw _ (List.mem_of_getElem? (i := 8) rfl))) (mvT hZ (hw _ (List.mem_of_getElem? (i := 9) rfl))) (mvT hZ (hw _ (List.mem_of_getElem? (i := 11) rfl))) (by decide) (backOfSH (W := 0) (rm_sin0 l Z a0 hw [] a1 s1 h0 n0 O0 F0_ F1_ E2_ G3_) hZ (hw _ (List.mem_of_getElem? (i := 11) rfl)) (hw _ (List.mem_of_getElem? (i := 4) rfl)) (by decide) (by decide) (own_EW hw) R0.1) (g := (mkF m 6 #[rv a1, rv s1] [.null, (.int (0 : Int32)), (.int (0 : Int32)), (.ref s1), (.ref a1)])) rfl (by rw [hml]; rfl) (Steps.refl _) (a := a1) (argsL := [(.ref s1), (.int (0 : Int32)), (.int (0 : Int32)), .null]) (rest := []) (lenOf pd_3 rfl) rfl (by show 2 * 0 + _ ≤ _; exact Nat.le_of_eq rfl) (hb hby d1_6) (fun _ _ => ⟨rfl, e0, (by decide : 0 + 4 ≤ _), (by decide : 0 + 8 ≤ _)⟩)
  dsimp only [Pt.U, Pt.locs, Pt.cells, Pt.slots] at X105 l105 y105 z105 st105 hQ105 hS105 hg105 C105
  subst l105 y105 z105
  obtain ⟨X105, hS, hZ, hown⟩ := rebS hS (n1 := s₁.heap.size) (by rw [e0]; exact hk) X105 hS105 hg105 hZ hown
  obtain ⟨r106, r107, rfl, M105, K105, y108, y109, y110, y111⟩ := hQ105
  have N105 := Fr.app N0 M105
  have R112 : CHr Z consts_1 s.vm h0 T105.vm T105.heap := R0.trans C105
  have O113 := O0.keep K105 (allS G3_ all0)
  have g114 : Go p e below T105 (mkF m 9 #[rv a1, rv s1] []) A0 := fun t kont => g104 t (st105.trans kont)
  have K115 : Keep h0 T105.heap [a1] := ((Keep.refl h0 [a1]).trans K105 (allS (P := fun x => x ∈ [a1] ∨ h0.size ≤ x) (Or.inl (List.mem_of_getElem? (i := 0) rfl)) all0))
  obtain ⟨fs, hr, hrun, hended, hRW⟩ := X105.leaveW hS (Nat.le_refl _) (v := none) (fun _ => rfl)
  refine ⟨_, _, g114 _ (X105.returnOut hx Bd.returns (hb hby d1_9) hr), hrun, hended, _, _, rfl, ?_, ?_, hRW.1, hRW.2.1, hRW.2.2.1, hRW.2.2.2.mono (by decide) (by decide)⟩
  ·
    show Q_sIni0 Z a1 s1 ks h0 n0 _ T105.heap _
    exact ⟨r106, r107, rfl, N105, K115, y108, y109, y110, y111⟩
  ·
    rw [hh]
    show CHr Z consts_1 s.vm h0 T105.vm T105.heap
    exact R112.trans (CHv.at X105 hZ (own_EW hw) R112.1)
theorem d7_0 : decode prog_13_method_1_code 0 = .ok (.aload_n 0, 1) := by decide +kernel
theorem d7_1 : decode prog_13_method_1_code 1 = .ok (.invokespecial 1, 3) := by decide +kernel
theorem d7_4 : decode prog_13_method_1_code 4 = .ok (.aload_n 0, 1) := by decide +kernel
theorem d7_5 : decode prog_13_method_1_code 5 = .ok (.aload_n 1, 1) := by decide +kernel
theorem d7_6 : decode prog_13_method_1_code 6 = .ok (.putfield 7, 3) := by decide +kernel
theorem d7_9 : decode prog_13_method_1_code 9 = .ok (.aload_n 0, 1) := by decide +kernel
theorem d7_10 : decode prog_13_method_1_code 10 = .ok (.iload_n 2, 1) := by decide +kernel
theorem d7_11 : decode prog_13_method_1_code 11 = .ok (.putfield 13, 3) := by decide +kernel
theorem d7_14 : decode prog_13_method_1_code 14 = .ok (.return_, 1) := by decide +kernel
theorem pn_com_example_subsume_subsume_engine_Individual : plainName "com/example/subsume/subsume/engine/Individual" = true := by first | (simp [plainName, overriddenIn]; done) | decide +kernel
theorem ef_indI (m : MethodId) (x0 : Addr) (x1 : Value) (x2 : Int32) (h1 : x1.isRef = true) : entryFrame m #[(.ref x0), x1, (.int x2)] 3 = mkF m 0 #[.val (.ref x0), .val x1, .val (.int x2)] [] := by (rcases ref_cases h1 with rfl | ⟨_, rfl⟩) <;> first | (simp [entryFrame, mkF, argsToLocals, Value.category]; done) | rfl
def Q_indI (Z : State) (a1 : Addr) (v1 : Value) (i1 : Int32) (h0 : Heap) (n0 : Nat) (v : Option Value) (h : Heap) (L : List Loc) : Prop := v = none ∧ Fr n0 L ∧ Keep h0 h [a1] ∧ (Exa Z h a1 "com/example/subsume/subsume/engine/Individual") ∧ (Fld Z h a1 "com/example/subsume/subsume/engine/Individual" "name" "Ljava/lang/String;" v1)
set_option maxRecDepth 65536 in
set_option maxHeartbeats 40000000 in
theorem rm_indI (l : Launch) (Z : State) (a0 : Array Value) (hw : ∀ d ∈ tables_1, d.before a0 Z = true) (ws : List Jvm.Cond) (a1 : Addr) (v1 : Value) (i1 : Int32) (h0 : Heap) (n0 : Nat) (O0 : Old Z n0 h0) (hv1 : v1.isRef = true) (F1_ : Fld Z h0 a1 "com/example/subsume/subsume/engine/Individual" "name" "Ljava/lang/String;" .null) (F2_ : Fld Z h0 a1 "com/example/subsume/subsume/engine/Individual" "id" "I" (.int (0 : Int32))) (E3_ : Exa Z h0 a1 "com/example/subsume/subsume/engine/Individual") (G4_ : n0 ≤ a1) :
    MetFree l (⟨"com/example/subsume/subsume/engine/Individual", "<init>", "(Ljava/lang/String;I)V"⟩ : MethodName) (head1 (Jvm.Cond.code (⟨"com/example/subsume/subsume/engine/Individual", "<init>", "(Ljava/lang/String;I)V"⟩ : MethodName) prog_13_method_1_code 3 none :: ws) ({ frames := 1, cells := 0, slots := 0, locals := 12 } : Room)) (fun a U => a = #[(.ref a1), v1, (.int i1)] ∧ Z.Warmed39 U.vm ∧ U.heap = h0) (fun _ _ _ _ _ => True) (fun _ U o U' => ∃ v L, o = .returned v ∧ Q_indI Z a1 v1 i1 h0 n0 v U'.heap L ∧ FrameEnd U o U' L ({ frames := 1, cells := 0, slots := 0, locals := 12 } : Room).cells ({ frames := 1, cells := 0, slots := 0, locals := 12 } : Room).slots) := by
  refine MetFree.of_bodySF (plainFor_of_name pn_com_example_subsume_subsume_engine_Individual) hisR ?_
  intro p e s m args below meth c s₁ Bd hml0 hP hK
  obtain ⟨rfl, hZ, hh⟩ := hP
  have hx := Bd.exec
  have hby := Bd.bytes
  have hml : c.maxLocals = 3 := hml0
  have hown : s.vm.findClass "com/example/subsume/subsume/engine/Individual" = some m.cls := findClass_of_methodNamed Bd.named
  have hnm := (name_of_methodNamed Bd.named Bd.method).1
  have X0 : Stand p l e ({ frames := 1, cells := 0, slots := 0, locals := 12 } : Room) s m #[(.ref a1), v1, (.int i1)] below meth c s₁ [] 0 0 := Stand.of_body Bd
  have e0 : s₁.heap = h0 := by rw [← hh, Bd.state]; rfl
  have N0 := Fr.nil n0
  have g0 : Go p e below s₁ (mkF m 0 #[rv a1, .val v1, iv i1] []) (s₁.setTop (entryFrame m #[(.ref a1), v1, (.int i1)] 3)) := fun t kont => castTop (ef_indI m a1 v1 i1 (hv1)) kont
  generalize s₁.setTop (entryFrame m #[(.ref a1), v1, (.int i1)] 3) = A0 at g0 ⊢
  have g101 : Go p e below s₁ (mkF m 1 #[rv a1, .val v1, iv i1] [(.ref a1)]) A0 := by
    intro t kont
    refine g0 t ?_
    refine XS.aloadN X0.here hx rfl (hb hby d7_0) rfl rfl ?_
    show Steps p.tables e below (s₁.setTop (mkF m 1 #[rv a1, .val v1, iv i1] [(.ref a1)])) _
    exact kont
  obtain ⟨T102, X102, e102, st102⟩ := initO X0 hx hZ hown (hw _ (List.mem_of_getElem? (i := 37) rfl)) (hw _ (List.mem_of_getElem? (i := 13) rfl)) (hw _ (List.mem_of_getElem? (i := 14) rfl)) e0 (g := (mkF m 1 #[rv a1, .val v1, iv i1] [(.ref a1)])) rfl (by rw [hml]; rfl) rfl (hb hby d7_1) (by decide) (W := 0) (by show 2 * 0 + _ ≤ _; exact Nat.le_of_eq rfl) (by decide)
  have g103 : Go p e below T102 (mkF m 4 #[rv a1, .val v1, iv i1] []) A0 := fun t kont => g101 t (st102 t kont)
  have g104 : Go p e below T102 (mkF m 6 #[rv a1, .val v1, iv i1] [v1, (.ref a1)]) A0 := by
    intro t kont
    refine g103 t ?_
    refine XS.aloadN X102.here hx rfl (hb hby d7_4) rfl rfl ?_
    show Steps p.tables e below (T102.setTop (mkF m 5 #[rv a1, .val v1, iv i1] [(.ref a1)])) _
    refine XS.aloadN X102.here hx rfl (hb hby d7_5) rfl (hv1) ?_
    show Steps p.tables e below (T102.setTop (mkF m 6 #[rv a1, .val v1, iv i1] [v1, (.ref a1)])) _
    exact kont
  obtain ⟨T105, h105, X105, e105, W105, st105⟩ := putF X102 hx hZ hown (host := "") (Or.inl (hw _ (List.mem_of_getElem? (i := 38) rfl))) Via.refl e102 F1_ E3_ (Or.inr ⟨(hw _ (List.mem_of_getElem? (i := 39) rfl)), rfl, hnm⟩) (hw _ (List.mem_of_getElem? (i := 32) rfl)) (ty := (.object "java/lang/String")) (by decide) (own_retA _ (hv1) _ rfl) (own_fitA _ (hv1) _ rfl) (g := (mkF m 6 #[rv a1, .val v1, iv i1] [v1, (.ref a1)])) rfl rfl (hb hby d7_6)
  have O106 := O0.wr W105 G4_
  have y107 : Fld Z h105 a1 "com/example/subsume/subsume/engine/Individual" "name" "Ljava/lang/String;" v1 := F1_.same W105
  have N105 := Fr.snoc X105 N0 G4_
  have g108 : Go p e below T105 (mkF m 9 #[rv a1, .val v1, iv i1] []) A0 := fun t kont => g104 t (st105 t kont)
  have g109 : Go p e below T105 (mkF m 11 #[rv a1, .val v1, iv i1] [(.int i1), (.ref a1)]) A0 := by
    intro t kont
    refine g108 t ?_
    refine XS.aloadN X105.here hx rfl (hb hby d7_9) rfl rfl ?_
    show Steps p.tables e below (T105.setTop (mkF m 10 #[rv a1, .val v1, iv i1] [(.ref a1)])) _
    refine XS.iloadN X105.here hx rfl (hb hby d7_10) rfl ?_
    show Steps p.tables e below (T105.setTop (mkF m 11 #[rv a1, .val v1, iv i1] [(.int i1), (.ref a1)])) _
    exact kont
  have y110 : Exa Z h105 a1 "com/example/subsume/subsume/engine/Individual" := (E3_.wr W105)
  have y111 : Fld Z h105 a1 "com/example/subsume/subsume/engine/Individual" "id" "I" (.int (0 : Int32)) := (F2_.other W105 (Or.inr (slot_ne (Or.inr (hw _ (List.mem_of_getElem? (i := 41) rfl))) (Or.inr (hw _ (List.mem_of_getElem? (i := 39) rfl))) (by decide) (t := .int) (t' := (.object "java/lang/String")) (by decide) (by decide))))
  obtain ⟨T112, h112, X112, e112, W112, st112⟩ := putF X105 hx hZ hown (host := "") (Or.inl (hw _ (List.mem_of_getElem? (i := 40) rfl))) Via.refl e105 y111 y110 (Or.inr ⟨(hw _ (List.mem_of_getElem? (i := 41) rfl)), rfl, hnm⟩) (hw _ (List.mem_of_getElem? (i := 32) rfl)) (ty := .int) (by decide) rfl rfl (g := (mkF m 11 #[rv a1, .val v1, iv i1] [(.int i1), (.ref a1)])) rfl rfl (hb hby d7_11)
  have O113 := O106.wr W112 G4_
  have y114 : Fld Z h112 a1 "com/example/subsume/subsume/engine/Individual" "id" "I" (.int i1) := y111.same W112
  have N112 := Fr.snoc X112 N105 G4_
  have g115 : Go p e below T112 (mkF m 14 #[rv a1, .val v1, iv i1] []) A0 := fun t kont => g109 t (st112 t kont)
  have K116 : Keep h0 h112 [a1] := (((Keep.refl h0 [a1]).wr W105 (Or.inl (List.mem_of_getElem? (i := 0) rfl))).wr W112 (Or.inl (List.mem_of_getElem? (i := 0) rfl)))
  have y117 : Exa Z h112 a1 "com/example/subsume/subsume/engine/Individual" := (y110.wr W112)
  have y118 : Fld Z h112 a1 "com/example/subsume/subsume/engine/Individual" "name" "Ljava/lang/String;" v1 := (y107.other W112 (Or.inr (slot_ne (Or.inr (hw _ (List.mem_of_getElem? (i := 39) rfl))) (Or.inr (hw _ (List.mem_of_getElem? (i := 41) rfl))) (by decide) (t := (.object "java/lang/String")) (t' := .int) (by decide) (by decide))))
  obtain ⟨fs, hr, hrun, hended, hW, hsame⟩ := X112.leave (v := none) (fun _ => rfl)
  refine ⟨_, _, g115 _ (X112.returnOut hx Bd.returns (hb hby d7_14) hr), hrun, hended, _, _, rfl, ?_, ⟨_, rfl⟩, hW, hsame.mono (by decide) (by decide)⟩
  show Q_indI Z a1 v1 i1 h0 n0 _ T112.heap _
  rw [e112]
  exact ⟨rfl, N112, K116, y117, y118⟩
theorem d8_0 : decode prog_13_method_3_code 0 = .ok (.aload_n 0, 1) := by decide +kernel
theorem d8_1 : decode prog_13_method_3_code 1 = .ok (.getfield 7, 3) := by decide +kernel
theorem d8_4 : decode prog_13_method_3_code 4 = .ok (.ifnonnull 7, 3) := by decide +kernel
theorem d8_7 : decode prog_13_method_3_code 7 = .ok (.iconst 1, 1) := by decide +kernel
theorem d8_8 : decode prog_13_method_3_code 8 = .ok (.goto 4, 3) := by decide +kernel
theorem d8_12 : decode prog_13_method_3_code 12 = .ok (.ireturn, 1) := by decide +kernel
theorem ef_isN (m : MethodId) (x0 : Addr)  : entryFrame m #[(.ref x0)] 1 = mkF m 0 #[.val (.ref x0)] [] := by first | (simp [entryFrame, mkF, argsToLocals, Value.category]; done) | rfl
def Q_isN (Z : State) (a1 : Addr) (h0 : Heap) (n0 : Nat) (v : Option Value) (h : Heap) (L : List Loc) : Prop := v = some (.int (1 : Int32)) ∧ Fr n0 L ∧ h = h0
set_option maxRecDepth 65536 in
set_option maxHeartbeats 40000000 in
theorem rm_isN (l : Launch) (Z : State) (a0 : Array Value) (hw : ∀ d ∈ tables_1, d.before a0 Z = true) (ws : List Jvm.Cond) (a1 : Addr) (h0 : Heap) (n0 : Nat) (O0 : Old Z n0 h0) (F0_ : Fld Z h0 a1 "com/example/subsume/subsume/engine/Individual" "name" "Ljava/lang/String;" .null) :
    MetFree l (⟨"com/example/subsume/subsume/engine/Individual", "isAnonymous", "()Z"⟩ : MethodName) (head1 (Jvm.Cond.code (⟨"com/example/subsume/subsume/engine/Individual", "isAnonymous", "()Z"⟩ : MethodName) prog_13_method_3_code 1 (some .boolean) :: ws) ({ frames := 0, cells := 0, slots := 0, locals := 0 } : Room)) (fun a U => a = #[(.ref a1)] ∧ Z.Warmed39 U.vm ∧ U.heap = h0) (fun _ _ _ _ _ => True) (fun _ U o U' => ∃ v L, o = .returned v ∧ Q_isN Z a1 h0 n0 v U'.heap L ∧ FrameEnd U o U' L ({ frames := 0, cells := 0, slots := 0, locals := 0 } : Room).cells ({ frames := 0, cells := 0, slots := 0, locals := 0 } : Room).slots) := by
  refine MetFree.of_bodySF (plainFor_of_name pn_com_example_subsume_subsume_engine_Individual) hisR ?_
  intro p e s m args below meth c s₁ Bd hml0 hP hK
  obtain ⟨rfl, hZ, hh⟩ := hP
  have hx := Bd.exec
  have hby := Bd.bytes
  have hml : c.maxLocals = 1 := hml0
  have hown : s.vm.findClass "com/example/subsume/subsume/engine/Individual" = some m.cls := findClass_of_methodNamed Bd.named
  have hnm := (name_of_methodNamed Bd.named Bd.method).1
  have X0 : Stand p l e ({ frames := 0, cells := 0, slots := 0, locals := 0 } : Room) s m #[(.ref a1)] below meth c s₁ [] 0 0 := Stand.of_body Bd
  have e0 : s₁.heap = h0 := by rw [← hh, Bd.state]; rfl
  have N0 := Fr.nil n0
  have g0 : Go p e below s₁ (mkF m 0 #[rv a1] []) (s₁.setTop (entryFrame m #[(.ref a1)] 1)) := fun t kont => castTop (ef_isN m a1 ) kont
  generalize s₁.setTop (entryFrame m #[(.ref a1)] 1) = A0 at g0 ⊢
  have g101 : Go p e below s₁ (mkF m 1 #[rv a1] [(.ref a1)]) A0 := by
    intro t kont
    refine g0 t ?_
    refine XS.aloadN X0.here hx rfl (hb hby d8_0) rfl rfl ?_
    show Steps p.tables e below (s₁.setTop (mkF m 1 #[rv a1] [(.ref a1)])) _
    exact kont
  obtain ⟨T102, X102, e102, st102⟩ := getF X0 hx hZ hown (host := "") (Or.inl (hw _ (List.mem_of_getElem? (i := 38) rfl))) Via.refl e0 F0_ (g := (mkF m 1 #[rv a1] [(.ref a1)])) rfl rfl (hb hby d8_1)
  have g103 : Go p e below T102 (mkF m 4 #[rv a1] [.null]) A0 := fun t kont => g101 t (st102 t kont)
  have g104 : Go p e below T102 (mkF m 12 #[rv a1] [(.int (1 : Int32))]) A0 := by
    intro t kont
    refine g103 t ?_
    refine XS.ifnonnullNo X102.here hx rfl (hb hby d8_4) rfl ?_
    show Steps p.tables e below (T102.setTop (mkF m 7 #[rv a1] [])) _
    refine XS.iconst X102.here hx rfl (hb hby d8_7) ?_
    show Steps p.tables e below (T102.setTop (mkF m 8 #[rv a1] [(.int (1 : Int32))])) _
    refine XS.goto X102.here hx rfl (pc0 := 8) (pc' := 12) rfl (hb hby d8_8) (by decide) (by decide) ?_
    show Steps p.tables e below (T102.setTop (mkF m 12 #[rv a1] [(.int (1 : Int32))])) _
    exact kont
  obtain ⟨fs, hr, hrun, hended, hW, hsame⟩ := X102.leave (v := some (.int (1 : Int32))) (fun h => by rw [Bd.returns] at h; cases h)
  refine ⟨_, _, g104 _ (retN X102 hx (t := .boolean) Bd.returns (by simp) (hb hby d8_12) hr), hrun, hended, _, _, rfl, ?_, ⟨_, rfl⟩, hW, hsame.mono (by decide) (by decide)⟩
  show Q_isN Z a1 h0 n0 _ T102.heap _
  rw [e102]
  exact ⟨rfl, N0, rfl⟩
theorem d8_11 : decode prog_13_method_3_code 11 = .ok (.iconst 0, 1) := by decide +kernel
theorem ef_isS (m : MethodId) (x0 : Addr)  : entryFrame m #[(.ref x0)] 1 = mkF m 0 #[.val (.ref x0)] [] := by first | (simp [entryFrame, mkF, argsToLocals, Value.category]; done) | rfl
def Q_isS (Z : State) (a1 : Addr) (b1 : Addr) (h0 : Heap) (n0 : Nat) (v : Option Value) (h : Heap) (L : List Loc) : Prop := v = some (.int (0 : Int32)) ∧ Fr n0 L ∧ h = h0
set_option maxRecDepth 65536 in
set_option maxHeartbeats 40000000 in
theorem rm_isS (l : Launch) (Z : State) (a0 : Array Value) (hw : ∀ d ∈ tables_1, d.before a0 Z = true) (ws : List Jvm.Cond) (a1 : Addr) (b1 : Addr) (h0 : Heap) (n0 : Nat) (O0 : Old Z n0 h0) (F0_ : Fld Z h0 a1 "com/example/subsume/subsume/engine/Individual" "name" "Ljava/lang/String;" (.ref b1)) :
    MetFree l (⟨"com/example/subsume/subsume/engine/Individual", "isAnonymous", "()Z"⟩ : MethodName) (head1 (Jvm.Cond.code (⟨"com/example/subsume/subsume/engine/Individual", "isAnonymous", "()Z"⟩ : MethodName) prog_13_method_3_code 1 (some .boolean) :: ws) ({ frames := 0, cells := 0, slots := 0, locals := 0 } : Room)) (fun a U => a = #[(.ref a1)] ∧ Z.Warmed39 U.vm ∧ U.heap = h0) (fun _ _ _ _ _ => True) (fun _ U o U' => ∃ v L, o = .returned v ∧ Q_isS Z a1 b1 h0 n0 v U'.heap L ∧ FrameEnd U o U' L ({ frames := 0, cells := 0, slots := 0, locals := 0 } : Room).cells ({ frames := 0, cells := 0, slots := 0, locals := 0 } : Room).slots) := by
  refine MetFree.of_bodySF (plainFor_of_name pn_com_example_subsume_subsume_engine_Individual) hisR ?_
  intro p e s m args below meth c s₁ Bd hml0 hP hK
  obtain ⟨rfl, hZ, hh⟩ := hP
  have hx := Bd.exec
  have hby := Bd.bytes
  have hml : c.maxLocals = 1 := hml0
  have hown : s.vm.findClass "com/example/subsume/subsume/engine/Individual" = some m.cls := findClass_of_methodNamed Bd.named
  have hnm := (name_of_methodNamed Bd.named Bd.method).1
  have X0 : Stand p l e ({ frames := 0, cells := 0, slots := 0, locals := 0 } : Room) s m #[(.ref a1)] below meth c s₁ [] 0 0 := Stand.of_body Bd
  have e0 : s₁.heap = h0 := by rw [← hh, Bd.state]; rfl
  have N0 := Fr.nil n0
  have g0 : Go p e below s₁ (mkF m 0 #[rv a1] []) (s₁.setTop (entryFrame m #[(.ref a1)] 1)) := fun t kont => castTop (ef_isS m a1 ) kont
  generalize s₁.setTop (entryFrame m #[(.ref a1)] 1) = A0 at g0 ⊢
  have g101 : Go p e below s₁ (mkF m 1 #[rv a1] [(.ref a1)]) A0 := by
    intro t kont
    refine g0 t ?_
    refine XS.aloadN X0.here hx rfl (hb hby d8_0) rfl rfl ?_
    show Steps p.tables e below (s₁.setTop (mkF m 1 #[rv a1] [(.ref a1)])) _
    exact kont
  obtain ⟨T102, X102, e102, st102⟩ := getF X0 hx hZ hown (host := "") (Or.inl (hw _ (List.mem_of_getElem? (i := 38) rfl))) Via.refl e0 F0_ (g := (mkF m 1 #[rv a1] [(.ref a1)])) rfl rfl (hb hby d8_1)
  have g103 : Go p e below T102 (mkF m 4 #[rv a1] [(.ref b1)]) A0 := fun t kont => g101 t (st102 t kont)
  have g104 : Go p e below T102 (mkF m 12 #[rv a1] [(.int (0 : Int32))]) A0 := by
    intro t kont
    refine g103 t ?_
    refine XS.ifnonnullYes X102.here hx rfl (pc0 := 4) (pc' := 11) rfl (hb hby d8_4) rfl (by decide) (by decide) ?_
    show Steps p.tables e below (T102.setTop (mkF m 11 #[rv a1] [])) _
    refine XS.iconst X102.here hx rfl (hb hby d8_11) ?_
    show Steps p.tables e below (T102.setTop (mkF m 12 #[rv a1] [(.int (0 : Int32))])) _
    exact kont
  obtain ⟨fs, hr, hrun, hended, hW, hsame⟩ := X102.leave (v := some (.int (0 : Int32))) (fun h => by rw [Bd.returns] at h; cases h)
  refine ⟨_, _, g104 _ (retN X102 hx (t := .boolean) Bd.returns (by simp) (hb hby d8_12) hr), hrun, hended, _, _, rfl, ?_, ⟨_, rfl⟩, hW, hsame.mono (by decide) (by decide)⟩
  show Q_isS Z a1 b1 h0 n0 _ T102.heap _
  rw [e102]
  exact ⟨rfl, N0, rfl⟩
theorem d9_0 : decode prog_13_method_2_code 0 = .ok (.aload_n 0, 1) := by decide +kernel
theorem d9_1 : decode prog_13_method_2_code 1 = .ok (.getfield 7, 3) := by decide +kernel
theorem d9_4 : decode prog_13_method_2_code 4 = .ok (.areturn, 1) := by decide +kernel
theorem ef_nmN (m : MethodId) (x0 : Addr)  : entryFrame m #[(.ref x0)] 1 = mkF m 0 #[.val (.ref x0)] [] := by first | (simp [entryFrame, mkF, argsToLocals, Value.category]; done) | rfl
def Q_nmN (Z : State) (a1 : Addr) (h0 : Heap) (n0 : Nat) (v : Option Value) (h : Heap) (L : List Loc) : Prop := v = some .null ∧ Fr n0 L ∧ h = h0
set_option maxRecDepth 65536 in
set_option maxHeartbeats 40000000 in
theorem rm_nmN (l : Launch) (Z : State) (a0 : Array Value) (hw : ∀ d ∈ tables_1, d.before a0 Z = true) (ws : List Jvm.Cond) (a1 : Addr) (h0 : Heap) (n0 : Nat) (O0 : Old Z n0 h0) (F0_ : Fld Z h0 a1 "com/example/subsume/subsume/engine/Individual" "name" "Ljava/lang/String;" .null) :
    MetFree l (⟨"com/example/subsume/subsume/engine/Individual", "name", "()Ljava/lang/String;"⟩ : MethodName) (head1 (Jvm.Cond.code (⟨"com/example/subsume/subsume/engine/Individual", "name", "()Ljava/lang/String;"⟩ : MethodName) prog_13_method_2_code 1 (some (.object "java/lang/String")) :: ws) ({ frames := 0, cells := 0, slots := 0, locals := 0 } : Room)) (fun a U => a = #[(.ref a1)] ∧ Z.Warmed39 U.vm ∧ U.heap = h0) (fun _ _ _ _ _ => True) (fun _ U o U' => ∃ v L, o = .returned v ∧ Q_nmN Z a1 h0 n0 v U'.heap L ∧ FrameEnd U o U' L ({ frames := 0, cells := 0, slots := 0, locals := 0 } : Room).cells ({ frames := 0, cells := 0, slots := 0, locals := 0 } : Room).slots) := by
  refine MetFree.of_bodySF (plainFor_of_name pn_com_example_subsume_subsume_engine_Individual) hisR ?_
  intro p e s m args below meth c s₁ Bd hml0 hP hK
  obtain ⟨rfl, hZ, hh⟩ := hP
  have hx := Bd.exec
  have hby := Bd.bytes
  have hml : c.maxLocals = 1 := hml0
  have hown : s.vm.findClass "com/example/subsume/subsume/engine/Individual" = some m.cls := findClass_of_methodNamed Bd.named
  have hnm := (name_of_methodNamed Bd.named Bd.method).1
  have X0 : Stand p l e ({ frames := 0, cells := 0, slots := 0, locals := 0 } : Room) s m #[(.ref a1)] below meth c s₁ [] 0 0 := Stand.of_body Bd
  have e0 : s₁.heap = h0 := by rw [← hh, Bd.state]; rfl
  have N0 := Fr.nil n0
  have g0 : Go p e below s₁ (mkF m 0 #[rv a1] []) (s₁.setTop (entryFrame m #[(.ref a1)] 1)) := fun t kont => castTop (ef_nmN m a1 ) kont
  generalize s₁.setTop (entryFrame m #[(.ref a1)] 1) = A0 at g0 ⊢
  have g101 : Go p e below s₁ (mkF m 1 #[rv a1] [(.ref a1)]) A0 := by
    intro t kont
    refine g0 t ?_
    refine XS.aloadN X0.here hx rfl (hb hby d9_0) rfl rfl ?_
    show Steps p.tables e below (s₁.setTop (mkF m 1 #[rv a1] [(.ref a1)])) _
    exact kont
  obtain ⟨T102, X102, e102, st102⟩ := getF X0 hx hZ hown (host := "") (Or.inl (hw _ (List.mem_of_getElem? (i := 38) rfl))) Via.refl e0 F0_ (g := (mkF m 1 #[rv a1] [(.ref a1)])) rfl rfl (hb hby d9_1)
  have g103 : Go p e below T102 (mkF m 4 #[rv a1] [.null]) A0 := fun t kont => g101 t (st102 t kont)
  obtain ⟨fs, hr, hrun, hended, hW, hsame⟩ := X102.leave (v := some .null) (fun h => by rw [Bd.returns] at h; cases h)
  refine ⟨_, _, g103 _ (retOut X102 hx Bd.returns rfl (Or.inr (Or.inr (Or.inr (Or.inr ⟨rfl, rfl, rfl⟩)))) (hb hby d9_4) hr), hrun, hended, _, _, rfl, ?_, ⟨_, rfl⟩, hW, hsame.mono (by decide) (by decide)⟩
  show Q_nmN Z a1 h0 n0 _ T102.heap _
  rw [e102]
  exact ⟨rfl, N0, rfl⟩
theorem ef_nmS (m : MethodId) (x0 : Addr)  : entryFrame m #[(.ref x0)] 1 = mkF m 0 #[.val (.ref x0)] [] := by first | (simp [entryFrame, mkF, argsToLocals, Value.category]; done) | rfl
def Q_nmS (Z : State) (a1 : Addr) (b1 : Addr) (h0 : Heap) (n0 : Nat) (v : Option Value) (h : Heap) (L : List Loc) : Prop := v = some (.ref b1) ∧ Fr n0 L ∧ h = h0
set_option maxRecDepth 65536 in
set_option maxHeartbeats 40000000 in
theorem rm_nmS (l : Launch) (Z : State) (a0 : Array Value) (hw : ∀ d ∈ tables_1, d.before a0 Z = true) (ws : List Jvm.Cond) (a1 : Addr) (b1 : Addr) (h0 : Heap) (n0 : Nat) (O0 : Old Z n0 h0) (F0_ : Fld Z h0 a1 "com/example/subsume/subsume/engine/Individual" "name" "Ljava/lang/String;" (.ref b1)) :
    MetFree l (⟨"com/example/subsume/subsume/engine/Individual", "name", "()Ljava/lang/String;"⟩ : MethodName) (head1 (Jvm.Cond.code (⟨"com/example/subsume/subsume/engine/Individual", "name", "()Ljava/lang/String;"⟩ : MethodName) prog_13_method_2_code 1 (some (.object "java/lang/String")) :: ws) ({ frames := 0, cells := 0, slots := 0, locals := 0 } : Room)) (fun a U => a = #[(.ref a1)] ∧ Z.Warmed39 U.vm ∧ U.heap = h0) (fun _ _ _ _ _ => True) (fun _ U o U' => ∃ v L, o = .returned v ∧ Q_nmS Z a1 b1 h0 n0 v U'.heap L ∧ FrameEnd U o U' L ({ frames := 0, cells := 0, slots := 0, locals := 0 } : Room).cells ({ frames := 0, cells := 0, slots := 0, locals := 0 } : Room).slots) := by
  refine MetFree.of_bodySF (plainFor_of_name pn_com_example_subsume_subsume_engine_Individual) hisR ?_
  intro p e s m args below meth c s₁ Bd hml0 hP hK
  obtain ⟨rfl, hZ, hh⟩ := hP
  have hx := Bd.exec
  have hby := Bd.bytes
  have hml : c.maxLocals = 1 := hml0
  have hown : s.vm.findClass "com/example/subsume/subsume/engine/Individual" = some m.cls := findClass_of_methodNamed Bd.named
  have hnm := (name_of_methodNamed Bd.named Bd.method).1
  have X0 : Stand p l e ({ frames := 0, cells := 0, slots := 0, locals := 0 } : Room) s m #[(.ref a1)] below meth c s₁ [] 0 0 := Stand.of_body Bd
  have e0 : s₁.heap = h0 := by rw [← hh, Bd.state]; rfl
  have N0 := Fr.nil n0
  have g0 : Go p e below s₁ (mkF m 0 #[rv a1] []) (s₁.setTop (entryFrame m #[(.ref a1)] 1)) := fun t kont => castTop (ef_nmS m a1 ) kont
  generalize s₁.setTop (entryFrame m #[(.ref a1)] 1) = A0 at g0 ⊢
  have g101 : Go p e below s₁ (mkF m 1 #[rv a1] [(.ref a1)]) A0 := by
    intro t kont
    refine g0 t ?_
    refine XS.aloadN X0.here hx rfl (hb hby d9_0) rfl rfl ?_
    show Steps p.tables e below (s₁.setTop (mkF m 1 #[rv a1] [(.ref a1)])) _
    exact kont
  obtain ⟨T102, X102, e102, st102⟩ := getF X0 hx hZ hown (host := "") (Or.inl (hw _ (List.mem_of_getElem? (i := 38) rfl))) Via.refl e0 F0_ (g := (mkF m 1 #[rv a1] [(.ref a1)])) rfl rfl (hb hby d9_1)
  have g103 : Go p e below T102 (mkF m 4 #[rv a1] [(.ref b1)]) A0 := fun t kont => g101 t (st102 t kont)
  obtain ⟨fs, hr, hrun, hended, hW, hsame⟩ := X102.leave (v := some (.ref b1)) (fun h => by rw [Bd.returns] at h; cases h)
  refine ⟨_, _, g103 _ (retOut X102 hx Bd.returns rfl (Or.inr (Or.inr (Or.inr (Or.inr ⟨rfl, rfl, rfl⟩)))) (hb hby d9_4) hr), hrun, hended, _, _, rfl, ?_, ⟨_, rfl⟩, hW, hsame.mono (by decide) (by decide)⟩
  show Q_nmS Z a1 b1 h0 n0 _ T102.heap _
  rw [e102]
  exact ⟨rfl, N0, rfl⟩
theorem pd_4 : parseMethodDescriptor "([C)V" = some ⟨[(.array .char)], none⟩ := by decide +kernel
theorem pd_5 : parseMethodDescriptor "(Ljava/lang/String;I)V" = some ⟨[(.object "java/lang/String"), .int], none⟩ := by decide +kernel
theorem pd_6 : parseMethodDescriptor "()Z" = some ⟨[], some .boolean⟩ := by decide +kernel
theorem pd_7 : parseMethodDescriptor "()Ljava/lang/String;" = some ⟨[], some (.object "java/lang/String")⟩ := by decide +kernel
theorem pn_com_example_subsume_subsume_engine_IndividualIsAnonymousPinLaw : plainName "com/example/subsume/subsume/engine/IndividualIsAnonymousPinLaw" = true := by first | (simp [plainName, overriddenIn]; done) | decide +kernel
theorem ef_law (m : MethodId) (x0 : Int32) (x1 : Int32) (x2 : Int32) (x3 : Int32) (x4 : Int32)  : entryFrame m #[(.int x0), (.int x1), (.int x2), (.int x3), (.int x4)] maxLocals = mkF m 0 #[.val (.int x0), .val (.int x1), .val (.int x2), .val (.int x3), .val (.int x4), .unset, .unset, .unset, .unset, .unset, .unset, .unset, .unset, .unset] [] := by first | (simp [entryFrame, mkF, argsToLocals, Value.category, maxLocals]; done) | rfl
def Q_law (Z : State) (p0 : Int32) (p1 : Int32) (p2 : Int32) (p3 : Int32) (p4 : Int32) (i_COMPACT_STRINGS : Int32) (h0 : Heap) (n0 : Nat) (v : Option Value) (h : Heap) (L : List Loc) : Prop := v = some (.int (1 : Int32)) ∧ Fr n0 L
set_option maxRecDepth 65536 in
set_option maxHeartbeats 40000000 in
theorem rm_law (l : Launch) (Z : State) (a0 : Array Value) (hw : ∀ d ∈ tables_1, d.before a0 Z = true) (ws : List Jvm.Cond) (p0 : Int32) (p1 : Int32) (p2 : Int32) (p3 : Int32) (p4 : Int32) (i_COMPACT_STRINGS : Int32) (h0 : Heap) (n0 : Nat) (O0 : Old Z n0 h0) (S0_ : Sta Z Z.heap "java/lang/String" "COMPACT_STRINGS" "Z" (.int i_COMPACT_STRINGS)) (hcs : ¬ (i_COMPACT_STRINGS = (0 : Int32))) :
    MetFree l x (head1 (Jvm.Cond.code x code maxLocals ret :: ws) room_1) (fun a U => a = #[(.int p0), (.int p1), (.int p2), (.int p3), (.int p4)] ∧ Z.Warmed39 U.vm ∧ U.heap = h0 ∧ CHv Z consts_1 U.vm h0) (fun _ _ _ _ _ => True) (fun _ U o U' => ∃ v L, o = .returned v ∧ Q_law Z p0 p1 p2 p3 p4 i_COMPACT_STRINGS h0 n0 v U'.heap L ∧ CHr Z consts_1 U.vm U.heap U'.vm U'.heap ∧ ReturnedEndW U o U' L room_1.cells room_1.slots) := by
  refine MetFree.of_bodySF (plainFor_of_name pn_com_example_subsume_subsume_engine_IndividualIsAnonymousPinLaw) hisR ?_
  intro p e s m args below meth c s₁ Bd hml0 hP hK
  obtain ⟨rfl, hZ, hh, hC0⟩ := hP
  have hx := Bd.exec
  have hby := Bd.bytes
  have hml : c.maxLocals = 14 := hml0
  have hown : s.vm.findClass "com/example/subsume/subsume/engine/IndividualIsAnonymousPinLaw" = some m.cls := findClass_of_methodNamed Bd.named
  have hnm := (name_of_methodNamed Bd.named Bd.method).1
  have X0 : Stand p l e room_1 (s.setVm s.vm) m #[(.int p0), (.int p1), (.int p2), (.int p3), (.int p4)] below meth c s₁ [] 0 0 := Stand.of_body Bd
  have e0 : s₁.heap = h0 := by rw [← hh, Bd.state]; rfl
  have N0 := Fr.nil n0
  have hS : s.Since s.vm 0 := (State.WarmedH.refl s).since 0
  have hk : 0 ≤ h0.size := Nat.zero_le _
  have hZ : Z.Warmed39 (s.setVm s.vm).vm := hZ
  have hown : (s.setVm s.vm).vm.findClass "com/example/subsume/subsume/engine/IndividualIsAnonymousPinLaw" = some m.cls := hown
  have R0 : CHr Z consts_1 s.vm h0 s.vm h0 := CHr.refl hC0
  have g0 : Go p e below s₁ (mkF m 0 #[iv p0, iv p1, iv p2, iv p3, iv p4, .unset, .unset, .unset, .unset, .unset, .unset, .unset, .unset, .unset] []) (s₁.setTop (entryFrame m #[(.int p0), (.int p1), (.int p2), (.int p3), (.int p4)] maxLocals)) := fun t kont => castTop (ef_law m p0 p1 p2 p3 p4 ) kont
  generalize s₁.setTop (entryFrame m #[(.int p0), (.int p1), (.int p2), (.int p3), (.int p4)] maxLocals) = A0 at g0 ⊢
  have g102 : Go p e below s₁ (mkF m 3 #[iv p0, iv p1, iv p2, iv p3, iv p4, .unset, .unset, .unset, .unset, .unset, .unset, .unset, .unset, .unset] [(.int (p0 &&& (1 : Int32)))]) A0 := by
    intro t kont
    refine g0 t ?_
    refine XS.iloadN X0.here hx rfl (hb hby at_0) rfl ?_
    show Steps p.tables e below (s₁.setTop (mkF m 1 #[iv p0, iv p1, iv p2, iv p3, iv p4, .unset, .unset, .unset, .unset, .unset, .unset, .unset, .unset, .unset] [(.int p0)])) _
    refine XS.iconst X0.here hx rfl (hb hby at_1) ?_
    show Steps p.tables e below (s₁.setTop (mkF m 2 #[iv p0, iv p1, iv p2, iv p3, iv p4, .unset, .unset, .unset, .unset, .unset, .unset, .unset, .unset, .unset] [(.int (1 : Int32)), (.int p0)])) _
    refine XS.iand X0.here hx rfl (hb hby at_2) rfl ?_
    show Steps p.tables e below (s₁.setTop (mkF m 3 #[iv p0, iv p1, iv p2, iv p3, iv p4, .unset, .unset, .unset, .unset, .unset, .unset, .unset, .unset, .unset] [(.int (p0 &&& (1 : Int32)))])) _
    exact kont
  by_cases c101 : (p0 &&& (1 : Int32)) = (0 : Int32)
  ·
    have g103 : Go p e below s₁ (mkF m 14 #[iv p0, iv p1, iv p2, iv p3, iv p4, iv (0 : Int32), .unset, .unset, .unset, .unset, .unset, .unset, .unset, .unset] [(.int (0 : Int32))]) A0 := by
      intro t kont
      refine g102 t ?_
      refine XS.ifYes X0.here hx rfl (pc0 := 3) (pc' := 10) rfl (hb hby at_3) rfl ((if0 _ _).trans (teq c101).1) (by decide) (by decide) ?_
      show Steps p.tables e below (s₁.setTop (mkF m 10 #[iv p0, iv p1, iv p2, iv p3, iv p4, .unset, .unset, .unset, .unset, .unset, .unset, .unset, .unset, .unset] [])) _
      refine XS.iconst X0.here hx rfl (hb hby at_10) ?_
      show Steps p.tables e below (s₁.setTop (mkF m 11 #[iv p0, iv p1, iv p2, iv p3, iv p4, .unset, .unset, .unset, .unset, .unset, .unset, .unset, .unset, .unset] [(.int (0 : Int32))])) _
      refine XS.istore X0.here hx rfl (hb hby at_11) rfl (l' := #[iv p0, iv p1, iv p2, iv p3, iv p4, iv (0 : Int32), .unset, .unset, .unset, .unset, .unset, .unset, .unset, .unset]) rfl ?_
      show Steps p.tables e below (s₁.setTop (mkF m 13 #[iv p0, iv p1, iv p2, iv p3, iv p4, iv (0 : Int32), .unset, .unset, .unset, .unset, .unset, .unset, .unset, .unset] [])) _
      refine XS.iconst X0.here hx rfl (hb hby at_13) ?_
      show Steps p.tables e below (s₁.setTop (mkF m 14 #[iv p0, iv p1, iv p2, iv p3, iv p4, iv (0 : Int32), .unset, .unset, .unset, .unset, .unset, .unset, .unset, .unset] [(.int (0 : Int32))])) _
      exact kont
    obtain ⟨T104, h104, k104, X104, e104, E104, A104, F104, st104⟩ := newPE X0 hx hZ (hw _ (List.mem_of_getElem? (i := 0) rfl)) e0 (g := (mkF m 14 #[iv p0, iv p1, iv p2, iv p3, iv p4, iv (0 : Int32), .unset, .unset, .unset, .unset, .unset, .unset, .unset, .unset] [(.int (0 : Int32))])) rfl (hb hby at_14) rfl (by decide) (cap := 0) (by decide) (by decide) (by decide) (by decide) (ad := "[C") (by decide)
    obtain ⟨b104, gb104⟩ : ∃ z, z = h0.size := ⟨_, rfl⟩
    rw [← gb104] at A104 F104 st104
    have R105 : CHr Z consts_1 s.vm h0 s.vm h104 := R0.trans (CHr.ext E104 R0.1)
    have O106 := O0.ext E104
    have y107 : Arv Z h104 b104 k104 .char (0 : Int32) [] (.int (0 : Int32)) := Arv.new A104 (by decide)
    have g108 : Go p e below T104 (mkF m 16 #[iv p0, iv p1, iv p2, iv p3, iv p4, iv (0 : Int32), .unset, .unset, .unset, .unset, .unset, .unset, .unset, .unset] [(.ref b104)]) A0 := fun t kont => g103 t (st104 t kont)
    have g109 : Go p e below T104 (mkF m 19 #[iv p0, iv p1, iv p2, iv p3, iv p4, iv (0 : Int32), rv b104, .unset, .unset, .unset, .unset, .unset, .unset, .unset] [(.int (1 : Int32))]) A0 := by
      intro t kont
      refine g108 t ?_
      refine XS.astore X104.here hx rfl (hb hby at_16) rfl rfl (l' := #[iv p0, iv p1, iv p2, iv p3, iv p4, iv (0 : Int32), rv b104, .unset, .unset, .unset, .unset, .unset, .unset, .unset]) rfl ?_
      show Steps p.tables e below (T104.setTop (mkF m 18 #[iv p0, iv p1, iv p2, iv p3, iv p4, iv (0 : Int32), rv b104, .unset, .unset, .unset, .unset, .unset, .unset, .unset] [])) _
      refine XS.iconst X104.here hx rfl (hb hby at_18) ?_
      show Steps p.tables e below (T104.setTop (mkF m 19 #[iv p0, iv p1, iv p2, iv p3, iv p4, iv (0 : Int32), rv b104, .unset, .unset, .unset, .unset, .unset, .unset, .unset] [(.int (1 : Int32))])) _
      exact kont
    obtain ⟨T110, h110, k110, X110, e110, E110, A110, F110, st110⟩ := newPE X104 hx hZ (hw _ (List.mem_of_getElem? (i := 0) rfl)) e104 (g := (mkF m 19 #[iv p0, iv p1, iv p2, iv p3, iv p4, iv (0 : Int32), rv b104, .unset, .unset, .unset, .unset, .unset, .unset, .unset] [(.int (1 : Int32))])) rfl (hb hby at_19) rfl (by decide) (cap := 1) (by decide) (by decide) (by decide) (by decide) (ad := "[C") (by decide)
    obtain ⟨b110, gb110⟩ : ∃ z, z = h104.size := ⟨_, rfl⟩
    rw [← gb110] at A110 F110 st110
    have R111 : CHr Z consts_1 s.vm h0 s.vm h110 := R105.trans (CHr.ext E110 R105.1)
    have O112 := O106.ext E110
    have y113 : Arv Z h110 b110 k110 .char (1 : Int32) [(.int (0 : Int32))] (.int (0 : Int32)) := (Arv.new A110 (by decide)).pad (pad_rep [] (.int (0 : Int32)) 1)
    have g114 : Go p e below T110 (mkF m 21 #[iv p0, iv p1, iv p2, iv p3, iv p4, iv (0 : Int32), rv b104, .unset, .unset, .unset, .unset, .unset, .unset, .unset] [(.ref b110)]) A0 := fun t kont => g109 t (st110 t kont)
    have g115 : Go p e below T110 (mkF m 29 #[iv p0, iv p1, iv p2, iv p3, iv p4, iv (0 : Int32), rv b104, .unset, .unset, .unset, .unset, .unset, .unset, .unset] [(.int ((p1 &&& (255 : Int32)).toUInt32.toUInt16.toUInt32.toInt32)), (.int (0 : Int32)), (.ref b110), (.ref b110)]) A0 := by
      intro t kont
      refine g114 t ?_
      refine XS.dup X110.here hx rfl (hb hby at_21) rfl rfl ?_
      show Steps p.tables e below (T110.setTop (mkF m 22 #[iv p0, iv p1, iv p2, iv p3, iv p4, iv (0 : Int32), rv b104, .unset, .unset, .unset, .unset, .unset, .unset, .unset] [(.ref b110), (.ref b110)])) _
      refine XS.iconst X110.here hx rfl (hb hby at_22) ?_
      show Steps p.tables e below (T110.setTop (mkF m 23 #[iv p0, iv p1, iv p2, iv p3, iv p4, iv (0 : Int32), rv b104, .unset, .unset, .unset, .unset, .unset, .unset, .unset] [(.int (0 : Int32)), (.ref b110), (.ref b110)])) _
      refine XS.iloadN X110.here hx rfl (hb hby at_23) rfl ?_
      show Steps p.tables e below (T110.setTop (mkF m 24 #[iv p0, iv p1, iv p2, iv p3, iv p4, iv (0 : Int32), rv b104, .unset, .unset, .unset, .unset, .unset, .unset, .unset] [(.int p1), (.int (0 : Int32)), (.ref b110), (.ref b110)])) _
      refine XS.sipush X110.here hx rfl (hb hby at_24) ?_
      show Steps p.tables e below (T110.setTop (mkF m 27 #[iv p0, iv p1, iv p2, iv p3, iv p4, iv (0 : Int32), rv b104, .unset, .unset, .unset, .unset, .unset, .unset, .unset] [(.int (255 : Int32)), (.int p1), (.int (0 : Int32)), (.ref b110), (.ref b110)])) _
      refine XS.iand X110.here hx rfl (hb hby at_27) rfl ?_
      show Steps p.tables e below (T110.setTop (mkF m 28 #[iv p0, iv p1, iv p2, iv p3, iv p4, iv (0 : Int32), rv b104, .unset, .unset, .unset, .unset, .unset, .unset, .unset] [(.int (p1 &&& (255 : Int32))), (.int (0 : Int32)), (.ref b110), (.ref b110)])) _
      refine XS.i2c X110.here hx rfl (hb hby at_28) rfl ?_
      show Steps p.tables e below (T110.setTop (mkF m 29 #[iv p0, iv p1, iv p2, iv p3, iv p4, iv (0 : Int32), rv b104, .unset, .unset, .unset, .unset, .unset, .unset, .unset] [(.int ((p1 &&& (255 : Int32)).toUInt32.toUInt16.toUInt32.toInt32)), (.int (0 : Int32)), (.ref b110), (.ref b110)])) _
      exact kont
    have ge117 : n0 ≤ b110 := Nat.le_trans (own_old_le O106) (Nat.le_of_eq gb110.symm)
    have zz116 := y113
    obtain ⟨cl116, Ar116, q116, S116, M116, H116, G116⟩ := zz116
    have in116 : ¬ ((0 : Int32) < 0 ∨ cl116.slots.size ≤ ((0 : Int32)).toNatClampNeg) := inb_of S116 ⟨by decide, by decide⟩
    obtain ⟨T116, h116, X116, e116, W116, st116⟩ := stC X110 hx hZ e110 Ar116 (j := (0 : Int32)) in116 (g := (mkF m 29 #[iv p0, iv p1, iv p2, iv p3, iv p4, iv (0 : Int32), rv b104, .unset, .unset, .unset, .unset, .unset, .unset, .unset] [(.int ((p1 &&& (255 : Int32)).toUInt32.toUInt16.toUInt32.toInt32)), (.int (0 : Int32)), (.ref b110), (.ref b110)])) rfl rfl (hb hby at_29)
    rw [show nar .char ((p1 &&& (255 : Int32)).toUInt32.toUInt16.toUInt32.toInt32) = ((p1 &&& (255 : Int32)).toUInt32.toUInt16.toUInt32.toInt32) from (own_narc _)] at W116
    have R118 : CHr Z consts_1 s.vm h0 s.vm h116 := R111.trans (CHr.wr W116 (Safe.ext E110 R105.1 (Safe.new (Nat.le_of_eq gb110.symm))) R111.1)
    have O119 := O112.wr W116 ge117
    have y120 : Arv Z h116 b110 k110 .char (1 : Int32) [(.int ((p1 &&& (255 : Int32)).toUInt32.toUInt16.toUInt32.toInt32))] (.int (0 : Int32)) := Arv.set Ar116 q116 S116 M116 H116 G116 (own_ft_char (z := ((p1 &&& (255 : Int32)).toUInt32.toUInt16.toUInt32.toInt32)) (own_narc _)) W116 0 rfl (Nat.le_of_ble_eq_true rfl)
    have N116 := Fr.snoc X116 N0 ge117
    have g121 : Go p e below T116 (mkF m 30 #[iv p0, iv p1, iv p2, iv p3, iv p4, iv (0 : Int32), rv b104, .unset, .unset, .unset, .unset, .unset, .unset, .unset] [(.ref b110)]) A0 := fun t kont => g115 t (st116 t kont)
    have g122 : Go p e below T116 (mkF m 33 #[iv p0, iv p1, iv p2, iv p3, iv p4, iv (0 : Int32), rv b104, rv b110, .unset, .unset, .unset, .unset, .unset, .unset] [(.int (2 : Int32))]) A0 := by
      intro t kont
      refine g121 t ?_
      refine XS.astore X116.here hx rfl (hb hby at_30) rfl rfl (l' := #[iv p0, iv p1, iv p2, iv p3, iv p4, iv (0 : Int32), rv b104, rv b110, .unset, .unset, .unset, .unset, .unset, .unset]) rfl ?_
      show Steps p.tables e below (T116.setTop (mkF m 32 #[iv p0, iv p1, iv p2, iv p3, iv p4, iv (0 : Int32), rv b104, rv b110, .unset, .unset, .unset, .unset, .unset, .unset] [])) _
      refine XS.iconst X116.here hx rfl (hb hby at_32) ?_
      show Steps p.tables e below (T116.setTop (mkF m 33 #[iv p0, iv p1, iv p2, iv p3, iv p4, iv (0 : Int32), rv b104, rv b110, .unset, .unset, .unset, .unset, .unset, .unset] [(.int (2 : Int32))])) _
      exact kont
    obtain ⟨T123, h123, k123, X123, e123, E123, A123, F123, st123⟩ := newPE X116 hx hZ (hw _ (List.mem_of_getElem? (i := 0) rfl)) e116 (g := (mkF m 33 #[iv p0, iv p1, iv p2, iv p3, iv p4, iv (0 : Int32), rv b104, rv b110, .unset, .unset, .unset, .unset, .unset, .unset] [(.int (2 : Int32))])) rfl (hb hby at_33) rfl (by decide) (cap := 2) (by decide) (by decide) (by decide) (by decide) (ad := "[C") (by decide)
    obtain ⟨b123, gb123⟩ : ∃ z, z = h116.size := ⟨_, rfl⟩
    rw [← gb123] at A123 F123 st123
    have R124 : CHr Z consts_1 s.vm h0 s.vm h123 := R118.trans (CHr.ext E123 R118.1)
    have O125 := O119.ext E123
    have y126 : Arv Z h123 b123 k123 .char (2 : Int32) [(.int (0 : Int32)), (.int (0 : Int32))] (.int (0 : Int32)) := (Arv.new A123 (by decide)).pad (pad_rep [] (.int (0 : Int32)) 2)
    have g127 : Go p e below T123 (mkF m 35 #[iv p0, iv p1, iv p2, iv p3, iv p4, iv (0 : Int32), rv b104, rv b110, .unset, .unset, .unset, .unset, .unset, .unset] [(.ref b123)]) A0 := fun t kont => g122 t (st123 t kont)
    have g128 : Go p e below T123 (mkF m 43 #[iv p0, iv p1, iv p2, iv p3, iv p4, iv (0 : Int32), rv b104, rv b110, .unset, .unset, .unset, .unset, .unset, .unset] [(.int ((p1 &&& (255 : Int32)).toUInt32.toUInt16.toUInt32.toInt32)), (.int (0 : Int32)), (.ref b123), (.ref b123)]) A0 := by
      intro t kont
      refine g127 t ?_
      refine XS.dup X123.here hx rfl (hb hby at_35) rfl rfl ?_
      show Steps p.tables e below (T123.setTop (mkF m 36 #[iv p0, iv p1, iv p2, iv p3, iv p4, iv (0 : Int32), rv b104, rv b110, .unset, .unset, .unset, .unset, .unset, .unset] [(.ref b123), (.ref b123)])) _
      refine XS.iconst X123.here hx rfl (hb hby at_36) ?_
      show Steps p.tables e below (T123.setTop (mkF m 37 #[iv p0, iv p1, iv p2, iv p3, iv p4, iv (0 : Int32), rv b104, rv b110, .unset, .unset, .unset, .unset, .unset, .unset] [(.int (0 : Int32)), (.ref b123), (.ref b123)])) _
      refine XS.iloadN X123.here hx rfl (hb hby at_37) rfl ?_
      show Steps p.tables e below (T123.setTop (mkF m 38 #[iv p0, iv p1, iv p2, iv p3, iv p4, iv (0 : Int32), rv b104, rv b110, .unset, .unset, .unset, .unset, .unset, .unset] [(.int p1), (.int (0 : Int32)), (.ref b123), (.ref b123)])) _
      refine XS.sipush X123.here hx rfl (hb hby at_38) ?_
      show Steps p.tables e below (T123.setTop (mkF m 41 #[iv p0, iv p1, iv p2, iv p3, iv p4, iv (0 : Int32), rv b104, rv b110, .unset, .unset, .unset, .unset, .unset, .unset] [(.int (255 : Int32)), (.int p1), (.int (0 : Int32)), (.ref b123), (.ref b123)])) _
      refine XS.iand X123.here hx rfl (hb hby at_41) rfl ?_
      show Steps p.tables e below (T123.setTop (mkF m 42 #[iv p0, iv p1, iv p2, iv p3, iv p4, iv (0 : Int32), rv b104, rv b110, .unset, .unset, .unset, .unset, .unset, .unset] [(.int (p1 &&& (255 : Int32))), (.int (0 : Int32)), (.ref b123), (.ref b123)])) _
      refine XS.i2c X123.here hx rfl (hb hby at_42) rfl ?_
      show Steps p.tables e below (T123.setTop (mkF m 43 #[iv p0, iv p1, iv p2, iv p3, iv p4, iv (0 : Int32), rv b104, rv b110, .unset, .unset, .unset, .unset, .unset, .unset] [(.int ((p1 &&& (255 : Int32)).toUInt32.toUInt16.toUInt32.toInt32)), (.int (0 : Int32)), (.ref b123), (.ref b123)])) _
      exact kont
    have ge130 : n0 ≤ b123 := Nat.le_trans (own_old_le O119) (Nat.le_of_eq gb123.symm)
    have zz129 := y126
    obtain ⟨cl129, Ar129, q129, S129, M129, H129, G129⟩ := zz129
    have in129 : ¬ ((0 : Int32) < 0 ∨ cl129.slots.size ≤ ((0 : Int32)).toNatClampNeg) := inb_of S129 ⟨by decide, by decide⟩
    obtain ⟨T129, h129, X129, e129, W129, st129⟩ := stC X123 hx hZ e123 Ar129 (j := (0 : Int32)) in129 (g := (mkF m 43 #[iv p0, iv p1, iv p2, iv p3, iv p4, iv (0 : Int32), rv b104, rv b110, .unset, .unset, .unset, .unset, .unset, .unset] [(.int ((p1 &&& (255 : Int32)).toUInt32.toUInt16.toUInt32.toInt32)), (.int (0 : Int32)), (.ref b123), (.ref b123)])) rfl rfl (hb hby at_43)
    rw [show nar .char ((p1 &&& (255 : Int32)).toUInt32.toUInt16.toUInt32.toInt32) = ((p1 &&& (255 : Int32)).toUInt32.toUInt16.toUInt32.toInt32) from (own_narc _)] at W129
    have R131 : CHr Z consts_1 s.vm h0 s.vm h129 := R124.trans (CHr.wr W129 (Safe.ext E123 R118.1 (Safe.new (Nat.le_of_eq gb123.symm))) R124.1)
    have O132 := O125.wr W129 ge130
    have y133 : Arv Z h129 b123 k123 .char (2 : Int32) [(.int ((p1 &&& (255 : Int32)).toUInt32.toUInt16.toUInt32.toInt32)), (.int (0 : Int32))] (.int (0 : Int32)) := Arv.set Ar129 q129 S129 M129 H129 G129 (own_ft_char (z := ((p1 &&& (255 : Int32)).toUInt32.toUInt16.toUInt32.toInt32)) (own_narc _)) W129 0 rfl (Nat.le_of_ble_eq_true rfl)
    have N129 := Fr.snoc X129 N116 ge130
    have g134 : Go p e below T129 (mkF m 44 #[iv p0, iv p1, iv p2, iv p3, iv p4, iv (0 : Int32), rv b104, rv b110, .unset, .unset, .unset, .unset, .unset, .unset] [(.ref b123)]) A0 := fun t kont => g128 t (st129 t kont)
    have g135 : Go p e below T129 (mkF m 52 #[iv p0, iv p1, iv p2, iv p3, iv p4, iv (0 : Int32), rv b104, rv b110, .unset, .unset, .unset, .unset, .unset, .unset] [(.int ((p2 &&& (255 : Int32)).toUInt32.toUInt16.toUInt32.toInt32)), (.int (1 : Int32)), (.ref b123), (.ref b123)]) A0 := by
      intro t kont
      refine g134 t ?_
      refine XS.dup X129.here hx rfl (hb hby at_44) rfl rfl ?_
      show Steps p.tables e below (T129.setTop (mkF m 45 #[iv p0, iv p1, iv p2, iv p3, iv p4, iv (0 : Int32), rv b104, rv b110, .unset, .unset, .unset, .unset, .unset, .unset] [(.ref b123), (.ref b123)])) _
      refine XS.iconst X129.here hx rfl (hb hby at_45) ?_
      show Steps p.tables e below (T129.setTop (mkF m 46 #[iv p0, iv p1, iv p2, iv p3, iv p4, iv (0 : Int32), rv b104, rv b110, .unset, .unset, .unset, .unset, .unset, .unset] [(.int (1 : Int32)), (.ref b123), (.ref b123)])) _
      refine XS.iloadN X129.here hx rfl (hb hby at_46) rfl ?_
      show Steps p.tables e below (T129.setTop (mkF m 47 #[iv p0, iv p1, iv p2, iv p3, iv p4, iv (0 : Int32), rv b104, rv b110, .unset, .unset, .unset, .unset, .unset, .unset] [(.int p2), (.int (1 : Int32)), (.ref b123), (.ref b123)])) _
      refine XS.sipush X129.here hx rfl (hb hby at_47) ?_
      show Steps p.tables e below (T129.setTop (mkF m 50 #[iv p0, iv p1, iv p2, iv p3, iv p4, iv (0 : Int32), rv b104, rv b110, .unset, .unset, .unset, .unset, .unset, .unset] [(.int (255 : Int32)), (.int p2), (.int (1 : Int32)), (.ref b123), (.ref b123)])) _
      refine XS.iand X129.here hx rfl (hb hby at_50) rfl ?_
      show Steps p.tables e below (T129.setTop (mkF m 51 #[iv p0, iv p1, iv p2, iv p3, iv p4, iv (0 : Int32), rv b104, rv b110, .unset, .unset, .unset, .unset, .unset, .unset] [(.int (p2 &&& (255 : Int32))), (.int (1 : Int32)), (.ref b123), (.ref b123)])) _
      refine XS.i2c X129.here hx rfl (hb hby at_51) rfl ?_
      show Steps p.tables e below (T129.setTop (mkF m 52 #[iv p0, iv p1, iv p2, iv p3, iv p4, iv (0 : Int32), rv b104, rv b110, .unset, .unset, .unset, .unset, .unset, .unset] [(.int ((p2 &&& (255 : Int32)).toUInt32.toUInt16.toUInt32.toInt32)), (.int (1 : Int32)), (.ref b123), (.ref b123)])) _
      exact kont
    have zz136 := y133
    obtain ⟨cl136, Ar136, q136, S136, M136, H136, G136⟩ := zz136
    have in136 : ¬ ((1 : Int32) < 0 ∨ cl136.slots.size ≤ ((1 : Int32)).toNatClampNeg) := inb_of S136 ⟨by decide, by decide⟩
    obtain ⟨T136, h136, X136, e136, W136, st136⟩ := stC X129 hx hZ e129 Ar136 (j := (1 : Int32)) in136 (g := (mkF m 52 #[iv p0, iv p1, iv p2, iv p3, iv p4, iv (0 : Int32), rv b104, rv b110, .unset, .unset, .unset, .unset, .unset, .unset] [(.int ((p2 &&& (255 : Int32)).toUInt32.toUInt16.toUInt32.toInt32)), (.int (1 : Int32)), (.ref b123), (.ref b123)])) rfl rfl (hb hby at_52)
    rw [show nar .char ((p2 &&& (255 : Int32)).toUInt32.toUInt16.toUInt32.toInt32) = ((p2 &&& (255 : Int32)).toUInt32.toUInt16.toUInt32.toInt32) from (own_narc _)] at W136
    have sf138 : Safe Z consts_1 s.vm h129 b123 := (Safe.wr W129 (Safe.ext E123 R118.1 (Safe.new (Nat.le_of_eq gb123.symm))) R124.1 (Safe.ext E123 R118.1 (Safe.new (Nat.le_of_eq gb123.symm))))
    have R137 : CHr Z consts_1 s.vm h0 s.vm h136 := R131.trans (CHr.wr W136 sf138 R131.1)
    have O139 := O132.wr W136 ge130
    have y140 : Arv Z h136 b123 k123 .char (2 : Int32) [(.int ((p1 &&& (255 : Int32)).toUInt32.toUInt16.toUInt32.toInt32)), (.int ((p2 &&& (255 : Int32)).toUInt32.toUInt16.toUInt32.toInt32))] (.int (0 : Int32)) := Arv.set Ar136 q136 S136 M136 H136 G136 (own_ft_char (z := ((p2 &&& (255 : Int32)).toUInt32.toUInt16.toUInt32.toInt32)) (own_narc _)) W136 1 rfl (Nat.le_of_ble_eq_true rfl)
    have N136 := Fr.snoc X136 N129 ge130
    have g141 : Go p e below T136 (mkF m 53 #[iv p0, iv p1, iv p2, iv p3, iv p4, iv (0 : Int32), rv b104, rv b110, .unset, .unset, .unset, .unset, .unset, .unset] [(.ref b123)]) A0 := fun t kont => g135 t (st136 t kont)
    have g142 : Go p e below T136 (mkF m 61 #[iv p0, iv p1, iv p2, iv p3, iv p4, iv (0 : Int32), rv b104, rv b110, rv b123, .unset, .unset, .unset, .unset, .unset] [(.int ((p3 &&& (2147483647 : Int32)) % (3 : Int32)))]) A0 := by
      intro t kont
      refine g141 t ?_
      refine XS.astore X136.here hx rfl (hb hby at_53) rfl rfl (l' := #[iv p0, iv p1, iv p2, iv p3, iv p4, iv (0 : Int32), rv b104, rv b110, rv b123, .unset, .unset, .unset, .unset, .unset]) rfl ?_
      show Steps p.tables e below (T136.setTop (mkF m 55 #[iv p0, iv p1, iv p2, iv p3, iv p4, iv (0 : Int32), rv b104, rv b110, rv b123, .unset, .unset, .unset, .unset, .unset] [])) _
      refine XS.iloadN X136.here hx rfl (hb hby at_55) rfl ?_
      show Steps p.tables e below (T136.setTop (mkF m 56 #[iv p0, iv p1, iv p2, iv p3, iv p4, iv (0 : Int32), rv b104, rv b110, rv b123, .unset, .unset, .unset, .unset, .unset] [(.int p3)])) _
      refine X136.ldcInt hx hown (mvT hZ (hw _ (List.mem_of_getElem? (i := 1) rfl))) (g := (mkF m 56 #[iv p0, iv p1, iv p2, iv p3, iv p4, iv (0 : Int32), rv b104, rv b110, rv b123, .unset, .unset, .unset, .unset, .unset] [(.int p3)])) rfl (hb hby at_56) _ ?_
      show Steps p.tables e below (T136.setTop (mkF m 58 #[iv p0, iv p1, iv p2, iv p3, iv p4, iv (0 : Int32), rv b104, rv b110, rv b123, .unset, .unset, .unset, .unset, .unset] [(.int (2147483647 : Int32)), (.int p3)])) _
      refine XS.iand X136.here hx rfl (hb hby at_58) rfl ?_
      show Steps p.tables e below (T136.setTop (mkF m 59 #[iv p0, iv p1, iv p2, iv p3, iv p4, iv (0 : Int32), rv b104, rv b110, rv b123, .unset, .unset, .unset, .unset, .unset] [(.int (p3 &&& (2147483647 : Int32)))])) _
      refine XS.iconst X136.here hx rfl (hb hby at_59) ?_
      show Steps p.tables e below (T136.setTop (mkF m 60 #[iv p0, iv p1, iv p2, iv p3, iv p4, iv (0 : Int32), rv b104, rv b110, rv b123, .unset, .unset, .unset, .unset, .unset] [(.int (3 : Int32)), (.int (p3 &&& (2147483647 : Int32)))])) _
      refine iremM X136 hx rfl (hb hby at_60) rfl (by decide) ?_
      show Steps p.tables e below (T136.setTop (mkF m 61 #[iv p0, iv p1, iv p2, iv p3, iv p4, iv (0 : Int32), rv b104, rv b110, rv b123, .unset, .unset, .unset, .unset, .unset] [(.int ((p3 &&& (2147483647 : Int32)) % (3 : Int32)))])) _
      exact kont
    obtain ⟨k, e_k⟩ : ∃ z, z = ((p3 &&& (2147483647 : Int32)) % (3 : Int32)) := ⟨_, rfl⟩
    have g143 : Go p e below T136 (mkF m 61 #[iv p0, iv p1, iv p2, iv p3, iv p4, iv (0 : Int32), rv b104, rv b110, rv b123, .unset, .unset, .unset, .unset, .unset] [(.int k)]) A0 := by rw [e_k]; exact g142
    have g145 : Go p e below T136 (mkF m 65 #[iv p0, iv p1, iv p2, iv p3, iv p4, iv (0 : Int32), rv b104, rv b110, rv b123, iv k, .unset, .unset, .unset, .unset] [(.int k)]) A0 := by
      intro t kont
      refine g143 t ?_
      refine XS.istore X136.here hx rfl (hb hby at_61) rfl (l' := #[iv p0, iv p1, iv p2, iv p3, iv p4, iv (0 : Int32), rv b104, rv b110, rv b123, iv k, .unset, .unset, .unset, .unset]) rfl ?_
      show Steps p.tables e below (T136.setTop (mkF m 63 #[iv p0, iv p1, iv p2, iv p3, iv p4, iv (0 : Int32), rv b104, rv b110, rv b123, iv k, .unset, .unset, .unset, .unset] [])) _
      refine XS.iload X136.here hx rfl (hb hby at_63) rfl ?_
      show Steps p.tables e below (T136.setTop (mkF m 65 #[iv p0, iv p1, iv p2, iv p3, iv p4, iv (0 : Int32), rv b104, rv b110, rv b123, iv k, .unset, .unset, .unset, .unset] [(.int k)])) _
      exact kont
    by_cases c144 : k = (0 : Int32)
    ·
      have g146 : Go p e below T136 (mkF m 68 #[iv p0, iv p1, iv p2, iv p3, iv p4, iv (0 : Int32), rv b104, rv b110, rv b123, iv k, .unset, .unset, .unset, .unset] []) A0 := by
        intro t kont
        refine g145 t ?_
        refine XS.ifNo X136.here hx rfl (hb hby at_65) rfl ((if0 _ _).trans (teq c144).2) ?_
        show Steps p.tables e below (T136.setTop (mkF m 68 #[iv p0, iv p1, iv p2, iv p3, iv p4, iv (0 : Int32), rv b104, rv b110, rv b123, iv k, .unset, .unset, .unset, .unset] [])) _
        exact kont
      obtain ⟨T147, h147, X147, e147, E147, A147, D147, -, st147⟩ := newO X136 hx hZ hown (hw _ (List.mem_of_getElem? (i := 2) rfl)) (hw _ (List.mem_of_getElem? (i := 3) rfl)) (hw _ (List.mem_of_getElem? (i := 4) rfl)) e136 (g := (mkF m 68 #[iv p0, iv p1, iv p2, iv p3, iv p4, iv (0 : Int32), rv b104, rv b110, rv b123, iv k, .unset, .unset, .unset, .unset] [])) rfl (hb hby at_68) (by decide) (by decide)
      obtain ⟨b147, gb147⟩ : ∃ z, z = h136.size := ⟨_, rfl⟩
      rw [← gb147] at A147 D147 st147
      have R148 : CHr Z consts_1 s.vm h0 s.vm h147 := R137.trans (CHr.ext E147 R137.1)
      have O149 := O139.ext E147
      have y150 : Fld Z h147 b147 "java/lang/String" "coder" "B" (.int (0 : Int32)) := D147 (Or.inr (hw _ (List.mem_of_getElem? (i := 28) rfl))) (ty := .byte) (by decide)
      have y151 : Fld Z h147 b147 "java/lang/String" "value" "[B" .null := D147 (Or.inr (hw _ (List.mem_of_getElem? (i := 30) rfl))) (ty := (.array .byte)) (by decide)
      have g152 : Go p e below T147 (mkF m 71 #[iv p0, iv p1, iv p2, iv p3, iv p4, iv (0 : Int32), rv b104, rv b110, rv b123, iv k, .unset, .unset, .unset, .unset] [(.ref b147)]) A0 := fun t kont => g146 t (st147 t kont)
      have g153 : Go p e below T147 (mkF m 74 #[iv p0, iv p1, iv p2, iv p3, iv p4, iv (0 : Int32), rv b104, rv b110, rv b123, iv k, .unset, .unset, .unset, .unset] [(.ref b104), (.ref b147), (.ref b147)]) A0 := by
        intro t kont
        refine g152 t ?_
        refine XS.dup X147.here hx rfl (hb hby at_71) rfl rfl ?_
        show Steps p.tables e below (T147.setTop (mkF m 72 #[iv p0, iv p1, iv p2, iv p3, iv p4, iv (0 : Int32), rv b104, rv b110, rv b123, iv k, .unset, .unset, .unset, .unset] [(.ref b147), (.ref b147)])) _
        refine XS.aload X147.here hx rfl (hb hby at_72) rfl rfl ?_
        show Steps p.tables e below (T147.setTop (mkF m 74 #[iv p0, iv p1, iv p2, iv p3, iv p4, iv (0 : Int32), rv b104, rv b110, rv b123, iv k, .unset, .unset, .unset, .unset] [(.ref b104), (.ref b147), (.ref b147)])) _
        exact kont
      have ge155 : n0 ≤ b147 := Nat.le_trans (own_old_le O139) (Nat.le_of_eq gb147.symm)
      have y156 : Arv Z h147 b104 k104 .char (0 : Int32) [] (.int (0 : Int32)) := ((((((y107.ext E110).other W116 (Nat.ne_of_lt (Nat.lt_of_lt_of_le y107.lt (Nat.le_of_eq gb110.symm)))).ext E123).other W129 (Nat.ne_of_lt (Nat.lt_of_lt_of_le (Nat.lt_of_lt_of_le y107.lt (Nat.le_trans E110.1 (Keep.of_wr W116).1)) (Nat.le_of_eq gb123.symm)))).other W136 (Nat.ne_of_lt (Nat.lt_of_lt_of_le (Nat.lt_of_lt_of_le y107.lt (Nat.le_trans E110.1 (Keep.of_wr W116).1)) (Nat.le_of_eq gb123.symm)))).ext E147)
      obtain ⟨_, _, ⟨T154, L154, k154, n154⟩, -, X154, hS154, hg154, ⟨Lc154, hQ154, l154, y154, z154, C154⟩, st154⟩ := X147.specialBackS hx (y := (⟨"java/lang/String", "<init>", "([C)V"⟩ : MethodName)) rfl hown (mvT hZ (hw _ (List.mem_of_getElem? (i := 5) rfl))) (mvT hZ (hw _ (List.mem_of_getElem? (i := 6) rfl))) (mvT hZ (hw _ (List.mem_of_getElem? (i := 7) rfl))) (by decide) (backOfSH (W := 1) (rm_sIni0 l Z a0 hw [] b147 b104 k104 h147 n0 O149 y151 y150 A147 ge155 y156) hZ (hw _ (List.mem_of_getElem? (i := 7) rfl)) (hw _ (List.mem_of_getElem? (i := 4) rfl)) (by decide) (by decide) (own_EW hw) R148.1) (g := (mkF m 74 #[iv p0, iv p1, iv p2, iv p3, iv p4, iv (0 : Int32), rv b104, rv b110, rv b123, iv k, .unset, .unset, .unset, .unset] [(.ref b104), (.ref b147), (.ref b147)])) rfl (by rw [hml]; rfl) (Steps.refl _) (a := b147) (argsL := [(.ref b104)]) (rest := [(.ref b147)]) (lenOf pd_4 rfl) rfl (by show 2 * 0 + _ ≤ _; exact Nat.le_of_eq rfl) (hb hby at_74) (fun _ _ => ⟨rfl, e147, (by decide : 4 + 4 ≤ _), (by decide : 7 + 8 ≤ _)⟩)
      dsimp only [Pt.U, Pt.locs, Pt.cells, Pt.slots] at X154 l154 y154 z154 st154 hQ154 hS154 hg154 C154
      subst l154 y154 z154
      obtain ⟨X154, hS, hZ, hown⟩ := rebS hS (n1 := T147.heap.size) (by rw [e147]; exact (Nat.le_trans hk (Nat.le_trans (Nat.le_trans (Nat.le_trans (Nat.le_trans (Nat.le_trans (Nat.le_trans E104.1 E110.1) (Keep.of_wr W116).1) E123.1) (Keep.of_wr W129).1) (Keep.of_wr W136).1) E147.1))) X154 hS154 hg154 hZ hown
      obtain ⟨r157, r158, rfl, M154, K154, y159, y160, y161, y162⟩ := hQ154
      have N154 := Fr.app N136 M154
      have R163 : CHr Z consts_1 s.vm h0 T154.vm T154.heap := R148.trans C154
      have O164 := O149.keep K154 (allS ge155 all0)
      have g165 : Go p e below T154 (mkF m 77 #[iv p0, iv p1, iv p2, iv p3, iv p4, iv (0 : Int32), rv b104, rv b110, rv b123, iv k, .unset, .unset, .unset, .unset] [(.ref b147)]) A0 := fun t kont => g153 t (st154.trans kont)
      have g166 : Go p e below T154 (mkF m 126 #[iv p0, iv p1, iv p2, iv p3, iv p4, iv (0 : Int32), rv b104, rv b110, rv b123, iv k, rv b147, rv b147, .unset, .unset] []) A0 := by
        intro t kont
        refine g165 t ?_
        refine XS.astore X154.here hx rfl (hb hby at_77) rfl rfl (l' := #[iv p0, iv p1, iv p2, iv p3, iv p4, iv (0 : Int32), rv b104, rv b110, rv b123, iv k, rv b147, .unset, .unset, .unset]) rfl ?_
        show Steps p.tables e below (T154.setTop (mkF m 79 #[iv p0, iv p1, iv p2, iv p3, iv p4, iv (0 : Int32), rv b104, rv b110, rv b123, iv k, rv b147, .unset, .unset, .unset] [])) _
        refine XS.goto X154.here hx rfl (pc0 := 79) (pc' := 113) rfl (hb hby at_79) (by decide) (by decide) ?_
        show Steps p.tables e below (T154.setTop (mkF m 113 #[iv p0, iv p1, iv p2, iv p3, iv p4, iv (0 : Int32), rv b104, rv b110, rv b123, iv k, rv b147, .unset, .unset, .unset] [])) _
        refine XS.iload X154.here hx rfl (hb hby at_113) rfl ?_
        show Steps p.tables e below (T154.setTop (mkF m 115 #[iv p0, iv p1, iv p2, iv p3, iv p4, iv (0 : Int32), rv b104, rv b110, rv b123, iv k, rv b147, .unset, .unset, .unset] [(.int (0 : Int32))])) _
        refine XS.ifYes X154.here hx rfl (pc0 := 115) (pc' := 122) rfl (hb hby at_115) rfl ((if0 _ _).trans (teq (by decide : (0 : Int32) = (0 : Int32))).1) (by decide) (by decide) ?_
        show Steps p.tables e below (T154.setTop (mkF m 122 #[iv p0, iv p1, iv p2, iv p3, iv p4, iv (0 : Int32), rv b104, rv b110, rv b123, iv k, rv b147, .unset, .unset, .unset] [])) _
        refine XS.aload X154.here hx rfl (hb hby at_122) rfl rfl ?_
        show Steps p.tables e below (T154.setTop (mkF m 124 #[iv p0, iv p1, iv p2, iv p3, iv p4, iv (0 : Int32), rv b104, rv b110, rv b123, iv k, rv b147, .unset, .unset, .unset] [(.ref b147)])) _
        refine XS.astore X154.here hx rfl (hb hby at_124) rfl rfl (l' := #[iv p0, iv p1, iv p2, iv p3, iv p4, iv (0 : Int32), rv b104, rv b110, rv b123, iv k, rv b147, rv b147, .unset, .unset]) rfl ?_
        show Steps p.tables e below (T154.setTop (mkF m 126 #[iv p0, iv p1, iv p2, iv p3, iv p4, iv (0 : Int32), rv b104, rv b110, rv b123, iv k, rv b147, rv b147, .unset, .unset] [])) _
        exact kont
      obtain ⟨T167, h167, X167, e167, E167, A167, D167, -, st167⟩ := newO X154 hx hZ hown (hw _ (List.mem_of_getElem? (i := 31) rfl)) (hw _ (List.mem_of_getElem? (i := 32) rfl)) (hw _ (List.mem_of_getElem? (i := 33) rfl)) rfl (g := (mkF m 126 #[iv p0, iv p1, iv p2, iv p3, iv p4, iv (0 : Int32), rv b104, rv b110, rv b123, iv k, rv b147, rv b147, .unset, .unset] [])) rfl (hb hby at_126) (by decide) (by decide)
      obtain ⟨b167, gb167⟩ : ∃ z, z = T154.heap.size := ⟨_, rfl⟩
      rw [← gb167] at A167 D167 st167
      have R168 : CHr Z consts_1 s.vm h0 T154.vm h167 := R163.trans (CHr.ext E167 R163.1)
      have O169 := O164.ext E167
      have y170 : Fld Z h167 b167 "com/example/subsume/subsume/engine/Individual" "name" "Ljava/lang/String;" .null := D167 (Or.inr (hw _ (List.mem_of_getElem? (i := 39) rfl))) (ty := (.object "java/lang/String")) (by decide)
      have y171 : Fld Z h167 b167 "com/example/subsume/subsume/engine/Individual" "id" "I" (.int (0 : Int32)) := D167 (Or.inr (hw _ (List.mem_of_getElem? (i := 41) rfl))) (ty := .int) (by decide)
      have g172 : Go p e below T167 (mkF m 129 #[iv p0, iv p1, iv p2, iv p3, iv p4, iv (0 : Int32), rv b104, rv b110, rv b123, iv k, rv b147, rv b147, .unset, .unset] [(.ref b167)]) A0 := fun t kont => g166 t (st167 t kont)
      have g173 : Go p e below T167 (mkF m 134 #[iv p0, iv p1, iv p2, iv p3, iv p4, iv (0 : Int32), rv b104, rv b110, rv b123, iv k, rv b147, rv b147, .unset, .unset] [(.int p4), (.ref b147), (.ref b167), (.ref b167)]) A0 := by
        intro t kont
        refine g172 t ?_
        refine XS.dup X167.here hx rfl (hb hby at_129) rfl rfl ?_
        show Steps p.tables e below (T167.setTop (mkF m 130 #[iv p0, iv p1, iv p2, iv p3, iv p4, iv (0 : Int32), rv b104, rv b110, rv b123, iv k, rv b147, rv b147, .unset, .unset] [(.ref b167), (.ref b167)])) _
        refine XS.aload X167.here hx rfl (hb hby at_130) rfl rfl ?_
        show Steps p.tables e below (T167.setTop (mkF m 132 #[iv p0, iv p1, iv p2, iv p3, iv p4, iv (0 : Int32), rv b104, rv b110, rv b123, iv k, rv b147, rv b147, .unset, .unset] [(.ref b147), (.ref b167), (.ref b167)])) _
        refine XS.iload X167.here hx rfl (hb hby at_132) rfl ?_
        show Steps p.tables e below (T167.setTop (mkF m 134 #[iv p0, iv p1, iv p2, iv p3, iv p4, iv (0 : Int32), rv b104, rv b110, rv b123, iv k, rv b147, rv b147, .unset, .unset] [(.int p4), (.ref b147), (.ref b167), (.ref b167)])) _
        exact kont
      have ge175 : n0 ≤ b167 := Nat.le_trans (own_old_le O164) (Nat.le_of_eq gb167.symm)
      obtain ⟨_, _, ⟨T174, L174, k174, n174⟩, -, X174, ⟨Lc174, hQ174, l174, y174, z174⟩, st174⟩ := X167.specialBack hx (y := (⟨"com/example/subsume/subsume/engine/Individual", "<init>", "(Ljava/lang/String;I)V"⟩ : MethodName)) rfl hown (mvT hZ (hw _ (List.mem_of_getElem? (i := 34) rfl))) (mvT hZ (hw _ (List.mem_of_getElem? (i := 35) rfl))) (mvT hZ (hw _ (List.mem_of_getElem? (i := 36) rfl))) (by decide) (backOf (W := 1) (rm_indI l Z a0 hw [] b167 (.ref b147) p4 h167 n0 O169 (rfl) y170 y171 A167 ge175) hZ (hw _ (List.mem_of_getElem? (i := 36) rfl)) (hw _ (List.mem_of_getElem? (i := 33) rfl)) (by decide) (by decide)) (g := (mkF m 134 #[iv p0, iv p1, iv p2, iv p3, iv p4, iv (0 : Int32), rv b104, rv b110, rv b123, iv k, rv b147, rv b147, .unset, .unset] [(.int p4), (.ref b147), (.ref b167), (.ref b167)])) rfl (by rw [hml]; rfl) (Steps.refl _) (a := b167) (argsL := [(.ref b147), (.int p4)]) (rest := [(.ref b167)]) (lenOf pd_5 rfl) rfl (by show 2 * 0 + _ ≤ _; exact Nat.le_of_eq rfl) (hb hby at_134) (fun _ _ => ⟨rfl, e167, (by decide : 9 + 0 ≤ _), (by decide : 17 + 0 ≤ _)⟩)
      dsimp only [Pt.U, Pt.locs, Pt.cells, Pt.slots] at X174 l174 y174 z174 st174 hQ174
      subst l174 y174 z174
      obtain ⟨rfl, M174, K174, y176, y177⟩ := hQ174
      have N174 := Fr.app N154 M174
      have R178 : CHr Z consts_1 s.vm h0 T154.vm T174.heap := R168.trans (CHr.keep K174 (sfS (Safe.ext E167 R163.1 (Safe.new (Nat.le_of_eq gb167.symm))) sf0) R168.1)
      have O179 := O169.keep K174 (allS ge175 all0)
      have g180 : Go p e below T174 (mkF m 137 #[iv p0, iv p1, iv p2, iv p3, iv p4, iv (0 : Int32), rv b104, rv b110, rv b123, iv k, rv b147, rv b147, .unset, .unset] [(.ref b167)]) A0 := fun t kont => g173 t (st174.trans kont)
      have g181 : Go p e below T174 (mkF m 141 #[iv p0, iv p1, iv p2, iv p3, iv p4, iv (0 : Int32), rv b104, rv b110, rv b123, iv k, rv b147, rv b147, rv b167, .unset] [(.ref b167)]) A0 := by
        intro t kont
        refine g180 t ?_
        refine XS.astore X174.here hx rfl (hb hby at_137) rfl rfl (l' := #[iv p0, iv p1, iv p2, iv p3, iv p4, iv (0 : Int32), rv b104, rv b110, rv b123, iv k, rv b147, rv b147, rv b167, .unset]) rfl ?_
        show Steps p.tables e below (T174.setTop (mkF m 139 #[iv p0, iv p1, iv p2, iv p3, iv p4, iv (0 : Int32), rv b104, rv b110, rv b123, iv k, rv b147, rv b147, rv b167, .unset] [])) _
        refine XS.aload X174.here hx rfl (hb hby at_139) rfl rfl ?_
        show Steps p.tables e below (T174.setTop (mkF m 141 #[iv p0, iv p1, iv p2, iv p3, iv p4, iv (0 : Int32), rv b104, rv b110, rv b123, iv k, rv b147, rv b147, rv b167, .unset] [(.ref b167)])) _
        exact kont
      obtain ⟨cq182, kq182, q182a, q182b, q182c⟩ := isOf hZ rfl y176
      obtain ⟨_, _, ⟨T182, L182, k182, n182⟩, -, X182, ⟨Lc182, hQ182, l182, y182, z182⟩, st182⟩ := X174.virtualBack hx (y := (⟨"com/example/subsume/subsume/engine/Individual", "isAnonymous", "()Z"⟩ : MethodName)) (z := (⟨"com/example/subsume/subsume/engine/Individual", "isAnonymous", "()Z"⟩ : MethodName)) hown (mvT hZ (hw _ (List.mem_of_getElem? (i := 42) rfl))) (mvT hZ (hw _ (List.mem_of_getElem? (i := 43) rfl))) (notFace_of_selects (args := #[]) (mvT hZ (hw _ (List.mem_of_getElem? (i := 45) rfl)))) (mvT hZ (hw _ (List.mem_of_getElem? (i := 45) rfl))) (mvT hZ (hw _ (List.mem_of_getElem? (i := 44) rfl))) (by decide) (backOf (W := 0) (rm_isS l Z a0 hw [] b167 b147 T174.heap n0 O179 y177) hZ (hw _ (List.mem_of_getElem? (i := 46) rfl)) (hw _ (List.mem_of_getElem? (i := 33) rfl)) (by decide) (by decide)) q182a q182c (g := (mkF m 141 #[iv p0, iv p1, iv p2, iv p3, iv p4, iv (0 : Int32), rv b104, rv b110, rv b123, iv k, rv b147, rv b147, rv b167, .unset] [(.ref b167)])) rfl (by rw [hml]; rfl) (Steps.refl _) (argsL := []) (rest := []) (lenOf pd_6 rfl) rfl (by show 2 * 0 + _ ≤ _; exact Nat.le_of_eq rfl) (hb hby at_141) (fun _ _ => ⟨rfl, rfl, (by decide : 9 + 0 ≤ _), (by decide : 17 + 0 ≤ _)⟩)
      dsimp only [Pt.U, Pt.locs, Pt.cells, Pt.slots] at X182 l182 y182 z182 st182 hQ182
      subst l182 y182 z182
      obtain ⟨rfl, M182, e182⟩ := hQ182
      have N182 := Fr.app N174 M182
      have g183 : Go p e below T182 (mkF m 144 #[iv p0, iv p1, iv p2, iv p3, iv p4, iv (0 : Int32), rv b104, rv b110, rv b123, iv k, rv b147, rv b147, rv b167, .unset] [(.int (0 : Int32))]) A0 := fun t kont => g181 t (st182.trans kont)
      have g184 : Go p e below T182 (mkF m 157 #[iv p0, iv p1, iv p2, iv p3, iv p4, iv (0 : Int32), rv b104, rv b110, rv b123, iv k, rv b147, rv b147, rv b167, iv (0 : Int32)] [(.ref b167), (.int (0 : Int32))]) A0 := by
        intro t kont
        refine g183 t ?_
        refine XS.istore X182.here hx rfl (hb hby at_144) rfl (l' := #[iv p0, iv p1, iv p2, iv p3, iv p4, iv (0 : Int32), rv b104, rv b110, rv b123, iv k, rv b147, rv b147, rv b167, iv (0 : Int32)]) rfl ?_
        show Steps p.tables e below (T182.setTop (mkF m 146 #[iv p0, iv p1, iv p2, iv p3, iv p4, iv (0 : Int32), rv b104, rv b110, rv b123, iv k, rv b147, rv b147, rv b167, iv (0 : Int32)] [])) _
        refine XS.iload X182.here hx rfl (hb hby at_146) rfl ?_
        show Steps p.tables e below (T182.setTop (mkF m 148 #[iv p0, iv p1, iv p2, iv p3, iv p4, iv (0 : Int32), rv b104, rv b110, rv b123, iv k, rv b147, rv b147, rv b167, iv (0 : Int32)] [(.int (0 : Int32))])) _
        refine XS.iload X182.here hx rfl (hb hby at_148) rfl ?_
        show Steps p.tables e below (T182.setTop (mkF m 150 #[iv p0, iv p1, iv p2, iv p3, iv p4, iv (0 : Int32), rv b104, rv b110, rv b123, iv k, rv b147, rv b147, rv b167, iv (0 : Int32)] [(.int (0 : Int32)), (.int (0 : Int32))])) _
        refine XS.icmpNo X182.here hx rfl (hb hby at_150) rfl (teq (by decide : (0 : Int32) = (0 : Int32))).2 ?_
        show Steps p.tables e below (T182.setTop (mkF m 153 #[iv p0, iv p1, iv p2, iv p3, iv p4, iv (0 : Int32), rv b104, rv b110, rv b123, iv k, rv b147, rv b147, rv b167, iv (0 : Int32)] [])) _
        refine XS.iload X182.here hx rfl (hb hby at_153) rfl ?_
        show Steps p.tables e below (T182.setTop (mkF m 155 #[iv p0, iv p1, iv p2, iv p3, iv p4, iv (0 : Int32), rv b104, rv b110, rv b123, iv k, rv b147, rv b147, rv b167, iv (0 : Int32)] [(.int (0 : Int32))])) _
        refine XS.aload X182.here hx rfl (hb hby at_155) rfl rfl ?_
        show Steps p.tables e below (T182.setTop (mkF m 157 #[iv p0, iv p1, iv p2, iv p3, iv p4, iv (0 : Int32), rv b104, rv b110, rv b123, iv k, rv b147, rv b147, rv b167, iv (0 : Int32)] [(.ref b167), (.int (0 : Int32))])) _
        exact kont
      obtain ⟨cq185, kq185, q185a, q185b, q185c⟩ := isOf hZ e182 y176
      obtain ⟨_, _, ⟨T185, L185, k185, n185⟩, -, X185, ⟨Lc185, hQ185, l185, y185, z185⟩, st185⟩ := X182.virtualBack hx (y := (⟨"com/example/subsume/subsume/engine/Individual", "name", "()Ljava/lang/String;"⟩ : MethodName)) (z := (⟨"com/example/subsume/subsume/engine/Individual", "name", "()Ljava/lang/String;"⟩ : MethodName)) hown (mvT hZ (hw _ (List.mem_of_getElem? (i := 47) rfl))) (mvT hZ (hw _ (List.mem_of_getElem? (i := 48) rfl))) (notFace_of_selects (args := #[]) (mvT hZ (hw _ (List.mem_of_getElem? (i := 50) rfl)))) (mvT hZ (hw _ (List.mem_of_getElem? (i := 50) rfl))) (mvT hZ (hw _ (List.mem_of_getElem? (i := 49) rfl))) (by decide) (backOf (W := 1) (rm_nmS l Z a0 hw [] b167 b147 T174.heap n0 O179 y177) hZ (hw _ (List.mem_of_getElem? (i := 51) rfl)) (hw _ (List.mem_of_getElem? (i := 33) rfl)) (by decide) (by decide)) q185a q185c (g := (mkF m 157 #[iv p0, iv p1, iv p2, iv p3, iv p4, iv (0 : Int32), rv b104, rv b110, rv b123, iv k, rv b147, rv b147, rv b167, iv (0 : Int32)] [(.ref b167), (.int (0 : Int32))])) rfl (by rw [hml]; rfl) (Steps.refl _) (argsL := []) (rest := [(.int (0 : Int32))]) (lenOf pd_7 rfl) rfl (by show 2 * 0 + _ ≤ _; exact Nat.le_of_eq rfl) (hb hby at_157) (fun _ _ => ⟨rfl, e182, (by decide : 9 + 0 ≤ _), (by decide : 17 + 0 ≤ _)⟩)
      dsimp only [Pt.U, Pt.locs, Pt.cells, Pt.slots] at X185 l185 y185 z185 st185 hQ185
      subst l185 y185 z185
      obtain ⟨rfl, M185, e185⟩ := hQ185
      have N185 := Fr.app N182 M185
      have g186 : Go p e below T185 (mkF m 160 #[iv p0, iv p1, iv p2, iv p3, iv p4, iv (0 : Int32), rv b104, rv b110, rv b123, iv k, rv b147, rv b147, rv b167, iv (0 : Int32)] [(.ref b147), (.int (0 : Int32))]) A0 := fun t kont => g184 t (st185.trans kont)
      have g187 : Go p e below T185 (mkF m 176 #[iv p0, iv p1, iv p2, iv p3, iv p4, iv (0 : Int32), rv b104, rv b110, rv b123, iv k, rv b147, rv b147, rv b167, iv (0 : Int32)] [(.int (1 : Int32))]) A0 := by
        intro t kont
        refine g186 t ?_
        refine XS.ifnonnullYes X185.here hx rfl (pc0 := 160) (pc' := 167) rfl (hb hby at_160) rfl (by decide) (by decide) ?_
        show Steps p.tables e below (T185.setTop (mkF m 167 #[iv p0, iv p1, iv p2, iv p3, iv p4, iv (0 : Int32), rv b104, rv b110, rv b123, iv k, rv b147, rv b147, rv b167, iv (0 : Int32)] [(.int (0 : Int32))])) _
        refine XS.iconst X185.here hx rfl (hb hby at_167) ?_
        show Steps p.tables e below (T185.setTop (mkF m 168 #[iv p0, iv p1, iv p2, iv p3, iv p4, iv (0 : Int32), rv b104, rv b110, rv b123, iv k, rv b147, rv b147, rv b167, iv (0 : Int32)] [(.int (0 : Int32)), (.int (0 : Int32))])) _
        refine XS.icmpNo X185.here hx rfl (hb hby at_168) rfl (teq (by decide : (0 : Int32) = (0 : Int32))).2 ?_
        show Steps p.tables e below (T185.setTop (mkF m 171 #[iv p0, iv p1, iv p2, iv p3, iv p4, iv (0 : Int32), rv b104, rv b110, rv b123, iv k, rv b147, rv b147, rv b167, iv (0 : Int32)] [])) _
        refine XS.iconst X185.here hx rfl (hb hby at_171) ?_
        show Steps p.tables e below (T185.setTop (mkF m 172 #[iv p0, iv p1, iv p2, iv p3, iv p4, iv (0 : Int32), rv b104, rv b110, rv b123, iv k, rv b147, rv b147, rv b167, iv (0 : Int32)] [(.int (1 : Int32))])) _
        refine XS.goto X185.here hx rfl (pc0 := 172) (pc' := 176) rfl (hb hby at_172) (by decide) (by decide) ?_
        show Steps p.tables e below (T185.setTop (mkF m 176 #[iv p0, iv p1, iv p2, iv p3, iv p4, iv (0 : Int32), rv b104, rv b110, rv b123, iv k, rv b147, rv b147, rv b167, iv (0 : Int32)] [(.int (1 : Int32))])) _
        exact kont
      obtain ⟨fs, hr, hrun, hended, hRW⟩ := X185.leaveW hS (by rw [e185]; exact (Nat.le_trans (Nat.le_refl _) (Nat.le_trans E167.1 K174.1))) (v := some (.int (1 : Int32))) (fun h => by rw [Bd.returns] at h; cases h)
      refine ⟨_, _, g187 _ (retN X185 hx (t := .boolean) Bd.returns (by simp) (hb hby at_176) hr), hrun, hended, _, _, rfl, ?_, ?_, hRW.1, hRW.2.1, hRW.2.2.1, hRW.2.2.2.mono (by decide) (by decide)⟩
      ·
        show Q_law Z p0 p1 p2 p3 p4 i_COMPACT_STRINGS h0 n0 _ T185.heap _
        rw [e185]
        exact ⟨rfl, N185⟩
      ·
        rw [hh]
        show CHr Z consts_1 s.vm h0 T185.vm T185.heap
        rw [e185]
        exact R178.trans (CHv.at X185 hZ (own_EW hw) R178.1)
    have g189 : Go p e below T136 (mkF m 85 #[iv p0, iv p1, iv p2, iv p3, iv p4, iv (0 : Int32), rv b104, rv b110, rv b123, iv k, .unset, .unset, .unset, .unset] [(.int (1 : Int32)), (.int k)]) A0 := by
      intro t kont
      refine g145 t ?_
      refine XS.ifYes X136.here hx rfl (pc0 := 65) (pc' := 82) rfl (hb hby at_65) rfl ((if0 _ _).trans (feq c144).2) (by decide) (by decide) ?_
      show Steps p.tables e below (T136.setTop (mkF m 82 #[iv p0, iv p1, iv p2, iv p3, iv p4, iv (0 : Int32), rv b104, rv b110, rv b123, iv k, .unset, .unset, .unset, .unset] [])) _
      refine XS.iload X136.here hx rfl (hb hby at_82) rfl ?_
      show Steps p.tables e below (T136.setTop (mkF m 84 #[iv p0, iv p1, iv p2, iv p3, iv p4, iv (0 : Int32), rv b104, rv b110, rv b123, iv k, .unset, .unset, .unset, .unset] [(.int k)])) _
      refine XS.iconst X136.here hx rfl (hb hby at_84) ?_
      show Steps p.tables e below (T136.setTop (mkF m 85 #[iv p0, iv p1, iv p2, iv p3, iv p4, iv (0 : Int32), rv b104, rv b110, rv b123, iv k, .unset, .unset, .unset, .unset] [(.int (1 : Int32)), (.int k)])) _
      exact kont
    by_cases c188 : k = (1 : Int32)
    ·
      have g190 : Go p e below T136 (mkF m 88 #[iv p0, iv p1, iv p2, iv p3, iv p4, iv (0 : Int32), rv b104, rv b110, rv b123, iv k, .unset, .unset, .unset, .unset] []) A0 := by
        intro t kont
        refine g189 t ?_
        refine XS.icmpNo X136.here hx rfl (hb hby at_85) rfl (teq c188).2 ?_
        show Steps p.tables e below (T136.setTop (mkF m 88 #[iv p0, iv p1, iv p2, iv p3, iv p4, iv (0 : Int32), rv b104, rv b110, rv b123, iv k, .unset, .unset, .unset, .unset] [])) _
        exact kont
      obtain ⟨T191, h191, X191, e191, E191, A191, D191, -, st191⟩ := newO X136 hx hZ hown (hw _ (List.mem_of_getElem? (i := 2) rfl)) (hw _ (List.mem_of_getElem? (i := 3) rfl)) (hw _ (List.mem_of_getElem? (i := 4) rfl)) e136 (g := (mkF m 88 #[iv p0, iv p1, iv p2, iv p3, iv p4, iv (0 : Int32), rv b104, rv b110, rv b123, iv k, .unset, .unset, .unset, .unset] [])) rfl (hb hby at_88) (by decide) (by decide)
      obtain ⟨b191, gb191⟩ : ∃ z, z = h136.size := ⟨_, rfl⟩
      rw [← gb191] at A191 D191 st191
      have R192 : CHr Z consts_1 s.vm h0 s.vm h191 := R137.trans (CHr.ext E191 R137.1)
      have O193 := O139.ext E191
      have y194 : Fld Z h191 b191 "java/lang/String" "coder" "B" (.int (0 : Int32)) := D191 (Or.inr (hw _ (List.mem_of_getElem? (i := 28) rfl))) (ty := .byte) (by decide)
      have y195 : Fld Z h191 b191 "java/lang/String" "value" "[B" .null := D191 (Or.inr (hw _ (List.mem_of_getElem? (i := 30) rfl))) (ty := (.array .byte)) (by decide)
      have g196 : Go p e below T191 (mkF m 91 #[iv p0, iv p1, iv p2, iv p3, iv p4, iv (0 : Int32), rv b104, rv b110, rv b123, iv k, .unset, .unset, .unset, .unset] [(.ref b191)]) A0 := fun t kont => g190 t (st191 t kont)
      have g197 : Go p e below T191 (mkF m 94 #[iv p0, iv p1, iv p2, iv p3, iv p4, iv (0 : Int32), rv b104, rv b110, rv b123, iv k, .unset, .unset, .unset, .unset] [(.ref b110), (.ref b191), (.ref b191)]) A0 := by
        intro t kont
        refine g196 t ?_
        refine XS.dup X191.here hx rfl (hb hby at_91) rfl rfl ?_
        show Steps p.tables e below (T191.setTop (mkF m 92 #[iv p0, iv p1, iv p2, iv p3, iv p4, iv (0 : Int32), rv b104, rv b110, rv b123, iv k, .unset, .unset, .unset, .unset] [(.ref b191), (.ref b191)])) _
        refine XS.aload X191.here hx rfl (hb hby at_92) rfl rfl ?_
        show Steps p.tables e below (T191.setTop (mkF m 94 #[iv p0, iv p1, iv p2, iv p3, iv p4, iv (0 : Int32), rv b104, rv b110, rv b123, iv k, .unset, .unset, .unset, .unset] [(.ref b110), (.ref b191), (.ref b191)])) _
        exact kont
      have y199 : Arv Z h191 b110 k110 .char (1 : Int32) [(.int ((p1 &&& (255 : Int32)).toUInt32.toUInt16.toUInt32.toInt32))] (.int (0 : Int32)) := ((((y120.ext E123).other W129 (Nat.ne_of_lt (Nat.lt_of_lt_of_le (Nat.lt_of_lt_of_le y113.lt (Keep.of_wr W116).1) (Nat.le_of_eq gb123.symm)))).other W136 (Nat.ne_of_lt (Nat.lt_of_lt_of_le (Nat.lt_of_lt_of_le y113.lt (Keep.of_wr W116).1) (Nat.le_of_eq gb123.symm)))).ext E191)
      have ge200 : n0 ≤ b191 := Nat.le_trans (own_old_le O139) (Nat.le_of_eq gb191.symm)
      obtain ⟨_, _, ⟨T198, L198, k198, n198⟩, -, X198, ⟨Lc198, hQ198, l198, y198, z198⟩, st198⟩ := X191.specialBack hx (y := (⟨"java/lang/String", "<init>", "([C)V"⟩ : MethodName)) rfl hown (mvT hZ (hw _ (List.mem_of_getElem? (i := 5) rfl))) (mvT hZ (hw _ (List.mem_of_getElem? (i := 6) rfl))) (mvT hZ (hw _ (List.mem_of_getElem? (i := 7) rfl))) (by decide) (backOf (W := 1) (rm_sIni1 l Z a0 hw [] b191 b110 k110 ((p1 &&& (255 : Int32)).toUInt32.toUInt16.toUInt32.toInt32) i_COMPACT_STRINGS h191 n0 O193 y195 y194 A191 ge200 y199 (own_c255 p1) S0_ hcs) hZ (hw _ (List.mem_of_getElem? (i := 7) rfl)) (hw _ (List.mem_of_getElem? (i := 4) rfl)) (by decide) (by decide)) (g := (mkF m 94 #[iv p0, iv p1, iv p2, iv p3, iv p4, iv (0 : Int32), rv b104, rv b110, rv b123, iv k, .unset, .unset, .unset, .unset] [(.ref b110), (.ref b191), (.ref b191)])) rfl (by rw [hml]; rfl) (Steps.refl _) (a := b191) (argsL := [(.ref b110)]) (rest := [(.ref b191)]) (lenOf pd_4 rfl) rfl (by show 2 * 0 + _ ≤ _; exact Nat.le_of_eq rfl) (hb hby at_94) (fun _ _ => ⟨rfl, e191, (by decide : 4 + 1 ≤ _), (by decide : 7 + 1 ≤ _)⟩)
      dsimp only [Pt.U, Pt.locs, Pt.cells, Pt.slots] at X198 l198 y198 z198 st198 hQ198
      subst l198 y198 z198
      obtain ⟨r201, r202, rfl, M198, K198, y203, y204, y205, y206, y207⟩ := hQ198
      have N198 := Fr.app N136 M198
      have R208 : CHr Z consts_1 s.vm h0 s.vm T198.heap := R192.trans (CHr.keep K198 (sfS (Safe.ext E191 R137.1 (Safe.new (Nat.le_of_eq gb191.symm))) sf0) R192.1)
      have O209 := O193.keep K198 (allS ge200 all0)
      have g210 : Go p e below T198 (mkF m 97 #[iv p0, iv p1, iv p2, iv p3, iv p4, iv (0 : Int32), rv b104, rv b110, rv b123, iv k, .unset, .unset, .unset, .unset] [(.ref b191)]) A0 := fun t kont => g197 t (st198.trans kont)
      have g211 : Go p e below T198 (mkF m 126 #[iv p0, iv p1, iv p2, iv p3, iv p4, iv (0 : Int32), rv b104, rv b110, rv b123, iv k, rv b191, rv b191, .unset, .unset] []) A0 := by
        intro t kont
        refine g210 t ?_
        refine XS.astore X198.here hx rfl (hb hby at_97) rfl rfl (l' := #[iv p0, iv p1, iv p2, iv p3, iv p4, iv (0 : Int32), rv b104, rv b110, rv b123, iv k, rv b191, .unset, .unset, .unset]) rfl ?_
        show Steps p.tables e below (T198.setTop (mkF m 99 #[iv p0, iv p1, iv p2, iv p3, iv p4, iv (0 : Int32), rv b104, rv b110, rv b123, iv k, rv b191, .unset, .unset, .unset] [])) _
        refine XS.goto X198.here hx rfl (pc0 := 99) (pc' := 113) rfl (hb hby at_99) (by decide) (by decide) ?_
        show Steps p.tables e below (T198.setTop (mkF m 113 #[iv p0, iv p1, iv p2, iv p3, iv p4, iv (0 : Int32), rv b104, rv b110, rv b123, iv k, rv b191, .unset, .unset, .unset] [])) _
        refine XS.iload X198.here hx rfl (hb hby at_113) rfl ?_
        show Steps p.tables e below (T198.setTop (mkF m 115 #[iv p0, iv p1, iv p2, iv p3, iv p4, iv (0 : Int32), rv b104, rv b110, rv b123, iv k, rv b191, .unset, .unset, .unset] [(.int (0 : Int32))])) _
        refine XS.ifYes X198.here hx rfl (pc0 := 115) (pc' := 122) rfl (hb hby at_115) rfl ((if0 _ _).trans (teq (by decide : (0 : Int32) = (0 : Int32))).1) (by decide) (by decide) ?_
        show Steps p.tables e below (T198.setTop (mkF m 122 #[iv p0, iv p1, iv p2, iv p3, iv p4, iv (0 : Int32), rv b104, rv b110, rv b123, iv k, rv b191, .unset, .unset, .unset] [])) _
        refine XS.aload X198.here hx rfl (hb hby at_122) rfl rfl ?_
        show Steps p.tables e below (T198.setTop (mkF m 124 #[iv p0, iv p1, iv p2, iv p3, iv p4, iv (0 : Int32), rv b104, rv b110, rv b123, iv k, rv b191, .unset, .unset, .unset] [(.ref b191)])) _
        refine XS.astore X198.here hx rfl (hb hby at_124) rfl rfl (l' := #[iv p0, iv p1, iv p2, iv p3, iv p4, iv (0 : Int32), rv b104, rv b110, rv b123, iv k, rv b191, rv b191, .unset, .unset]) rfl ?_
        show Steps p.tables e below (T198.setTop (mkF m 126 #[iv p0, iv p1, iv p2, iv p3, iv p4, iv (0 : Int32), rv b104, rv b110, rv b123, iv k, rv b191, rv b191, .unset, .unset] [])) _
        exact kont
      obtain ⟨T212, h212, X212, e212, E212, A212, D212, -, st212⟩ := newO X198 hx hZ hown (hw _ (List.mem_of_getElem? (i := 31) rfl)) (hw _ (List.mem_of_getElem? (i := 32) rfl)) (hw _ (List.mem_of_getElem? (i := 33) rfl)) rfl (g := (mkF m 126 #[iv p0, iv p1, iv p2, iv p3, iv p4, iv (0 : Int32), rv b104, rv b110, rv b123, iv k, rv b191, rv b191, .unset, .unset] [])) rfl (hb hby at_126) (by decide) (by decide)
      obtain ⟨b212, gb212⟩ : ∃ z, z = T198.heap.size := ⟨_, rfl⟩
      rw [← gb212] at A212 D212 st212
      have R213 : CHr Z consts_1 s.vm h0 s.vm h212 := R208.trans (CHr.ext E212 R208.1)
      have O214 := O209.ext E212
      have y215 : Fld Z h212 b212 "com/example/subsume/subsume/engine/Individual" "name" "Ljava/lang/String;" .null := D212 (Or.inr (hw _ (List.mem_of_getElem? (i := 39) rfl))) (ty := (.object "java/lang/String")) (by decide)
      have y216 : Fld Z h212 b212 "com/example/subsume/subsume/engine/Individual" "id" "I" (.int (0 : Int32)) := D212 (Or.inr (hw _ (List.mem_of_getElem? (i := 41) rfl))) (ty := .int) (by decide)
      have g217 : Go p e below T212 (mkF m 129 #[iv p0, iv p1, iv p2, iv p3, iv p4, iv (0 : Int32), rv b104, rv b110, rv b123, iv k, rv b191, rv b191, .unset, .unset] [(.ref b212)]) A0 := fun t kont => g211 t (st212 t kont)
      have g218 : Go p e below T212 (mkF m 134 #[iv p0, iv p1, iv p2, iv p3, iv p4, iv (0 : Int32), rv b104, rv b110, rv b123, iv k, rv b191, rv b191, .unset, .unset] [(.int p4), (.ref b191), (.ref b212), (.ref b212)]) A0 := by
        intro t kont
        refine g217 t ?_
        refine XS.dup X212.here hx rfl (hb hby at_129) rfl rfl ?_
        show Steps p.tables e below (T212.setTop (mkF m 130 #[iv p0, iv p1, iv p2, iv p3, iv p4, iv (0 : Int32), rv b104, rv b110, rv b123, iv k, rv b191, rv b191, .unset, .unset] [(.ref b212), (.ref b212)])) _
        refine XS.aload X212.here hx rfl (hb hby at_130) rfl rfl ?_
        show Steps p.tables e below (T212.setTop (mkF m 132 #[iv p0, iv p1, iv p2, iv p3, iv p4, iv (0 : Int32), rv b104, rv b110, rv b123, iv k, rv b191, rv b191, .unset, .unset] [(.ref b191), (.ref b212), (.ref b212)])) _
        refine XS.iload X212.here hx rfl (hb hby at_132) rfl ?_
        show Steps p.tables e below (T212.setTop (mkF m 134 #[iv p0, iv p1, iv p2, iv p3, iv p4, iv (0 : Int32), rv b104, rv b110, rv b123, iv k, rv b191, rv b191, .unset, .unset] [(.int p4), (.ref b191), (.ref b212), (.ref b212)])) _
        exact kont
      have ge220 : n0 ≤ b212 := Nat.le_trans (own_old_le O209) (Nat.le_of_eq gb212.symm)
      obtain ⟨_, _, ⟨T219, L219, k219, n219⟩, -, X219, ⟨Lc219, hQ219, l219, y219, z219⟩, st219⟩ := X212.specialBack hx (y := (⟨"com/example/subsume/subsume/engine/Individual", "<init>", "(Ljava/lang/String;I)V"⟩ : MethodName)) rfl hown (mvT hZ (hw _ (List.mem_of_getElem? (i := 34) rfl))) (mvT hZ (hw _ (List.mem_of_getElem? (i := 35) rfl))) (mvT hZ (hw _ (List.mem_of_getElem? (i := 36) rfl))) (by decide) (backOf (W := 1) (rm_indI l Z a0 hw [] b212 (.ref b191) p4 h212 n0 O214 (rfl) y215 y216 A212 ge220) hZ (hw _ (List.mem_of_getElem? (i := 36) rfl)) (hw _ (List.mem_of_getElem? (i := 33) rfl)) (by decide) (by decide)) (g := (mkF m 134 #[iv p0, iv p1, iv p2, iv p3, iv p4, iv (0 : Int32), rv b104, rv b110, rv b123, iv k, rv b191, rv b191, .unset, .unset] [(.int p4), (.ref b191), (.ref b212), (.ref b212)])) rfl (by rw [hml]; rfl) (Steps.refl _) (a := b212) (argsL := [(.ref b191), (.int p4)]) (rest := [(.ref b212)]) (lenOf pd_5 rfl) rfl (by show 2 * 0 + _ ≤ _; exact Nat.le_of_eq rfl) (hb hby at_134) (fun _ _ => ⟨rfl, e212, (by decide : 6 + 0 ≤ _), (by decide : 10 + 0 ≤ _)⟩)
      dsimp only [Pt.U, Pt.locs, Pt.cells, Pt.slots] at X219 l219 y219 z219 st219 hQ219
      subst l219 y219 z219
      obtain ⟨rfl, M219, K219, y221, y222⟩ := hQ219
      have N219 := Fr.app N198 M219
      have R223 : CHr Z consts_1 s.vm h0 s.vm T219.heap := R213.trans (CHr.keep K219 (sfS (Safe.ext E212 R208.1 (Safe.new (Nat.le_of_eq gb212.symm))) sf0) R213.1)
      have O224 := O214.keep K219 (allS ge220 all0)
      have g225 : Go p e below T219 (mkF m 137 #[iv p0, iv p1, iv p2, iv p3, iv p4, iv (0 : Int32), rv b104, rv b110, rv b123, iv k, rv b191, rv b191, .unset, .unset] [(.ref b212)]) A0 := fun t kont => g218 t (st219.trans kont)
      have g226 : Go p e below T219 (mkF m 141 #[iv p0, iv p1, iv p2, iv p3, iv p4, iv (0 : Int32), rv b104, rv b110, rv b123, iv k, rv b191, rv b191, rv b212, .unset] [(.ref b212)]) A0 := by
        intro t kont
        refine g225 t ?_
        refine XS.astore X219.here hx rfl (hb hby at_137) rfl rfl (l' := #[iv p0, iv p1, iv p2, iv p3, iv p4, iv (0 : Int32), rv b104, rv b110, rv b123, iv k, rv b191, rv b191, rv b212, .unset]) rfl ?_
        show Steps p.tables e below (T219.setTop (mkF m 139 #[iv p0, iv p1, iv p2, iv p3, iv p4, iv (0 : Int32), rv b104, rv b110, rv b123, iv k, rv b191, rv b191, rv b212, .unset] [])) _
        refine XS.aload X219.here hx rfl (hb hby at_139) rfl rfl ?_
        show Steps p.tables e below (T219.setTop (mkF m 141 #[iv p0, iv p1, iv p2, iv p3, iv p4, iv (0 : Int32), rv b104, rv b110, rv b123, iv k, rv b191, rv b191, rv b212, .unset] [(.ref b212)])) _
        exact kont
      obtain ⟨cq227, kq227, q227a, q227b, q227c⟩ := isOf hZ rfl y221
      obtain ⟨_, _, ⟨T227, L227, k227, n227⟩, -, X227, ⟨Lc227, hQ227, l227, y227, z227⟩, st227⟩ := X219.virtualBack hx (y := (⟨"com/example/subsume/subsume/engine/Individual", "isAnonymous", "()Z"⟩ : MethodName)) (z := (⟨"com/example/subsume/subsume/engine/Individual", "isAnonymous", "()Z"⟩ : MethodName)) hown (mvT hZ (hw _ (List.mem_of_getElem? (i := 42) rfl))) (mvT hZ (hw _ (List.mem_of_getElem? (i := 43) rfl))) (notFace_of_selects (args := #[]) (mvT hZ (hw _ (List.mem_of_getElem? (i := 45) rfl)))) (mvT hZ (hw _ (List.mem_of_getElem? (i := 45) rfl))) (mvT hZ (hw _ (List.mem_of_getElem? (i := 44) rfl))) (by decide) (backOf (W := 0) (rm_isS l Z a0 hw [] b212 b191 T219.heap n0 O224 y222) hZ (hw _ (List.mem_of_getElem? (i := 46) rfl)) (hw _ (List.mem_of_getElem? (i := 33) rfl)) (by decide) (by decide)) q227a q227c (g := (mkF m 141 #[iv p0, iv p1, iv p2, iv p3, iv p4, iv (0 : Int32), rv b104, rv b110, rv b123, iv k, rv b191, rv b191, rv b212, .unset] [(.ref b212)])) rfl (by rw [hml]; rfl) (Steps.refl _) (argsL := []) (rest := []) (lenOf pd_6 rfl) rfl (by show 2 * 0 + _ ≤ _; exact Nat.le_of_eq rfl) (hb hby at_141) (fun _ _ => ⟨rfl, rfl, (by decide : 6 + 0 ≤ _), (by decide : 10 + 0 ≤ _)⟩)
      dsimp only [Pt.U, Pt.locs, Pt.cells, Pt.slots] at X227 l227 y227 z227 st227 hQ227
      subst l227 y227 z227
      obtain ⟨rfl, M227, e227⟩ := hQ227
      have N227 := Fr.app N219 M227
      have g228 : Go p e below T227 (mkF m 144 #[iv p0, iv p1, iv p2, iv p3, iv p4, iv (0 : Int32), rv b104, rv b110, rv b123, iv k, rv b191, rv b191, rv b212, .unset] [(.int (0 : Int32))]) A0 := fun t kont => g226 t (st227.trans kont)
      have g229 : Go p e below T227 (mkF m 157 #[iv p0, iv p1, iv p2, iv p3, iv p4, iv (0 : Int32), rv b104, rv b110, rv b123, iv k, rv b191, rv b191, rv b212, iv (0 : Int32)] [(.ref b212), (.int (0 : Int32))]) A0 := by
        intro t kont
        refine g228 t ?_
        refine XS.istore X227.here hx rfl (hb hby at_144) rfl (l' := #[iv p0, iv p1, iv p2, iv p3, iv p4, iv (0 : Int32), rv b104, rv b110, rv b123, iv k, rv b191, rv b191, rv b212, iv (0 : Int32)]) rfl ?_
        show Steps p.tables e below (T227.setTop (mkF m 146 #[iv p0, iv p1, iv p2, iv p3, iv p4, iv (0 : Int32), rv b104, rv b110, rv b123, iv k, rv b191, rv b191, rv b212, iv (0 : Int32)] [])) _
        refine XS.iload X227.here hx rfl (hb hby at_146) rfl ?_
        show Steps p.tables e below (T227.setTop (mkF m 148 #[iv p0, iv p1, iv p2, iv p3, iv p4, iv (0 : Int32), rv b104, rv b110, rv b123, iv k, rv b191, rv b191, rv b212, iv (0 : Int32)] [(.int (0 : Int32))])) _
        refine XS.iload X227.here hx rfl (hb hby at_148) rfl ?_
        show Steps p.tables e below (T227.setTop (mkF m 150 #[iv p0, iv p1, iv p2, iv p3, iv p4, iv (0 : Int32), rv b104, rv b110, rv b123, iv k, rv b191, rv b191, rv b212, iv (0 : Int32)] [(.int (0 : Int32)), (.int (0 : Int32))])) _
        refine XS.icmpNo X227.here hx rfl (hb hby at_150) rfl (teq (by decide : (0 : Int32) = (0 : Int32))).2 ?_
        show Steps p.tables e below (T227.setTop (mkF m 153 #[iv p0, iv p1, iv p2, iv p3, iv p4, iv (0 : Int32), rv b104, rv b110, rv b123, iv k, rv b191, rv b191, rv b212, iv (0 : Int32)] [])) _
        refine XS.iload X227.here hx rfl (hb hby at_153) rfl ?_
        show Steps p.tables e below (T227.setTop (mkF m 155 #[iv p0, iv p1, iv p2, iv p3, iv p4, iv (0 : Int32), rv b104, rv b110, rv b123, iv k, rv b191, rv b191, rv b212, iv (0 : Int32)] [(.int (0 : Int32))])) _
        refine XS.aload X227.here hx rfl (hb hby at_155) rfl rfl ?_
        show Steps p.tables e below (T227.setTop (mkF m 157 #[iv p0, iv p1, iv p2, iv p3, iv p4, iv (0 : Int32), rv b104, rv b110, rv b123, iv k, rv b191, rv b191, rv b212, iv (0 : Int32)] [(.ref b212), (.int (0 : Int32))])) _
        exact kont
      obtain ⟨cq230, kq230, q230a, q230b, q230c⟩ := isOf hZ e227 y221
      obtain ⟨_, _, ⟨T230, L230, k230, n230⟩, -, X230, ⟨Lc230, hQ230, l230, y230, z230⟩, st230⟩ := X227.virtualBack hx (y := (⟨"com/example/subsume/subsume/engine/Individual", "name", "()Ljava/lang/String;"⟩ : MethodName)) (z := (⟨"com/example/subsume/subsume/engine/Individual", "name", "()Ljava/lang/String;"⟩ : MethodName)) hown (mvT hZ (hw _ (List.mem_of_getElem? (i := 47) rfl))) (mvT hZ (hw _ (List.mem_of_getElem? (i := 48) rfl))) (notFace_of_selects (args := #[]) (mvT hZ (hw _ (List.mem_of_getElem? (i := 50) rfl)))) (mvT hZ (hw _ (List.mem_of_getElem? (i := 50) rfl))) (mvT hZ (hw _ (List.mem_of_getElem? (i := 49) rfl))) (by decide) (backOf (W := 1) (rm_nmS l Z a0 hw [] b212 b191 T219.heap n0 O224 y222) hZ (hw _ (List.mem_of_getElem? (i := 51) rfl)) (hw _ (List.mem_of_getElem? (i := 33) rfl)) (by decide) (by decide)) q230a q230c (g := (mkF m 157 #[iv p0, iv p1, iv p2, iv p3, iv p4, iv (0 : Int32), rv b104, rv b110, rv b123, iv k, rv b191, rv b191, rv b212, iv (0 : Int32)] [(.ref b212), (.int (0 : Int32))])) rfl (by rw [hml]; rfl) (Steps.refl _) (argsL := []) (rest := [(.int (0 : Int32))]) (lenOf pd_7 rfl) rfl (by show 2 * 0 + _ ≤ _; exact Nat.le_of_eq rfl) (hb hby at_157) (fun _ _ => ⟨rfl, e227, (by decide : 6 + 0 ≤ _), (by decide : 10 + 0 ≤ _)⟩)
      dsimp only [Pt.U, Pt.locs, Pt.cells, Pt.slots] at X230 l230 y230 z230 st230 hQ230
      subst l230 y230 z230
      obtain ⟨rfl, M230, e230⟩ := hQ230
      have N230 := Fr.app N227 M230
      have g231 : Go p e below T230 (mkF m 160 #[iv p0, iv p1, iv p2, iv p3, iv p4, iv (0 : Int32), rv b104, rv b110, rv b123, iv k, rv b191, rv b191, rv b212, iv (0 : Int32)] [(.ref b191), (.int (0 : Int32))]) A0 := fun t kont => g229 t (st230.trans kont)
      have g232 : Go p e below T230 (mkF m 176 #[iv p0, iv p1, iv p2, iv p3, iv p4, iv (0 : Int32), rv b104, rv b110, rv b123, iv k, rv b191, rv b191, rv b212, iv (0 : Int32)] [(.int (1 : Int32))]) A0 := by
        intro t kont
        refine g231 t ?_
        refine XS.ifnonnullYes X230.here hx rfl (pc0 := 160) (pc' := 167) rfl (hb hby at_160) rfl (by decide) (by decide) ?_
        show Steps p.tables e below (T230.setTop (mkF m 167 #[iv p0, iv p1, iv p2, iv p3, iv p4, iv (0 : Int32), rv b104, rv b110, rv b123, iv k, rv b191, rv b191, rv b212, iv (0 : Int32)] [(.int (0 : Int32))])) _
        refine XS.iconst X230.here hx rfl (hb hby at_167) ?_
        show Steps p.tables e below (T230.setTop (mkF m 168 #[iv p0, iv p1, iv p2, iv p3, iv p4, iv (0 : Int32), rv b104, rv b110, rv b123, iv k, rv b191, rv b191, rv b212, iv (0 : Int32)] [(.int (0 : Int32)), (.int (0 : Int32))])) _
        refine XS.icmpNo X230.here hx rfl (hb hby at_168) rfl (teq (by decide : (0 : Int32) = (0 : Int32))).2 ?_
        show Steps p.tables e below (T230.setTop (mkF m 171 #[iv p0, iv p1, iv p2, iv p3, iv p4, iv (0 : Int32), rv b104, rv b110, rv b123, iv k, rv b191, rv b191, rv b212, iv (0 : Int32)] [])) _
        refine XS.iconst X230.here hx rfl (hb hby at_171) ?_
        show Steps p.tables e below (T230.setTop (mkF m 172 #[iv p0, iv p1, iv p2, iv p3, iv p4, iv (0 : Int32), rv b104, rv b110, rv b123, iv k, rv b191, rv b191, rv b212, iv (0 : Int32)] [(.int (1 : Int32))])) _
        refine XS.goto X230.here hx rfl (pc0 := 172) (pc' := 176) rfl (hb hby at_172) (by decide) (by decide) ?_
        show Steps p.tables e below (T230.setTop (mkF m 176 #[iv p0, iv p1, iv p2, iv p3, iv p4, iv (0 : Int32), rv b104, rv b110, rv b123, iv k, rv b191, rv b191, rv b212, iv (0 : Int32)] [(.int (1 : Int32))])) _
        exact kont
      obtain ⟨fs, hr, hrun, hended, hRW⟩ := X230.leaveW hS (by rw [e230]; exact (Nat.le_trans hk (Nat.le_trans (Nat.le_trans (Nat.le_trans (Nat.le_trans (Nat.le_trans (Nat.le_trans (Nat.le_trans (Nat.le_trans (Nat.le_trans E104.1 E110.1) (Keep.of_wr W116).1) E123.1) (Keep.of_wr W129).1) (Keep.of_wr W136).1) E191.1) K198.1) E212.1) K219.1))) (v := some (.int (1 : Int32))) (fun h => by rw [Bd.returns] at h; cases h)
      refine ⟨_, _, g232 _ (retN X230 hx (t := .boolean) Bd.returns (by simp) (hb hby at_176) hr), hrun, hended, _, _, rfl, ?_, ?_, hRW.1, hRW.2.1, hRW.2.2.1, hRW.2.2.2.mono (by decide) (by decide)⟩
      ·
        show Q_law Z p0 p1 p2 p3 p4 i_COMPACT_STRINGS h0 n0 _ T230.heap _
        rw [e230]
        exact ⟨rfl, N230⟩
      ·
        rw [hh]
        show CHr Z consts_1 s.vm h0 T230.vm T230.heap
        rw [e230]
        exact R223.trans (CHv.at X230 hZ (own_EW hw) R223.1)
    have g233 : Go p e below T136 (mkF m 102 #[iv p0, iv p1, iv p2, iv p3, iv p4, iv (0 : Int32), rv b104, rv b110, rv b123, iv k, .unset, .unset, .unset, .unset] []) A0 := by
      intro t kont
      refine g189 t ?_
      refine XS.icmpYes X136.here hx rfl (pc0 := 85) (pc' := 102) rfl (hb hby at_85) rfl (feq c188).2 (by decide) (by decide) ?_
      show Steps p.tables e below (T136.setTop (mkF m 102 #[iv p0, iv p1, iv p2, iv p3, iv p4, iv (0 : Int32), rv b104, rv b110, rv b123, iv k, .unset, .unset, .unset, .unset] [])) _
      exact kont
    obtain ⟨T234, h234, X234, e234, E234, A234, D234, -, st234⟩ := newO X136 hx hZ hown (hw _ (List.mem_of_getElem? (i := 2) rfl)) (hw _ (List.mem_of_getElem? (i := 3) rfl)) (hw _ (List.mem_of_getElem? (i := 4) rfl)) e136 (g := (mkF m 102 #[iv p0, iv p1, iv p2, iv p3, iv p4, iv (0 : Int32), rv b104, rv b110, rv b123, iv k, .unset, .unset, .unset, .unset] [])) rfl (hb hby at_102) (by decide) (by decide)
    obtain ⟨b234, gb234⟩ : ∃ z, z = h136.size := ⟨_, rfl⟩
    rw [← gb234] at A234 D234 st234
    have R235 : CHr Z consts_1 s.vm h0 s.vm h234 := R137.trans (CHr.ext E234 R137.1)
    have O236 := O139.ext E234
    have y237 : Fld Z h234 b234 "java/lang/String" "coder" "B" (.int (0 : Int32)) := D234 (Or.inr (hw _ (List.mem_of_getElem? (i := 28) rfl))) (ty := .byte) (by decide)
    have y238 : Fld Z h234 b234 "java/lang/String" "value" "[B" .null := D234 (Or.inr (hw _ (List.mem_of_getElem? (i := 30) rfl))) (ty := (.array .byte)) (by decide)
    have g239 : Go p e below T234 (mkF m 105 #[iv p0, iv p1, iv p2, iv p3, iv p4, iv (0 : Int32), rv b104, rv b110, rv b123, iv k, .unset, .unset, .unset, .unset] [(.ref b234)]) A0 := fun t kont => g233 t (st234 t kont)
    have g240 : Go p e below T234 (mkF m 108 #[iv p0, iv p1, iv p2, iv p3, iv p4, iv (0 : Int32), rv b104, rv b110, rv b123, iv k, .unset, .unset, .unset, .unset] [(.ref b123), (.ref b234), (.ref b234)]) A0 := by
      intro t kont
      refine g239 t ?_
      refine XS.dup X234.here hx rfl (hb hby at_105) rfl rfl ?_
      show Steps p.tables e below (T234.setTop (mkF m 106 #[iv p0, iv p1, iv p2, iv p3, iv p4, iv (0 : Int32), rv b104, rv b110, rv b123, iv k, .unset, .unset, .unset, .unset] [(.ref b234), (.ref b234)])) _
      refine XS.aload X234.here hx rfl (hb hby at_106) rfl rfl ?_
      show Steps p.tables e below (T234.setTop (mkF m 108 #[iv p0, iv p1, iv p2, iv p3, iv p4, iv (0 : Int32), rv b104, rv b110, rv b123, iv k, .unset, .unset, .unset, .unset] [(.ref b123), (.ref b234), (.ref b234)])) _
      exact kont
    have y242 : Arv Z h234 b123 k123 .char (2 : Int32) [(.int ((p1 &&& (255 : Int32)).toUInt32.toUInt16.toUInt32.toInt32)), (.int ((p2 &&& (255 : Int32)).toUInt32.toUInt16.toUInt32.toInt32))] (.int (0 : Int32)) := (y140.ext E234)
    have ge243 : n0 ≤ b234 := Nat.le_trans (own_old_le O139) (Nat.le_of_eq gb234.symm)
    obtain ⟨_, _, ⟨T241, L241, k241, n241⟩, -, X241, ⟨Lc241, hQ241, l241, y241, z241⟩, st241⟩ := X234.specialBack hx (y := (⟨"java/lang/String", "<init>", "([C)V"⟩ : MethodName)) rfl hown (mvT hZ (hw _ (List.mem_of_getElem? (i := 5) rfl))) (mvT hZ (hw _ (List.mem_of_getElem? (i := 6) rfl))) (mvT hZ (hw _ (List.mem_of_getElem? (i := 7) rfl))) (by decide) (backOf (W := 1) (rm_sIni2 l Z a0 hw [] b234 b123 k123 ((p1 &&& (255 : Int32)).toUInt32.toUInt16.toUInt32.toInt32) ((p2 &&& (255 : Int32)).toUInt32.toUInt16.toUInt32.toInt32) i_COMPACT_STRINGS h234 n0 O236 y238 y237 A234 ge243 y242 (own_c255 p1) (own_c255 p2) S0_ hcs) hZ (hw _ (List.mem_of_getElem? (i := 7) rfl)) (hw _ (List.mem_of_getElem? (i := 4) rfl)) (by decide) (by decide)) (g := (mkF m 108 #[iv p0, iv p1, iv p2, iv p3, iv p4, iv (0 : Int32), rv b104, rv b110, rv b123, iv k, .unset, .unset, .unset, .unset] [(.ref b123), (.ref b234), (.ref b234)])) rfl (by rw [hml]; rfl) (Steps.refl _) (a := b234) (argsL := [(.ref b123)]) (rest := [(.ref b234)]) (lenOf pd_4 rfl) rfl (by show 2 * 0 + _ ≤ _; exact Nat.le_of_eq rfl) (hb hby at_108) (fun _ _ => ⟨rfl, e234, (by decide : 4 + 1 ≤ _), (by decide : 7 + 2 ≤ _)⟩)
    dsimp only [Pt.U, Pt.locs, Pt.cells, Pt.slots] at X241 l241 y241 z241 st241 hQ241
    subst l241 y241 z241
    obtain ⟨r244, r245, rfl, M241, K241, y246, y247, y248, y249, y250⟩ := hQ241
    have N241 := Fr.app N136 M241
    have R251 : CHr Z consts_1 s.vm h0 s.vm T241.heap := R235.trans (CHr.keep K241 (sfS (Safe.ext E234 R137.1 (Safe.new (Nat.le_of_eq gb234.symm))) sf0) R235.1)
    have O252 := O236.keep K241 (allS ge243 all0)
    have g253 : Go p e below T241 (mkF m 111 #[iv p0, iv p1, iv p2, iv p3, iv p4, iv (0 : Int32), rv b104, rv b110, rv b123, iv k, .unset, .unset, .unset, .unset] [(.ref b234)]) A0 := fun t kont => g240 t (st241.trans kont)
    have g254 : Go p e below T241 (mkF m 126 #[iv p0, iv p1, iv p2, iv p3, iv p4, iv (0 : Int32), rv b104, rv b110, rv b123, iv k, rv b234, rv b234, .unset, .unset] []) A0 := by
      intro t kont
      refine g253 t ?_
      refine XS.astore X241.here hx rfl (hb hby at_111) rfl rfl (l' := #[iv p0, iv p1, iv p2, iv p3, iv p4, iv (0 : Int32), rv b104, rv b110, rv b123, iv k, rv b234, .unset, .unset, .unset]) rfl ?_
      show Steps p.tables e below (T241.setTop (mkF m 113 #[iv p0, iv p1, iv p2, iv p3, iv p4, iv (0 : Int32), rv b104, rv b110, rv b123, iv k, rv b234, .unset, .unset, .unset] [])) _
      refine XS.iload X241.here hx rfl (hb hby at_113) rfl ?_
      show Steps p.tables e below (T241.setTop (mkF m 115 #[iv p0, iv p1, iv p2, iv p3, iv p4, iv (0 : Int32), rv b104, rv b110, rv b123, iv k, rv b234, .unset, .unset, .unset] [(.int (0 : Int32))])) _
      refine XS.ifYes X241.here hx rfl (pc0 := 115) (pc' := 122) rfl (hb hby at_115) rfl ((if0 _ _).trans (teq (by decide : (0 : Int32) = (0 : Int32))).1) (by decide) (by decide) ?_
      show Steps p.tables e below (T241.setTop (mkF m 122 #[iv p0, iv p1, iv p2, iv p3, iv p4, iv (0 : Int32), rv b104, rv b110, rv b123, iv k, rv b234, .unset, .unset, .unset] [])) _
      refine XS.aload X241.here hx rfl (hb hby at_122) rfl rfl ?_
      show Steps p.tables e below (T241.setTop (mkF m 124 #[iv p0, iv p1, iv p2, iv p3, iv p4, iv (0 : Int32), rv b104, rv b110, rv b123, iv k, rv b234, .unset, .unset, .unset] [(.ref b234)])) _
      refine XS.astore X241.here hx rfl (hb hby at_124) rfl rfl (l' := #[iv p0, iv p1, iv p2, iv p3, iv p4, iv (0 : Int32), rv b104, rv b110, rv b123, iv k, rv b234, rv b234, .unset, .unset]) rfl ?_
      show Steps p.tables e below (T241.setTop (mkF m 126 #[iv p0, iv p1, iv p2, iv p3, iv p4, iv (0 : Int32), rv b104, rv b110, rv b123, iv k, rv b234, rv b234, .unset, .unset] [])) _
      exact kont
    obtain ⟨T255, h255, X255, e255, E255, A255, D255, -, st255⟩ := newO X241 hx hZ hown (hw _ (List.mem_of_getElem? (i := 31) rfl)) (hw _ (List.mem_of_getElem? (i := 32) rfl)) (hw _ (List.mem_of_getElem? (i := 33) rfl)) rfl (g := (mkF m 126 #[iv p0, iv p1, iv p2, iv p3, iv p4, iv (0 : Int32), rv b104, rv b110, rv b123, iv k, rv b234, rv b234, .unset, .unset] [])) rfl (hb hby at_126) (by decide) (by decide)
    obtain ⟨b255, gb255⟩ : ∃ z, z = T241.heap.size := ⟨_, rfl⟩
    rw [← gb255] at A255 D255 st255
    have R256 : CHr Z consts_1 s.vm h0 s.vm h255 := R251.trans (CHr.ext E255 R251.1)
    have O257 := O252.ext E255
    have y258 : Fld Z h255 b255 "com/example/subsume/subsume/engine/Individual" "name" "Ljava/lang/String;" .null := D255 (Or.inr (hw _ (List.mem_of_getElem? (i := 39) rfl))) (ty := (.object "java/lang/String")) (by decide)
    have y259 : Fld Z h255 b255 "com/example/subsume/subsume/engine/Individual" "id" "I" (.int (0 : Int32)) := D255 (Or.inr (hw _ (List.mem_of_getElem? (i := 41) rfl))) (ty := .int) (by decide)
    have g260 : Go p e below T255 (mkF m 129 #[iv p0, iv p1, iv p2, iv p3, iv p4, iv (0 : Int32), rv b104, rv b110, rv b123, iv k, rv b234, rv b234, .unset, .unset] [(.ref b255)]) A0 := fun t kont => g254 t (st255 t kont)
    have g261 : Go p e below T255 (mkF m 134 #[iv p0, iv p1, iv p2, iv p3, iv p4, iv (0 : Int32), rv b104, rv b110, rv b123, iv k, rv b234, rv b234, .unset, .unset] [(.int p4), (.ref b234), (.ref b255), (.ref b255)]) A0 := by
      intro t kont
      refine g260 t ?_
      refine XS.dup X255.here hx rfl (hb hby at_129) rfl rfl ?_
      show Steps p.tables e below (T255.setTop (mkF m 130 #[iv p0, iv p1, iv p2, iv p3, iv p4, iv (0 : Int32), rv b104, rv b110, rv b123, iv k, rv b234, rv b234, .unset, .unset] [(.ref b255), (.ref b255)])) _
      refine XS.aload X255.here hx rfl (hb hby at_130) rfl rfl ?_
      show Steps p.tables e below (T255.setTop (mkF m 132 #[iv p0, iv p1, iv p2, iv p3, iv p4, iv (0 : Int32), rv b104, rv b110, rv b123, iv k, rv b234, rv b234, .unset, .unset] [(.ref b234), (.ref b255), (.ref b255)])) _
      refine XS.iload X255.here hx rfl (hb hby at_132) rfl ?_
      show Steps p.tables e below (T255.setTop (mkF m 134 #[iv p0, iv p1, iv p2, iv p3, iv p4, iv (0 : Int32), rv b104, rv b110, rv b123, iv k, rv b234, rv b234, .unset, .unset] [(.int p4), (.ref b234), (.ref b255), (.ref b255)])) _
      exact kont
    have ge263 : n0 ≤ b255 := Nat.le_trans (own_old_le O252) (Nat.le_of_eq gb255.symm)
    obtain ⟨_, _, ⟨T262, L262, k262, n262⟩, -, X262, ⟨Lc262, hQ262, l262, y262, z262⟩, st262⟩ := X255.specialBack hx (y := (⟨"com/example/subsume/subsume/engine/Individual", "<init>", "(Ljava/lang/String;I)V"⟩ : MethodName)) rfl hown (mvT hZ (hw _ (List.mem_of_getElem? (i := 34) rfl))) (mvT hZ (hw _ (List.mem_of_getElem? (i := 35) rfl))) (mvT hZ (hw _ (List.mem_of_getElem? (i := 36) rfl))) (by decide) (backOf (W := 1) (rm_indI l Z a0 hw [] b255 (.ref b234) p4 h255 n0 O257 (rfl) y258 y259 A255 ge263) hZ (hw _ (List.mem_of_getElem? (i := 36) rfl)) (hw _ (List.mem_of_getElem? (i := 33) rfl)) (by decide) (by decide)) (g := (mkF m 134 #[iv p0, iv p1, iv p2, iv p3, iv p4, iv (0 : Int32), rv b104, rv b110, rv b123, iv k, rv b234, rv b234, .unset, .unset] [(.int p4), (.ref b234), (.ref b255), (.ref b255)])) rfl (by rw [hml]; rfl) (Steps.refl _) (a := b255) (argsL := [(.ref b234), (.int p4)]) (rest := [(.ref b255)]) (lenOf pd_5 rfl) rfl (by show 2 * 0 + _ ≤ _; exact Nat.le_of_eq rfl) (hb hby at_134) (fun _ _ => ⟨rfl, e255, (by decide : 6 + 0 ≤ _), (by decide : 11 + 0 ≤ _)⟩)
    dsimp only [Pt.U, Pt.locs, Pt.cells, Pt.slots] at X262 l262 y262 z262 st262 hQ262
    subst l262 y262 z262
    obtain ⟨rfl, M262, K262, y264, y265⟩ := hQ262
    have N262 := Fr.app N241 M262
    have R266 : CHr Z consts_1 s.vm h0 s.vm T262.heap := R256.trans (CHr.keep K262 (sfS (Safe.ext E255 R251.1 (Safe.new (Nat.le_of_eq gb255.symm))) sf0) R256.1)
    have O267 := O257.keep K262 (allS ge263 all0)
    have g268 : Go p e below T262 (mkF m 137 #[iv p0, iv p1, iv p2, iv p3, iv p4, iv (0 : Int32), rv b104, rv b110, rv b123, iv k, rv b234, rv b234, .unset, .unset] [(.ref b255)]) A0 := fun t kont => g261 t (st262.trans kont)
    have g269 : Go p e below T262 (mkF m 141 #[iv p0, iv p1, iv p2, iv p3, iv p4, iv (0 : Int32), rv b104, rv b110, rv b123, iv k, rv b234, rv b234, rv b255, .unset] [(.ref b255)]) A0 := by
      intro t kont
      refine g268 t ?_
      refine XS.astore X262.here hx rfl (hb hby at_137) rfl rfl (l' := #[iv p0, iv p1, iv p2, iv p3, iv p4, iv (0 : Int32), rv b104, rv b110, rv b123, iv k, rv b234, rv b234, rv b255, .unset]) rfl ?_
      show Steps p.tables e below (T262.setTop (mkF m 139 #[iv p0, iv p1, iv p2, iv p3, iv p4, iv (0 : Int32), rv b104, rv b110, rv b123, iv k, rv b234, rv b234, rv b255, .unset] [])) _
      refine XS.aload X262.here hx rfl (hb hby at_139) rfl rfl ?_
      show Steps p.tables e below (T262.setTop (mkF m 141 #[iv p0, iv p1, iv p2, iv p3, iv p4, iv (0 : Int32), rv b104, rv b110, rv b123, iv k, rv b234, rv b234, rv b255, .unset] [(.ref b255)])) _
      exact kont
    obtain ⟨cq270, kq270, q270a, q270b, q270c⟩ := isOf hZ rfl y264
    obtain ⟨_, _, ⟨T270, L270, k270, n270⟩, -, X270, ⟨Lc270, hQ270, l270, y270, z270⟩, st270⟩ := X262.virtualBack hx (y := (⟨"com/example/subsume/subsume/engine/Individual", "isAnonymous", "()Z"⟩ : MethodName)) (z := (⟨"com/example/subsume/subsume/engine/Individual", "isAnonymous", "()Z"⟩ : MethodName)) hown (mvT hZ (hw _ (List.mem_of_getElem? (i := 42) rfl))) (mvT hZ (hw _ (List.mem_of_getElem? (i := 43) rfl))) (notFace_of_selects (args := #[]) (mvT hZ (hw _ (List.mem_of_getElem? (i := 45) rfl)))) (mvT hZ (hw _ (List.mem_of_getElem? (i := 45) rfl))) (mvT hZ (hw _ (List.mem_of_getElem? (i := 44) rfl))) (by decide) (backOf (W := 0) (rm_isS l Z a0 hw [] b255 b234 T262.heap n0 O267 y265) hZ (hw _ (List.mem_of_getElem? (i := 46) rfl)) (hw _ (List.mem_of_getElem? (i := 33) rfl)) (by decide) (by decide)) q270a q270c (g := (mkF m 141 #[iv p0, iv p1, iv p2, iv p3, iv p4, iv (0 : Int32), rv b104, rv b110, rv b123, iv k, rv b234, rv b234, rv b255, .unset] [(.ref b255)])) rfl (by rw [hml]; rfl) (Steps.refl _) (argsL := []) (rest := []) (lenOf pd_6 rfl) rfl (by show 2 * 0 + _ ≤ _; exact Nat.le_of_eq rfl) (hb hby at_141) (fun _ _ => ⟨rfl, rfl, (by decide : 6 + 0 ≤ _), (by decide : 11 + 0 ≤ _)⟩)
    dsimp only [Pt.U, Pt.locs, Pt.cells, Pt.slots] at X270 l270 y270 z270 st270 hQ270
    subst l270 y270 z270
    obtain ⟨rfl, M270, e270⟩ := hQ270
    have N270 := Fr.app N262 M270
    have g271 : Go p e below T270 (mkF m 144 #[iv p0, iv p1, iv p2, iv p3, iv p4, iv (0 : Int32), rv b104, rv b110, rv b123, iv k, rv b234, rv b234, rv b255, .unset] [(.int (0 : Int32))]) A0 := fun t kont => g269 t (st270.trans kont)
    have g272 : Go p e below T270 (mkF m 157 #[iv p0, iv p1, iv p2, iv p3, iv p4, iv (0 : Int32), rv b104, rv b110, rv b123, iv k, rv b234, rv b234, rv b255, iv (0 : Int32)] [(.ref b255), (.int (0 : Int32))]) A0 := by
      intro t kont
      refine g271 t ?_
      refine XS.istore X270.here hx rfl (hb hby at_144) rfl (l' := #[iv p0, iv p1, iv p2, iv p3, iv p4, iv (0 : Int32), rv b104, rv b110, rv b123, iv k, rv b234, rv b234, rv b255, iv (0 : Int32)]) rfl ?_
      show Steps p.tables e below (T270.setTop (mkF m 146 #[iv p0, iv p1, iv p2, iv p3, iv p4, iv (0 : Int32), rv b104, rv b110, rv b123, iv k, rv b234, rv b234, rv b255, iv (0 : Int32)] [])) _
      refine XS.iload X270.here hx rfl (hb hby at_146) rfl ?_
      show Steps p.tables e below (T270.setTop (mkF m 148 #[iv p0, iv p1, iv p2, iv p3, iv p4, iv (0 : Int32), rv b104, rv b110, rv b123, iv k, rv b234, rv b234, rv b255, iv (0 : Int32)] [(.int (0 : Int32))])) _
      refine XS.iload X270.here hx rfl (hb hby at_148) rfl ?_
      show Steps p.tables e below (T270.setTop (mkF m 150 #[iv p0, iv p1, iv p2, iv p3, iv p4, iv (0 : Int32), rv b104, rv b110, rv b123, iv k, rv b234, rv b234, rv b255, iv (0 : Int32)] [(.int (0 : Int32)), (.int (0 : Int32))])) _
      refine XS.icmpNo X270.here hx rfl (hb hby at_150) rfl (teq (by decide : (0 : Int32) = (0 : Int32))).2 ?_
      show Steps p.tables e below (T270.setTop (mkF m 153 #[iv p0, iv p1, iv p2, iv p3, iv p4, iv (0 : Int32), rv b104, rv b110, rv b123, iv k, rv b234, rv b234, rv b255, iv (0 : Int32)] [])) _
      refine XS.iload X270.here hx rfl (hb hby at_153) rfl ?_
      show Steps p.tables e below (T270.setTop (mkF m 155 #[iv p0, iv p1, iv p2, iv p3, iv p4, iv (0 : Int32), rv b104, rv b110, rv b123, iv k, rv b234, rv b234, rv b255, iv (0 : Int32)] [(.int (0 : Int32))])) _
      refine XS.aload X270.here hx rfl (hb hby at_155) rfl rfl ?_
      show Steps p.tables e below (T270.setTop (mkF m 157 #[iv p0, iv p1, iv p2, iv p3, iv p4, iv (0 : Int32), rv b104, rv b110, rv b123, iv k, rv b234, rv b234, rv b255, iv (0 : Int32)] [(.ref b255), (.int (0 : Int32))])) _
      exact kont
    obtain ⟨cq273, kq273, q273a, q273b, q273c⟩ := isOf hZ e270 y264
    obtain ⟨_, _, ⟨T273, L273, k273, n273⟩, -, X273, ⟨Lc273, hQ273, l273, y273, z273⟩, st273⟩ := X270.virtualBack hx (y := (⟨"com/example/subsume/subsume/engine/Individual", "name", "()Ljava/lang/String;"⟩ : MethodName)) (z := (⟨"com/example/subsume/subsume/engine/Individual", "name", "()Ljava/lang/String;"⟩ : MethodName)) hown (mvT hZ (hw _ (List.mem_of_getElem? (i := 47) rfl))) (mvT hZ (hw _ (List.mem_of_getElem? (i := 48) rfl))) (notFace_of_selects (args := #[]) (mvT hZ (hw _ (List.mem_of_getElem? (i := 50) rfl)))) (mvT hZ (hw _ (List.mem_of_getElem? (i := 50) rfl))) (mvT hZ (hw _ (List.mem_of_getElem? (i := 49) rfl))) (by decide) (backOf (W := 1) (rm_nmS l Z a0 hw [] b255 b234 T262.heap n0 O267 y265) hZ (hw _ (List.mem_of_getElem? (i := 51) rfl)) (hw _ (List.mem_of_getElem? (i := 33) rfl)) (by decide) (by decide)) q273a q273c (g := (mkF m 157 #[iv p0, iv p1, iv p2, iv p3, iv p4, iv (0 : Int32), rv b104, rv b110, rv b123, iv k, rv b234, rv b234, rv b255, iv (0 : Int32)] [(.ref b255), (.int (0 : Int32))])) rfl (by rw [hml]; rfl) (Steps.refl _) (argsL := []) (rest := [(.int (0 : Int32))]) (lenOf pd_7 rfl) rfl (by show 2 * 0 + _ ≤ _; exact Nat.le_of_eq rfl) (hb hby at_157) (fun _ _ => ⟨rfl, e270, (by decide : 6 + 0 ≤ _), (by decide : 11 + 0 ≤ _)⟩)
    dsimp only [Pt.U, Pt.locs, Pt.cells, Pt.slots] at X273 l273 y273 z273 st273 hQ273
    subst l273 y273 z273
    obtain ⟨rfl, M273, e273⟩ := hQ273
    have N273 := Fr.app N270 M273
    have g274 : Go p e below T273 (mkF m 160 #[iv p0, iv p1, iv p2, iv p3, iv p4, iv (0 : Int32), rv b104, rv b110, rv b123, iv k, rv b234, rv b234, rv b255, iv (0 : Int32)] [(.ref b234), (.int (0 : Int32))]) A0 := fun t kont => g272 t (st273.trans kont)
    have g275 : Go p e below T273 (mkF m 176 #[iv p0, iv p1, iv p2, iv p3, iv p4, iv (0 : Int32), rv b104, rv b110, rv b123, iv k, rv b234, rv b234, rv b255, iv (0 : Int32)] [(.int (1 : Int32))]) A0 := by
      intro t kont
      refine g274 t ?_
      refine XS.ifnonnullYes X273.here hx rfl (pc0 := 160) (pc' := 167) rfl (hb hby at_160) rfl (by decide) (by decide) ?_
      show Steps p.tables e below (T273.setTop (mkF m 167 #[iv p0, iv p1, iv p2, iv p3, iv p4, iv (0 : Int32), rv b104, rv b110, rv b123, iv k, rv b234, rv b234, rv b255, iv (0 : Int32)] [(.int (0 : Int32))])) _
      refine XS.iconst X273.here hx rfl (hb hby at_167) ?_
      show Steps p.tables e below (T273.setTop (mkF m 168 #[iv p0, iv p1, iv p2, iv p3, iv p4, iv (0 : Int32), rv b104, rv b110, rv b123, iv k, rv b234, rv b234, rv b255, iv (0 : Int32)] [(.int (0 : Int32)), (.int (0 : Int32))])) _
      refine XS.icmpNo X273.here hx rfl (hb hby at_168) rfl (teq (by decide : (0 : Int32) = (0 : Int32))).2 ?_
      show Steps p.tables e below (T273.setTop (mkF m 171 #[iv p0, iv p1, iv p2, iv p3, iv p4, iv (0 : Int32), rv b104, rv b110, rv b123, iv k, rv b234, rv b234, rv b255, iv (0 : Int32)] [])) _
      refine XS.iconst X273.here hx rfl (hb hby at_171) ?_
      show Steps p.tables e below (T273.setTop (mkF m 172 #[iv p0, iv p1, iv p2, iv p3, iv p4, iv (0 : Int32), rv b104, rv b110, rv b123, iv k, rv b234, rv b234, rv b255, iv (0 : Int32)] [(.int (1 : Int32))])) _
      refine XS.goto X273.here hx rfl (pc0 := 172) (pc' := 176) rfl (hb hby at_172) (by decide) (by decide) ?_
      show Steps p.tables e below (T273.setTop (mkF m 176 #[iv p0, iv p1, iv p2, iv p3, iv p4, iv (0 : Int32), rv b104, rv b110, rv b123, iv k, rv b234, rv b234, rv b255, iv (0 : Int32)] [(.int (1 : Int32))])) _
      exact kont
    obtain ⟨fs, hr, hrun, hended, hRW⟩ := X273.leaveW hS (by rw [e273]; exact (Nat.le_trans hk (Nat.le_trans (Nat.le_trans (Nat.le_trans (Nat.le_trans (Nat.le_trans (Nat.le_trans (Nat.le_trans (Nat.le_trans (Nat.le_trans E104.1 E110.1) (Keep.of_wr W116).1) E123.1) (Keep.of_wr W129).1) (Keep.of_wr W136).1) E234.1) K241.1) E255.1) K262.1))) (v := some (.int (1 : Int32))) (fun h => by rw [Bd.returns] at h; cases h)
    refine ⟨_, _, g275 _ (retN X273 hx (t := .boolean) Bd.returns (by simp) (hb hby at_176) hr), hrun, hended, _, _, rfl, ?_, ?_, hRW.1, hRW.2.1, hRW.2.2.1, hRW.2.2.2.mono (by decide) (by decide)⟩
    ·
      show Q_law Z p0 p1 p2 p3 p4 i_COMPACT_STRINGS h0 n0 _ T273.heap _
      rw [e273]
      exact ⟨rfl, N273⟩
    ·
      rw [hh]
      show CHr Z consts_1 s.vm h0 T273.vm T273.heap
      rw [e273]
      exact R266.trans (CHv.at X273 hZ (own_EW hw) R266.1)
  have g276 : Go p e below s₁ (mkF m 14 #[iv p0, iv p1, iv p2, iv p3, iv p4, iv (1 : Int32), .unset, .unset, .unset, .unset, .unset, .unset, .unset, .unset] [(.int (0 : Int32))]) A0 := by
    intro t kont
    refine g102 t ?_
    refine XS.ifNo X0.here hx rfl (hb hby at_3) rfl ((if0 _ _).trans (feq c101).1) ?_
    show Steps p.tables e below (s₁.setTop (mkF m 6 #[iv p0, iv p1, iv p2, iv p3, iv p4, .unset, .unset, .unset, .unset, .unset, .unset, .unset, .unset, .unset] [])) _
    refine XS.iconst X0.here hx rfl (hb hby at_6) ?_
    show Steps p.tables e below (s₁.setTop (mkF m 7 #[iv p0, iv p1, iv p2, iv p3, iv p4, .unset, .unset, .unset, .unset, .unset, .unset, .unset, .unset, .unset] [(.int (1 : Int32))])) _
    refine XS.goto X0.here hx rfl (pc0 := 7) (pc' := 11) rfl (hb hby at_7) (by decide) (by decide) ?_
    show Steps p.tables e below (s₁.setTop (mkF m 11 #[iv p0, iv p1, iv p2, iv p3, iv p4, .unset, .unset, .unset, .unset, .unset, .unset, .unset, .unset, .unset] [(.int (1 : Int32))])) _
    refine XS.istore X0.here hx rfl (hb hby at_11) rfl (l' := #[iv p0, iv p1, iv p2, iv p3, iv p4, iv (1 : Int32), .unset, .unset, .unset, .unset, .unset, .unset, .unset, .unset]) rfl ?_
    show Steps p.tables e below (s₁.setTop (mkF m 13 #[iv p0, iv p1, iv p2, iv p3, iv p4, iv (1 : Int32), .unset, .unset, .unset, .unset, .unset, .unset, .unset, .unset] [])) _
    refine XS.iconst X0.here hx rfl (hb hby at_13) ?_
    show Steps p.tables e below (s₁.setTop (mkF m 14 #[iv p0, iv p1, iv p2, iv p3, iv p4, iv (1 : Int32), .unset, .unset, .unset, .unset, .unset, .unset, .unset, .unset] [(.int (0 : Int32))])) _
    exact kont
  obtain ⟨T277, h277, k277, X277, e277, E277, A277, F277, st277⟩ := newPE X0 hx hZ (hw _ (List.mem_of_getElem? (i := 0) rfl)) e0 (g := (mkF m 14 #[iv p0, iv p1, iv p2, iv p3, iv p4, iv (1 : Int32), .unset, .unset, .unset, .unset, .unset, .unset, .unset, .unset] [(.int (0 : Int32))])) rfl (hb hby at_14) rfl (by decide) (cap := 0) (by decide) (by decide) (by decide) (by decide) (ad := "[C") (by decide)
  obtain ⟨b277, gb277⟩ : ∃ z, z = h0.size := ⟨_, rfl⟩
  rw [← gb277] at A277 F277 st277
  have R278 : CHr Z consts_1 s.vm h0 s.vm h277 := R0.trans (CHr.ext E277 R0.1)
  have O279 := O0.ext E277
  have y280 : Arv Z h277 b277 k277 .char (0 : Int32) [] (.int (0 : Int32)) := Arv.new A277 (by decide)
  have g281 : Go p e below T277 (mkF m 16 #[iv p0, iv p1, iv p2, iv p3, iv p4, iv (1 : Int32), .unset, .unset, .unset, .unset, .unset, .unset, .unset, .unset] [(.ref b277)]) A0 := fun t kont => g276 t (st277 t kont)
  have g282 : Go p e below T277 (mkF m 19 #[iv p0, iv p1, iv p2, iv p3, iv p4, iv (1 : Int32), rv b277, .unset, .unset, .unset, .unset, .unset, .unset, .unset] [(.int (1 : Int32))]) A0 := by
    intro t kont
    refine g281 t ?_
    refine XS.astore X277.here hx rfl (hb hby at_16) rfl rfl (l' := #[iv p0, iv p1, iv p2, iv p3, iv p4, iv (1 : Int32), rv b277, .unset, .unset, .unset, .unset, .unset, .unset, .unset]) rfl ?_
    show Steps p.tables e below (T277.setTop (mkF m 18 #[iv p0, iv p1, iv p2, iv p3, iv p4, iv (1 : Int32), rv b277, .unset, .unset, .unset, .unset, .unset, .unset, .unset] [])) _
    refine XS.iconst X277.here hx rfl (hb hby at_18) ?_
    show Steps p.tables e below (T277.setTop (mkF m 19 #[iv p0, iv p1, iv p2, iv p3, iv p4, iv (1 : Int32), rv b277, .unset, .unset, .unset, .unset, .unset, .unset, .unset] [(.int (1 : Int32))])) _
    exact kont
  obtain ⟨T283, h283, k283, X283, e283, E283, A283, F283, st283⟩ := newPE X277 hx hZ (hw _ (List.mem_of_getElem? (i := 0) rfl)) e277 (g := (mkF m 19 #[iv p0, iv p1, iv p2, iv p3, iv p4, iv (1 : Int32), rv b277, .unset, .unset, .unset, .unset, .unset, .unset, .unset] [(.int (1 : Int32))])) rfl (hb hby at_19) rfl (by decide) (cap := 1) (by decide) (by decide) (by decide) (by decide) (ad := "[C") (by decide)
  obtain ⟨b283, gb283⟩ : ∃ z, z = h277.size := ⟨_, rfl⟩
  rw [← gb283] at A283 F283 st283
  have R284 : CHr Z consts_1 s.vm h0 s.vm h283 := R278.trans (CHr.ext E283 R278.1)
  have O285 := O279.ext E283
  have y286 : Arv Z h283 b283 k283 .char (1 : Int32) [(.int (0 : Int32))] (.int (0 : Int32)) := (Arv.new A283 (by decide)).pad (pad_rep [] (.int (0 : Int32)) 1)
  have g287 : Go p e below T283 (mkF m 21 #[iv p0, iv p1, iv p2, iv p3, iv p4, iv (1 : Int32), rv b277, .unset, .unset, .unset, .unset, .unset, .unset, .unset] [(.ref b283)]) A0 := fun t kont => g282 t (st283 t kont)
  have g288 : Go p e below T283 (mkF m 29 #[iv p0, iv p1, iv p2, iv p3, iv p4, iv (1 : Int32), rv b277, .unset, .unset, .unset, .unset, .unset, .unset, .unset] [(.int ((p1 &&& (255 : Int32)).toUInt32.toUInt16.toUInt32.toInt32)), (.int (0 : Int32)), (.ref b283), (.ref b283)]) A0 := by
    intro t kont
    refine g287 t ?_
    refine XS.dup X283.here hx rfl (hb hby at_21) rfl rfl ?_
    show Steps p.tables e below (T283.setTop (mkF m 22 #[iv p0, iv p1, iv p2, iv p3, iv p4, iv (1 : Int32), rv b277, .unset, .unset, .unset, .unset, .unset, .unset, .unset] [(.ref b283), (.ref b283)])) _
    refine XS.iconst X283.here hx rfl (hb hby at_22) ?_
    show Steps p.tables e below (T283.setTop (mkF m 23 #[iv p0, iv p1, iv p2, iv p3, iv p4, iv (1 : Int32), rv b277, .unset, .unset, .unset, .unset, .unset, .unset, .unset] [(.int (0 : Int32)), (.ref b283), (.ref b283)])) _
    refine XS.iloadN X283.here hx rfl (hb hby at_23) rfl ?_
    show Steps p.tables e below (T283.setTop (mkF m 24 #[iv p0, iv p1, iv p2, iv p3, iv p4, iv (1 : Int32), rv b277, .unset, .unset, .unset, .unset, .unset, .unset, .unset] [(.int p1), (.int (0 : Int32)), (.ref b283), (.ref b283)])) _
    refine XS.sipush X283.here hx rfl (hb hby at_24) ?_
    show Steps p.tables e below (T283.setTop (mkF m 27 #[iv p0, iv p1, iv p2, iv p3, iv p4, iv (1 : Int32), rv b277, .unset, .unset, .unset, .unset, .unset, .unset, .unset] [(.int (255 : Int32)), (.int p1), (.int (0 : Int32)), (.ref b283), (.ref b283)])) _
    refine XS.iand X283.here hx rfl (hb hby at_27) rfl ?_
    show Steps p.tables e below (T283.setTop (mkF m 28 #[iv p0, iv p1, iv p2, iv p3, iv p4, iv (1 : Int32), rv b277, .unset, .unset, .unset, .unset, .unset, .unset, .unset] [(.int (p1 &&& (255 : Int32))), (.int (0 : Int32)), (.ref b283), (.ref b283)])) _
    refine XS.i2c X283.here hx rfl (hb hby at_28) rfl ?_
    show Steps p.tables e below (T283.setTop (mkF m 29 #[iv p0, iv p1, iv p2, iv p3, iv p4, iv (1 : Int32), rv b277, .unset, .unset, .unset, .unset, .unset, .unset, .unset] [(.int ((p1 &&& (255 : Int32)).toUInt32.toUInt16.toUInt32.toInt32)), (.int (0 : Int32)), (.ref b283), (.ref b283)])) _
    exact kont
  have ge290 : n0 ≤ b283 := Nat.le_trans (own_old_le O279) (Nat.le_of_eq gb283.symm)
  have zz289 := y286
  obtain ⟨cl289, Ar289, q289, S289, M289, H289, G289⟩ := zz289
  have in289 : ¬ ((0 : Int32) < 0 ∨ cl289.slots.size ≤ ((0 : Int32)).toNatClampNeg) := inb_of S289 ⟨by decide, by decide⟩
  obtain ⟨T289, h289, X289, e289, W289, st289⟩ := stC X283 hx hZ e283 Ar289 (j := (0 : Int32)) in289 (g := (mkF m 29 #[iv p0, iv p1, iv p2, iv p3, iv p4, iv (1 : Int32), rv b277, .unset, .unset, .unset, .unset, .unset, .unset, .unset] [(.int ((p1 &&& (255 : Int32)).toUInt32.toUInt16.toUInt32.toInt32)), (.int (0 : Int32)), (.ref b283), (.ref b283)])) rfl rfl (hb hby at_29)
  rw [show nar .char ((p1 &&& (255 : Int32)).toUInt32.toUInt16.toUInt32.toInt32) = ((p1 &&& (255 : Int32)).toUInt32.toUInt16.toUInt32.toInt32) from (own_narc _)] at W289
  have R291 : CHr Z consts_1 s.vm h0 s.vm h289 := R284.trans (CHr.wr W289 (Safe.ext E283 R278.1 (Safe.new (Nat.le_of_eq gb283.symm))) R284.1)
  have O292 := O285.wr W289 ge290
  have y293 : Arv Z h289 b283 k283 .char (1 : Int32) [(.int ((p1 &&& (255 : Int32)).toUInt32.toUInt16.toUInt32.toInt32))] (.int (0 : Int32)) := Arv.set Ar289 q289 S289 M289 H289 G289 (own_ft_char (z := ((p1 &&& (255 : Int32)).toUInt32.toUInt16.toUInt32.toInt32)) (own_narc _)) W289 0 rfl (Nat.le_of_ble_eq_true rfl)
  have N289 := Fr.snoc X289 N0 ge290
  have g294 : Go p e below T289 (mkF m 30 #[iv p0, iv p1, iv p2, iv p3, iv p4, iv (1 : Int32), rv b277, .unset, .unset, .unset, .unset, .unset, .unset, .unset] [(.ref b283)]) A0 := fun t kont => g288 t (st289 t kont)
  have g295 : Go p e below T289 (mkF m 33 #[iv p0, iv p1, iv p2, iv p3, iv p4, iv (1 : Int32), rv b277, rv b283, .unset, .unset, .unset, .unset, .unset, .unset] [(.int (2 : Int32))]) A0 := by
    intro t kont
    refine g294 t ?_
    refine XS.astore X289.here hx rfl (hb hby at_30) rfl rfl (l' := #[iv p0, iv p1, iv p2, iv p3, iv p4, iv (1 : Int32), rv b277, rv b283, .unset, .unset, .unset, .unset, .unset, .unset]) rfl ?_
    show Steps p.tables e below (T289.setTop (mkF m 32 #[iv p0, iv p1, iv p2, iv p3, iv p4, iv (1 : Int32), rv b277, rv b283, .unset, .unset, .unset, .unset, .unset, .unset] [])) _
    refine XS.iconst X289.here hx rfl (hb hby at_32) ?_
    show Steps p.tables e below (T289.setTop (mkF m 33 #[iv p0, iv p1, iv p2, iv p3, iv p4, iv (1 : Int32), rv b277, rv b283, .unset, .unset, .unset, .unset, .unset, .unset] [(.int (2 : Int32))])) _
    exact kont
  obtain ⟨T296, h296, k296, X296, e296, E296, A296, F296, st296⟩ := newPE X289 hx hZ (hw _ (List.mem_of_getElem? (i := 0) rfl)) e289 (g := (mkF m 33 #[iv p0, iv p1, iv p2, iv p3, iv p4, iv (1 : Int32), rv b277, rv b283, .unset, .unset, .unset, .unset, .unset, .unset] [(.int (2 : Int32))])) rfl (hb hby at_33) rfl (by decide) (cap := 2) (by decide) (by decide) (by decide) (by decide) (ad := "[C") (by decide)
  obtain ⟨b296, gb296⟩ : ∃ z, z = h289.size := ⟨_, rfl⟩
  rw [← gb296] at A296 F296 st296
  have R297 : CHr Z consts_1 s.vm h0 s.vm h296 := R291.trans (CHr.ext E296 R291.1)
  have O298 := O292.ext E296
  have y299 : Arv Z h296 b296 k296 .char (2 : Int32) [(.int (0 : Int32)), (.int (0 : Int32))] (.int (0 : Int32)) := (Arv.new A296 (by decide)).pad (pad_rep [] (.int (0 : Int32)) 2)
  have g300 : Go p e below T296 (mkF m 35 #[iv p0, iv p1, iv p2, iv p3, iv p4, iv (1 : Int32), rv b277, rv b283, .unset, .unset, .unset, .unset, .unset, .unset] [(.ref b296)]) A0 := fun t kont => g295 t (st296 t kont)
  have g301 : Go p e below T296 (mkF m 43 #[iv p0, iv p1, iv p2, iv p3, iv p4, iv (1 : Int32), rv b277, rv b283, .unset, .unset, .unset, .unset, .unset, .unset] [(.int ((p1 &&& (255 : Int32)).toUInt32.toUInt16.toUInt32.toInt32)), (.int (0 : Int32)), (.ref b296), (.ref b296)]) A0 := by
    intro t kont
    refine g300 t ?_
    refine XS.dup X296.here hx rfl (hb hby at_35) rfl rfl ?_
    show Steps p.tables e below (T296.setTop (mkF m 36 #[iv p0, iv p1, iv p2, iv p3, iv p4, iv (1 : Int32), rv b277, rv b283, .unset, .unset, .unset, .unset, .unset, .unset] [(.ref b296), (.ref b296)])) _
    refine XS.iconst X296.here hx rfl (hb hby at_36) ?_
    show Steps p.tables e below (T296.setTop (mkF m 37 #[iv p0, iv p1, iv p2, iv p3, iv p4, iv (1 : Int32), rv b277, rv b283, .unset, .unset, .unset, .unset, .unset, .unset] [(.int (0 : Int32)), (.ref b296), (.ref b296)])) _
    refine XS.iloadN X296.here hx rfl (hb hby at_37) rfl ?_
    show Steps p.tables e below (T296.setTop (mkF m 38 #[iv p0, iv p1, iv p2, iv p3, iv p4, iv (1 : Int32), rv b277, rv b283, .unset, .unset, .unset, .unset, .unset, .unset] [(.int p1), (.int (0 : Int32)), (.ref b296), (.ref b296)])) _
    refine XS.sipush X296.here hx rfl (hb hby at_38) ?_
    show Steps p.tables e below (T296.setTop (mkF m 41 #[iv p0, iv p1, iv p2, iv p3, iv p4, iv (1 : Int32), rv b277, rv b283, .unset, .unset, .unset, .unset, .unset, .unset] [(.int (255 : Int32)), (.int p1), (.int (0 : Int32)), (.ref b296), (.ref b296)])) _
    refine XS.iand X296.here hx rfl (hb hby at_41) rfl ?_
    show Steps p.tables e below (T296.setTop (mkF m 42 #[iv p0, iv p1, iv p2, iv p3, iv p4, iv (1 : Int32), rv b277, rv b283, .unset, .unset, .unset, .unset, .unset, .unset] [(.int (p1 &&& (255 : Int32))), (.int (0 : Int32)), (.ref b296), (.ref b296)])) _
    refine XS.i2c X296.here hx rfl (hb hby at_42) rfl ?_
    show Steps p.tables e below (T296.setTop (mkF m 43 #[iv p0, iv p1, iv p2, iv p3, iv p4, iv (1 : Int32), rv b277, rv b283, .unset, .unset, .unset, .unset, .unset, .unset] [(.int ((p1 &&& (255 : Int32)).toUInt32.toUInt16.toUInt32.toInt32)), (.int (0 : Int32)), (.ref b296), (.ref b296)])) _
    exact kont
  have ge303 : n0 ≤ b296 := Nat.le_trans (own_old_le O292) (Nat.le_of_eq gb296.symm)
  have zz302 := y299
  obtain ⟨cl302, Ar302, q302, S302, M302, H302, G302⟩ := zz302
  have in302 : ¬ ((0 : Int32) < 0 ∨ cl302.slots.size ≤ ((0 : Int32)).toNatClampNeg) := inb_of S302 ⟨by decide, by decide⟩
  obtain ⟨T302, h302, X302, e302, W302, st302⟩ := stC X296 hx hZ e296 Ar302 (j := (0 : Int32)) in302 (g := (mkF m 43 #[iv p0, iv p1, iv p2, iv p3, iv p4, iv (1 : Int32), rv b277, rv b283, .unset, .unset, .unset, .unset, .unset, .unset] [(.int ((p1 &&& (255 : Int32)).toUInt32.toUInt16.toUInt32.toInt32)), (.int (0 : Int32)), (.ref b296), (.ref b296)])) rfl rfl (hb hby at_43)
  rw [show nar .char ((p1 &&& (255 : Int32)).toUInt32.toUInt16.toUInt32.toInt32) = ((p1 &&& (255 : Int32)).toUInt32.toUInt16.toUInt32.toInt32) from (own_narc _)] at W302
  have R304 : CHr Z consts_1 s.vm h0 s.vm h302 := R297.trans (CHr.wr W302 (Safe.ext E296 R291.1 (Safe.new (Nat.le_of_eq gb296.symm))) R297.1)
  have O305 := O298.wr W302 ge303
  have y306 : Arv Z h302 b296 k296 .char (2 : Int32) [(.int ((p1 &&& (255 : Int32)).toUInt32.toUInt16.toUInt32.toInt32)), (.int (0 : Int32))] (.int (0 : Int32)) := Arv.set Ar302 q302 S302 M302 H302 G302 (own_ft_char (z := ((p1 &&& (255 : Int32)).toUInt32.toUInt16.toUInt32.toInt32)) (own_narc _)) W302 0 rfl (Nat.le_of_ble_eq_true rfl)
  have N302 := Fr.snoc X302 N289 ge303
  have g307 : Go p e below T302 (mkF m 44 #[iv p0, iv p1, iv p2, iv p3, iv p4, iv (1 : Int32), rv b277, rv b283, .unset, .unset, .unset, .unset, .unset, .unset] [(.ref b296)]) A0 := fun t kont => g301 t (st302 t kont)
  have g308 : Go p e below T302 (mkF m 52 #[iv p0, iv p1, iv p2, iv p3, iv p4, iv (1 : Int32), rv b277, rv b283, .unset, .unset, .unset, .unset, .unset, .unset] [(.int ((p2 &&& (255 : Int32)).toUInt32.toUInt16.toUInt32.toInt32)), (.int (1 : Int32)), (.ref b296), (.ref b296)]) A0 := by
    intro t kont
    refine g307 t ?_
    refine XS.dup X302.here hx rfl (hb hby at_44) rfl rfl ?_
    show Steps p.tables e below (T302.setTop (mkF m 45 #[iv p0, iv p1, iv p2, iv p3, iv p4, iv (1 : Int32), rv b277, rv b283, .unset, .unset, .unset, .unset, .unset, .unset] [(.ref b296), (.ref b296)])) _
    refine XS.iconst X302.here hx rfl (hb hby at_45) ?_
    show Steps p.tables e below (T302.setTop (mkF m 46 #[iv p0, iv p1, iv p2, iv p3, iv p4, iv (1 : Int32), rv b277, rv b283, .unset, .unset, .unset, .unset, .unset, .unset] [(.int (1 : Int32)), (.ref b296), (.ref b296)])) _
    refine XS.iloadN X302.here hx rfl (hb hby at_46) rfl ?_
    show Steps p.tables e below (T302.setTop (mkF m 47 #[iv p0, iv p1, iv p2, iv p3, iv p4, iv (1 : Int32), rv b277, rv b283, .unset, .unset, .unset, .unset, .unset, .unset] [(.int p2), (.int (1 : Int32)), (.ref b296), (.ref b296)])) _
    refine XS.sipush X302.here hx rfl (hb hby at_47) ?_
    show Steps p.tables e below (T302.setTop (mkF m 50 #[iv p0, iv p1, iv p2, iv p3, iv p4, iv (1 : Int32), rv b277, rv b283, .unset, .unset, .unset, .unset, .unset, .unset] [(.int (255 : Int32)), (.int p2), (.int (1 : Int32)), (.ref b296), (.ref b296)])) _
    refine XS.iand X302.here hx rfl (hb hby at_50) rfl ?_
    show Steps p.tables e below (T302.setTop (mkF m 51 #[iv p0, iv p1, iv p2, iv p3, iv p4, iv (1 : Int32), rv b277, rv b283, .unset, .unset, .unset, .unset, .unset, .unset] [(.int (p2 &&& (255 : Int32))), (.int (1 : Int32)), (.ref b296), (.ref b296)])) _
    refine XS.i2c X302.here hx rfl (hb hby at_51) rfl ?_
    show Steps p.tables e below (T302.setTop (mkF m 52 #[iv p0, iv p1, iv p2, iv p3, iv p4, iv (1 : Int32), rv b277, rv b283, .unset, .unset, .unset, .unset, .unset, .unset] [(.int ((p2 &&& (255 : Int32)).toUInt32.toUInt16.toUInt32.toInt32)), (.int (1 : Int32)), (.ref b296), (.ref b296)])) _
    exact kont
  have zz309 := y306
  obtain ⟨cl309, Ar309, q309, S309, M309, H309, G309⟩ := zz309
  have in309 : ¬ ((1 : Int32) < 0 ∨ cl309.slots.size ≤ ((1 : Int32)).toNatClampNeg) := inb_of S309 ⟨by decide, by decide⟩
  obtain ⟨T309, h309, X309, e309, W309, st309⟩ := stC X302 hx hZ e302 Ar309 (j := (1 : Int32)) in309 (g := (mkF m 52 #[iv p0, iv p1, iv p2, iv p3, iv p4, iv (1 : Int32), rv b277, rv b283, .unset, .unset, .unset, .unset, .unset, .unset] [(.int ((p2 &&& (255 : Int32)).toUInt32.toUInt16.toUInt32.toInt32)), (.int (1 : Int32)), (.ref b296), (.ref b296)])) rfl rfl (hb hby at_52)
  rw [show nar .char ((p2 &&& (255 : Int32)).toUInt32.toUInt16.toUInt32.toInt32) = ((p2 &&& (255 : Int32)).toUInt32.toUInt16.toUInt32.toInt32) from (own_narc _)] at W309
  have sf311 : Safe Z consts_1 s.vm h302 b296 := (Safe.wr W302 (Safe.ext E296 R291.1 (Safe.new (Nat.le_of_eq gb296.symm))) R297.1 (Safe.ext E296 R291.1 (Safe.new (Nat.le_of_eq gb296.symm))))
  have R310 : CHr Z consts_1 s.vm h0 s.vm h309 := R304.trans (CHr.wr W309 sf311 R304.1)
  have O312 := O305.wr W309 ge303
  have y313 : Arv Z h309 b296 k296 .char (2 : Int32) [(.int ((p1 &&& (255 : Int32)).toUInt32.toUInt16.toUInt32.toInt32)), (.int ((p2 &&& (255 : Int32)).toUInt32.toUInt16.toUInt32.toInt32))] (.int (0 : Int32)) := Arv.set Ar309 q309 S309 M309 H309 G309 (own_ft_char (z := ((p2 &&& (255 : Int32)).toUInt32.toUInt16.toUInt32.toInt32)) (own_narc _)) W309 1 rfl (Nat.le_of_ble_eq_true rfl)
  have N309 := Fr.snoc X309 N302 ge303
  have g314 : Go p e below T309 (mkF m 53 #[iv p0, iv p1, iv p2, iv p3, iv p4, iv (1 : Int32), rv b277, rv b283, .unset, .unset, .unset, .unset, .unset, .unset] [(.ref b296)]) A0 := fun t kont => g308 t (st309 t kont)
  have g315 : Go p e below T309 (mkF m 61 #[iv p0, iv p1, iv p2, iv p3, iv p4, iv (1 : Int32), rv b277, rv b283, rv b296, .unset, .unset, .unset, .unset, .unset] [(.int ((p3 &&& (2147483647 : Int32)) % (3 : Int32)))]) A0 := by
    intro t kont
    refine g314 t ?_
    refine XS.astore X309.here hx rfl (hb hby at_53) rfl rfl (l' := #[iv p0, iv p1, iv p2, iv p3, iv p4, iv (1 : Int32), rv b277, rv b283, rv b296, .unset, .unset, .unset, .unset, .unset]) rfl ?_
    show Steps p.tables e below (T309.setTop (mkF m 55 #[iv p0, iv p1, iv p2, iv p3, iv p4, iv (1 : Int32), rv b277, rv b283, rv b296, .unset, .unset, .unset, .unset, .unset] [])) _
    refine XS.iloadN X309.here hx rfl (hb hby at_55) rfl ?_
    show Steps p.tables e below (T309.setTop (mkF m 56 #[iv p0, iv p1, iv p2, iv p3, iv p4, iv (1 : Int32), rv b277, rv b283, rv b296, .unset, .unset, .unset, .unset, .unset] [(.int p3)])) _
    refine X309.ldcInt hx hown (mvT hZ (hw _ (List.mem_of_getElem? (i := 1) rfl))) (g := (mkF m 56 #[iv p0, iv p1, iv p2, iv p3, iv p4, iv (1 : Int32), rv b277, rv b283, rv b296, .unset, .unset, .unset, .unset, .unset] [(.int p3)])) rfl (hb hby at_56) _ ?_
    show Steps p.tables e below (T309.setTop (mkF m 58 #[iv p0, iv p1, iv p2, iv p3, iv p4, iv (1 : Int32), rv b277, rv b283, rv b296, .unset, .unset, .unset, .unset, .unset] [(.int (2147483647 : Int32)), (.int p3)])) _
    refine XS.iand X309.here hx rfl (hb hby at_58) rfl ?_
    show Steps p.tables e below (T309.setTop (mkF m 59 #[iv p0, iv p1, iv p2, iv p3, iv p4, iv (1 : Int32), rv b277, rv b283, rv b296, .unset, .unset, .unset, .unset, .unset] [(.int (p3 &&& (2147483647 : Int32)))])) _
    refine XS.iconst X309.here hx rfl (hb hby at_59) ?_
    show Steps p.tables e below (T309.setTop (mkF m 60 #[iv p0, iv p1, iv p2, iv p3, iv p4, iv (1 : Int32), rv b277, rv b283, rv b296, .unset, .unset, .unset, .unset, .unset] [(.int (3 : Int32)), (.int (p3 &&& (2147483647 : Int32)))])) _
    refine iremM X309 hx rfl (hb hby at_60) rfl (by decide) ?_
    show Steps p.tables e below (T309.setTop (mkF m 61 #[iv p0, iv p1, iv p2, iv p3, iv p4, iv (1 : Int32), rv b277, rv b283, rv b296, .unset, .unset, .unset, .unset, .unset] [(.int ((p3 &&& (2147483647 : Int32)) % (3 : Int32)))])) _
    exact kont
  obtain ⟨k, e_k⟩ : ∃ z, z = ((p3 &&& (2147483647 : Int32)) % (3 : Int32)) := ⟨_, rfl⟩
  have g316 : Go p e below T309 (mkF m 61 #[iv p0, iv p1, iv p2, iv p3, iv p4, iv (1 : Int32), rv b277, rv b283, rv b296, .unset, .unset, .unset, .unset, .unset] [(.int k)]) A0 := by rw [e_k]; exact g315
  have g318 : Go p e below T309 (mkF m 65 #[iv p0, iv p1, iv p2, iv p3, iv p4, iv (1 : Int32), rv b277, rv b283, rv b296, iv k, .unset, .unset, .unset, .unset] [(.int k)]) A0 := by
    intro t kont
    refine g316 t ?_
    refine XS.istore X309.here hx rfl (hb hby at_61) rfl (l' := #[iv p0, iv p1, iv p2, iv p3, iv p4, iv (1 : Int32), rv b277, rv b283, rv b296, iv k, .unset, .unset, .unset, .unset]) rfl ?_
    show Steps p.tables e below (T309.setTop (mkF m 63 #[iv p0, iv p1, iv p2, iv p3, iv p4, iv (1 : Int32), rv b277, rv b283, rv b296, iv k, .unset, .unset, .unset, .unset] [])) _
    refine XS.iload X309.here hx rfl (hb hby at_63) rfl ?_
    show Steps p.tables e below (T309.setTop (mkF m 65 #[iv p0, iv p1, iv p2, iv p3, iv p4, iv (1 : Int32), rv b277, rv b283, rv b296, iv k, .unset, .unset, .unset, .unset] [(.int k)])) _
    exact kont
  by_cases c317 : k = (0 : Int32)
  ·
    have g319 : Go p e below T309 (mkF m 68 #[iv p0, iv p1, iv p2, iv p3, iv p4, iv (1 : Int32), rv b277, rv b283, rv b296, iv k, .unset, .unset, .unset, .unset] []) A0 := by
      intro t kont
      refine g318 t ?_
      refine XS.ifNo X309.here hx rfl (hb hby at_65) rfl ((if0 _ _).trans (teq c317).2) ?_
      show Steps p.tables e below (T309.setTop (mkF m 68 #[iv p0, iv p1, iv p2, iv p3, iv p4, iv (1 : Int32), rv b277, rv b283, rv b296, iv k, .unset, .unset, .unset, .unset] [])) _
      exact kont
    obtain ⟨T320, h320, X320, e320, E320, A320, D320, -, st320⟩ := newO X309 hx hZ hown (hw _ (List.mem_of_getElem? (i := 2) rfl)) (hw _ (List.mem_of_getElem? (i := 3) rfl)) (hw _ (List.mem_of_getElem? (i := 4) rfl)) e309 (g := (mkF m 68 #[iv p0, iv p1, iv p2, iv p3, iv p4, iv (1 : Int32), rv b277, rv b283, rv b296, iv k, .unset, .unset, .unset, .unset] [])) rfl (hb hby at_68) (by decide) (by decide)
    obtain ⟨b320, gb320⟩ : ∃ z, z = h309.size := ⟨_, rfl⟩
    rw [← gb320] at A320 D320 st320
    have R321 : CHr Z consts_1 s.vm h0 s.vm h320 := R310.trans (CHr.ext E320 R310.1)
    have O322 := O312.ext E320
    have y323 : Fld Z h320 b320 "java/lang/String" "coder" "B" (.int (0 : Int32)) := D320 (Or.inr (hw _ (List.mem_of_getElem? (i := 28) rfl))) (ty := .byte) (by decide)
    have y324 : Fld Z h320 b320 "java/lang/String" "value" "[B" .null := D320 (Or.inr (hw _ (List.mem_of_getElem? (i := 30) rfl))) (ty := (.array .byte)) (by decide)
    have g325 : Go p e below T320 (mkF m 71 #[iv p0, iv p1, iv p2, iv p3, iv p4, iv (1 : Int32), rv b277, rv b283, rv b296, iv k, .unset, .unset, .unset, .unset] [(.ref b320)]) A0 := fun t kont => g319 t (st320 t kont)
    have g326 : Go p e below T320 (mkF m 74 #[iv p0, iv p1, iv p2, iv p3, iv p4, iv (1 : Int32), rv b277, rv b283, rv b296, iv k, .unset, .unset, .unset, .unset] [(.ref b277), (.ref b320), (.ref b320)]) A0 := by
      intro t kont
      refine g325 t ?_
      refine XS.dup X320.here hx rfl (hb hby at_71) rfl rfl ?_
      show Steps p.tables e below (T320.setTop (mkF m 72 #[iv p0, iv p1, iv p2, iv p3, iv p4, iv (1 : Int32), rv b277, rv b283, rv b296, iv k, .unset, .unset, .unset, .unset] [(.ref b320), (.ref b320)])) _
      refine XS.aload X320.here hx rfl (hb hby at_72) rfl rfl ?_
      show Steps p.tables e below (T320.setTop (mkF m 74 #[iv p0, iv p1, iv p2, iv p3, iv p4, iv (1 : Int32), rv b277, rv b283, rv b296, iv k, .unset, .unset, .unset, .unset] [(.ref b277), (.ref b320), (.ref b320)])) _
      exact kont
    have ge328 : n0 ≤ b320 := Nat.le_trans (own_old_le O312) (Nat.le_of_eq gb320.symm)
    have y329 : Arv Z h320 b277 k277 .char (0 : Int32) [] (.int (0 : Int32)) := ((((((y280.ext E283).other W289 (Nat.ne_of_lt (Nat.lt_of_lt_of_le y280.lt (Nat.le_of_eq gb283.symm)))).ext E296).other W302 (Nat.ne_of_lt (Nat.lt_of_lt_of_le (Nat.lt_of_lt_of_le y280.lt (Nat.le_trans E283.1 (Keep.of_wr W289).1)) (Nat.le_of_eq gb296.symm)))).other W309 (Nat.ne_of_lt (Nat.lt_of_lt_of_le (Nat.lt_of_lt_of_le y280.lt (Nat.le_trans E283.1 (Keep.of_wr W289).1)) (Nat.le_of_eq gb296.symm)))).ext E320)
    obtain ⟨_, _, ⟨T327, L327, k327, n327⟩, -, X327, hS327, hg327, ⟨Lc327, hQ327, l327, y327, z327, C327⟩, st327⟩ := X320.specialBackS hx (y := (⟨"java/lang/String", "<init>", "([C)V"⟩ : MethodName)) rfl hown (mvT hZ (hw _ (List.mem_of_getElem? (i := 5) rfl))) (mvT hZ (hw _ (List.mem_of_getElem? (i := 6) rfl))) (mvT hZ (hw _ (List.mem_of_getElem? (i := 7) rfl))) (by decide) (backOfSH (W := 1) (rm_sIni0 l Z a0 hw [] b320 b277 k277 h320 n0 O322 y324 y323 A320 ge328 y329) hZ (hw _ (List.mem_of_getElem? (i := 7) rfl)) (hw _ (List.mem_of_getElem? (i := 4) rfl)) (by decide) (by decide) (own_EW hw) R321.1) (g := (mkF m 74 #[iv p0, iv p1, iv p2, iv p3, iv p4, iv (1 : Int32), rv b277, rv b283, rv b296, iv k, .unset, .unset, .unset, .unset] [(.ref b277), (.ref b320), (.ref b320)])) rfl (by rw [hml]; rfl) (Steps.refl _) (a := b320) (argsL := [(.ref b277)]) (rest := [(.ref b320)]) (lenOf pd_4 rfl) rfl (by show 2 * 0 + _ ≤ _; exact Nat.le_of_eq rfl) (hb hby at_74) (fun _ _ => ⟨rfl, e320, (by decide : 4 + 4 ≤ _), (by decide : 7 + 8 ≤ _)⟩)
    dsimp only [Pt.U, Pt.locs, Pt.cells, Pt.slots] at X327 l327 y327 z327 st327 hQ327 hS327 hg327 C327
    subst l327 y327 z327
    obtain ⟨X327, hS, hZ, hown⟩ := rebS hS (n1 := T320.heap.size) (by rw [e320]; exact (Nat.le_trans hk (Nat.le_trans (Nat.le_trans (Nat.le_trans (Nat.le_trans (Nat.le_trans (Nat.le_trans E277.1 E283.1) (Keep.of_wr W289).1) E296.1) (Keep.of_wr W302).1) (Keep.of_wr W309).1) E320.1))) X327 hS327 hg327 hZ hown
    obtain ⟨r330, r331, rfl, M327, K327, y332, y333, y334, y335⟩ := hQ327
    have N327 := Fr.app N309 M327
    have R336 : CHr Z consts_1 s.vm h0 T327.vm T327.heap := R321.trans C327
    have O337 := O322.keep K327 (allS ge328 all0)
    have g338 : Go p e below T327 (mkF m 77 #[iv p0, iv p1, iv p2, iv p3, iv p4, iv (1 : Int32), rv b277, rv b283, rv b296, iv k, .unset, .unset, .unset, .unset] [(.ref b320)]) A0 := fun t kont => g326 t (st327.trans kont)
    have g339 : Go p e below T327 (mkF m 126 #[iv p0, iv p1, iv p2, iv p3, iv p4, iv (1 : Int32), rv b277, rv b283, rv b296, iv k, rv b320, .val .null, .unset, .unset] []) A0 := by
      intro t kont
      refine g338 t ?_
      refine XS.astore X327.here hx rfl (hb hby at_77) rfl rfl (l' := #[iv p0, iv p1, iv p2, iv p3, iv p4, iv (1 : Int32), rv b277, rv b283, rv b296, iv k, rv b320, .unset, .unset, .unset]) rfl ?_
      show Steps p.tables e below (T327.setTop (mkF m 79 #[iv p0, iv p1, iv p2, iv p3, iv p4, iv (1 : Int32), rv b277, rv b283, rv b296, iv k, rv b320, .unset, .unset, .unset] [])) _
      refine XS.goto X327.here hx rfl (pc0 := 79) (pc' := 113) rfl (hb hby at_79) (by decide) (by decide) ?_
      show Steps p.tables e below (T327.setTop (mkF m 113 #[iv p0, iv p1, iv p2, iv p3, iv p4, iv (1 : Int32), rv b277, rv b283, rv b296, iv k, rv b320, .unset, .unset, .unset] [])) _
      refine XS.iload X327.here hx rfl (hb hby at_113) rfl ?_
      show Steps p.tables e below (T327.setTop (mkF m 115 #[iv p0, iv p1, iv p2, iv p3, iv p4, iv (1 : Int32), rv b277, rv b283, rv b296, iv k, rv b320, .unset, .unset, .unset] [(.int (1 : Int32))])) _
      refine XS.ifNo X327.here hx rfl (hb hby at_115) rfl ((if0 _ _).trans (feq (by decide : ¬ ((1 : Int32) = (0 : Int32)))).1) ?_
      show Steps p.tables e below (T327.setTop (mkF m 118 #[iv p0, iv p1, iv p2, iv p3, iv p4, iv (1 : Int32), rv b277, rv b283, rv b296, iv k, rv b320, .unset, .unset, .unset] [])) _
      refine XS.aconstNull X327.here hx rfl (hb hby at_118) ?_
      show Steps p.tables e below (T327.setTop (mkF m 119 #[iv p0, iv p1, iv p2, iv p3, iv p4, iv (1 : Int32), rv b277, rv b283, rv b296, iv k, rv b320, .unset, .unset, .unset] [.null])) _
      refine XS.goto X327.here hx rfl (pc0 := 119) (pc' := 124) rfl (hb hby at_119) (by decide) (by decide) ?_
      show Steps p.tables e below (T327.setTop (mkF m 124 #[iv p0, iv p1, iv p2, iv p3, iv p4, iv (1 : Int32), rv b277, rv b283, rv b296, iv k, rv b320, .unset, .unset, .unset] [.null])) _
      refine XS.astore X327.here hx rfl (hb hby at_124) rfl rfl (l' := #[iv p0, iv p1, iv p2, iv p3, iv p4, iv (1 : Int32), rv b277, rv b283, rv b296, iv k, rv b320, .val .null, .unset, .unset]) rfl ?_
      show Steps p.tables e below (T327.setTop (mkF m 126 #[iv p0, iv p1, iv p2, iv p3, iv p4, iv (1 : Int32), rv b277, rv b283, rv b296, iv k, rv b320, .val .null, .unset, .unset] [])) _
      exact kont
    obtain ⟨T340, h340, X340, e340, E340, A340, D340, -, st340⟩ := newO X327 hx hZ hown (hw _ (List.mem_of_getElem? (i := 31) rfl)) (hw _ (List.mem_of_getElem? (i := 32) rfl)) (hw _ (List.mem_of_getElem? (i := 33) rfl)) rfl (g := (mkF m 126 #[iv p0, iv p1, iv p2, iv p3, iv p4, iv (1 : Int32), rv b277, rv b283, rv b296, iv k, rv b320, .val .null, .unset, .unset] [])) rfl (hb hby at_126) (by decide) (by decide)
    obtain ⟨b340, gb340⟩ : ∃ z, z = T327.heap.size := ⟨_, rfl⟩
    rw [← gb340] at A340 D340 st340
    have R341 : CHr Z consts_1 s.vm h0 T327.vm h340 := R336.trans (CHr.ext E340 R336.1)
    have O342 := O337.ext E340
    have y343 : Fld Z h340 b340 "com/example/subsume/subsume/engine/Individual" "name" "Ljava/lang/String;" .null := D340 (Or.inr (hw _ (List.mem_of_getElem? (i := 39) rfl))) (ty := (.object "java/lang/String")) (by decide)
    have y344 : Fld Z h340 b340 "com/example/subsume/subsume/engine/Individual" "id" "I" (.int (0 : Int32)) := D340 (Or.inr (hw _ (List.mem_of_getElem? (i := 41) rfl))) (ty := .int) (by decide)
    have g345 : Go p e below T340 (mkF m 129 #[iv p0, iv p1, iv p2, iv p3, iv p4, iv (1 : Int32), rv b277, rv b283, rv b296, iv k, rv b320, .val .null, .unset, .unset] [(.ref b340)]) A0 := fun t kont => g339 t (st340 t kont)
    have g346 : Go p e below T340 (mkF m 134 #[iv p0, iv p1, iv p2, iv p3, iv p4, iv (1 : Int32), rv b277, rv b283, rv b296, iv k, rv b320, .val .null, .unset, .unset] [(.int p4), .null, (.ref b340), (.ref b340)]) A0 := by
      intro t kont
      refine g345 t ?_
      refine XS.dup X340.here hx rfl (hb hby at_129) rfl rfl ?_
      show Steps p.tables e below (T340.setTop (mkF m 130 #[iv p0, iv p1, iv p2, iv p3, iv p4, iv (1 : Int32), rv b277, rv b283, rv b296, iv k, rv b320, .val .null, .unset, .unset] [(.ref b340), (.ref b340)])) _
      refine XS.aload X340.here hx rfl (hb hby at_130) rfl rfl ?_
      show Steps p.tables e below (T340.setTop (mkF m 132 #[iv p0, iv p1, iv p2, iv p3, iv p4, iv (1 : Int32), rv b277, rv b283, rv b296, iv k, rv b320, .val .null, .unset, .unset] [.null, (.ref b340), (.ref b340)])) _
      refine XS.iload X340.here hx rfl (hb hby at_132) rfl ?_
      show Steps p.tables e below (T340.setTop (mkF m 134 #[iv p0, iv p1, iv p2, iv p3, iv p4, iv (1 : Int32), rv b277, rv b283, rv b296, iv k, rv b320, .val .null, .unset, .unset] [(.int p4), .null, (.ref b340), (.ref b340)])) _
      exact kont
    have ge348 : n0 ≤ b340 := Nat.le_trans (own_old_le O337) (Nat.le_of_eq gb340.symm)
    obtain ⟨_, _, ⟨T347, L347, k347, n347⟩, -, X347, ⟨Lc347, hQ347, l347, y347, z347⟩, st347⟩ := X340.specialBack hx (y := (⟨"com/example/subsume/subsume/engine/Individual", "<init>", "(Ljava/lang/String;I)V"⟩ : MethodName)) rfl hown (mvT hZ (hw _ (List.mem_of_getElem? (i := 34) rfl))) (mvT hZ (hw _ (List.mem_of_getElem? (i := 35) rfl))) (mvT hZ (hw _ (List.mem_of_getElem? (i := 36) rfl))) (by decide) (backOf (W := 1) (rm_indI l Z a0 hw [] b340 .null p4 h340 n0 O342 (rfl) y343 y344 A340 ge348) hZ (hw _ (List.mem_of_getElem? (i := 36) rfl)) (hw _ (List.mem_of_getElem? (i := 33) rfl)) (by decide) (by decide)) (g := (mkF m 134 #[iv p0, iv p1, iv p2, iv p3, iv p4, iv (1 : Int32), rv b277, rv b283, rv b296, iv k, rv b320, .val .null, .unset, .unset] [(.int p4), .null, (.ref b340), (.ref b340)])) rfl (by rw [hml]; rfl) (Steps.refl _) (a := b340) (argsL := [.null, (.int p4)]) (rest := [(.ref b340)]) (lenOf pd_5 rfl) rfl (by show 2 * 0 + _ ≤ _; exact Nat.le_of_eq rfl) (hb hby at_134) (fun _ _ => ⟨rfl, e340, (by decide : 9 + 0 ≤ _), (by decide : 17 + 0 ≤ _)⟩)
    dsimp only [Pt.U, Pt.locs, Pt.cells, Pt.slots] at X347 l347 y347 z347 st347 hQ347
    subst l347 y347 z347
    obtain ⟨rfl, M347, K347, y349, y350⟩ := hQ347
    have N347 := Fr.app N327 M347
    have R351 : CHr Z consts_1 s.vm h0 T327.vm T347.heap := R341.trans (CHr.keep K347 (sfS (Safe.ext E340 R336.1 (Safe.new (Nat.le_of_eq gb340.symm))) sf0) R341.1)
    have O352 := O342.keep K347 (allS ge348 all0)
    have g353 : Go p e below T347 (mkF m 137 #[iv p0, iv p1, iv p2, iv p3, iv p4, iv (1 : Int32), rv b277, rv b283, rv b296, iv k, rv b320, .val .null, .unset, .unset] [(.ref b340)]) A0 := fun t kont => g346 t (st347.trans kont)
    have g354 : Go p e below T347 (mkF m 141 #[iv p0, iv p1, iv p2, iv p3, iv p4, iv (1 : Int32), rv b277, rv b283, rv b296, iv k, rv b320, .val .null, rv b340, .unset] [(.ref b340)]) A0 := by
      intro t kont
      refine g353 t ?_
      refine XS.astore X347.here hx rfl (hb hby at_137) rfl rfl (l' := #[iv p0, iv p1, iv p2, iv p3, iv p4, iv (1 : Int32), rv b277, rv b283, rv b296, iv k, rv b320, .val .null, rv b340, .unset]) rfl ?_
      show Steps p.tables e below (T347.setTop (mkF m 139 #[iv p0, iv p1, iv p2, iv p3, iv p4, iv (1 : Int32), rv b277, rv b283, rv b296, iv k, rv b320, .val .null, rv b340, .unset] [])) _
      refine XS.aload X347.here hx rfl (hb hby at_139) rfl rfl ?_
      show Steps p.tables e below (T347.setTop (mkF m 141 #[iv p0, iv p1, iv p2, iv p3, iv p4, iv (1 : Int32), rv b277, rv b283, rv b296, iv k, rv b320, .val .null, rv b340, .unset] [(.ref b340)])) _
      exact kont
    obtain ⟨cq355, kq355, q355a, q355b, q355c⟩ := isOf hZ rfl y349
    obtain ⟨_, _, ⟨T355, L355, k355, n355⟩, -, X355, ⟨Lc355, hQ355, l355, y355, z355⟩, st355⟩ := X347.virtualBack hx (y := (⟨"com/example/subsume/subsume/engine/Individual", "isAnonymous", "()Z"⟩ : MethodName)) (z := (⟨"com/example/subsume/subsume/engine/Individual", "isAnonymous", "()Z"⟩ : MethodName)) hown (mvT hZ (hw _ (List.mem_of_getElem? (i := 42) rfl))) (mvT hZ (hw _ (List.mem_of_getElem? (i := 43) rfl))) (notFace_of_selects (args := #[]) (mvT hZ (hw _ (List.mem_of_getElem? (i := 45) rfl)))) (mvT hZ (hw _ (List.mem_of_getElem? (i := 45) rfl))) (mvT hZ (hw _ (List.mem_of_getElem? (i := 44) rfl))) (by decide) (backOf (W := 0) (rm_isN l Z a0 hw [] b340 T347.heap n0 O352 y350) hZ (hw _ (List.mem_of_getElem? (i := 46) rfl)) (hw _ (List.mem_of_getElem? (i := 33) rfl)) (by decide) (by decide)) q355a q355c (g := (mkF m 141 #[iv p0, iv p1, iv p2, iv p3, iv p4, iv (1 : Int32), rv b277, rv b283, rv b296, iv k, rv b320, .val .null, rv b340, .unset] [(.ref b340)])) rfl (by rw [hml]; rfl) (Steps.refl _) (argsL := []) (rest := []) (lenOf pd_6 rfl) rfl (by show 2 * 0 + _ ≤ _; exact Nat.le_of_eq rfl) (hb hby at_141) (fun _ _ => ⟨rfl, rfl, (by decide : 9 + 0 ≤ _), (by decide : 17 + 0 ≤ _)⟩)
    dsimp only [Pt.U, Pt.locs, Pt.cells, Pt.slots] at X355 l355 y355 z355 st355 hQ355
    subst l355 y355 z355
    obtain ⟨rfl, M355, e355⟩ := hQ355
    have N355 := Fr.app N347 M355
    have g356 : Go p e below T355 (mkF m 144 #[iv p0, iv p1, iv p2, iv p3, iv p4, iv (1 : Int32), rv b277, rv b283, rv b296, iv k, rv b320, .val .null, rv b340, .unset] [(.int (1 : Int32))]) A0 := fun t kont => g354 t (st355.trans kont)
    have g357 : Go p e below T355 (mkF m 157 #[iv p0, iv p1, iv p2, iv p3, iv p4, iv (1 : Int32), rv b277, rv b283, rv b296, iv k, rv b320, .val .null, rv b340, iv (1 : Int32)] [(.ref b340), (.int (1 : Int32))]) A0 := by
      intro t kont
      refine g356 t ?_
      refine XS.istore X355.here hx rfl (hb hby at_144) rfl (l' := #[iv p0, iv p1, iv p2, iv p3, iv p4, iv (1 : Int32), rv b277, rv b283, rv b296, iv k, rv b320, .val .null, rv b340, iv (1 : Int32)]) rfl ?_
      show Steps p.tables e below (T355.setTop (mkF m 146 #[iv p0, iv p1, iv p2, iv p3, iv p4, iv (1 : Int32), rv b277, rv b283, rv b296, iv k, rv b320, .val .null, rv b340, iv (1 : Int32)] [])) _
      refine XS.iload X355.here hx rfl (hb hby at_146) rfl ?_
      show Steps p.tables e below (T355.setTop (mkF m 148 #[iv p0, iv p1, iv p2, iv p3, iv p4, iv (1 : Int32), rv b277, rv b283, rv b296, iv k, rv b320, .val .null, rv b340, iv (1 : Int32)] [(.int (1 : Int32))])) _
      refine XS.iload X355.here hx rfl (hb hby at_148) rfl ?_
      show Steps p.tables e below (T355.setTop (mkF m 150 #[iv p0, iv p1, iv p2, iv p3, iv p4, iv (1 : Int32), rv b277, rv b283, rv b296, iv k, rv b320, .val .null, rv b340, iv (1 : Int32)] [(.int (1 : Int32)), (.int (1 : Int32))])) _
      refine XS.icmpNo X355.here hx rfl (hb hby at_150) rfl (teq (by decide : (1 : Int32) = (1 : Int32))).2 ?_
      show Steps p.tables e below (T355.setTop (mkF m 153 #[iv p0, iv p1, iv p2, iv p3, iv p4, iv (1 : Int32), rv b277, rv b283, rv b296, iv k, rv b320, .val .null, rv b340, iv (1 : Int32)] [])) _
      refine XS.iload X355.here hx rfl (hb hby at_153) rfl ?_
      show Steps p.tables e below (T355.setTop (mkF m 155 #[iv p0, iv p1, iv p2, iv p3, iv p4, iv (1 : Int32), rv b277, rv b283, rv b296, iv k, rv b320, .val .null, rv b340, iv (1 : Int32)] [(.int (1 : Int32))])) _
      refine XS.aload X355.here hx rfl (hb hby at_155) rfl rfl ?_
      show Steps p.tables e below (T355.setTop (mkF m 157 #[iv p0, iv p1, iv p2, iv p3, iv p4, iv (1 : Int32), rv b277, rv b283, rv b296, iv k, rv b320, .val .null, rv b340, iv (1 : Int32)] [(.ref b340), (.int (1 : Int32))])) _
      exact kont
    obtain ⟨cq358, kq358, q358a, q358b, q358c⟩ := isOf hZ e355 y349
    obtain ⟨_, _, ⟨T358, L358, k358, n358⟩, -, X358, ⟨Lc358, hQ358, l358, y358, z358⟩, st358⟩ := X355.virtualBack hx (y := (⟨"com/example/subsume/subsume/engine/Individual", "name", "()Ljava/lang/String;"⟩ : MethodName)) (z := (⟨"com/example/subsume/subsume/engine/Individual", "name", "()Ljava/lang/String;"⟩ : MethodName)) hown (mvT hZ (hw _ (List.mem_of_getElem? (i := 47) rfl))) (mvT hZ (hw _ (List.mem_of_getElem? (i := 48) rfl))) (notFace_of_selects (args := #[]) (mvT hZ (hw _ (List.mem_of_getElem? (i := 50) rfl)))) (mvT hZ (hw _ (List.mem_of_getElem? (i := 50) rfl))) (mvT hZ (hw _ (List.mem_of_getElem? (i := 49) rfl))) (by decide) (backOf (W := 1) (rm_nmN l Z a0 hw [] b340 T347.heap n0 O352 y350) hZ (hw _ (List.mem_of_getElem? (i := 51) rfl)) (hw _ (List.mem_of_getElem? (i := 33) rfl)) (by decide) (by decide)) q358a q358c (g := (mkF m 157 #[iv p0, iv p1, iv p2, iv p3, iv p4, iv (1 : Int32), rv b277, rv b283, rv b296, iv k, rv b320, .val .null, rv b340, iv (1 : Int32)] [(.ref b340), (.int (1 : Int32))])) rfl (by rw [hml]; rfl) (Steps.refl _) (argsL := []) (rest := [(.int (1 : Int32))]) (lenOf pd_7 rfl) rfl (by show 2 * 0 + _ ≤ _; exact Nat.le_of_eq rfl) (hb hby at_157) (fun _ _ => ⟨rfl, e355, (by decide : 9 + 0 ≤ _), (by decide : 17 + 0 ≤ _)⟩)
    dsimp only [Pt.U, Pt.locs, Pt.cells, Pt.slots] at X358 l358 y358 z358 st358 hQ358
    subst l358 y358 z358
    obtain ⟨rfl, M358, e358⟩ := hQ358
    have N358 := Fr.app N355 M358
    have g359 : Go p e below T358 (mkF m 160 #[iv p0, iv p1, iv p2, iv p3, iv p4, iv (1 : Int32), rv b277, rv b283, rv b296, iv k, rv b320, .val .null, rv b340, iv (1 : Int32)] [.null, (.int (1 : Int32))]) A0 := fun t kont => g357 t (st358.trans kont)
    have g360 : Go p e below T358 (mkF m 176 #[iv p0, iv p1, iv p2, iv p3, iv p4, iv (1 : Int32), rv b277, rv b283, rv b296, iv k, rv b320, .val .null, rv b340, iv (1 : Int32)] [(.int (1 : Int32))]) A0 := by
      intro t kont
      refine g359 t ?_
      refine XS.ifnonnullNo X358.here hx rfl (hb hby at_160) rfl ?_
      show Steps p.tables e below (T358.setTop (mkF m 163 #[iv p0, iv p1, iv p2, iv p3, iv p4, iv (1 : Int32), rv b277, rv b283, rv b296, iv k, rv b320, .val .null, rv b340, iv (1 : Int32)] [(.int (1 : Int32))])) _
      refine XS.iconst X358.here hx rfl (hb hby at_163) ?_
      show Steps p.tables e below (T358.setTop (mkF m 164 #[iv p0, iv p1, iv p2, iv p3, iv p4, iv (1 : Int32), rv b277, rv b283, rv b296, iv k, rv b320, .val .null, rv b340, iv (1 : Int32)] [(.int (1 : Int32)), (.int (1 : Int32))])) _
      refine XS.goto X358.here hx rfl (pc0 := 164) (pc' := 168) rfl (hb hby at_164) (by decide) (by decide) ?_
      show Steps p.tables e below (T358.setTop (mkF m 168 #[iv p0, iv p1, iv p2, iv p3, iv p4, iv (1 : Int32), rv b277, rv b283, rv b296, iv k, rv b320, .val .null, rv b340, iv (1 : Int32)] [(.int (1 : Int32)), (.int (1 : Int32))])) _
      refine XS.icmpNo X358.here hx rfl (hb hby at_168) rfl (teq (by decide : (1 : Int32) = (1 : Int32))).2 ?_
      show Steps p.tables e below (T358.setTop (mkF m 171 #[iv p0, iv p1, iv p2, iv p3, iv p4, iv (1 : Int32), rv b277, rv b283, rv b296, iv k, rv b320, .val .null, rv b340, iv (1 : Int32)] [])) _
      refine XS.iconst X358.here hx rfl (hb hby at_171) ?_
      show Steps p.tables e below (T358.setTop (mkF m 172 #[iv p0, iv p1, iv p2, iv p3, iv p4, iv (1 : Int32), rv b277, rv b283, rv b296, iv k, rv b320, .val .null, rv b340, iv (1 : Int32)] [(.int (1 : Int32))])) _
      refine XS.goto X358.here hx rfl (pc0 := 172) (pc' := 176) rfl (hb hby at_172) (by decide) (by decide) ?_
      show Steps p.tables e below (T358.setTop (mkF m 176 #[iv p0, iv p1, iv p2, iv p3, iv p4, iv (1 : Int32), rv b277, rv b283, rv b296, iv k, rv b320, .val .null, rv b340, iv (1 : Int32)] [(.int (1 : Int32))])) _
      exact kont
    obtain ⟨fs, hr, hrun, hended, hRW⟩ := X358.leaveW hS (by rw [e358]; exact (Nat.le_trans (Nat.le_refl _) (Nat.le_trans E340.1 K347.1))) (v := some (.int (1 : Int32))) (fun h => by rw [Bd.returns] at h; cases h)
    refine ⟨_, _, g360 _ (retN X358 hx (t := .boolean) Bd.returns (by simp) (hb hby at_176) hr), hrun, hended, _, _, rfl, ?_, ?_, hRW.1, hRW.2.1, hRW.2.2.1, hRW.2.2.2.mono (by decide) (by decide)⟩
    ·
      show Q_law Z p0 p1 p2 p3 p4 i_COMPACT_STRINGS h0 n0 _ T358.heap _
      rw [e358]
      exact ⟨rfl, N358⟩
    ·
      rw [hh]
      show CHr Z consts_1 s.vm h0 T358.vm T358.heap
      rw [e358]
      exact R351.trans (CHv.at X358 hZ (own_EW hw) R351.1)
  have g362 : Go p e below T309 (mkF m 85 #[iv p0, iv p1, iv p2, iv p3, iv p4, iv (1 : Int32), rv b277, rv b283, rv b296, iv k, .unset, .unset, .unset, .unset] [(.int (1 : Int32)), (.int k)]) A0 := by
    intro t kont
    refine g318 t ?_
    refine XS.ifYes X309.here hx rfl (pc0 := 65) (pc' := 82) rfl (hb hby at_65) rfl ((if0 _ _).trans (feq c317).2) (by decide) (by decide) ?_
    show Steps p.tables e below (T309.setTop (mkF m 82 #[iv p0, iv p1, iv p2, iv p3, iv p4, iv (1 : Int32), rv b277, rv b283, rv b296, iv k, .unset, .unset, .unset, .unset] [])) _
    refine XS.iload X309.here hx rfl (hb hby at_82) rfl ?_
    show Steps p.tables e below (T309.setTop (mkF m 84 #[iv p0, iv p1, iv p2, iv p3, iv p4, iv (1 : Int32), rv b277, rv b283, rv b296, iv k, .unset, .unset, .unset, .unset] [(.int k)])) _
    refine XS.iconst X309.here hx rfl (hb hby at_84) ?_
    show Steps p.tables e below (T309.setTop (mkF m 85 #[iv p0, iv p1, iv p2, iv p3, iv p4, iv (1 : Int32), rv b277, rv b283, rv b296, iv k, .unset, .unset, .unset, .unset] [(.int (1 : Int32)), (.int k)])) _
    exact kont
  by_cases c361 : k = (1 : Int32)
  ·
    have g363 : Go p e below T309 (mkF m 88 #[iv p0, iv p1, iv p2, iv p3, iv p4, iv (1 : Int32), rv b277, rv b283, rv b296, iv k, .unset, .unset, .unset, .unset] []) A0 := by
      intro t kont
      refine g362 t ?_
      refine XS.icmpNo X309.here hx rfl (hb hby at_85) rfl (teq c361).2 ?_
      show Steps p.tables e below (T309.setTop (mkF m 88 #[iv p0, iv p1, iv p2, iv p3, iv p4, iv (1 : Int32), rv b277, rv b283, rv b296, iv k, .unset, .unset, .unset, .unset] [])) _
      exact kont
    obtain ⟨T364, h364, X364, e364, E364, A364, D364, -, st364⟩ := newO X309 hx hZ hown (hw _ (List.mem_of_getElem? (i := 2) rfl)) (hw _ (List.mem_of_getElem? (i := 3) rfl)) (hw _ (List.mem_of_getElem? (i := 4) rfl)) e309 (g := (mkF m 88 #[iv p0, iv p1, iv p2, iv p3, iv p4, iv (1 : Int32), rv b277, rv b283, rv b296, iv k, .unset, .unset, .unset, .unset] [])) rfl (hb hby at_88) (by decide) (by decide)
    obtain ⟨b364, gb364⟩ : ∃ z, z = h309.size := ⟨_, rfl⟩
    rw [← gb364] at A364 D364 st364
    have R365 : CHr Z consts_1 s.vm h0 s.vm h364 := R310.trans (CHr.ext E364 R310.1)
    have O366 := O312.ext E364
    have y367 : Fld Z h364 b364 "java/lang/String" "coder" "B" (.int (0 : Int32)) := D364 (Or.inr (hw _ (List.mem_of_getElem? (i := 28) rfl))) (ty := .byte) (by decide)
    have y368 : Fld Z h364 b364 "java/lang/String" "value" "[B" .null := D364 (Or.inr (hw _ (List.mem_of_getElem? (i := 30) rfl))) (ty := (.array .byte)) (by decide)
    have g369 : Go p e below T364 (mkF m 91 #[iv p0, iv p1, iv p2, iv p3, iv p4, iv (1 : Int32), rv b277, rv b283, rv b296, iv k, .unset, .unset, .unset, .unset] [(.ref b364)]) A0 := fun t kont => g363 t (st364 t kont)
    have g370 : Go p e below T364 (mkF m 94 #[iv p0, iv p1, iv p2, iv p3, iv p4, iv (1 : Int32), rv b277, rv b283, rv b296, iv k, .unset, .unset, .unset, .unset] [(.ref b283), (.ref b364), (.ref b364)]) A0 := by
      intro t kont
      refine g369 t ?_
      refine XS.dup X364.here hx rfl (hb hby at_91) rfl rfl ?_
      show Steps p.tables e below (T364.setTop (mkF m 92 #[iv p0, iv p1, iv p2, iv p3, iv p4, iv (1 : Int32), rv b277, rv b283, rv b296, iv k, .unset, .unset, .unset, .unset] [(.ref b364), (.ref b364)])) _
      refine XS.aload X364.here hx rfl (hb hby at_92) rfl rfl ?_
      show Steps p.tables e below (T364.setTop (mkF m 94 #[iv p0, iv p1, iv p2, iv p3, iv p4, iv (1 : Int32), rv b277, rv b283, rv b296, iv k, .unset, .unset, .unset, .unset] [(.ref b283), (.ref b364), (.ref b364)])) _
      exact kont
    have y372 : Arv Z h364 b283 k283 .char (1 : Int32) [(.int ((p1 &&& (255 : Int32)).toUInt32.toUInt16.toUInt32.toInt32))] (.int (0 : Int32)) := ((((y293.ext E296).other W302 (Nat.ne_of_lt (Nat.lt_of_lt_of_le (Nat.lt_of_lt_of_le y286.lt (Keep.of_wr W289).1) (Nat.le_of_eq gb296.symm)))).other W309 (Nat.ne_of_lt (Nat.lt_of_lt_of_le (Nat.lt_of_lt_of_le y286.lt (Keep.of_wr W289).1) (Nat.le_of_eq gb296.symm)))).ext E364)
    have ge373 : n0 ≤ b364 := Nat.le_trans (own_old_le O312) (Nat.le_of_eq gb364.symm)
    obtain ⟨_, _, ⟨T371, L371, k371, n371⟩, -, X371, ⟨Lc371, hQ371, l371, y371, z371⟩, st371⟩ := X364.specialBack hx (y := (⟨"java/lang/String", "<init>", "([C)V"⟩ : MethodName)) rfl hown (mvT hZ (hw _ (List.mem_of_getElem? (i := 5) rfl))) (mvT hZ (hw _ (List.mem_of_getElem? (i := 6) rfl))) (mvT hZ (hw _ (List.mem_of_getElem? (i := 7) rfl))) (by decide) (backOf (W := 1) (rm_sIni1 l Z a0 hw [] b364 b283 k283 ((p1 &&& (255 : Int32)).toUInt32.toUInt16.toUInt32.toInt32) i_COMPACT_STRINGS h364 n0 O366 y368 y367 A364 ge373 y372 (own_c255 p1) S0_ hcs) hZ (hw _ (List.mem_of_getElem? (i := 7) rfl)) (hw _ (List.mem_of_getElem? (i := 4) rfl)) (by decide) (by decide)) (g := (mkF m 94 #[iv p0, iv p1, iv p2, iv p3, iv p4, iv (1 : Int32), rv b277, rv b283, rv b296, iv k, .unset, .unset, .unset, .unset] [(.ref b283), (.ref b364), (.ref b364)])) rfl (by rw [hml]; rfl) (Steps.refl _) (a := b364) (argsL := [(.ref b283)]) (rest := [(.ref b364)]) (lenOf pd_4 rfl) rfl (by show 2 * 0 + _ ≤ _; exact Nat.le_of_eq rfl) (hb hby at_94) (fun _ _ => ⟨rfl, e364, (by decide : 4 + 1 ≤ _), (by decide : 7 + 1 ≤ _)⟩)
    dsimp only [Pt.U, Pt.locs, Pt.cells, Pt.slots] at X371 l371 y371 z371 st371 hQ371
    subst l371 y371 z371
    obtain ⟨r374, r375, rfl, M371, K371, y376, y377, y378, y379, y380⟩ := hQ371
    have N371 := Fr.app N309 M371
    have R381 : CHr Z consts_1 s.vm h0 s.vm T371.heap := R365.trans (CHr.keep K371 (sfS (Safe.ext E364 R310.1 (Safe.new (Nat.le_of_eq gb364.symm))) sf0) R365.1)
    have O382 := O366.keep K371 (allS ge373 all0)
    have g383 : Go p e below T371 (mkF m 97 #[iv p0, iv p1, iv p2, iv p3, iv p4, iv (1 : Int32), rv b277, rv b283, rv b296, iv k, .unset, .unset, .unset, .unset] [(.ref b364)]) A0 := fun t kont => g370 t (st371.trans kont)
    have g384 : Go p e below T371 (mkF m 126 #[iv p0, iv p1, iv p2, iv p3, iv p4, iv (1 : Int32), rv b277, rv b283, rv b296, iv k, rv b364, .val .null, .unset, .unset] []) A0 := by
      intro t kont
      refine g383 t ?_
      refine XS.astore X371.here hx rfl (hb hby at_97) rfl rfl (l' := #[iv p0, iv p1, iv p2, iv p3, iv p4, iv (1 : Int32), rv b277, rv b283, rv b296, iv k, rv b364, .unset, .unset, .unset]) rfl ?_
      show Steps p.tables e below (T371.setTop (mkF m 99 #[iv p0, iv p1, iv p2, iv p3, iv p4, iv (1 : Int32), rv b277, rv b283, rv b296, iv k, rv b364, .unset, .unset, .unset] [])) _
      refine XS.goto X371.here hx rfl (pc0 := 99) (pc' := 113) rfl (hb hby at_99) (by decide) (by decide) ?_
      show Steps p.tables e below (T371.setTop (mkF m 113 #[iv p0, iv p1, iv p2, iv p3, iv p4, iv (1 : Int32), rv b277, rv b283, rv b296, iv k, rv b364, .unset, .unset, .unset] [])) _
      refine XS.iload X371.here hx rfl (hb hby at_113) rfl ?_
      show Steps p.tables e below (T371.setTop (mkF m 115 #[iv p0, iv p1, iv p2, iv p3, iv p4, iv (1 : Int32), rv b277, rv b283, rv b296, iv k, rv b364, .unset, .unset, .unset] [(.int (1 : Int32))])) _
      refine XS.ifNo X371.here hx rfl (hb hby at_115) rfl ((if0 _ _).trans (feq (by decide : ¬ ((1 : Int32) = (0 : Int32)))).1) ?_
      show Steps p.tables e below (T371.setTop (mkF m 118 #[iv p0, iv p1, iv p2, iv p3, iv p4, iv (1 : Int32), rv b277, rv b283, rv b296, iv k, rv b364, .unset, .unset, .unset] [])) _
      refine XS.aconstNull X371.here hx rfl (hb hby at_118) ?_
      show Steps p.tables e below (T371.setTop (mkF m 119 #[iv p0, iv p1, iv p2, iv p3, iv p4, iv (1 : Int32), rv b277, rv b283, rv b296, iv k, rv b364, .unset, .unset, .unset] [.null])) _
      refine XS.goto X371.here hx rfl (pc0 := 119) (pc' := 124) rfl (hb hby at_119) (by decide) (by decide) ?_
      show Steps p.tables e below (T371.setTop (mkF m 124 #[iv p0, iv p1, iv p2, iv p3, iv p4, iv (1 : Int32), rv b277, rv b283, rv b296, iv k, rv b364, .unset, .unset, .unset] [.null])) _
      refine XS.astore X371.here hx rfl (hb hby at_124) rfl rfl (l' := #[iv p0, iv p1, iv p2, iv p3, iv p4, iv (1 : Int32), rv b277, rv b283, rv b296, iv k, rv b364, .val .null, .unset, .unset]) rfl ?_
      show Steps p.tables e below (T371.setTop (mkF m 126 #[iv p0, iv p1, iv p2, iv p3, iv p4, iv (1 : Int32), rv b277, rv b283, rv b296, iv k, rv b364, .val .null, .unset, .unset] [])) _
      exact kont
    obtain ⟨T385, h385, X385, e385, E385, A385, D385, -, st385⟩ := newO X371 hx hZ hown (hw _ (List.mem_of_getElem? (i := 31) rfl)) (hw _ (List.mem_of_getElem? (i := 32) rfl)) (hw _ (List.mem_of_getElem? (i := 33) rfl)) rfl (g := (mkF m 126 #[iv p0, iv p1, iv p2, iv p3, iv p4, iv (1 : Int32), rv b277, rv b283, rv b296, iv k, rv b364, .val .null, .unset, .unset] [])) rfl (hb hby at_126) (by decide) (by decide)
    obtain ⟨b385, gb385⟩ : ∃ z, z = T371.heap.size := ⟨_, rfl⟩
    rw [← gb385] at A385 D385 st385
    have R386 : CHr Z consts_1 s.vm h0 s.vm h385 := R381.trans (CHr.ext E385 R381.1)
    have O387 := O382.ext E385
    have y388 : Fld Z h385 b385 "com/example/subsume/subsume/engine/Individual" "name" "Ljava/lang/String;" .null := D385 (Or.inr (hw _ (List.mem_of_getElem? (i := 39) rfl))) (ty := (.object "java/lang/String")) (by decide)
    have y389 : Fld Z h385 b385 "com/example/subsume/subsume/engine/Individual" "id" "I" (.int (0 : Int32)) := D385 (Or.inr (hw _ (List.mem_of_getElem? (i := 41) rfl))) (ty := .int) (by decide)
    have g390 : Go p e below T385 (mkF m 129 #[iv p0, iv p1, iv p2, iv p3, iv p4, iv (1 : Int32), rv b277, rv b283, rv b296, iv k, rv b364, .val .null, .unset, .unset] [(.ref b385)]) A0 := fun t kont => g384 t (st385 t kont)
    have g391 : Go p e below T385 (mkF m 134 #[iv p0, iv p1, iv p2, iv p3, iv p4, iv (1 : Int32), rv b277, rv b283, rv b296, iv k, rv b364, .val .null, .unset, .unset] [(.int p4), .null, (.ref b385), (.ref b385)]) A0 := by
      intro t kont
      refine g390 t ?_
      refine XS.dup X385.here hx rfl (hb hby at_129) rfl rfl ?_
      show Steps p.tables e below (T385.setTop (mkF m 130 #[iv p0, iv p1, iv p2, iv p3, iv p4, iv (1 : Int32), rv b277, rv b283, rv b296, iv k, rv b364, .val .null, .unset, .unset] [(.ref b385), (.ref b385)])) _
      refine XS.aload X385.here hx rfl (hb hby at_130) rfl rfl ?_
      show Steps p.tables e below (T385.setTop (mkF m 132 #[iv p0, iv p1, iv p2, iv p3, iv p4, iv (1 : Int32), rv b277, rv b283, rv b296, iv k, rv b364, .val .null, .unset, .unset] [.null, (.ref b385), (.ref b385)])) _
      refine XS.iload X385.here hx rfl (hb hby at_132) rfl ?_
      show Steps p.tables e below (T385.setTop (mkF m 134 #[iv p0, iv p1, iv p2, iv p3, iv p4, iv (1 : Int32), rv b277, rv b283, rv b296, iv k, rv b364, .val .null, .unset, .unset] [(.int p4), .null, (.ref b385), (.ref b385)])) _
      exact kont
    have ge393 : n0 ≤ b385 := Nat.le_trans (own_old_le O382) (Nat.le_of_eq gb385.symm)
    obtain ⟨_, _, ⟨T392, L392, k392, n392⟩, -, X392, ⟨Lc392, hQ392, l392, y392, z392⟩, st392⟩ := X385.specialBack hx (y := (⟨"com/example/subsume/subsume/engine/Individual", "<init>", "(Ljava/lang/String;I)V"⟩ : MethodName)) rfl hown (mvT hZ (hw _ (List.mem_of_getElem? (i := 34) rfl))) (mvT hZ (hw _ (List.mem_of_getElem? (i := 35) rfl))) (mvT hZ (hw _ (List.mem_of_getElem? (i := 36) rfl))) (by decide) (backOf (W := 1) (rm_indI l Z a0 hw [] b385 .null p4 h385 n0 O387 (rfl) y388 y389 A385 ge393) hZ (hw _ (List.mem_of_getElem? (i := 36) rfl)) (hw _ (List.mem_of_getElem? (i := 33) rfl)) (by decide) (by decide)) (g := (mkF m 134 #[iv p0, iv p1, iv p2, iv p3, iv p4, iv (1 : Int32), rv b277, rv b283, rv b296, iv k, rv b364, .val .null, .unset, .unset] [(.int p4), .null, (.ref b385), (.ref b385)])) rfl (by rw [hml]; rfl) (Steps.refl _) (a := b385) (argsL := [.null, (.int p4)]) (rest := [(.ref b385)]) (lenOf pd_5 rfl) rfl (by show 2 * 0 + _ ≤ _; exact Nat.le_of_eq rfl) (hb hby at_134) (fun _ _ => ⟨rfl, e385, (by decide : 6 + 0 ≤ _), (by decide : 10 + 0 ≤ _)⟩)
    dsimp only [Pt.U, Pt.locs, Pt.cells, Pt.slots] at X392 l392 y392 z392 st392 hQ392
    subst l392 y392 z392
    obtain ⟨rfl, M392, K392, y394, y395⟩ := hQ392
    have N392 := Fr.app N371 M392
    have R396 : CHr Z consts_1 s.vm h0 s.vm T392.heap := R386.trans (CHr.keep K392 (sfS (Safe.ext E385 R381.1 (Safe.new (Nat.le_of_eq gb385.symm))) sf0) R386.1)
    have O397 := O387.keep K392 (allS ge393 all0)
    have g398 : Go p e below T392 (mkF m 137 #[iv p0, iv p1, iv p2, iv p3, iv p4, iv (1 : Int32), rv b277, rv b283, rv b296, iv k, rv b364, .val .null, .unset, .unset] [(.ref b385)]) A0 := fun t kont => g391 t (st392.trans kont)
    have g399 : Go p e below T392 (mkF m 141 #[iv p0, iv p1, iv p2, iv p3, iv p4, iv (1 : Int32), rv b277, rv b283, rv b296, iv k, rv b364, .val .null, rv b385, .unset] [(.ref b385)]) A0 := by
      intro t kont
      refine g398 t ?_
      refine XS.astore X392.here hx rfl (hb hby at_137) rfl rfl (l' := #[iv p0, iv p1, iv p2, iv p3, iv p4, iv (1 : Int32), rv b277, rv b283, rv b296, iv k, rv b364, .val .null, rv b385, .unset]) rfl ?_
      show Steps p.tables e below (T392.setTop (mkF m 139 #[iv p0, iv p1, iv p2, iv p3, iv p4, iv (1 : Int32), rv b277, rv b283, rv b296, iv k, rv b364, .val .null, rv b385, .unset] [])) _
      refine XS.aload X392.here hx rfl (hb hby at_139) rfl rfl ?_
      show Steps p.tables e below (T392.setTop (mkF m 141 #[iv p0, iv p1, iv p2, iv p3, iv p4, iv (1 : Int32), rv b277, rv b283, rv b296, iv k, rv b364, .val .null, rv b385, .unset] [(.ref b385)])) _
      exact kont
    obtain ⟨cq400, kq400, q400a, q400b, q400c⟩ := isOf hZ rfl y394
    obtain ⟨_, _, ⟨T400, L400, k400, n400⟩, -, X400, ⟨Lc400, hQ400, l400, y400, z400⟩, st400⟩ := X392.virtualBack hx (y := (⟨"com/example/subsume/subsume/engine/Individual", "isAnonymous", "()Z"⟩ : MethodName)) (z := (⟨"com/example/subsume/subsume/engine/Individual", "isAnonymous", "()Z"⟩ : MethodName)) hown (mvT hZ (hw _ (List.mem_of_getElem? (i := 42) rfl))) (mvT hZ (hw _ (List.mem_of_getElem? (i := 43) rfl))) (notFace_of_selects (args := #[]) (mvT hZ (hw _ (List.mem_of_getElem? (i := 45) rfl)))) (mvT hZ (hw _ (List.mem_of_getElem? (i := 45) rfl))) (mvT hZ (hw _ (List.mem_of_getElem? (i := 44) rfl))) (by decide) (backOf (W := 0) (rm_isN l Z a0 hw [] b385 T392.heap n0 O397 y395) hZ (hw _ (List.mem_of_getElem? (i := 46) rfl)) (hw _ (List.mem_of_getElem? (i := 33) rfl)) (by decide) (by decide)) q400a q400c (g := (mkF m 141 #[iv p0, iv p1, iv p2, iv p3, iv p4, iv (1 : Int32), rv b277, rv b283, rv b296, iv k, rv b364, .val .null, rv b385, .unset] [(.ref b385)])) rfl (by rw [hml]; rfl) (Steps.refl _) (argsL := []) (rest := []) (lenOf pd_6 rfl) rfl (by show 2 * 0 + _ ≤ _; exact Nat.le_of_eq rfl) (hb hby at_141) (fun _ _ => ⟨rfl, rfl, (by decide : 6 + 0 ≤ _), (by decide : 10 + 0 ≤ _)⟩)
    dsimp only [Pt.U, Pt.locs, Pt.cells, Pt.slots] at X400 l400 y400 z400 st400 hQ400
    subst l400 y400 z400
    obtain ⟨rfl, M400, e400⟩ := hQ400
    have N400 := Fr.app N392 M400
    have g401 : Go p e below T400 (mkF m 144 #[iv p0, iv p1, iv p2, iv p3, iv p4, iv (1 : Int32), rv b277, rv b283, rv b296, iv k, rv b364, .val .null, rv b385, .unset] [(.int (1 : Int32))]) A0 := fun t kont => g399 t (st400.trans kont)
    have g402 : Go p e below T400 (mkF m 157 #[iv p0, iv p1, iv p2, iv p3, iv p4, iv (1 : Int32), rv b277, rv b283, rv b296, iv k, rv b364, .val .null, rv b385, iv (1 : Int32)] [(.ref b385), (.int (1 : Int32))]) A0 := by
      intro t kont
      refine g401 t ?_
      refine XS.istore X400.here hx rfl (hb hby at_144) rfl (l' := #[iv p0, iv p1, iv p2, iv p3, iv p4, iv (1 : Int32), rv b277, rv b283, rv b296, iv k, rv b364, .val .null, rv b385, iv (1 : Int32)]) rfl ?_
      show Steps p.tables e below (T400.setTop (mkF m 146 #[iv p0, iv p1, iv p2, iv p3, iv p4, iv (1 : Int32), rv b277, rv b283, rv b296, iv k, rv b364, .val .null, rv b385, iv (1 : Int32)] [])) _
      refine XS.iload X400.here hx rfl (hb hby at_146) rfl ?_
      show Steps p.tables e below (T400.setTop (mkF m 148 #[iv p0, iv p1, iv p2, iv p3, iv p4, iv (1 : Int32), rv b277, rv b283, rv b296, iv k, rv b364, .val .null, rv b385, iv (1 : Int32)] [(.int (1 : Int32))])) _
      refine XS.iload X400.here hx rfl (hb hby at_148) rfl ?_
      show Steps p.tables e below (T400.setTop (mkF m 150 #[iv p0, iv p1, iv p2, iv p3, iv p4, iv (1 : Int32), rv b277, rv b283, rv b296, iv k, rv b364, .val .null, rv b385, iv (1 : Int32)] [(.int (1 : Int32)), (.int (1 : Int32))])) _
      refine XS.icmpNo X400.here hx rfl (hb hby at_150) rfl (teq (by decide : (1 : Int32) = (1 : Int32))).2 ?_
      show Steps p.tables e below (T400.setTop (mkF m 153 #[iv p0, iv p1, iv p2, iv p3, iv p4, iv (1 : Int32), rv b277, rv b283, rv b296, iv k, rv b364, .val .null, rv b385, iv (1 : Int32)] [])) _
      refine XS.iload X400.here hx rfl (hb hby at_153) rfl ?_
      show Steps p.tables e below (T400.setTop (mkF m 155 #[iv p0, iv p1, iv p2, iv p3, iv p4, iv (1 : Int32), rv b277, rv b283, rv b296, iv k, rv b364, .val .null, rv b385, iv (1 : Int32)] [(.int (1 : Int32))])) _
      refine XS.aload X400.here hx rfl (hb hby at_155) rfl rfl ?_
      show Steps p.tables e below (T400.setTop (mkF m 157 #[iv p0, iv p1, iv p2, iv p3, iv p4, iv (1 : Int32), rv b277, rv b283, rv b296, iv k, rv b364, .val .null, rv b385, iv (1 : Int32)] [(.ref b385), (.int (1 : Int32))])) _
      exact kont
    obtain ⟨cq403, kq403, q403a, q403b, q403c⟩ := isOf hZ e400 y394
    obtain ⟨_, _, ⟨T403, L403, k403, n403⟩, -, X403, ⟨Lc403, hQ403, l403, y403, z403⟩, st403⟩ := X400.virtualBack hx (y := (⟨"com/example/subsume/subsume/engine/Individual", "name", "()Ljava/lang/String;"⟩ : MethodName)) (z := (⟨"com/example/subsume/subsume/engine/Individual", "name", "()Ljava/lang/String;"⟩ : MethodName)) hown (mvT hZ (hw _ (List.mem_of_getElem? (i := 47) rfl))) (mvT hZ (hw _ (List.mem_of_getElem? (i := 48) rfl))) (notFace_of_selects (args := #[]) (mvT hZ (hw _ (List.mem_of_getElem? (i := 50) rfl)))) (mvT hZ (hw _ (List.mem_of_getElem? (i := 50) rfl))) (mvT hZ (hw _ (List.mem_of_getElem? (i := 49) rfl))) (by decide) (backOf (W := 1) (rm_nmN l Z a0 hw [] b385 T392.heap n0 O397 y395) hZ (hw _ (List.mem_of_getElem? (i := 51) rfl)) (hw _ (List.mem_of_getElem? (i := 33) rfl)) (by decide) (by decide)) q403a q403c (g := (mkF m 157 #[iv p0, iv p1, iv p2, iv p3, iv p4, iv (1 : Int32), rv b277, rv b283, rv b296, iv k, rv b364, .val .null, rv b385, iv (1 : Int32)] [(.ref b385), (.int (1 : Int32))])) rfl (by rw [hml]; rfl) (Steps.refl _) (argsL := []) (rest := [(.int (1 : Int32))]) (lenOf pd_7 rfl) rfl (by show 2 * 0 + _ ≤ _; exact Nat.le_of_eq rfl) (hb hby at_157) (fun _ _ => ⟨rfl, e400, (by decide : 6 + 0 ≤ _), (by decide : 10 + 0 ≤ _)⟩)
    dsimp only [Pt.U, Pt.locs, Pt.cells, Pt.slots] at X403 l403 y403 z403 st403 hQ403
    subst l403 y403 z403
    obtain ⟨rfl, M403, e403⟩ := hQ403
    have N403 := Fr.app N400 M403
    have g404 : Go p e below T403 (mkF m 160 #[iv p0, iv p1, iv p2, iv p3, iv p4, iv (1 : Int32), rv b277, rv b283, rv b296, iv k, rv b364, .val .null, rv b385, iv (1 : Int32)] [.null, (.int (1 : Int32))]) A0 := fun t kont => g402 t (st403.trans kont)
    have g405 : Go p e below T403 (mkF m 176 #[iv p0, iv p1, iv p2, iv p3, iv p4, iv (1 : Int32), rv b277, rv b283, rv b296, iv k, rv b364, .val .null, rv b385, iv (1 : Int32)] [(.int (1 : Int32))]) A0 := by
      intro t kont
      refine g404 t ?_
      refine XS.ifnonnullNo X403.here hx rfl (hb hby at_160) rfl ?_
      show Steps p.tables e below (T403.setTop (mkF m 163 #[iv p0, iv p1, iv p2, iv p3, iv p4, iv (1 : Int32), rv b277, rv b283, rv b296, iv k, rv b364, .val .null, rv b385, iv (1 : Int32)] [(.int (1 : Int32))])) _
      refine XS.iconst X403.here hx rfl (hb hby at_163) ?_
      show Steps p.tables e below (T403.setTop (mkF m 164 #[iv p0, iv p1, iv p2, iv p3, iv p4, iv (1 : Int32), rv b277, rv b283, rv b296, iv k, rv b364, .val .null, rv b385, iv (1 : Int32)] [(.int (1 : Int32)), (.int (1 : Int32))])) _
      refine XS.goto X403.here hx rfl (pc0 := 164) (pc' := 168) rfl (hb hby at_164) (by decide) (by decide) ?_
      show Steps p.tables e below (T403.setTop (mkF m 168 #[iv p0, iv p1, iv p2, iv p3, iv p4, iv (1 : Int32), rv b277, rv b283, rv b296, iv k, rv b364, .val .null, rv b385, iv (1 : Int32)] [(.int (1 : Int32)), (.int (1 : Int32))])) _
      refine XS.icmpNo X403.here hx rfl (hb hby at_168) rfl (teq (by decide : (1 : Int32) = (1 : Int32))).2 ?_
      show Steps p.tables e below (T403.setTop (mkF m 171 #[iv p0, iv p1, iv p2, iv p3, iv p4, iv (1 : Int32), rv b277, rv b283, rv b296, iv k, rv b364, .val .null, rv b385, iv (1 : Int32)] [])) _
      refine XS.iconst X403.here hx rfl (hb hby at_171) ?_
      show Steps p.tables e below (T403.setTop (mkF m 172 #[iv p0, iv p1, iv p2, iv p3, iv p4, iv (1 : Int32), rv b277, rv b283, rv b296, iv k, rv b364, .val .null, rv b385, iv (1 : Int32)] [(.int (1 : Int32))])) _
      refine XS.goto X403.here hx rfl (pc0 := 172) (pc' := 176) rfl (hb hby at_172) (by decide) (by decide) ?_
      show Steps p.tables e below (T403.setTop (mkF m 176 #[iv p0, iv p1, iv p2, iv p3, iv p4, iv (1 : Int32), rv b277, rv b283, rv b296, iv k, rv b364, .val .null, rv b385, iv (1 : Int32)] [(.int (1 : Int32))])) _
      exact kont
    obtain ⟨fs, hr, hrun, hended, hRW⟩ := X403.leaveW hS (by rw [e403]; exact (Nat.le_trans hk (Nat.le_trans (Nat.le_trans (Nat.le_trans (Nat.le_trans (Nat.le_trans (Nat.le_trans (Nat.le_trans (Nat.le_trans (Nat.le_trans E277.1 E283.1) (Keep.of_wr W289).1) E296.1) (Keep.of_wr W302).1) (Keep.of_wr W309).1) E364.1) K371.1) E385.1) K392.1))) (v := some (.int (1 : Int32))) (fun h => by rw [Bd.returns] at h; cases h)
    refine ⟨_, _, g405 _ (retN X403 hx (t := .boolean) Bd.returns (by simp) (hb hby at_176) hr), hrun, hended, _, _, rfl, ?_, ?_, hRW.1, hRW.2.1, hRW.2.2.1, hRW.2.2.2.mono (by decide) (by decide)⟩
    ·
      show Q_law Z p0 p1 p2 p3 p4 i_COMPACT_STRINGS h0 n0 _ T403.heap _
      rw [e403]
      exact ⟨rfl, N403⟩
    ·
      rw [hh]
      show CHr Z consts_1 s.vm h0 T403.vm T403.heap
      rw [e403]
      exact R396.trans (CHv.at X403 hZ (own_EW hw) R396.1)
  have g406 : Go p e below T309 (mkF m 102 #[iv p0, iv p1, iv p2, iv p3, iv p4, iv (1 : Int32), rv b277, rv b283, rv b296, iv k, .unset, .unset, .unset, .unset] []) A0 := by
    intro t kont
    refine g362 t ?_
    refine XS.icmpYes X309.here hx rfl (pc0 := 85) (pc' := 102) rfl (hb hby at_85) rfl (feq c361).2 (by decide) (by decide) ?_
    show Steps p.tables e below (T309.setTop (mkF m 102 #[iv p0, iv p1, iv p2, iv p3, iv p4, iv (1 : Int32), rv b277, rv b283, rv b296, iv k, .unset, .unset, .unset, .unset] [])) _
    exact kont
  obtain ⟨T407, h407, X407, e407, E407, A407, D407, -, st407⟩ := newO X309 hx hZ hown (hw _ (List.mem_of_getElem? (i := 2) rfl)) (hw _ (List.mem_of_getElem? (i := 3) rfl)) (hw _ (List.mem_of_getElem? (i := 4) rfl)) e309 (g := (mkF m 102 #[iv p0, iv p1, iv p2, iv p3, iv p4, iv (1 : Int32), rv b277, rv b283, rv b296, iv k, .unset, .unset, .unset, .unset] [])) rfl (hb hby at_102) (by decide) (by decide)
  obtain ⟨b407, gb407⟩ : ∃ z, z = h309.size := ⟨_, rfl⟩
  rw [← gb407] at A407 D407 st407
  have R408 : CHr Z consts_1 s.vm h0 s.vm h407 := R310.trans (CHr.ext E407 R310.1)
  have O409 := O312.ext E407
  have y410 : Fld Z h407 b407 "java/lang/String" "coder" "B" (.int (0 : Int32)) := D407 (Or.inr (hw _ (List.mem_of_getElem? (i := 28) rfl))) (ty := .byte) (by decide)
  have y411 : Fld Z h407 b407 "java/lang/String" "value" "[B" .null := D407 (Or.inr (hw _ (List.mem_of_getElem? (i := 30) rfl))) (ty := (.array .byte)) (by decide)
  have g412 : Go p e below T407 (mkF m 105 #[iv p0, iv p1, iv p2, iv p3, iv p4, iv (1 : Int32), rv b277, rv b283, rv b296, iv k, .unset, .unset, .unset, .unset] [(.ref b407)]) A0 := fun t kont => g406 t (st407 t kont)
  have g413 : Go p e below T407 (mkF m 108 #[iv p0, iv p1, iv p2, iv p3, iv p4, iv (1 : Int32), rv b277, rv b283, rv b296, iv k, .unset, .unset, .unset, .unset] [(.ref b296), (.ref b407), (.ref b407)]) A0 := by
    intro t kont
    refine g412 t ?_
    refine XS.dup X407.here hx rfl (hb hby at_105) rfl rfl ?_
    show Steps p.tables e below (T407.setTop (mkF m 106 #[iv p0, iv p1, iv p2, iv p3, iv p4, iv (1 : Int32), rv b277, rv b283, rv b296, iv k, .unset, .unset, .unset, .unset] [(.ref b407), (.ref b407)])) _
    refine XS.aload X407.here hx rfl (hb hby at_106) rfl rfl ?_
    show Steps p.tables e below (T407.setTop (mkF m 108 #[iv p0, iv p1, iv p2, iv p3, iv p4, iv (1 : Int32), rv b277, rv b283, rv b296, iv k, .unset, .unset, .unset, .unset] [(.ref b296), (.ref b407), (.ref b407)])) _
    exact kont
  have y415 : Arv Z h407 b296 k296 .char (2 : Int32) [(.int ((p1 &&& (255 : Int32)).toUInt32.toUInt16.toUInt32.toInt32)), (.int ((p2 &&& (255 : Int32)).toUInt32.toUInt16.toUInt32.toInt32))] (.int (0 : Int32)) := (y313.ext E407)
  have ge416 : n0 ≤ b407 := Nat.le_trans (own_old_le O312) (Nat.le_of_eq gb407.symm)
  obtain ⟨_, _, ⟨T414, L414, k414, n414⟩, -, X414, ⟨Lc414, hQ414, l414, y414, z414⟩, st414⟩ := X407.specialBack hx (y := (⟨"java/lang/String", "<init>", "([C)V"⟩ : MethodName)) rfl hown (mvT hZ (hw _ (List.mem_of_getElem? (i := 5) rfl))) (mvT hZ (hw _ (List.mem_of_getElem? (i := 6) rfl))) (mvT hZ (hw _ (List.mem_of_getElem? (i := 7) rfl))) (by decide) (backOf (W := 1) (rm_sIni2 l Z a0 hw [] b407 b296 k296 ((p1 &&& (255 : Int32)).toUInt32.toUInt16.toUInt32.toInt32) ((p2 &&& (255 : Int32)).toUInt32.toUInt16.toUInt32.toInt32) i_COMPACT_STRINGS h407 n0 O409 y411 y410 A407 ge416 y415 (own_c255 p1) (own_c255 p2) S0_ hcs) hZ (hw _ (List.mem_of_getElem? (i := 7) rfl)) (hw _ (List.mem_of_getElem? (i := 4) rfl)) (by decide) (by decide)) (g := (mkF m 108 #[iv p0, iv p1, iv p2, iv p3, iv p4, iv (1 : Int32), rv b277, rv b283, rv b296, iv k, .unset, .unset, .unset, .unset] [(.ref b296), (.ref b407), (.ref b407)])) rfl (by rw [hml]; rfl) (Steps.refl _) (a := b407) (argsL := [(.ref b296)]) (rest := [(.ref b407)]) (lenOf pd_4 rfl) rfl (by show 2 * 0 + _ ≤ _; exact Nat.le_of_eq rfl) (hb hby at_108) (fun _ _ => ⟨rfl, e407, (by decide : 4 + 1 ≤ _), (by decide : 7 + 2 ≤ _)⟩)
  dsimp only [Pt.U, Pt.locs, Pt.cells, Pt.slots] at X414 l414 y414 z414 st414 hQ414
  subst l414 y414 z414
  obtain ⟨r417, r418, rfl, M414, K414, y419, y420, y421, y422, y423⟩ := hQ414
  have N414 := Fr.app N309 M414
  have R424 : CHr Z consts_1 s.vm h0 s.vm T414.heap := R408.trans (CHr.keep K414 (sfS (Safe.ext E407 R310.1 (Safe.new (Nat.le_of_eq gb407.symm))) sf0) R408.1)
  have O425 := O409.keep K414 (allS ge416 all0)
  have g426 : Go p e below T414 (mkF m 111 #[iv p0, iv p1, iv p2, iv p3, iv p4, iv (1 : Int32), rv b277, rv b283, rv b296, iv k, .unset, .unset, .unset, .unset] [(.ref b407)]) A0 := fun t kont => g413 t (st414.trans kont)
  have g427 : Go p e below T414 (mkF m 126 #[iv p0, iv p1, iv p2, iv p3, iv p4, iv (1 : Int32), rv b277, rv b283, rv b296, iv k, rv b407, .val .null, .unset, .unset] []) A0 := by
    intro t kont
    refine g426 t ?_
    refine XS.astore X414.here hx rfl (hb hby at_111) rfl rfl (l' := #[iv p0, iv p1, iv p2, iv p3, iv p4, iv (1 : Int32), rv b277, rv b283, rv b296, iv k, rv b407, .unset, .unset, .unset]) rfl ?_
    show Steps p.tables e below (T414.setTop (mkF m 113 #[iv p0, iv p1, iv p2, iv p3, iv p4, iv (1 : Int32), rv b277, rv b283, rv b296, iv k, rv b407, .unset, .unset, .unset] [])) _
    refine XS.iload X414.here hx rfl (hb hby at_113) rfl ?_
    show Steps p.tables e below (T414.setTop (mkF m 115 #[iv p0, iv p1, iv p2, iv p3, iv p4, iv (1 : Int32), rv b277, rv b283, rv b296, iv k, rv b407, .unset, .unset, .unset] [(.int (1 : Int32))])) _
    refine XS.ifNo X414.here hx rfl (hb hby at_115) rfl ((if0 _ _).trans (feq (by decide : ¬ ((1 : Int32) = (0 : Int32)))).1) ?_
    show Steps p.tables e below (T414.setTop (mkF m 118 #[iv p0, iv p1, iv p2, iv p3, iv p4, iv (1 : Int32), rv b277, rv b283, rv b296, iv k, rv b407, .unset, .unset, .unset] [])) _
    refine XS.aconstNull X414.here hx rfl (hb hby at_118) ?_
    show Steps p.tables e below (T414.setTop (mkF m 119 #[iv p0, iv p1, iv p2, iv p3, iv p4, iv (1 : Int32), rv b277, rv b283, rv b296, iv k, rv b407, .unset, .unset, .unset] [.null])) _
    refine XS.goto X414.here hx rfl (pc0 := 119) (pc' := 124) rfl (hb hby at_119) (by decide) (by decide) ?_
    show Steps p.tables e below (T414.setTop (mkF m 124 #[iv p0, iv p1, iv p2, iv p3, iv p4, iv (1 : Int32), rv b277, rv b283, rv b296, iv k, rv b407, .unset, .unset, .unset] [.null])) _
    refine XS.astore X414.here hx rfl (hb hby at_124) rfl rfl (l' := #[iv p0, iv p1, iv p2, iv p3, iv p4, iv (1 : Int32), rv b277, rv b283, rv b296, iv k, rv b407, .val .null, .unset, .unset]) rfl ?_
    show Steps p.tables e below (T414.setTop (mkF m 126 #[iv p0, iv p1, iv p2, iv p3, iv p4, iv (1 : Int32), rv b277, rv b283, rv b296, iv k, rv b407, .val .null, .unset, .unset] [])) _
    exact kont
  obtain ⟨T428, h428, X428, e428, E428, A428, D428, -, st428⟩ := newO X414 hx hZ hown (hw _ (List.mem_of_getElem? (i := 31) rfl)) (hw _ (List.mem_of_getElem? (i := 32) rfl)) (hw _ (List.mem_of_getElem? (i := 33) rfl)) rfl (g := (mkF m 126 #[iv p0, iv p1, iv p2, iv p3, iv p4, iv (1 : Int32), rv b277, rv b283, rv b296, iv k, rv b407, .val .null, .unset, .unset] [])) rfl (hb hby at_126) (by decide) (by decide)
  obtain ⟨b428, gb428⟩ : ∃ z, z = T414.heap.size := ⟨_, rfl⟩
  rw [← gb428] at A428 D428 st428
  have R429 : CHr Z consts_1 s.vm h0 s.vm h428 := R424.trans (CHr.ext E428 R424.1)
  have O430 := O425.ext E428
  have y431 : Fld Z h428 b428 "com/example/subsume/subsume/engine/Individual" "name" "Ljava/lang/String;" .null := D428 (Or.inr (hw _ (List.mem_of_getElem? (i := 39) rfl))) (ty := (.object "java/lang/String")) (by decide)
  have y432 : Fld Z h428 b428 "com/example/subsume/subsume/engine/Individual" "id" "I" (.int (0 : Int32)) := D428 (Or.inr (hw _ (List.mem_of_getElem? (i := 41) rfl))) (ty := .int) (by decide)
  have g433 : Go p e below T428 (mkF m 129 #[iv p0, iv p1, iv p2, iv p3, iv p4, iv (1 : Int32), rv b277, rv b283, rv b296, iv k, rv b407, .val .null, .unset, .unset] [(.ref b428)]) A0 := fun t kont => g427 t (st428 t kont)
  have g434 : Go p e below T428 (mkF m 134 #[iv p0, iv p1, iv p2, iv p3, iv p4, iv (1 : Int32), rv b277, rv b283, rv b296, iv k, rv b407, .val .null, .unset, .unset] [(.int p4), .null, (.ref b428), (.ref b428)]) A0 := by
    intro t kont
    refine g433 t ?_
    refine XS.dup X428.here hx rfl (hb hby at_129) rfl rfl ?_
    show Steps p.tables e below (T428.setTop (mkF m 130 #[iv p0, iv p1, iv p2, iv p3, iv p4, iv (1 : Int32), rv b277, rv b283, rv b296, iv k, rv b407, .val .null, .unset, .unset] [(.ref b428), (.ref b428)])) _
    refine XS.aload X428.here hx rfl (hb hby at_130) rfl rfl ?_
    show Steps p.tables e below (T428.setTop (mkF m 132 #[iv p0, iv p1, iv p2, iv p3, iv p4, iv (1 : Int32), rv b277, rv b283, rv b296, iv k, rv b407, .val .null, .unset, .unset] [.null, (.ref b428), (.ref b428)])) _
    refine XS.iload X428.here hx rfl (hb hby at_132) rfl ?_
    show Steps p.tables e below (T428.setTop (mkF m 134 #[iv p0, iv p1, iv p2, iv p3, iv p4, iv (1 : Int32), rv b277, rv b283, rv b296, iv k, rv b407, .val .null, .unset, .unset] [(.int p4), .null, (.ref b428), (.ref b428)])) _
    exact kont
  have ge436 : n0 ≤ b428 := Nat.le_trans (own_old_le O425) (Nat.le_of_eq gb428.symm)
  obtain ⟨_, _, ⟨T435, L435, k435, n435⟩, -, X435, ⟨Lc435, hQ435, l435, y435, z435⟩, st435⟩ := X428.specialBack hx (y := (⟨"com/example/subsume/subsume/engine/Individual", "<init>", "(Ljava/lang/String;I)V"⟩ : MethodName)) rfl hown (mvT hZ (hw _ (List.mem_of_getElem? (i := 34) rfl))) (mvT hZ (hw _ (List.mem_of_getElem? (i := 35) rfl))) (mvT hZ (hw _ (List.mem_of_getElem? (i := 36) rfl))) (by decide) (backOf (W := 1) (rm_indI l Z a0 hw [] b428 .null p4 h428 n0 O430 (rfl) y431 y432 A428 ge436) hZ (hw _ (List.mem_of_getElem? (i := 36) rfl)) (hw _ (List.mem_of_getElem? (i := 33) rfl)) (by decide) (by decide)) (g := (mkF m 134 #[iv p0, iv p1, iv p2, iv p3, iv p4, iv (1 : Int32), rv b277, rv b283, rv b296, iv k, rv b407, .val .null, .unset, .unset] [(.int p4), .null, (.ref b428), (.ref b428)])) rfl (by rw [hml]; rfl) (Steps.refl _) (a := b428) (argsL := [.null, (.int p4)]) (rest := [(.ref b428)]) (lenOf pd_5 rfl) rfl (by show 2 * 0 + _ ≤ _; exact Nat.le_of_eq rfl) (hb hby at_134) (fun _ _ => ⟨rfl, e428, (by decide : 6 + 0 ≤ _), (by decide : 11 + 0 ≤ _)⟩)
  dsimp only [Pt.U, Pt.locs, Pt.cells, Pt.slots] at X435 l435 y435 z435 st435 hQ435
  subst l435 y435 z435
  obtain ⟨rfl, M435, K435, y437, y438⟩ := hQ435
  have N435 := Fr.app N414 M435
  have R439 : CHr Z consts_1 s.vm h0 s.vm T435.heap := R429.trans (CHr.keep K435 (sfS (Safe.ext E428 R424.1 (Safe.new (Nat.le_of_eq gb428.symm))) sf0) R429.1)
  have O440 := O430.keep K435 (allS ge436 all0)
  have g441 : Go p e below T435 (mkF m 137 #[iv p0, iv p1, iv p2, iv p3, iv p4, iv (1 : Int32), rv b277, rv b283, rv b296, iv k, rv b407, .val .null, .unset, .unset] [(.ref b428)]) A0 := fun t kont => g434 t (st435.trans kont)
  have g442 : Go p e below T435 (mkF m 141 #[iv p0, iv p1, iv p2, iv p3, iv p4, iv (1 : Int32), rv b277, rv b283, rv b296, iv k, rv b407, .val .null, rv b428, .unset] [(.ref b428)]) A0 := by
    intro t kont
    refine g441 t ?_
    refine XS.astore X435.here hx rfl (hb hby at_137) rfl rfl (l' := #[iv p0, iv p1, iv p2, iv p3, iv p4, iv (1 : Int32), rv b277, rv b283, rv b296, iv k, rv b407, .val .null, rv b428, .unset]) rfl ?_
    show Steps p.tables e below (T435.setTop (mkF m 139 #[iv p0, iv p1, iv p2, iv p3, iv p4, iv (1 : Int32), rv b277, rv b283, rv b296, iv k, rv b407, .val .null, rv b428, .unset] [])) _
    refine XS.aload X435.here hx rfl (hb hby at_139) rfl rfl ?_
    show Steps p.tables e below (T435.setTop (mkF m 141 #[iv p0, iv p1, iv p2, iv p3, iv p4, iv (1 : Int32), rv b277, rv b283, rv b296, iv k, rv b407, .val .null, rv b428, .unset] [(.ref b428)])) _
    exact kont
  obtain ⟨cq443, kq443, q443a, q443b, q443c⟩ := isOf hZ rfl y437
  obtain ⟨_, _, ⟨T443, L443, k443, n443⟩, -, X443, ⟨Lc443, hQ443, l443, y443, z443⟩, st443⟩ := X435.virtualBack hx (y := (⟨"com/example/subsume/subsume/engine/Individual", "isAnonymous", "()Z"⟩ : MethodName)) (z := (⟨"com/example/subsume/subsume/engine/Individual", "isAnonymous", "()Z"⟩ : MethodName)) hown (mvT hZ (hw _ (List.mem_of_getElem? (i := 42) rfl))) (mvT hZ (hw _ (List.mem_of_getElem? (i := 43) rfl))) (notFace_of_selects (args := #[]) (mvT hZ (hw _ (List.mem_of_getElem? (i := 45) rfl)))) (mvT hZ (hw _ (List.mem_of_getElem? (i := 45) rfl))) (mvT hZ (hw _ (List.mem_of_getElem? (i := 44) rfl))) (by decide) (backOf (W := 0) (rm_isN l Z a0 hw [] b428 T435.heap n0 O440 y438) hZ (hw _ (List.mem_of_getElem? (i := 46) rfl)) (hw _ (List.mem_of_getElem? (i := 33) rfl)) (by decide) (by decide)) q443a q443c (g := (mkF m 141 #[iv p0, iv p1, iv p2, iv p3, iv p4, iv (1 : Int32), rv b277, rv b283, rv b296, iv k, rv b407, .val .null, rv b428, .unset] [(.ref b428)])) rfl (by rw [hml]; rfl) (Steps.refl _) (argsL := []) (rest := []) (lenOf pd_6 rfl) rfl (by show 2 * 0 + _ ≤ _; exact Nat.le_of_eq rfl) (hb hby at_141) (fun _ _ => ⟨rfl, rfl, (by decide : 6 + 0 ≤ _), (by decide : 11 + 0 ≤ _)⟩)
  dsimp only [Pt.U, Pt.locs, Pt.cells, Pt.slots] at X443 l443 y443 z443 st443 hQ443
  subst l443 y443 z443
  obtain ⟨rfl, M443, e443⟩ := hQ443
  have N443 := Fr.app N435 M443
  have g444 : Go p e below T443 (mkF m 144 #[iv p0, iv p1, iv p2, iv p3, iv p4, iv (1 : Int32), rv b277, rv b283, rv b296, iv k, rv b407, .val .null, rv b428, .unset] [(.int (1 : Int32))]) A0 := fun t kont => g442 t (st443.trans kont)
  have g445 : Go p e below T443 (mkF m 157 #[iv p0, iv p1, iv p2, iv p3, iv p4, iv (1 : Int32), rv b277, rv b283, rv b296, iv k, rv b407, .val .null, rv b428, iv (1 : Int32)] [(.ref b428), (.int (1 : Int32))]) A0 := by
    intro t kont
    refine g444 t ?_
    refine XS.istore X443.here hx rfl (hb hby at_144) rfl (l' := #[iv p0, iv p1, iv p2, iv p3, iv p4, iv (1 : Int32), rv b277, rv b283, rv b296, iv k, rv b407, .val .null, rv b428, iv (1 : Int32)]) rfl ?_
    show Steps p.tables e below (T443.setTop (mkF m 146 #[iv p0, iv p1, iv p2, iv p3, iv p4, iv (1 : Int32), rv b277, rv b283, rv b296, iv k, rv b407, .val .null, rv b428, iv (1 : Int32)] [])) _
    refine XS.iload X443.here hx rfl (hb hby at_146) rfl ?_
    show Steps p.tables e below (T443.setTop (mkF m 148 #[iv p0, iv p1, iv p2, iv p3, iv p4, iv (1 : Int32), rv b277, rv b283, rv b296, iv k, rv b407, .val .null, rv b428, iv (1 : Int32)] [(.int (1 : Int32))])) _
    refine XS.iload X443.here hx rfl (hb hby at_148) rfl ?_
    show Steps p.tables e below (T443.setTop (mkF m 150 #[iv p0, iv p1, iv p2, iv p3, iv p4, iv (1 : Int32), rv b277, rv b283, rv b296, iv k, rv b407, .val .null, rv b428, iv (1 : Int32)] [(.int (1 : Int32)), (.int (1 : Int32))])) _
    refine XS.icmpNo X443.here hx rfl (hb hby at_150) rfl (teq (by decide : (1 : Int32) = (1 : Int32))).2 ?_
    show Steps p.tables e below (T443.setTop (mkF m 153 #[iv p0, iv p1, iv p2, iv p3, iv p4, iv (1 : Int32), rv b277, rv b283, rv b296, iv k, rv b407, .val .null, rv b428, iv (1 : Int32)] [])) _
    refine XS.iload X443.here hx rfl (hb hby at_153) rfl ?_
    show Steps p.tables e below (T443.setTop (mkF m 155 #[iv p0, iv p1, iv p2, iv p3, iv p4, iv (1 : Int32), rv b277, rv b283, rv b296, iv k, rv b407, .val .null, rv b428, iv (1 : Int32)] [(.int (1 : Int32))])) _
    refine XS.aload X443.here hx rfl (hb hby at_155) rfl rfl ?_
    show Steps p.tables e below (T443.setTop (mkF m 157 #[iv p0, iv p1, iv p2, iv p3, iv p4, iv (1 : Int32), rv b277, rv b283, rv b296, iv k, rv b407, .val .null, rv b428, iv (1 : Int32)] [(.ref b428), (.int (1 : Int32))])) _
    exact kont
  obtain ⟨cq446, kq446, q446a, q446b, q446c⟩ := isOf hZ e443 y437
  obtain ⟨_, _, ⟨T446, L446, k446, n446⟩, -, X446, ⟨Lc446, hQ446, l446, y446, z446⟩, st446⟩ := X443.virtualBack hx (y := (⟨"com/example/subsume/subsume/engine/Individual", "name", "()Ljava/lang/String;"⟩ : MethodName)) (z := (⟨"com/example/subsume/subsume/engine/Individual", "name", "()Ljava/lang/String;"⟩ : MethodName)) hown (mvT hZ (hw _ (List.mem_of_getElem? (i := 47) rfl))) (mvT hZ (hw _ (List.mem_of_getElem? (i := 48) rfl))) (notFace_of_selects (args := #[]) (mvT hZ (hw _ (List.mem_of_getElem? (i := 50) rfl)))) (mvT hZ (hw _ (List.mem_of_getElem? (i := 50) rfl))) (mvT hZ (hw _ (List.mem_of_getElem? (i := 49) rfl))) (by decide) (backOf (W := 1) (rm_nmN l Z a0 hw [] b428 T435.heap n0 O440 y438) hZ (hw _ (List.mem_of_getElem? (i := 51) rfl)) (hw _ (List.mem_of_getElem? (i := 33) rfl)) (by decide) (by decide)) q446a q446c (g := (mkF m 157 #[iv p0, iv p1, iv p2, iv p3, iv p4, iv (1 : Int32), rv b277, rv b283, rv b296, iv k, rv b407, .val .null, rv b428, iv (1 : Int32)] [(.ref b428), (.int (1 : Int32))])) rfl (by rw [hml]; rfl) (Steps.refl _) (argsL := []) (rest := [(.int (1 : Int32))]) (lenOf pd_7 rfl) rfl (by show 2 * 0 + _ ≤ _; exact Nat.le_of_eq rfl) (hb hby at_157) (fun _ _ => ⟨rfl, e443, (by decide : 6 + 0 ≤ _), (by decide : 11 + 0 ≤ _)⟩)
  dsimp only [Pt.U, Pt.locs, Pt.cells, Pt.slots] at X446 l446 y446 z446 st446 hQ446
  subst l446 y446 z446
  obtain ⟨rfl, M446, e446⟩ := hQ446
  have N446 := Fr.app N443 M446
  have g447 : Go p e below T446 (mkF m 160 #[iv p0, iv p1, iv p2, iv p3, iv p4, iv (1 : Int32), rv b277, rv b283, rv b296, iv k, rv b407, .val .null, rv b428, iv (1 : Int32)] [.null, (.int (1 : Int32))]) A0 := fun t kont => g445 t (st446.trans kont)
  have g448 : Go p e below T446 (mkF m 176 #[iv p0, iv p1, iv p2, iv p3, iv p4, iv (1 : Int32), rv b277, rv b283, rv b296, iv k, rv b407, .val .null, rv b428, iv (1 : Int32)] [(.int (1 : Int32))]) A0 := by
    intro t kont
    refine g447 t ?_
    refine XS.ifnonnullNo X446.here hx rfl (hb hby at_160) rfl ?_
    show Steps p.tables e below (T446.setTop (mkF m 163 #[iv p0, iv p1, iv p2, iv p3, iv p4, iv (1 : Int32), rv b277, rv b283, rv b296, iv k, rv b407, .val .null, rv b428, iv (1 : Int32)] [(.int (1 : Int32))])) _
    refine XS.iconst X446.here hx rfl (hb hby at_163) ?_
    show Steps p.tables e below (T446.setTop (mkF m 164 #[iv p0, iv p1, iv p2, iv p3, iv p4, iv (1 : Int32), rv b277, rv b283, rv b296, iv k, rv b407, .val .null, rv b428, iv (1 : Int32)] [(.int (1 : Int32)), (.int (1 : Int32))])) _
    refine XS.goto X446.here hx rfl (pc0 := 164) (pc' := 168) rfl (hb hby at_164) (by decide) (by decide) ?_
    show Steps p.tables e below (T446.setTop (mkF m 168 #[iv p0, iv p1, iv p2, iv p3, iv p4, iv (1 : Int32), rv b277, rv b283, rv b296, iv k, rv b407, .val .null, rv b428, iv (1 : Int32)] [(.int (1 : Int32)), (.int (1 : Int32))])) _
    refine XS.icmpNo X446.here hx rfl (hb hby at_168) rfl (teq (by decide : (1 : Int32) = (1 : Int32))).2 ?_
    show Steps p.tables e below (T446.setTop (mkF m 171 #[iv p0, iv p1, iv p2, iv p3, iv p4, iv (1 : Int32), rv b277, rv b283, rv b296, iv k, rv b407, .val .null, rv b428, iv (1 : Int32)] [])) _
    refine XS.iconst X446.here hx rfl (hb hby at_171) ?_
    show Steps p.tables e below (T446.setTop (mkF m 172 #[iv p0, iv p1, iv p2, iv p3, iv p4, iv (1 : Int32), rv b277, rv b283, rv b296, iv k, rv b407, .val .null, rv b428, iv (1 : Int32)] [(.int (1 : Int32))])) _
    refine XS.goto X446.here hx rfl (pc0 := 172) (pc' := 176) rfl (hb hby at_172) (by decide) (by decide) ?_
    show Steps p.tables e below (T446.setTop (mkF m 176 #[iv p0, iv p1, iv p2, iv p3, iv p4, iv (1 : Int32), rv b277, rv b283, rv b296, iv k, rv b407, .val .null, rv b428, iv (1 : Int32)] [(.int (1 : Int32))])) _
    exact kont
  obtain ⟨fs, hr, hrun, hended, hRW⟩ := X446.leaveW hS (by rw [e446]; exact (Nat.le_trans hk (Nat.le_trans (Nat.le_trans (Nat.le_trans (Nat.le_trans (Nat.le_trans (Nat.le_trans (Nat.le_trans (Nat.le_trans (Nat.le_trans E277.1 E283.1) (Keep.of_wr W289).1) E296.1) (Keep.of_wr W302).1) (Keep.of_wr W309).1) E407.1) K414.1) E428.1) K435.1))) (v := some (.int (1 : Int32))) (fun h => by rw [Bd.returns] at h; cases h)
  refine ⟨_, _, g448 _ (retN X446 hx (t := .boolean) Bd.returns (by simp) (hb hby at_176) hr), hrun, hended, _, _, rfl, ?_, ?_, hRW.1, hRW.2.1, hRW.2.2.1, hRW.2.2.2.mono (by decide) (by decide)⟩
  ·
    show Q_law Z p0 p1 p2 p3 p4 i_COMPACT_STRINGS h0 n0 _ T446.heap _
    rw [e446]
    exact ⟨rfl, N446⟩
  ·
    rw [hh]
    show CHr Z consts_1 s.vm h0 T446.vm T446.heap
    rw [e446]
    exact R439.trans (CHv.at X446 hZ (own_EW hw) R439.1)
set_option maxRecDepth 65536 in
set_option maxHeartbeats 40000000 in
theorem comes_1 {Post : Tables → Env → Array Value → State → Outcome → State → Prop} (hpost : ∀ tb e args s v u, (limb_1_1.after args s (.returned v) u = true ∧ limb_1_2.after args s (.returned v) u = true ∧ True) → ReturnedEndW s (.returned v) u (Jvm.fieldLocs frame_1_writes args s ++ Jvm.arrayLocs frame_1_arrays args s ++ Jvm.staticLocs frame_1_statics s) 24 1152 → Post tb e args s (.returned v) u) :
    ArmFor flags0 classFile x code maxLocals ret World_1 tables_1 room_1 Calls_1 rest_1 Pre_1 Post := by
  intro l hfl _ _ p e ha hc hk s m args below hf hA hF happ hP
  obtain ⟨hcalls, hrest, hpre⟩ := hP
  obtain ⟨-, -, -, hnamed, -, -, -, hat⟩ := (Spec.applies_iff hf).mp happ
  obtain ⟨hg, hn⟩ := and_e (Cond.before_iff.mp (show (Jvm.Cond.and given_1 narrow_1).before args s = true from hpre))
  obtain ⟨hcount, hg⟩ := and_e hg
  obtain ⟨ha0, hg⟩ := and_e hg
  obtain ⟨ha1, hg⟩ := and_e hg
  obtain ⟨ha2, hg⟩ := and_e hg
  obtain ⟨ha3, hg⟩ := and_e hg
  have ha4 := hg
  obtain ⟨w0, w1, w2, w3, w4, rfl⟩ : ∃ w0 w1 w2 w3 w4 : Value, args = #[w0, w1, w2, w3, w4] := by
    have hs : args.size = 5 := by simpa [Cond.value, given_1] using hcount
    obtain ⟨L⟩ := args
    match L, hs with
    | [w0, w1, w2, w3, w4], _ => exact ⟨w0, w1, w2, w3, w4, rfl⟩
  have hw := fun d (hd : d ∈ tables_1) => atoms_spec (ws := Jvm.Cond.code x code maxLocals ret :: tables_1) hat d (List.mem_cons_of_mem _ hd)
  obtain ⟨hsets, hown0⟩ := atoms_of _ (rest_1_c_eq ▸ (show rest_1_c.before _ s = true from hrest))
  have hfit : Fit s := fun {y c} hc i hi => by
    obtain ⟨ha, rfl⟩ := Array.getElem?_eq_some_iff.mp hc
    have q := List.all_eq_true.mp ((Array.all_eq_true_iff_forall_mem.mp hF) _ (Array.getElem_mem ha)) i (List.mem_range.mpr hi)
    simpa [Array.getElem?_eq_getElem hi] using q
  obtain ⟨p0, ea0⟩ := is_v ha0
  obtain rfl : w0 = (.int p0) := Option.some.inj ea0
  obtain ⟨p1, ea1⟩ := is_v ha1
  obtain rfl : w1 = (.int p1) := Option.some.inj ea1
  obtain ⟨p2, ea2⟩ := is_v ha2
  obtain rfl : w2 = (.int p2) := Option.some.inj ea2
  obtain ⟨p3, ea3⟩ := is_v ha3
  obtain rfl : w3 = (.int p3) := Option.some.inj ea3
  obtain ⟨p4, ea4⟩ := is_v ha4
  obtain rfl : w4 = (.int p4) := Option.some.inj ea4
  obtain ⟨i_COMPACT_STRINGS, ev_COMPACT_STRINGS⟩ := is_v (Cond.before_iff.mp (hsets _ (List.mem_of_getElem? (i := 1) rfl)))
  obtain ⟨v_SIOOBE_FORMATTER, ev_SIOOBE_FORMATTER, r_SIOOBE_FORMATTER⟩ := isR_v (Cond.before_iff.mp (hsets _ (List.mem_of_getElem? (i := 8) rfl)))
  have S_COMPACT_STRINGS : Sta s s.heap "java/lang/String" "COMPACT_STRINGS" "Z" (.int i_COMPACT_STRINGS) := Sta.start ev_COMPACT_STRINGS (Or.inl (hsets _ (List.mem_of_getElem? (i := 0) rfl)))
  have S_SIOOBE_FORMATTER : Sta s s.heap "jdk/internal/util/Preconditions" "SIOOBE_FORMATTER" "Ljava/util/function/BiFunction;" v_SIOOBE_FORMATTER := Sta.start ev_SIOOBE_FORMATTER (Or.inl (hsets _ (List.mem_of_getElem? (i := 7) rfl)))
  have c_COMPACT_STRINGS : ¬ (i_COMPACT_STRINGS = (0 : Int32)) := gotF (Cond.eq_ints ev_COMPACT_STRINGS (Term.int_eval (0))) (not_v (Cond.before_iff.mp (hsets _ (List.mem_of_getElem? (i := 2) rfl))))
  have hch : CHv s consts_1 s.vm s.heap := CHv.start (own_EW hw) (fun p hp => hcalls.1 p hp) (own_compact hsets) (hw _ (List.mem_of_getElem? (i := 20) rfl)) (hw _ (List.mem_of_getElem? (i := 3) rfl))
  obtain ⟨n, o, h1, h2, h3, _, L, rfl, ⟨rfl, N⟩, -, hq⟩ := rm_law l s _ hw tables_1 p0 p1 p2 p3 p4 i_COMPACT_STRINGS s.heap s.heap.size (Old.start s) S_COMPACT_STRINGS c_COMPACT_STRINGS p e ha hc hk s m _ below hf ((Spec.applies_iff_loose hf).mp happ).1 ⟨rfl, State.Warmed39.refl s, rfl, hch⟩ trivial
  refine ⟨n, _, h1, h2, h3, hpost _ _ _ _ _ _ ⟨Cond.after_iff.mpr rfl, Cond.after_iff.mpr (eq_i res_at (Term.int_eval (1)) rfl), trivial⟩ ⟨hq.1, hq.2.1, hq.2.2.1, (hq.2.2.2.sift fun y hy => Or.inr (N y hy)).mono (by decide) (by decide)⟩⟩
theorem main_1_1 : Claimed_1_1 := comes_1 fun _ _ _ _ _ _ h hF => ⟨h.1, hF⟩
theorem main_1_2 : Claimed_1_2 := comes_1 fun _ _ _ _ _ _ h hF => ⟨h.2.1, hF⟩
end Jvm.Pilot.@@N@@
namespace Jvm.Pilot.@@N@@
open Jvm Jvm.ClassFile Sem Op Lib Jvm.Free Jvm.Stand Jvm.Pilot.@@N@@.Jvm.D
/-! MADE BY PROGRAM (witnessworld.py) out of the Statement's table words and the real class files: 20 classes; the members and pool entries that the words name. The judged class is class 1, her method 1. -/
namespace start1
open Jvm.ClassFile
def u (s : String) : CpInfo := .utf8 (stringToUtf16 s)
/-- a pool by its gaps: so many unusable entries, then the entry; so many at the end -/
def gap : Nat → List CpInfo → List CpInfo
  | 0, r => r
  | n + 1, r => .unusable :: gap n r
def poolList (es : List (Nat × CpInfo)) (last : Nat) : List CpInfo := es.foldr (fun e r => gap e.1 (e.2 :: r)) (gap last [])
def pool (es : List (Nat × CpInfo)) (last : Nat) : Array CpInfo := ⟨poolList es last⟩
def fileOf (pool : Array CpInfo) (this : Nat) (attrs : Array Attribute := #[]) (ms : Array MethodInfo := #[]) (fl : Nat := 33) (sup : Nat := 0) (ifs : Array Nat := #[]) (fds : Array FieldInfo := #[]) : ClassFile where
  minorVersion := 0
  majorVersion := 65
  constantPool := pool
  accessFlags := fl
  thisClass := this
  superClass := sup
  interfaces := ifs
  fields := fds
  methods := ms
  attributes := attrs
def plain (name : String) (sup : Option ClassId) : Class where
  name := name
  kind := .ordinary
  loader := none
  accessFlags := 33
  super := sup
  interfaces := #[]
  cf := none
  fields := #[]
  methods := #[]
  instanceTypes := #[]
  staticTypes := #[]
  resolved := #[]
  callSites := []
  init := .initialized
  statics := none
  mirror := none

def pool0 : Array CpInfo := pool [(5, u "<init>"), (0, u "()V"), (1, .class_ 10), (1, u "java/lang/Object")] 113

def k0c0 : Code := { maxStack := 0, maxLocals := 1, code := object_method_1_code, exceptionTable := #[], attributes := #[] }
def k0m0 : Method := { name := "<init>", desc := "()V", sig := { parameters := [], returnType := none }, accessFlags := 1, code := some k0c0 }
/-- java/lang/Object -/
def k0 : Class := { plain "java/lang/Object" none with
  accessFlags := 33
  interfaces := #[]
  cf := some (fileOf pool0 8 #[] #[{ accessFlags := 1, nameIndex := 5, descriptorIndex := 6, attributes := #[] }] 33 0 #[] #[])
  fields := #[]
  methods := #[k0m0]
  instanceTypes := #[]
  staticTypes := #[]
  resolved := Array.replicate 124 none
  statics := none }

def pool1 : Array CpInfo := pool [(2, .class_ 4), (1, u "java/lang/Object"), (0, u "<init>"), (0, u "()V"), (0, .integer 2147483647), (0, .class_ 9), (0, u "java/lang/String"), (0, .methodref 8 11), (0, .nameAndType 5 12), (0, u "([C)V"), (0, .class_ 14), (0, u "com/example/subsume/subsume/engine/Individual"), (0, .methodref 13 16), (0, .nameAndType 5 17), (0, u "(Ljava/lang/String;I)V"), (0, .methodref 13 19), (0, .nameAndType 20 21), (0, u "isAnonymous"), (0, u "()Z"), (0, .methodref 13 23), (0, .nameAndType 24 25), (0, u "name"), (0, u "()Ljava/lang/String;"), (0, .class_ 27), (0, u "com/example/subsume/subsume/engine/IndividualIsAnonymousPinLaw"), (2, u "law"), (0, u "(IIIII)Z")] 5

def k1m0 : Method := { name := "<init>", desc := "()V", sig := { parameters := [], returnType := none }, accessFlags := 1, code := none }
def k1c1 : Code := { maxStack := 5, maxLocals := 14, code := code, exceptionTable := #[], attributes := #[] }
def k1m1 : Method := { name := "law", desc := "(IIIII)Z", sig := { parameters := [.int, .int, .int, .int, .int], returnType := some .boolean }, accessFlags := 9, code := some k1c1 }
/-- com/example/subsume/subsume/engine/IndividualIsAnonymousPinLaw -/
def k1 : Class := { plain "com/example/subsume/subsume/engine/IndividualIsAnonymousPinLaw" (some 0) with
  accessFlags := 49
  interfaces := #[]
  cf := some (fileOf pool1 26 #[] #[{ accessFlags := 1, nameIndex := 5, descriptorIndex := 6, attributes := #[] }, { accessFlags := 9, nameIndex := 30, descriptorIndex := 31, attributes := #[] }] 49 2 #[] #[])
  fields := #[]
  methods := #[k1m0, k1m1]
  instanceTypes := #[]
  staticTypes := #[]
  resolved := Array.replicate 37 none
  statics := none }

def pool2 : Array CpInfo := pool [(1, .class_ 2), (0, u "java/io/Serializable"), (0, .class_ 4), (0, u "java/lang/Object")] 2

/-- java/io/Serializable -/
def k2 : Class := { plain "java/io/Serializable" (some 0) with
  accessFlags := 1537
  interfaces := #[]
  cf := some (fileOf pool2 1 #[] #[] 1537 3 #[] #[])
  fields := #[]
  methods := #[]
  instanceTypes := #[]
  staticTypes := #[]
  resolved := Array.replicate 7 none
  statics := none }

def pool3 : Array CpInfo := pool [(1, .class_ 2), (0, u "java/lang/Comparable"), (0, .class_ 4), (0, u "java/lang/Object")] 7

/-- java/lang/Comparable -/
def k3 : Class := { plain "java/lang/Comparable" (some 0) with
  accessFlags := 1537
  interfaces := #[]
  cf := some (fileOf pool3 1 #[] #[] 1537 3 #[] #[])
  fields := #[]
  methods := #[]
  instanceTypes := #[]
  staticTypes := #[]
  resolved := Array.replicate 12 none
  statics := none }

def pool4 : Array CpInfo := pool [(2, .class_ 4), (1, u "java/lang/CharSequence"), (42, .class_ 48), (0, u "java/lang/CharSequence$1CodePointIterator"), (10, .class_ 60), (0, u "java/lang/CharSequence$1CharIterator"), (5, .class_ 67), (0, u "java/lang/Object")] 63

/-- java/lang/CharSequence -/
def k4 : Class := { plain "java/lang/CharSequence" (some 0) with
  accessFlags := 1537
  interfaces := #[]
  cf := some (fileOf pool4 2 #[.nestMembers #[47, 59]] #[] 1537 66 #[] #[])
  fields := #[]
  methods := #[]
  instanceTypes := #[]
  staticTypes := #[]
  resolved := Array.replicate 131 none
  statics := none }

def pool5 : Array CpInfo := pool [(1, .class_ 2), (0, u "java/lang/constant/Constable"), (0, .class_ 4), (0, u "java/lang/Object")] 6

/-- java/lang/constant/Constable -/
def k5 : Class := { plain "java/lang/constant/Constable" (some 0) with
  accessFlags := 1537
  interfaces := #[]
  cf := some (fileOf pool5 1 #[] #[] 1537 3 #[] #[])
  fields := #[]
  methods := #[]
  instanceTypes := #[]
  staticTypes := #[]
  resolved := Array.replicate 11 none
  statics := none }

def pool6 : Array CpInfo := pool [(1, .class_ 2), (0, u "java/lang/constant/ConstantDesc"), (0, .class_ 4), (0, u "java/lang/Object")] 32

/-- java/lang/constant/ConstantDesc -/
def k6 : Class := { plain "java/lang/constant/ConstantDesc" (some 0) with
  accessFlags := 1537
  interfaces := #[]
  cf := some (fileOf pool6 1 #[] #[] 1537 3 #[] #[])
  fields := #[]
  methods := #[]
  instanceTypes := #[]
  staticTypes := #[]
  resolved := Array.replicate 37 none
  statics := none }

def pool7 : Array CpInfo := pool [(1, .methodref 2 3), (0, .class_ 4), (0, .nameAndType 5 6), (0, u "java/lang/Object"), (0, u "<init>"), (0, u "()V"), (0, .string 8), (0, u ""), (0, .fieldref 10 11), (0, .class_ 12), (0, .nameAndType 13 14), (0, u "java/lang/String"), (0, u "value"), (0, u "[B"), (0, .fieldref 10 16), (0, .nameAndType 17 18), (0, u "coder"), (0, u "B"), (2, u "hash"), (0, u "I"), (2, u "hashIsZero"), (0, u "Z"), (0, .methodref 10 28), (0, .nameAndType 5 29), (0, u "([CIILjava/lang/Void;)V"), (8, .fieldref 10 39), (0, .nameAndType 40 26), (0, u "COMPACT_STRINGS"), (1, .class_ 44), (1, u "java/lang/StringUTF16"), (0, u "compress"), (1, .methodref 42 48), (0, .nameAndType 49 50), (0, u "coderFromArrayLen"), (0, u "([BI)B"), (126, .methodref 42 178), (0, .nameAndType 45 179), (0, u "([CII)[B"), (395, .class_ 576), (0, u "java/lang/CharSequence"), (22, u "CASE_INSENSITIVE_ORDER"), (0, u "Ljava/util/Comparator;"), (409, u "([C)V"), (90, u "serialPersistentFields"), (0, u "[Ljava/io/ObjectStreamField;"), (0, .class_ 1104), (0, u "java/lang/String$CaseInsensitiveComparator"), (1, .class_ 1107), (0, u "java/io/Serializable"), (0, .class_ 1109), (0, u "java/lang/Comparable"), (0, .class_ 1111), (0, u "java/lang/constant/Constable"), (0, .class_ 1113), (0, u "java/lang/constant/ConstantDesc"), (2, u "serialVersionUID"), (0, u "J"), (3, u "REPL"), (0, u "C"), (2, u "LATIN1"), (1, u "UTF16")] 323

def k7m0 : Method := { name := "<init>", desc := "()V", sig := { parameters := [], returnType := none }, accessFlags := 1, code := none }
def k7c1 : Code := { maxStack := 5, maxLocals := 2, code := jdk_42_method_3_code, exceptionTable := #[], attributes := #[] }
def k7m1 : Method := { name := "<init>", desc := "([C)V", sig := { parameters := [(.array .char)], returnType := none }, accessFlags := 1, code := some k7c1 }
def k7c2 : Code := { maxStack := 4, maxLocals := 6, code := jdk_42_method_149_code, exceptionTable := #[], attributes := #[] }
def k7m2 : Method := { name := "<init>", desc := "([CIILjava/lang/Void;)V", sig := { parameters := [(.array .char), .int, .int, (.object "java/lang/Void")], returnType := none }, accessFlags := 2, code := some k7c2 }
/-- java/lang/String -/
def k7 : Class := { plain "java/lang/String" (some 0) with
  accessFlags := 49
  interfaces := #[2, 3, 4, 5, 6]
  cf := some (fileOf pool7 10 #[.nestMembers #[1103]] #[{ accessFlags := 1, nameIndex := 5, descriptorIndex := 6, attributes := #[] }, { accessFlags := 1, nameIndex := 5, descriptorIndex := 1010, attributes := #[] }, { accessFlags := 2, nameIndex := 5, descriptorIndex := 29, attributes := #[] }] 49 2 #[1106, 1108, 575, 1110, 1112] #[{ accessFlags := 18, nameIndex := 13, descriptorIndex := 14, attributes := #[] }, { accessFlags := 18, nameIndex := 17, descriptorIndex := 18, attributes := #[] }, { accessFlags := 2, nameIndex := 21, descriptorIndex := 22, attributes := #[] }, { accessFlags := 2, nameIndex := 25, descriptorIndex := 26, attributes := #[] }, { accessFlags := 26, nameIndex := 1116, descriptorIndex := 1117, attributes := #[] }, { accessFlags := 24, nameIndex := 40, descriptorIndex := 26, attributes := #[] }, { accessFlags := 26, nameIndex := 1101, descriptorIndex := 1102, attributes := #[] }, { accessFlags := 26, nameIndex := 1121, descriptorIndex := 1122, attributes := #[] }, { accessFlags := 25, nameIndex := 599, descriptorIndex := 600, attributes := #[] }, { accessFlags := 24, nameIndex := 1125, descriptorIndex := 18, attributes := #[] }, { accessFlags := 24, nameIndex := 1127, descriptorIndex := 18, attributes := #[] }])
  fields := #[{ name := "value", type := (.array .byte), accessFlags := 18, slot := 0, constantValue := 0 }, { name := "coder", type := .byte, accessFlags := 18, slot := 1, constantValue := 0 }, { name := "hash", type := .int, accessFlags := 2, slot := 2, constantValue := 0 }, { name := "hashIsZero", type := .boolean, accessFlags := 2, slot := 3, constantValue := 0 }, { name := "serialVersionUID", type := .long, accessFlags := 26, slot := 0, constantValue := 0 }, { name := "COMPACT_STRINGS", type := .boolean, accessFlags := 24, slot := 1, constantValue := 0 }, { name := "serialPersistentFields", type := (.array (.object "java/io/ObjectStreamField")), accessFlags := 26, slot := 2, constantValue := 0 }, { name := "REPL", type := .char, accessFlags := 26, slot := 3, constantValue := 0 }, { name := "CASE_INSENSITIVE_ORDER", type := (.object "java/util/Comparator"), accessFlags := 25, slot := 4, constantValue := 0 }, { name := "LATIN1", type := .byte, accessFlags := 24, slot := 5, constantValue := 0 }, { name := "UTF16", type := .byte, accessFlags := 24, slot := 6, constantValue := 0 }]
  methods := #[k7m0, k7m1, k7m2]
  instanceTypes := #[(.array .byte), .byte, .int, .boolean]
  staticTypes := #[.long, .boolean, (.array (.object "java/io/ObjectStreamField")), .char, (.object "java/util/Comparator"), .byte, .byte]
  resolved := Array.replicate 1451 none
  statics := some 0 }

def pool8 : Array CpInfo := pool [(6, .class_ 8), (1, u "java/lang/Object"), (0, u "<init>"), (0, u "()V"), (1, .class_ 14), (1, u "java/lang/StringUTF16"), (31, u "$assertionsDisabled"), (0, u "Z"), (13, u "HI_BYTE_SHIFT"), (0, u "I"), (2, u "LO_BYTE_SHIFT"), (49, .methodref 12 116), (0, .nameAndType 117 118), (0, u "compress"), (0, u "([CI[BII)I"), (3, u "([CII)[B"), (138, u "coderFromArrayLen"), (0, u "([BI)B"), (106, .class_ 371), (1, u "java/lang/StringUTF16$LinesSpliterator"), (58, u "MAX_LENGTH"), (196, .class_ 628), (0, u "java/lang/StringUTF16$CodePointsSpliterator"), (0, .class_ 630), (0, u "java/lang/StringUTF16$CharsSpliterator")] 4

def k8m0 : Method := { name := "<init>", desc := "()V", sig := { parameters := [], returnType := none }, accessFlags := 0, code := none }
def k8c1 : Code := { maxStack := 2, maxLocals := 2, code := jdk_52_method_15_code, exceptionTable := #[], attributes := #[] }
def k8m1 : Method := { name := "coderFromArrayLen", desc := "([BI)B", sig := { parameters := [(.array .byte), .int], returnType := some .byte }, accessFlags := 8, code := some k8c1 }
def k8c2 : Code := { maxStack := 5, maxLocals := 6, code := jdk_52_method_16_code, exceptionTable := #[], attributes := #[] }
def k8m2 : Method := { name := "compress", desc := "([CII)[B", sig := { parameters := [(.array .char), .int, .int], returnType := some (.array .byte) }, accessFlags := 9, code := some k8c2 }
def k8c3 : Code := { maxStack := 3, maxLocals := 7, code := jdk_52_method_21_code, exceptionTable := #[], attributes := #[] }
def k8m3 : Method := { name := "compress", desc := "([CI[BII)I", sig := { parameters := [(.array .char), .int, (.array .byte), .int, .int], returnType := some .int }, accessFlags := 9, code := some k8c3 }
/-- java/lang/StringUTF16 -/
def k8 : Class := { plain "java/lang/StringUTF16" (some 0) with
  accessFlags := 48
  interfaces := #[]
  cf := some (fileOf pool8 12 #[.nestMembers #[627, 629, 369]] #[{ accessFlags := 0, nameIndex := 9, descriptorIndex := 10, attributes := #[] }, { accessFlags := 8, nameIndex := 261, descriptorIndex := 262, attributes := #[] }, { accessFlags := 9, nameIndex := 117, descriptorIndex := 122, attributes := #[] }, { accessFlags := 9, nameIndex := 117, descriptorIndex := 118, attributes := #[] }] 48 6 #[] #[{ accessFlags := 26, nameIndex := 61, descriptorIndex := 62, attributes := #[] }, { accessFlags := 26, nameIndex := 65, descriptorIndex := 62, attributes := #[] }, { accessFlags := 24, nameIndex := 430, descriptorIndex := 62, attributes := #[] }, { accessFlags := 4120, nameIndex := 46, descriptorIndex := 47, attributes := #[] }])
  fields := #[{ name := "HI_BYTE_SHIFT", type := .int, accessFlags := 26, slot := 0, constantValue := 0 }, { name := "LO_BYTE_SHIFT", type := .int, accessFlags := 26, slot := 1, constantValue := 0 }, { name := "MAX_LENGTH", type := .int, accessFlags := 24, slot := 2, constantValue := 0 }, { name := "$assertionsDisabled", type := .boolean, accessFlags := 4120, slot := 3, constantValue := 0 }]
  methods := #[k8m0, k8m1, k8m2, k8m3]
  instanceTypes := #[]
  staticTypes := #[.int, .int, .int, .boolean]
  resolved := Array.replicate 635 none
  statics := none }

def pool9 : Array CpInfo := pool [(1, .methodref 2 3), (0, .class_ 4), (0, .nameAndType 5 6), (0, u "java/lang/Object"), (0, u "<init>"), (0, u "()V"), (0, .fieldref 8 9), (0, .class_ 10), (0, .nameAndType 11 12), (0, u "com/example/subsume/subsume/engine/Individual"), (0, u "name"), (0, u "Ljava/lang/String;"), (0, .fieldref 8 14), (0, .nameAndType 15 16), (0, u "id"), (0, u "I"), (7, u "(Ljava/lang/String;I)V"), (2, u "()Ljava/lang/String;"), (0, u "isAnonymous"), (0, u "()Z")] 27

def k9c0 : Code := { maxStack := 2, maxLocals := 3, code := prog_13_method_1_code, exceptionTable := #[], attributes := #[] }
def k9m0 : Method := { name := "<init>", desc := "(Ljava/lang/String;I)V", sig := { parameters := [(.object "java/lang/String"), .int], returnType := none }, accessFlags := 0, code := some k9c0 }
def k9c1 : Code := { maxStack := 1, maxLocals := 1, code := prog_13_method_2_code, exceptionTable := #[], attributes := #[] }
def k9m1 : Method := { name := "name", desc := "()Ljava/lang/String;", sig := { parameters := [], returnType := some (.object "java/lang/String") }, accessFlags := 1, code := some k9c1 }
def k9c2 : Code := { maxStack := 1, maxLocals := 1, code := prog_13_method_3_code, exceptionTable := #[], attributes := #[] }
def k9m2 : Method := { name := "isAnonymous", desc := "()Z", sig := { parameters := [], returnType := some .boolean }, accessFlags := 1, code := some k9c2 }
/-- com/example/subsume/subsume/engine/Individual -/
def k9 : Class := { plain "com/example/subsume/subsume/engine/Individual" (some 0) with
  accessFlags := 49
  interfaces := #[]
  cf := some (fileOf pool9 8 #[] #[{ accessFlags := 0, nameIndex := 5, descriptorIndex := 24, attributes := #[] }, { accessFlags := 1, nameIndex := 11, descriptorIndex := 27, attributes := #[] }, { accessFlags := 1, nameIndex := 28, descriptorIndex := 29, attributes := #[] }] 49 2 #[] #[{ accessFlags := 18, nameIndex := 11, descriptorIndex := 12, attributes := #[] }, { accessFlags := 18, nameIndex := 15, descriptorIndex := 16, attributes := #[] }])
  fields := #[{ name := "name", type := (.object "java/lang/String"), accessFlags := 18, slot := 0, constantValue := 0 }, { name := "id", type := .int, accessFlags := 18, slot := 1, constantValue := 0 }]
  methods := #[k9m0, k9m1, k9m2]
  instanceTypes := #[(.object "java/lang/String"), .int]
  staticTypes := #[]
  resolved := Array.replicate 57 none
  statics := none }

def pool10 : Array CpInfo := pool [(4, .class_ 6), (1, u "java/lang/Object"), (0, u "<init>"), (0, u "()V"), (5, .class_ 16), (1, u "java/lang/StringLatin1"), (104, u "$assertionsDisabled"), (0, u "Z"), (98, .class_ 223), (1, u "java/lang/StringLatin1$LinesSpliterator"), (166, .class_ 391), (0, u "java/lang/StringLatin1$CharsSpliterator")] 3

def k10m0 : Method := { name := "<init>", desc := "()V", sig := { parameters := [], returnType := none }, accessFlags := 0, code := none }
/-- java/lang/StringLatin1 -/
def k10 : Class := { plain "java/lang/StringLatin1" (some 0) with
  accessFlags := 48
  interfaces := #[]
  cf := some (fileOf pool10 14 #[.nestMembers #[390, 221]] #[{ accessFlags := 0, nameIndex := 7, descriptorIndex := 8, attributes := #[] }] 48 4 #[] #[{ accessFlags := 4120, nameIndex := 121, descriptorIndex := 122, attributes := #[] }])
  fields := #[{ name := "$assertionsDisabled", type := .boolean, accessFlags := 4120, slot := 0, constantValue := 0 }]
  methods := #[k10m0]
  instanceTypes := #[]
  staticTypes := #[.boolean]
  resolved := Array.replicate 395 none
  statics := none }

def pool11 : Array CpInfo := pool [(2, .class_ 4), (1, u "java/lang/Object"), (0, u "<init>"), (0, u "()V"), (17, .class_ 26), (1, u "jdk/internal/util/Preconditions"), (28, .class_ 56), (0, u "jdk/internal/util/Preconditions$4"), (57, .class_ 115), (0, u "jdk/internal/util/Preconditions$1"), (7, u "SIOOBE_FORMATTER"), (0, u "Ljava/util/function/BiFunction;"), (0, .class_ 126), (0, u "jdk/internal/util/Preconditions$2"), (3, u "AIOOBE_FORMATTER"), (0, .class_ 132), (0, u "jdk/internal/util/Preconditions$3"), (3, u "IOOBE_FORMATTER")] 57

def k11m0 : Method := { name := "<init>", desc := "()V", sig := { parameters := [], returnType := none }, accessFlags := 1, code := none }
/-- jdk/internal/util/Preconditions -/
def k11 : Class := { plain "jdk/internal/util/Preconditions" (some 0) with
  accessFlags := 33
  interfaces := #[]
  cf := some (fileOf pool11 24 #[.nestMembers #[55, 131, 125, 114]] #[{ accessFlags := 1, nameIndex := 5, descriptorIndex := 6, attributes := #[] }] 33 2 #[] #[{ accessFlags := 25, nameIndex := 123, descriptorIndex := 124, attributes := #[] }, { accessFlags := 25, nameIndex := 130, descriptorIndex := 124, attributes := #[] }, { accessFlags := 25, nameIndex := 136, descriptorIndex := 124, attributes := #[] }])
  fields := #[{ name := "SIOOBE_FORMATTER", type := (.object "java/util/function/BiFunction"), accessFlags := 25, slot := 0, constantValue := 0 }, { name := "AIOOBE_FORMATTER", type := (.object "java/util/function/BiFunction"), accessFlags := 25, slot := 1, constantValue := 0 }, { name := "IOOBE_FORMATTER", type := (.object "java/util/function/BiFunction"), accessFlags := 25, slot := 2, constantValue := 0 }]
  methods := #[k11m0]
  instanceTypes := #[]
  staticTypes := #[(.object "java/util/function/BiFunction"), (.object "java/util/function/BiFunction"), (.object "java/util/function/BiFunction")]
  resolved := Array.replicate 194 none
  statics := some 1 }

def pool12 : Array CpInfo := pool [(9, u "<init>"), (6, .class_ 18), (1, u "java/lang/Object"), (0, u "()V"), (1, .class_ 23), (1, u "jdk/internal/util/ArraysSupport"), (0, u "LOG2_ARRAY_LONG_INDEX_SCALE"), (0, u "I"), (2, u "U"), (0, u "Ljdk/internal/misc/Unsafe;"), (8, u "BIG_ENDIAN"), (0, u "Z"), (8, u "LOG2_BYTE_BIT_SIZE"), (4, u "LOG2_ARRAY_INT_INDEX_SCALE"), (54, u "JLA"), (0, u "Ljdk/internal/access/JavaLangAccess;"), (11, u "LOG2_ARRAY_BOOLEAN_INDEX_SCALE"), (9, u "LOG2_ARRAY_BYTE_INDEX_SCALE"), (5, u "LOG2_ARRAY_CHAR_INDEX_SCALE"), (5, u "LOG2_ARRAY_SHORT_INDEX_SCALE"), (18, u "LOG2_ARRAY_FLOAT_INDEX_SCALE"), (24, u "LOG2_ARRAY_DOUBLE_INDEX_SCALE"), (89, u "T_BOOLEAN"), (2, u "T_CHAR"), (1, u "T_FLOAT"), (1, u "T_DOUBLE"), (1, u "T_BYTE"), (1, u "T_SHORT"), (1, u "T_INT"), (1, u "T_LONG"), (1, u "SOFT_MAX_ARRAY_LENGTH")] 83

def k12m0 : Method := { name := "<init>", desc := "()V", sig := { parameters := [], returnType := none }, accessFlags := 2, code := none }
/-- jdk/internal/util/ArraysSupport -/
def k12 : Class := { plain "jdk/internal/util/ArraysSupport" (some 0) with
  accessFlags := 33
  interfaces := #[]
  cf := some (fileOf pool12 21 #[] #[{ accessFlags := 2, nameIndex := 9, descriptorIndex := 19, attributes := #[] }] 33 16 #[] #[{ accessFlags := 24, nameIndex := 28, descriptorIndex := 29, attributes := #[] }, { accessFlags := 26, nameIndex := 38, descriptorIndex := 39, attributes := #[] }, { accessFlags := 25, nameIndex := 121, descriptorIndex := 25, attributes := #[] }, { accessFlags := 25, nameIndex := 131, descriptorIndex := 25, attributes := #[] }, { accessFlags := 25, nameIndex := 137, descriptorIndex := 25, attributes := #[] }, { accessFlags := 25, nameIndex := 143, descriptorIndex := 25, attributes := #[] }, { accessFlags := 25, nameIndex := 53, descriptorIndex := 25, attributes := #[] }, { accessFlags := 25, nameIndex := 24, descriptorIndex := 25, attributes := #[] }, { accessFlags := 25, nameIndex := 162, descriptorIndex := 25, attributes := #[] }, { accessFlags := 25, nameIndex := 187, descriptorIndex := 25, attributes := #[] }, { accessFlags := 26, nameIndex := 48, descriptorIndex := 25, attributes := #[] }, { accessFlags := 25, nameIndex := 277, descriptorIndex := 25, attributes := #[] }, { accessFlags := 25, nameIndex := 280, descriptorIndex := 25, attributes := #[] }, { accessFlags := 25, nameIndex := 282, descriptorIndex := 25, attributes := #[] }, { accessFlags := 25, nameIndex := 284, descriptorIndex := 25, attributes := #[] }, { accessFlags := 25, nameIndex := 286, descriptorIndex := 25, attributes := #[] }, { accessFlags := 25, nameIndex := 288, descriptorIndex := 25, attributes := #[] }, { accessFlags := 25, nameIndex := 290, descriptorIndex := 25, attributes := #[] }, { accessFlags := 25, nameIndex := 292, descriptorIndex := 25, attributes := #[] }, { accessFlags := 26, nameIndex := 108, descriptorIndex := 109, attributes := #[] }, { accessFlags := 25, nameIndex := 294, descriptorIndex := 25, attributes := #[] }])
  fields := #[{ name := "U", type := (.object "jdk/internal/misc/Unsafe"), accessFlags := 24, slot := 0, constantValue := 0 }, { name := "BIG_ENDIAN", type := .boolean, accessFlags := 26, slot := 1, constantValue := 0 }, { name := "LOG2_ARRAY_BOOLEAN_INDEX_SCALE", type := .int, accessFlags := 25, slot := 2, constantValue := 0 }, { name := "LOG2_ARRAY_BYTE_INDEX_SCALE", type := .int, accessFlags := 25, slot := 3, constantValue := 0 }, { name := "LOG2_ARRAY_CHAR_INDEX_SCALE", type := .int, accessFlags := 25, slot := 4, constantValue := 0 }, { name := "LOG2_ARRAY_SHORT_INDEX_SCALE", type := .int, accessFlags := 25, slot := 5, constantValue := 0 }, { name := "LOG2_ARRAY_INT_INDEX_SCALE", type := .int, accessFlags := 25, slot := 6, constantValue := 0 }, { name := "LOG2_ARRAY_LONG_INDEX_SCALE", type := .int, accessFlags := 25, slot := 7, constantValue := 0 }, { name := "LOG2_ARRAY_FLOAT_INDEX_SCALE", type := .int, accessFlags := 25, slot := 8, constantValue := 0 }, { name := "LOG2_ARRAY_DOUBLE_INDEX_SCALE", type := .int, accessFlags := 25, slot := 9, constantValue := 0 }, { name := "LOG2_BYTE_BIT_SIZE", type := .int, accessFlags := 26, slot := 10, constantValue := 0 }, { name := "T_BOOLEAN", type := .int, accessFlags := 25, slot := 11, constantValue := 0 }, { name := "T_CHAR", type := .int, accessFlags := 25, slot := 12, constantValue := 0 }, { name := "T_FLOAT", type := .int, accessFlags := 25, slot := 13, constantValue := 0 }, { name := "T_DOUBLE", type := .int, accessFlags := 25, slot := 14, constantValue := 0 }, { name := "T_BYTE", type := .int, accessFlags := 25, slot := 15, constantValue := 0 }, { name := "T_SHORT", type := .int, accessFlags := 25, slot := 16, constantValue := 0 }, { name := "T_INT", type := .int, accessFlags := 25, slot := 17, constantValue := 0 }, { name := "T_LONG", type := .int, accessFlags := 25, slot := 18, constantValue := 0 }, { name := "JLA", type := (.object "jdk/internal/access/JavaLangAccess"), accessFlags := 26, slot := 19, constantValue := 0 }, { name := "SOFT_MAX_ARRAY_LENGTH", type := .int, accessFlags := 25, slot := 20, constantValue := 0 }]
  methods := #[k12m0]
  instanceTypes := #[]
  staticTypes := #[(.object "jdk/internal/misc/Unsafe"), .boolean, .int, .int, .int, .int, .int, .int, .int, .int, .int, .int, .int, .int, .int, .int, .int, .int, .int, (.object "jdk/internal/access/JavaLangAccess"), .int]
  resolved := Array.replicate 378 none
  statics := none }

def pool13 : Array CpInfo := pool [(1, u "java/lang/Cloneable"), (0, .class_ 1), (0, u "java/lang/Object"), (0, .class_ 3)] 3

/-- java/lang/Cloneable -/
def k13 : Class := { plain "java/lang/Cloneable" (some 0) with
  accessFlags := 1537
  interfaces := #[]
  cf := some (fileOf pool13 2 #[] #[] 1537 4 #[] #[])
  fields := #[]
  methods := #[]
  instanceTypes := #[]
  staticTypes := #[]
  resolved := Array.replicate 8 none
  statics := none }

/-- the primitive byte -/
def k14 : Class := { plain "byte" none with kind := .primitive 'B', accessFlags := 0x411 }
/-- [B -/
def k15 : Class := { plain "[B" (some 0) with kind := .array 14 .byte, interfaces := #[13, 2], accessFlags := 1041 }

/-- the primitive char -/
def k16 : Class := { plain "char" none with kind := .primitive 'C', accessFlags := 0x411 }
/-- [C -/
def k17 : Class := { plain "[C" (some 0) with kind := .array 16 .char, interfaces := #[13, 2], accessFlags := 1041 }

/-- the primitive int -/
def k18 : Class := { plain "int" none with kind := .primitive 'I', accessFlags := 0x411 }
/-- [I -/
def k19 : Class := { plain "[I" (some 0) with kind := .array 18 .int, interfaces := #[13, 2], accessFlags := 1041 }

def heap : Heap := #[{ cls := 7, slots := #[.long 0, .int 1, .null, .int 0, .null, .int 0, .int 0], vm := .statics 7 },
  { cls := 11, slots := #[.null, .null, .null], vm := .statics 11 }]
def classes : Array Class := #[k0, k1, k2, k3, k4, k5, k6, k7, k8, k9, k10, k11, k12, k13, k14, k15, k16, k17, k18, k19]
def interned : List (Array UInt16 × Addr) := []
def slotsUsed : Nat := 10
def theMethod : MethodId := ⟨1, 1⟩
def args0 : Array Value := #[.int 0, .int 65, .int 66, .int 1, .int 5]
def aboutOver (below : List Frame) : State where
  vm := { classes := classes, interned := interned.toArray }
  heap := heap
  slotsUsed := slotsUsed
  threads := #[{ frames := .invoking theMethod args0 :: below }]
def below0 : List Frame := [.native { method := ⟨0, 0⟩, args := #[] }]
def about1 : State := aboutOver below0
def p0 : Program := .bare "" "" ""
def e0 : Env := launch0.env 0 0 0
theorem w_frames : about1.frames = Frame.invoking theMethod args0 :: below0 := rfl
set_option maxRecDepth 65536 in
theorem w_args : argsFit about1.vm theMethod args0 = true := by decide +kernel
set_option maxRecDepth 65536 in
theorem w_heap : heapFits about1 = true := by decide +kernel
set_option maxRecDepth 65536 in
theorem w_runnable : about1.curStatus? = some .runnable := by decide +kernel
set_option maxRecDepth 65536 in
theorem w_alone : about1.alone = true := by decide +kernel
set_option maxRecDepth 65536 in
theorem w_named : about1.methodNamed? x = some theMethod := by decide +kernel
set_option maxRecDepth 65536 in
theorem w_hears : about1.hears theMethod below0 = true := by decide +kernel
set_option maxRecDepth 65536 in
theorem w_ripe : about1.ripe theMethod args0 below0 = true := by decide +kernel
theorem w_running : about1.status = .running := rfl
set_option maxRecDepth 65536 in
theorem w_room : about1.hasRoom e0.platform room_1 = true :=
  launch0.hasRoom_least _ room_1 (by decide +kernel) (by decide +kernel) (by decide +kernel) (by decide +kernel) (by decide +kernel) (by decide +kernel)
theorem allAtoms_all (ts : List Jvm.Cond) (a : Array Jvm.Value) (st : Jvm.State) : (allAtoms ts).before a st = ts.all (fun c => c.before a st) := by
  induction ts with
  | nil => rfl
  | cons c t ih =>
    show (Jvm.Cond.and c (allAtoms t)).before a st = _
    rw [Jvm.Cond.before_and, ih, List.all_cons]
def words1 : List Jvm.Cond := Jvm.Cond.code x code maxLocals ret :: tables_1
/-- a 'code' word, met by the world's own term for the bytes: nothing is compared byte by byte -/
theorem code_word {y : MethodName} {bytes : ByteArray} {mx : Nat} {rt : Option FieldType} {a : Array Value} {s : State} {m : MethodId} {meth : Method} {c : Code} (h1 : s.methodNamed? y = some m) (h2 : s.vm.method? m = some meth) (h3 : meth.code = some c) (h4 : c.code = bytes)
    (h5 : (c.maxLocals == mx && c.exceptionTable.isEmpty && decide (c.maxStack ≤ mostOperands) && decide (meth.sig.returnType = rt) && !meth.locks && decide (parseMethodDescriptor y.desc = some meth.sig)) = true) : (Jvm.Cond.code y bytes mx rt).before a s = true := by
  simp only [Bool.and_eq_true, beq_iff_eq, Bool.not_eq_true', decide_eq_true_eq] at h5
  obtain ⟨⟨⟨⟨⟨g1, g2⟩, g3⟩, g4⟩, g5⟩, g6⟩ := h5
  simp [Cond.before, Cond.holds, Cond.value, h1, h2, h3, h4, g1, g2, g3, g4, g5, g6]
def isCode : Jvm.Cond → Bool
  | .code _ _ _ _ => true
  | _ => false
theorem all_split {L : List Jvm.Cond} {P : Jvm.Cond → Bool} (h1 : L.all (fun c => isCode c || P c) = true) (h2 : ∀ c ∈ L.filter isCode, P c = true) : L.all P = true := by
  refine List.all_eq_true.mpr fun c hc => ?_
  have h := List.all_eq_true.mp h1 c hc
  rcases Bool.eq_false_or_eq_true (isCode c) with hi | hi
  · exact h2 c (List.mem_filter.mpr ⟨hc, hi⟩)
  · simpa [hi] using h
set_option maxRecDepth 65536 in
theorem w_c0 : (Jvm.Cond.code x code maxLocals ret).before args0 about1 = true := code_word (m := ⟨1, 1⟩) (meth := k1m1) (c := k1c1) (by decide +kernel) rfl rfl rfl (by decide +kernel)
set_option maxRecDepth 65536 in
theorem w_c1 : (Jvm.Cond.code ({ cls := "java/lang/String", name := "<init>", desc := "([C)V" } : Jvm.MethodName) jdk_42_method_3_code (2 : Nat) (Option.none : Option Jvm.ClassFile.FieldType)).before args0 about1 = true := code_word (m := ⟨7, 1⟩) (meth := k7m1) (c := k7c1) (by decide +kernel) rfl rfl rfl (by decide +kernel)
set_option maxRecDepth 65536 in
theorem w_c2 : (Jvm.Cond.code ({ cls := "java/lang/String", name := "<init>", desc := "([CIILjava/lang/Void;)V" } : Jvm.MethodName) jdk_42_method_149_code (6 : Nat) (Option.none : Option Jvm.ClassFile.FieldType)).before args0 about1 = true := code_word (m := ⟨7, 2⟩) (meth := k7m2) (c := k7c2) (by decide +kernel) rfl rfl rfl (by decide +kernel)
set_option maxRecDepth 65536 in
theorem w_c3 : (Jvm.Cond.code ({ cls := "java/lang/Object", name := "<init>", desc := "()V" } : Jvm.MethodName) object_method_1_code (1 : Nat) (Option.none : Option Jvm.ClassFile.FieldType)).before args0 about1 = true := code_word (m := ⟨0, 0⟩) (meth := k0m0) (c := k0c0) (by decide +kernel) rfl rfl rfl (by decide +kernel)
set_option maxRecDepth 65536 in
theorem w_c4 : (Jvm.Cond.code ({ cls := "java/lang/StringUTF16", name := "compress", desc := "([CII)[B" } : Jvm.MethodName) jdk_52_method_16_code (6 : Nat) (Option.some (Jvm.ClassFile.FieldType.array Jvm.ClassFile.FieldType.byte))).before args0 about1 = true := code_word (m := ⟨8, 2⟩) (meth := k8m2) (c := k8c2) (by decide +kernel) rfl rfl rfl (by decide +kernel)
set_option maxRecDepth 65536 in
theorem w_c5 : (Jvm.Cond.code ({ cls := "java/lang/StringUTF16", name := "compress", desc := "([CI[BII)I" } : Jvm.MethodName) jdk_52_method_21_code (7 : Nat) (Option.some Jvm.ClassFile.FieldType.int)).before args0 about1 = true := code_word (m := ⟨8, 3⟩) (meth := k8m3) (c := k8c3) (by decide +kernel) rfl rfl rfl (by decide +kernel)
set_option maxRecDepth 65536 in
theorem w_c6 : (Jvm.Cond.code ({ cls := "java/lang/StringUTF16", name := "coderFromArrayLen", desc := "([BI)B" } : Jvm.MethodName) jdk_52_method_15_code (2 : Nat) (Option.some Jvm.ClassFile.FieldType.byte)).before args0 about1 = true := code_word (m := ⟨8, 1⟩) (meth := k8m1) (c := k8c1) (by decide +kernel) rfl rfl rfl (by decide +kernel)
set_option maxRecDepth 65536 in
theorem w_c7 : (Jvm.Cond.code ({ cls := "com/example/subsume/subsume/engine/Individual", name := "<init>", desc := "(Ljava/lang/String;I)V" } : Jvm.MethodName) prog_13_method_1_code (3 : Nat) (Option.none : Option Jvm.ClassFile.FieldType)).before args0 about1 = true := code_word (m := ⟨9, 0⟩) (meth := k9m0) (c := k9c0) (by decide +kernel) rfl rfl rfl (by decide +kernel)
set_option maxRecDepth 65536 in
theorem w_c8 : (Jvm.Cond.code ({ cls := "com/example/subsume/subsume/engine/Individual", name := "isAnonymous", desc := "()Z" } : Jvm.MethodName) prog_13_method_3_code (1 : Nat) (Option.some Jvm.ClassFile.FieldType.boolean)).before args0 about1 = true := code_word (m := ⟨9, 2⟩) (meth := k9m2) (c := k9c2) (by decide +kernel) rfl rfl rfl (by decide +kernel)
set_option maxRecDepth 65536 in
theorem w_c9 : (Jvm.Cond.code ({ cls := "com/example/subsume/subsume/engine/Individual", name := "name", desc := "()Ljava/lang/String;" } : Jvm.MethodName) prog_13_method_2_code (1 : Nat) (Option.some (Jvm.ClassFile.FieldType.object "java/lang/String"))).before args0 about1 = true := code_word (m := ⟨9, 1⟩) (meth := k9m1) (c := k9c1) (by decide +kernel) rfl rfl rfl (by decide +kernel)
def codes1 : List Jvm.Cond := [Jvm.Cond.code x code maxLocals ret, Jvm.Cond.code ({ cls := "java/lang/String", name := "<init>", desc := "([C)V" } : Jvm.MethodName) jdk_42_method_3_code (2 : Nat) (Option.none : Option Jvm.ClassFile.FieldType), Jvm.Cond.code ({ cls := "java/lang/String", name := "<init>", desc := "([CIILjava/lang/Void;)V" } : Jvm.MethodName) jdk_42_method_149_code (6 : Nat) (Option.none : Option Jvm.ClassFile.FieldType), Jvm.Cond.code ({ cls := "java/lang/Object", name := "<init>", desc := "()V" } : Jvm.MethodName) object_method_1_code (1 : Nat) (Option.none : Option Jvm.ClassFile.FieldType), Jvm.Cond.code ({ cls := "java/lang/StringUTF16", name := "compress", desc := "([CII)[B" } : Jvm.MethodName) jdk_52_method_16_code (6 : Nat) (Option.some (Jvm.ClassFile.FieldType.array Jvm.ClassFile.FieldType.byte)), Jvm.Cond.code ({ cls := "java/lang/StringUTF16", name := "compress", desc := "([CI[BII)I" } : Jvm.MethodName) jdk_52_method_21_code (7 : Nat) (Option.some Jvm.ClassFile.FieldType.int), Jvm.Cond.code ({ cls := "java/lang/StringUTF16", name := "coderFromArrayLen", desc := "([BI)B" } : Jvm.MethodName) jdk_52_method_15_code (2 : Nat) (Option.some Jvm.ClassFile.FieldType.byte), Jvm.Cond.code ({ cls := "com/example/subsume/subsume/engine/Individual", name := "<init>", desc := "(Ljava/lang/String;I)V" } : Jvm.MethodName) prog_13_method_1_code (3 : Nat) (Option.none : Option Jvm.ClassFile.FieldType), Jvm.Cond.code ({ cls := "com/example/subsume/subsume/engine/Individual", name := "isAnonymous", desc := "()Z" } : Jvm.MethodName) prog_13_method_3_code (1 : Nat) (Option.some Jvm.ClassFile.FieldType.boolean), Jvm.Cond.code ({ cls := "com/example/subsume/subsume/engine/Individual", name := "name", desc := "()Ljava/lang/String;" } : Jvm.MethodName) prog_13_method_2_code (1 : Nat) (Option.some (Jvm.ClassFile.FieldType.object "java/lang/String"))]
set_option maxRecDepth 65536 in
theorem codes_eq : words1.filter isCode = codes1 := rfl
theorem w_codes : ∀ c ∈ words1.filter isCode, c.before args0 about1 = true := by
  rw [codes_eq]
  intro c hc
  simp only [codes1, List.mem_cons, List.not_mem_nil, or_false] at hc
  rcases hc with rfl | rfl | rfl | rfl | rfl | rfl | rfl | rfl | rfl | rfl
  · exact w_c0
  · exact w_c1
  · exact w_c2
  · exact w_c3
  · exact w_c4
  · exact w_c5
  · exact w_c6
  · exact w_c7
  · exact w_c8
  · exact w_c9
set_option maxRecDepth 65536 in
theorem w_t1 : (words1.take 24).all (fun c => isCode c || c.before args0 about1) = true := by decide +kernel
set_option maxRecDepth 65536 in
theorem w_t2 : ((words1.drop 24).take 24).all (fun c => isCode c || c.before args0 about1) = true := by decide +kernel
set_option maxRecDepth 65536 in
theorem w_t3 : ((words1.drop 24).drop 24).all (fun c => isCode c || c.before args0 about1) = true := by decide +kernel
theorem w_tables : (allAtoms (Jvm.Cond.code x code maxLocals ret :: tables_1)).before args0 about1 = true := by
  rw [allAtoms_all]
  show words1.all (fun c => c.before args0 about1) = true
  refine all_split ?_ w_codes
  rw [← List.take_append_drop 24 words1, List.all_append, w_t1, ← List.take_append_drop 24 (words1.drop 24), List.all_append, w_t2, w_t3]
  rfl
set_option maxRecDepth 65536 in
theorem w_rest : rest_1_c.before args0 about1 = true := by decide +kernel
set_option maxRecDepth 65536 in
theorem w_case : (Jvm.Cond.and given_1 narrow_1).before args0 about1 = true := by decide +kernel
set_option maxRecDepth 65536 in
theorem w_consts : constsHeld consts_1 about1 := Jvm.Lit.constsHeldB_iff.mp (by decide +kernel)
theorem w_applies : (headSpec (Jvm.Cond.code x code maxLocals ret :: tables_1) room_1).applies x e0.platform about1 = true :=
  (Spec.applies_iff w_frames).mpr ⟨w_running, w_runnable, w_alone, w_named, w_hears, w_ripe, w_room, w_tables⟩
theorem atStart : AtStart classFile x code maxLocals ret World_1 tables_1 room_1 Calls_1 rest_1 Pre_1 launch0 p0 e0 about1 theMethod args0 below0 :=
  ⟨lists_1, trivial, launch0.admits_env _ _ _, launch0.least_env, fairChoices_fair.cas, fairChoices_fair.clock, w_frames, w_args, w_heap, w_applies, ⟨w_consts, trivial⟩, w_rest, w_case⟩
end start1
theorem witness_1 : WitnessClaimed_1 := ⟨start1.p0, start1.e0, start1.about1, start1.theMethod, start1.args0, start1.below0, start1.atStart⟩
end Jvm.Pilot.@@N@@
