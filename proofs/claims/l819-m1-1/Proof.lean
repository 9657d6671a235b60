import JvmDerived
import JvmDerived.Pilot.@@N@@Statement
import JvmDerived.Pilot.@@N@@Code
set_option linter.unusedVariables false
set_option linter.unusedSimpArgs false
namespace Jvm.RoadKit
open Sem ClassFile Op Lib Jvm.Stand Jvm.Free Jvm.LawKit
section New
variable {p : Program} {l : Launch} {e : Env} {R : Room} {s : State} {m : MethodId} {args : Array Value} {below : List Frame} {meth : Method} {c : Code} {T : State} {locs : List Loc} {cells slots : Nat}
theorem retI (X : Stand p l e R s m args below meth c T locs cells slots) (hx : p.tables.exec = Jvm.exec) {pc : Nat} {Ls : Array Slot} {z : Int32} {rest : List Value} (hret : meth.sig.returnType = some .int) (hd : decode c.code pc = .ok (.ireturn, 1)) {fs : List Frame}
    (hl : ∀ (f : JFrame) (acts : List Action), f.method = m → f.locked = none → f.entered = [] → (doReturn e (T.setTop f) acts (some (.int z))).1 = T.setFrames fs) : Steps p.tables e below (T.setTop (mkF m pc Ls (.int z :: rest))) (T.setFrames fs) := by
  have hm' : T.vm.method? m = some meth := X.method'
  have hn : narrow .int (.int z) = .int z := rfl
  show Steps p.tables e below (T.setTop { method := m, pc := pc, locals := Ls, stack := _ :: rest, locked := none }) _
  jvm_step X.here [X.here.top, hx, hd, hm', hret, hn]
  first | (intro acts; rw [hl _ acts rfl rfl rfl]) | rw [hl _ _ rfl rfl rfl]
  exact Steps.refl _
end New
end Jvm.RoadKit
namespace Jvm.Pilot.@@N@@
open Jvm Jvm.ClassFile Sem Op Lib Jvm.Free Jvm.Stand Jvm.LawKit Jvm.RoadKit Bundle Jvm.Pilot.@@N@@.Jvm.D
theorem own_ord {s : State} {args : Array Value} {t : Term} {x : Addr} {C n d : String} {k : Int32} (ht : t.eval args s none [] s = some (.ref x)) (h : (Jvm.Cond.eq (Jvm.Term.field t C n d) (Jvm.Term.int k)).value args s none s [] = some true) : s.fieldOf? x C n d = some (.int k) := by
  obtain ⟨a, b, ha, hb, -, hk⟩ := cmp_v (Or.inl h)
  have eb : b = .int k := (Option.some.inj ((Term.int_eval k).symm.trans hb)).symm
  subst eb
  obtain ⟨z, rfl⟩ := hk
  simp only [Cond.value, ha, hb] at h
  have e : z = k := by simpa using h
  rw [← e, ← ha, fld_at ht]
theorem own_pd0 : parseMethodDescriptor "([CI[BII)I" = some ⟨[(.array .char), .int, (.array .byte), .int, .int], some .int⟩ := by decide +kernel
theorem own_pd1 : parseMethodDescriptor "([CII)[B" = some ⟨[(.array .char), .int, .int], some (.array .byte)⟩ := by decide +kernel
theorem own_pd2 : parseMethodDescriptor "([BI)B" = some ⟨[(.array .byte), .int], some .byte⟩ := by decide +kernel
theorem own_pd3 : parseMethodDescriptor "([CIILjava/lang/Void;)V" = some ⟨[(.array .char), .int, .int, (.object "java/lang/Void")], none⟩ := by decide +kernel
theorem own_pd4 : parseMethodDescriptor "([C)V" = some ⟨[(.array .char)], none⟩ := by decide +kernel
theorem own_pd5 : parseMethodDescriptor "()I" = some ⟨[], some .int⟩ := by decide +kernel
theorem own_pd6 : parseMethodDescriptor "(ZZI)Ljava/lang/String;" = some ⟨[.boolean, .boolean, .int], some (.object "java/lang/String")⟩ := by decide +kernel
theorem own_pd7 : parseMethodDescriptor "(Ljava/lang/String;Ljava/lang/String;)Z" = some ⟨[(.object "java/lang/String"), (.object "java/lang/String")], some .boolean⟩ := by decide +kernel
theorem own_n1 (p3 : Int32) : ¬ ((255 : Int32) < (nar .char ((p3 &&& (255 : Int32)).toUInt32.toUInt16.toUInt32.toInt32))) := by
  simp only [Int32.lt_iff_toInt_lt]
  have nf1 := rng32 p3
  have nf2 : (255 : Int32).toInt = 255 := by decide
  have nf3 := c_mask p3 (255 : Int32) 8 (by decide) (by decide)
  have nr4 := rng32 ((p3 &&& (255 : Int32)).toUInt32.toUInt16.toUInt32.toInt32)
  have nf4 := c_i2c (p3 &&& (255 : Int32))
  have nf5 : ((nar .char ((p3 &&& (255 : Int32)).toUInt32.toUInt16.toUInt32.toInt32)).toInt - ((p3 &&& (255 : Int32)).toUInt32.toUInt16.toUInt32.toInt32).toInt) % 65536 = 0 ∧ 0 ≤ (nar .char ((p3 &&& (255 : Int32)).toUInt32.toUInt16.toUInt32.toInt32)).toInt ∧ (nar .char ((p3 &&& (255 : Int32)).toUInt32.toUInt16.toUInt32.toInt32)).toInt < 65536 := c_i2c ((p3 &&& (255 : Int32)).toUInt32.toUInt16.toUInt32.toInt32)
  omega
theorem own_n2 (p3 : Int32) : ¬ ((255 : Int32) < (nar .char ((((p3.toUInt32 >>> ((8 : Int32) &&& 31).toUInt32).toInt32) &&& (255 : Int32)).toUInt32.toUInt16.toUInt32.toInt32))) := by
  simp only [Int32.lt_iff_toInt_lt]
  have nf1 := rng32 p3
  have nf2 : (8 : Int32).toInt = 8 := by decide
  have nr3 := rng32 ((p3.toUInt32 >>> ((8 : Int32) &&& 31).toUInt32).toInt32)
  have nf3 := c_iushr p3 (8 : Int32) 8 (by decide) (by decide)
  have nf4 : (255 : Int32).toInt = 255 := by decide
  have nf5 := c_mask ((p3.toUInt32 >>> ((8 : Int32) &&& 31).toUInt32).toInt32) (255 : Int32) 8 (by decide) (by decide)
  have nr6 := rng32 ((((p3.toUInt32 >>> ((8 : Int32) &&& 31).toUInt32).toInt32) &&& (255 : Int32)).toUInt32.toUInt16.toUInt32.toInt32)
  have nf6 := c_i2c (((p3.toUInt32 >>> ((8 : Int32) &&& 31).toUInt32).toInt32) &&& (255 : Int32))
  have nf7 : ((nar .char ((((p3.toUInt32 >>> ((8 : Int32) &&& 31).toUInt32).toInt32) &&& (255 : Int32)).toUInt32.toUInt16.toUInt32.toInt32)).toInt - ((((p3.toUInt32 >>> ((8 : Int32) &&& 31).toUInt32).toInt32) &&& (255 : Int32)).toUInt32.toUInt16.toUInt32.toInt32).toInt) % 65536 = 0 ∧ 0 ≤ (nar .char ((((p3.toUInt32 >>> ((8 : Int32) &&& 31).toUInt32).toInt32) &&& (255 : Int32)).toUInt32.toUInt16.toUInt32.toInt32)).toInt ∧ (nar .char ((((p3.toUInt32 >>> ((8 : Int32) &&& 31).toUInt32).toInt32) &&& (255 : Int32)).toUInt32.toUInt16.toUInt32.toInt32)).toInt < 65536 := c_i2c ((((p3.toUInt32 >>> ((8 : Int32) &&& 31).toUInt32).toInt32) &&& (255 : Int32)).toUInt32.toUInt16.toUInt32.toInt32)
  omega
theorem own_dcmpI2_0 : decode jdk_52_method_21_code 0 = .ok (.iconst 0, 1) := by decide +kernel
theorem own_dcmpI2_1 : decode jdk_52_method_21_code 1 = .ok (.istore 5, 2) := by decide +kernel
theorem own_dcmpI2_3 : decode jdk_52_method_21_code 3 = .ok (.iload 5, 2) := by decide +kernel
theorem own_dcmpI2_5 : decode jdk_52_method_21_code 5 = .ok (.iload 4, 2) := by decide +kernel
theorem own_dcmpI2_7 : decode jdk_52_method_21_code 7 = .ok (.if_icmp .ge 37, 3) := by decide +kernel
theorem own_dcmpI2_10 : decode jdk_52_method_21_code 10 = .ok (.aload_n 0, 1) := by decide +kernel
theorem own_dcmpI2_11 : decode jdk_52_method_21_code 11 = .ok (.iload_n 1, 1) := by decide +kernel
theorem own_dcmpI2_12 : decode jdk_52_method_21_code 12 = .ok (.caload, 1) := by decide +kernel
theorem own_dcmpI2_13 : decode jdk_52_method_21_code 13 = .ok (.istore 6, 2) := by decide +kernel
theorem own_dcmpI2_15 : decode jdk_52_method_21_code 15 = .ok (.iload 6, 2) := by decide +kernel
theorem own_dcmpI2_17 : decode jdk_52_method_21_code 17 = .ok (.sipush 255, 3) := by decide +kernel
theorem own_dcmpI2_20 : decode jdk_52_method_21_code 20 = .ok (.if_icmp .le 6, 3) := by decide +kernel
theorem own_dcmpI2_26 : decode jdk_52_method_21_code 26 = .ok (.aload_n 2, 1) := by decide +kernel
theorem own_dcmpI2_27 : decode jdk_52_method_21_code 27 = .ok (.iload_n 3, 1) := by decide +kernel
theorem own_dcmpI2_28 : decode jdk_52_method_21_code 28 = .ok (.iload 6, 2) := by decide +kernel
theorem own_dcmpI2_30 : decode jdk_52_method_21_code 30 = .ok (.i2b, 1) := by decide +kernel
theorem own_dcmpI2_31 : decode jdk_52_method_21_code 31 = .ok (.bastore, 1) := by decide +kernel
theorem own_dcmpI2_32 : decode jdk_52_method_21_code 32 = .ok (.iinc 1 1, 3) := by decide +kernel
theorem own_dcmpI2_35 : decode jdk_52_method_21_code 35 = .ok (.iinc 3 1, 3) := by decide +kernel
theorem own_dcmpI2_38 : decode jdk_52_method_21_code 38 = .ok (.iinc 5 1, 3) := by decide +kernel
theorem own_dcmpI2_41 : decode jdk_52_method_21_code 41 = .ok (.goto (-38), 3) := by decide +kernel
theorem own_dcmpI2_44 : decode jdk_52_method_21_code 44 = .ok (.iload 4, 2) := by decide +kernel
theorem own_dcmpI2_46 : decode jdk_52_method_21_code 46 = .ok (.ireturn, 1) := by decide +kernel
theorem own_pn_own_cmpI2 : plainName "java/lang/StringUTF16" = true := by first | (simp [plainName, overriddenIn]; done) | decide +kernel
theorem own_ef_own_cmpI2 (m : MethodId) (x0 : Addr) (x1 : Int32) (x2 : Addr) (x3 : Int32) (x4 : Int32) : entryFrame m #[(.ref x0), (.int x1), (.ref x2), (.int x3), (.int x4)] 7 = mkF m 0 #[.val (.ref x0), .val (.int x1), .val (.ref x2), .val (.int x3), .val (.int x4), .unset, .unset] [] := by first | (simp [entryFrame, mkF, argsToLocals, Value.category]; done) | rfl
def Q_own_cmpI2 (Z : State) (ac : Addr) (ab : Addr) (kc : ClassId) (kb : ClassId) (v0 : Int32) (v1 : Int32) (h0 : Heap) (n0 : Nat) (v : Option Value) (h : Heap) (L : List Loc) : Prop := v = some (.int (2 : Int32)) ∧ Fr n0 L ∧ Keep h0 h [ab] ∧ Arv Z h ab kb .byte (2 : Int32) [(.int (nar .byte (v0.toInt8.toInt32))), (.int (nar .byte (v1.toInt8.toInt32)))] (.int (0 : Int32))
set_option maxRecDepth 65536 in
set_option maxHeartbeats 40000000 in
theorem own_cmpI2 (l : Launch) (Z : State) (a0 : Array Value) (hw : ∀ d ∈ tables_1, d.before a0 Z = true) (ws : List Jvm.Cond) (ac : Addr) (ab : Addr) (kc : ClassId) (kb : ClassId) (v0 : Int32) (v1 : Int32) (h0 : Heap) (n0 : Nat) (Z0 : n0 ≤ h0.size) (V_ac : Arv Z h0 ac kc .char (2 : Int32) [(.int v0), (.int v1)] (.int (0 : Int32))) (V_ab : Arv Z h0 ab kb .byte (2 : Int32) [(.int (0 : Int32)), (.int (0 : Int32))] (.int (0 : Int32))) (g_ab : n0 ≤ ab) (nab : ac ≠ ab) (hp0 : ¬ ((255 : Int32) < v0)) (hp1 : ¬ ((255 : Int32) < v1)) :
    MetFree l (⟨"java/lang/StringUTF16", "compress", "([CI[BII)I"⟩ : MethodName) (head1 (Jvm.Cond.code (⟨"java/lang/StringUTF16", "compress", "([CI[BII)I"⟩ : MethodName) jdk_52_method_21_code 7 (some .int) :: ws) ({ frames := 0, cells := 0, slots := 0, locals := 0 } : Room)) (fun a U => a = #[(.ref ac), (.int (0 : Int32)), (.ref ab), (.int (0 : Int32)), (.int (2 : Int32))] ∧ Z.Warmed39 U.vm ∧ U.heap = h0) (fun _ _ _ _ _ => True) (fun _ U o U' => ∃ v L, o = .returned v ∧ Q_own_cmpI2 Z ac ab kc kb v0 v1 h0 n0 v U'.heap L ∧ FrameEnd U o U' L ({ frames := 0, cells := 0, slots := 0, locals := 0 } : Room).cells ({ frames := 0, cells := 0, slots := 0, locals := 0 } : Room).slots) := by
  refine MetFree.of_bodySF (plainFor_of_name own_pn_own_cmpI2) hisR ?_
  intro p e s m args below meth c s₁ Bd hml0 hP hK
  obtain ⟨rfl, hZ, hh⟩ := hP
  have hx := Bd.exec
  have hby := Bd.bytes
  have hml : c.maxLocals = 7 := hml0
  have hown : s.vm.findClass "java/lang/StringUTF16" = some m.cls := findClass_of_methodNamed Bd.named
  have hnm := (name_of_methodNamed Bd.named Bd.method).1
  have X0 : Stand p l e ({ frames := 0, cells := 0, slots := 0, locals := 0 } : Room) s m #[(.ref ac), (.int (0 : Int32)), (.ref ab), (.int (0 : Int32)), (.int (2 : Int32))] below meth c s₁ [] 0 0 := Stand.of_body Bd
  have e0 : s₁.heap = h0 := by rw [← hh, Bd.state]; rfl
  have N0 := Fr.nil n0
  have pre0 : Goes p e below s₁ (entryFrame m #[(.ref ac), (.int (0 : Int32)), (.ref ab), (.int (0 : Int32)), (.int (2 : Int32))] 7) s₁ (mkF m 0 #[.val (.ref ac), .val (.int (0 : Int32)), .val (.ref ab), .val (.int (0 : Int32)), .val (.int (2 : Int32)), .unset, .unset] []) := fun t k => castTop (own_ef_own_cmpI2 m ac (0 : Int32) ab (0 : Int32) (2 : Int32)) k
  have pre1 : Goes p e below s₁ (entryFrame m #[(.ref ac), (.int (0 : Int32)), (.ref ab), (.int (0 : Int32)), (.int (2 : Int32))] 7) s₁ (mkF m 12 #[.val (.ref ac), .val (.int (0 : Int32)), .val (.ref ab), .val (.int (0 : Int32)), .val (.int (2 : Int32)), .val (.int (0 : Int32)), .unset] [(.int (0 : Int32)), (.ref ac)]) := fun t kt => pre0 t (by
      show Steps p.tables e below (s₁.setTop (mkF m 0 #[.val (.ref ac), .val (.int (0 : Int32)), .val (.ref ab), .val (.int (0 : Int32)), .val (.int (2 : Int32)), .unset, .unset] [])) _
      refine XS.iconst X0.here hx rfl (hb hby own_dcmpI2_0) ?_
      show Steps p.tables e below (s₁.setTop (mkF m 1 #[.val (.ref ac), .val (.int (0 : Int32)), .val (.ref ab), .val (.int (0 : Int32)), .val (.int (2 : Int32)), .unset, .unset] [(.int (0 : Int32))])) _
      refine XS.istore X0.here hx rfl (hb hby own_dcmpI2_1) rfl (l' := #[.val (.ref ac), .val (.int (0 : Int32)), .val (.ref ab), .val (.int (0 : Int32)), .val (.int (2 : Int32)), .val (.int (0 : Int32)), .unset]) rfl ?_
      show Steps p.tables e below (s₁.setTop (mkF m 3 #[.val (.ref ac), .val (.int (0 : Int32)), .val (.ref ab), .val (.int (0 : Int32)), .val (.int (2 : Int32)), .val (.int (0 : Int32)), .unset] [])) _
      refine XS.iload X0.here hx rfl (hb hby own_dcmpI2_3) rfl ?_
      show Steps p.tables e below (s₁.setTop (mkF m 5 #[.val (.ref ac), .val (.int (0 : Int32)), .val (.ref ab), .val (.int (0 : Int32)), .val (.int (2 : Int32)), .val (.int (0 : Int32)), .unset] [(.int (0 : Int32))])) _
      refine XS.iload X0.here hx rfl (hb hby own_dcmpI2_5) rfl ?_
      show Steps p.tables e below (s₁.setTop (mkF m 7 #[.val (.ref ac), .val (.int (0 : Int32)), .val (.ref ab), .val (.int (0 : Int32)), .val (.int (2 : Int32)), .val (.int (0 : Int32)), .unset] [(.int (2 : Int32)), (.int (0 : Int32))])) _
      refine XS.icmpNo X0.here hx rfl (hb hby own_dcmpI2_7) rfl (tlt (by decide : (0 : Int32) < (2 : Int32))).2.1 ?_
      show Steps p.tables e below (s₁.setTop (mkF m 10 #[.val (.ref ac), .val (.int (0 : Int32)), .val (.ref ab), .val (.int (0 : Int32)), .val (.int (2 : Int32)), .val (.int (0 : Int32)), .unset] [])) _
      refine XS.aloadN X0.here hx rfl (hb hby own_dcmpI2_10) rfl rfl ?_
      show Steps p.tables e below (s₁.setTop (mkF m 11 #[.val (.ref ac), .val (.int (0 : Int32)), .val (.ref ab), .val (.int (0 : Int32)), .val (.int (2 : Int32)), .val (.int (0 : Int32)), .unset] [(.ref ac)])) _
      refine XS.iloadN X0.here hx rfl (hb hby own_dcmpI2_11) rfl ?_
      exact kt)
  obtain ⟨cl2, Ar2, q2, S2, N_2, H2, G2⟩ := (id (V_ac))
  have hin2 : ¬ ((0 : Int32) < 0 ∨ cl2.slots.size ≤ ((0 : Int32)).toNatClampNeg) := inb_of S2 ⟨by decide, by decide⟩
  have hat2 : cl2.slots[((0 : Int32)).toNatClampNeg]? = some (.int v0) := Has.at H2 hin2 rfl
  have pre3 : Goes p e below s₁ (entryFrame m #[(.ref ac), (.int (0 : Int32)), (.ref ab), (.int (0 : Int32)), (.int (2 : Int32))] 7) s₁ (mkF m 31 #[.val (.ref ac), .val (.int (0 : Int32)), .val (.ref ab), .val (.int (0 : Int32)), .val (.int (2 : Int32)), .val (.int (0 : Int32)), .val (.int v0)] [(.int (v0.toInt8.toInt32)), (.int (0 : Int32)), (.ref ab)]) := fun t kt => pre1 t (by
      show Steps p.tables e below (s₁.setTop (mkF m 12 #[.val (.ref ac), .val (.int (0 : Int32)), .val (.ref ab), .val (.int (0 : Int32)), .val (.int (2 : Int32)), .val (.int (0 : Int32)), .unset] [(.int (0 : Int32)), (.ref ac)])) _
      refine X0.caload hx (j := (0 : Int32)) (v := (.int v0)) (by (try rw [e0]); exact Ar2.1) (State.isArrayOf_alike hZ.alike Ar2.2.1) Ar2.2.2 hin2 hat2 (g := (mkF m 12 #[.val (.ref ac), .val (.int (0 : Int32)), .val (.ref ab), .val (.int (0 : Int32)), .val (.int (2 : Int32)), .val (.int (0 : Int32)), .unset] [(.int (0 : Int32)), (.ref ac)])) rfl rfl (hb hby own_dcmpI2_12) _ ?_
      show Steps p.tables e below (s₁.setTop (mkF m 13 #[.val (.ref ac), .val (.int (0 : Int32)), .val (.ref ab), .val (.int (0 : Int32)), .val (.int (2 : Int32)), .val (.int (0 : Int32)), .unset] [(.int v0)])) _
      refine XS.istore X0.here hx rfl (hb hby own_dcmpI2_13) rfl (l' := #[.val (.ref ac), .val (.int (0 : Int32)), .val (.ref ab), .val (.int (0 : Int32)), .val (.int (2 : Int32)), .val (.int (0 : Int32)), .val (.int v0)]) rfl ?_
      show Steps p.tables e below (s₁.setTop (mkF m 15 #[.val (.ref ac), .val (.int (0 : Int32)), .val (.ref ab), .val (.int (0 : Int32)), .val (.int (2 : Int32)), .val (.int (0 : Int32)), .val (.int v0)] [])) _
      refine XS.iload X0.here hx rfl (hb hby own_dcmpI2_15) rfl ?_
      show Steps p.tables e below (s₁.setTop (mkF m 17 #[.val (.ref ac), .val (.int (0 : Int32)), .val (.ref ab), .val (.int (0 : Int32)), .val (.int (2 : Int32)), .val (.int (0 : Int32)), .val (.int v0)] [(.int v0)])) _
      refine XS.sipush X0.here hx rfl (hb hby own_dcmpI2_17) ?_
      show Steps p.tables e below (s₁.setTop (mkF m 20 #[.val (.ref ac), .val (.int (0 : Int32)), .val (.ref ab), .val (.int (0 : Int32)), .val (.int (2 : Int32)), .val (.int (0 : Int32)), .val (.int v0)] [(.int (255 : Int32)), (.int v0)])) _
      refine XS.icmpYes X0.here hx rfl (pc0 := 20) (pc' := 26) rfl (hb hby own_dcmpI2_20) rfl (flt hp0).2.2.2 (by decide) (by decide) ?_
      show Steps p.tables e below (s₁.setTop (mkF m 26 #[.val (.ref ac), .val (.int (0 : Int32)), .val (.ref ab), .val (.int (0 : Int32)), .val (.int (2 : Int32)), .val (.int (0 : Int32)), .val (.int v0)] [])) _
      refine XS.aloadN X0.here hx rfl (hb hby own_dcmpI2_26) rfl rfl ?_
      show Steps p.tables e below (s₁.setTop (mkF m 27 #[.val (.ref ac), .val (.int (0 : Int32)), .val (.ref ab), .val (.int (0 : Int32)), .val (.int (2 : Int32)), .val (.int (0 : Int32)), .val (.int v0)] [(.ref ab)])) _
      refine XS.iloadN X0.here hx rfl (hb hby own_dcmpI2_27) rfl ?_
      show Steps p.tables e below (s₁.setTop (mkF m 28 #[.val (.ref ac), .val (.int (0 : Int32)), .val (.ref ab), .val (.int (0 : Int32)), .val (.int (2 : Int32)), .val (.int (0 : Int32)), .val (.int v0)] [(.int (0 : Int32)), (.ref ab)])) _
      refine XS.iload X0.here hx rfl (hb hby own_dcmpI2_28) rfl ?_
      show Steps p.tables e below (s₁.setTop (mkF m 30 #[.val (.ref ac), .val (.int (0 : Int32)), .val (.ref ab), .val (.int (0 : Int32)), .val (.int (2 : Int32)), .val (.int (0 : Int32)), .val (.int v0)] [(.int v0), (.int (0 : Int32)), (.ref ab)])) _
      refine XS.i2b X0.here hx rfl (hb hby own_dcmpI2_30) rfl ?_
      exact kt)
  obtain ⟨cl4, Ar4, q4, S4, N_4, H4, G4⟩ := (id (V_ab))
  have hin4 : ¬ ((0 : Int32) < 0 ∨ cl4.slots.size ≤ ((0 : Int32)).toNatClampNeg) := inb_of S4 ⟨by decide, by decide⟩
  obtain ⟨T5, h5, X5, e5, W5, st5⟩ := stB X0 hx hZ e0 Ar4 (j := (0 : Int32)) hin4 (g := (mkF m 31 #[.val (.ref ac), .val (.int (0 : Int32)), .val (.ref ab), .val (.int (0 : Int32)), .val (.int (2 : Int32)), .val (.int (0 : Int32)), .val (.int v0)] [(.int (v0.toInt8.toInt32)), (.int (0 : Int32)), (.ref ab)])) rfl rfl (hb hby own_dcmpI2_31)
  have V5 : Arv Z h5 ab kb .byte (2 : Int32) [(.int (nar .byte (v0.toInt8.toInt32))), (.int (0 : Int32))] (.int (0 : Int32)) := Arv.set Ar4 q4 S4 N_4 H4 G4 (fits_nar_byte _) W5 0 rfl (Nat.le_of_ble_eq_true rfl)
  have K5 : Keep h0 h5 [ab] := (Keep.refl h0 [ab]).wr W5 (Or.inl (List.mem_of_getElem? (i := 0) rfl))
  have N5 := Fr.snoc X5 N0 g_ab
  have pre6 : Goes p e below s₁ (entryFrame m #[(.ref ac), (.int (0 : Int32)), (.ref ab), (.int (0 : Int32)), (.int (2 : Int32))] 7) T5 (mkF m 32 #[.val (.ref ac), .val (.int (0 : Int32)), .val (.ref ab), .val (.int (0 : Int32)), .val (.int (2 : Int32)), .val (.int (0 : Int32)), .val (.int v0)] []) := fun t kt => pre3 t (st5 t kt)
  have pre7 : Goes p e below s₁ (entryFrame m #[(.ref ac), (.int (0 : Int32)), (.ref ab), (.int (0 : Int32)), (.int (2 : Int32))] 7) T5 (mkF m 12 #[.val (.ref ac), .val (.int (1 : Int32)), .val (.ref ab), .val (.int (1 : Int32)), .val (.int (2 : Int32)), .val (.int (1 : Int32)), .val (.int v0)] [(.int (1 : Int32)), (.ref ac)]) := fun t kt => pre6 t (by
      show Steps p.tables e below (T5.setTop (mkF m 32 #[.val (.ref ac), .val (.int (0 : Int32)), .val (.ref ab), .val (.int (0 : Int32)), .val (.int (2 : Int32)), .val (.int (0 : Int32)), .val (.int v0)] [])) _
      refine XS.iinc X5.here hx rfl (hb hby own_dcmpI2_32) rfl (l' := #[.val (.ref ac), .val (.int (1 : Int32)), .val (.ref ab), .val (.int (0 : Int32)), .val (.int (2 : Int32)), .val (.int (0 : Int32)), .val (.int v0)]) rfl ?_
      show Steps p.tables e below (T5.setTop (mkF m 35 #[.val (.ref ac), .val (.int (1 : Int32)), .val (.ref ab), .val (.int (0 : Int32)), .val (.int (2 : Int32)), .val (.int (0 : Int32)), .val (.int v0)] [])) _
      refine XS.iinc X5.here hx rfl (hb hby own_dcmpI2_35) rfl (l' := #[.val (.ref ac), .val (.int (1 : Int32)), .val (.ref ab), .val (.int (1 : Int32)), .val (.int (2 : Int32)), .val (.int (0 : Int32)), .val (.int v0)]) rfl ?_
      show Steps p.tables e below (T5.setTop (mkF m 38 #[.val (.ref ac), .val (.int (1 : Int32)), .val (.ref ab), .val (.int (1 : Int32)), .val (.int (2 : Int32)), .val (.int (0 : Int32)), .val (.int v0)] [])) _
      refine XS.iinc X5.here hx rfl (hb hby own_dcmpI2_38) rfl (l' := #[.val (.ref ac), .val (.int (1 : Int32)), .val (.ref ab), .val (.int (1 : Int32)), .val (.int (2 : Int32)), .val (.int (1 : Int32)), .val (.int v0)]) rfl ?_
      show Steps p.tables e below (T5.setTop (mkF m 41 #[.val (.ref ac), .val (.int (1 : Int32)), .val (.ref ab), .val (.int (1 : Int32)), .val (.int (2 : Int32)), .val (.int (1 : Int32)), .val (.int v0)] [])) _
      refine XS.goto X5.here hx rfl (pc0 := 41) (pc' := 3) rfl (hb hby own_dcmpI2_41) (by decide) (by decide) ?_
      show Steps p.tables e below (T5.setTop (mkF m 3 #[.val (.ref ac), .val (.int (1 : Int32)), .val (.ref ab), .val (.int (1 : Int32)), .val (.int (2 : Int32)), .val (.int (1 : Int32)), .val (.int v0)] [])) _
      refine XS.iload X5.here hx rfl (hb hby own_dcmpI2_3) rfl ?_
      show Steps p.tables e below (T5.setTop (mkF m 5 #[.val (.ref ac), .val (.int (1 : Int32)), .val (.ref ab), .val (.int (1 : Int32)), .val (.int (2 : Int32)), .val (.int (1 : Int32)), .val (.int v0)] [(.int (1 : Int32))])) _
      refine XS.iload X5.here hx rfl (hb hby own_dcmpI2_5) rfl ?_
      show Steps p.tables e below (T5.setTop (mkF m 7 #[.val (.ref ac), .val (.int (1 : Int32)), .val (.ref ab), .val (.int (1 : Int32)), .val (.int (2 : Int32)), .val (.int (1 : Int32)), .val (.int v0)] [(.int (2 : Int32)), (.int (1 : Int32))])) _
      refine XS.icmpNo X5.here hx rfl (hb hby own_dcmpI2_7) rfl (tlt (by decide : (1 : Int32) < (2 : Int32))).2.1 ?_
      show Steps p.tables e below (T5.setTop (mkF m 10 #[.val (.ref ac), .val (.int (1 : Int32)), .val (.ref ab), .val (.int (1 : Int32)), .val (.int (2 : Int32)), .val (.int (1 : Int32)), .val (.int v0)] [])) _
      refine XS.aloadN X5.here hx rfl (hb hby own_dcmpI2_10) rfl rfl ?_
      show Steps p.tables e below (T5.setTop (mkF m 11 #[.val (.ref ac), .val (.int (1 : Int32)), .val (.ref ab), .val (.int (1 : Int32)), .val (.int (2 : Int32)), .val (.int (1 : Int32)), .val (.int v0)] [(.ref ac)])) _
      refine XS.iloadN X5.here hx rfl (hb hby own_dcmpI2_11) rfl ?_
      exact kt)
  obtain ⟨cl8, Ar8, q8, S8, N_8, H8, G8⟩ := (id ((V_ac.other W5 nab)))
  have hin8 : ¬ ((1 : Int32) < 0 ∨ cl8.slots.size ≤ ((1 : Int32)).toNatClampNeg) := inb_of S8 ⟨by decide, by decide⟩
  have hat8 : cl8.slots[((1 : Int32)).toNatClampNeg]? = some (.int v1) := Has.at H8 hin8 rfl
  have pre9 : Goes p e below s₁ (entryFrame m #[(.ref ac), (.int (0 : Int32)), (.ref ab), (.int (0 : Int32)), (.int (2 : Int32))] 7) T5 (mkF m 31 #[.val (.ref ac), .val (.int (1 : Int32)), .val (.ref ab), .val (.int (1 : Int32)), .val (.int (2 : Int32)), .val (.int (1 : Int32)), .val (.int v1)] [(.int (v1.toInt8.toInt32)), (.int (1 : Int32)), (.ref ab)]) := fun t kt => pre7 t (by
      show Steps p.tables e below (T5.setTop (mkF m 12 #[.val (.ref ac), .val (.int (1 : Int32)), .val (.ref ab), .val (.int (1 : Int32)), .val (.int (2 : Int32)), .val (.int (1 : Int32)), .val (.int v0)] [(.int (1 : Int32)), (.ref ac)])) _
      refine X5.caload hx (j := (1 : Int32)) (v := (.int v1)) (by (try rw [e5]); exact Ar8.1) (State.isArrayOf_alike hZ.alike Ar8.2.1) Ar8.2.2 hin8 hat8 (g := (mkF m 12 #[.val (.ref ac), .val (.int (1 : Int32)), .val (.ref ab), .val (.int (1 : Int32)), .val (.int (2 : Int32)), .val (.int (1 : Int32)), .val (.int v0)] [(.int (1 : Int32)), (.ref ac)])) rfl rfl (hb hby own_dcmpI2_12) _ ?_
      show Steps p.tables e below (T5.setTop (mkF m 13 #[.val (.ref ac), .val (.int (1 : Int32)), .val (.ref ab), .val (.int (1 : Int32)), .val (.int (2 : Int32)), .val (.int (1 : Int32)), .val (.int v0)] [(.int v1)])) _
      refine XS.istore X5.here hx rfl (hb hby own_dcmpI2_13) rfl (l' := #[.val (.ref ac), .val (.int (1 : Int32)), .val (.ref ab), .val (.int (1 : Int32)), .val (.int (2 : Int32)), .val (.int (1 : Int32)), .val (.int v1)]) rfl ?_
      show Steps p.tables e below (T5.setTop (mkF m 15 #[.val (.ref ac), .val (.int (1 : Int32)), .val (.ref ab), .val (.int (1 : Int32)), .val (.int (2 : Int32)), .val (.int (1 : Int32)), .val (.int v1)] [])) _
      refine XS.iload X5.here hx rfl (hb hby own_dcmpI2_15) rfl ?_
      show Steps p.tables e below (T5.setTop (mkF m 17 #[.val (.ref ac), .val (.int (1 : Int32)), .val (.ref ab), .val (.int (1 : Int32)), .val (.int (2 : Int32)), .val (.int (1 : Int32)), .val (.int v1)] [(.int v1)])) _
      refine XS.sipush X5.here hx rfl (hb hby own_dcmpI2_17) ?_
      show Steps p.tables e below (T5.setTop (mkF m 20 #[.val (.ref ac), .val (.int (1 : Int32)), .val (.ref ab), .val (.int (1 : Int32)), .val (.int (2 : Int32)), .val (.int (1 : Int32)), .val (.int v1)] [(.int (255 : Int32)), (.int v1)])) _
      refine XS.icmpYes X5.here hx rfl (pc0 := 20) (pc' := 26) rfl (hb hby own_dcmpI2_20) rfl (flt hp1).2.2.2 (by decide) (by decide) ?_
      show Steps p.tables e below (T5.setTop (mkF m 26 #[.val (.ref ac), .val (.int (1 : Int32)), .val (.ref ab), .val (.int (1 : Int32)), .val (.int (2 : Int32)), .val (.int (1 : Int32)), .val (.int v1)] [])) _
      refine XS.aloadN X5.here hx rfl (hb hby own_dcmpI2_26) rfl rfl ?_
      show Steps p.tables e below (T5.setTop (mkF m 27 #[.val (.ref ac), .val (.int (1 : Int32)), .val (.ref ab), .val (.int (1 : Int32)), .val (.int (2 : Int32)), .val (.int (1 : Int32)), .val (.int v1)] [(.ref ab)])) _
      refine XS.iloadN X5.here hx rfl (hb hby own_dcmpI2_27) rfl ?_
      show Steps p.tables e below (T5.setTop (mkF m 28 #[.val (.ref ac), .val (.int (1 : Int32)), .val (.ref ab), .val (.int (1 : Int32)), .val (.int (2 : Int32)), .val (.int (1 : Int32)), .val (.int v1)] [(.int (1 : Int32)), (.ref ab)])) _
      refine XS.iload X5.here hx rfl (hb hby own_dcmpI2_28) rfl ?_
      show Steps p.tables e below (T5.setTop (mkF m 30 #[.val (.ref ac), .val (.int (1 : Int32)), .val (.ref ab), .val (.int (1 : Int32)), .val (.int (2 : Int32)), .val (.int (1 : Int32)), .val (.int v1)] [(.int v1), (.int (1 : Int32)), (.ref ab)])) _
      refine XS.i2b X5.here hx rfl (hb hby own_dcmpI2_30) rfl ?_
      exact kt)
  obtain ⟨cl10, Ar10, q10, S10, N_10, H10, G10⟩ := (id (V5))
  have hin10 : ¬ ((1 : Int32) < 0 ∨ cl10.slots.size ≤ ((1 : Int32)).toNatClampNeg) := inb_of S10 ⟨by decide, by decide⟩
  obtain ⟨T11, h11, X11, e11, W11, st11⟩ := stB X5 hx hZ e5 Ar10 (j := (1 : Int32)) hin10 (g := (mkF m 31 #[.val (.ref ac), .val (.int (1 : Int32)), .val (.ref ab), .val (.int (1 : Int32)), .val (.int (2 : Int32)), .val (.int (1 : Int32)), .val (.int v1)] [(.int (v1.toInt8.toInt32)), (.int (1 : Int32)), (.ref ab)])) rfl rfl (hb hby own_dcmpI2_31)
  have V11 : Arv Z h11 ab kb .byte (2 : Int32) [(.int (nar .byte (v0.toInt8.toInt32))), (.int (nar .byte (v1.toInt8.toInt32)))] (.int (0 : Int32)) := Arv.set Ar10 q10 S10 N_10 H10 G10 (fits_nar_byte _) W11 1 rfl (Nat.le_of_ble_eq_true rfl)
  have K11 : Keep h0 h11 [ab] := K5.wr W11 (Or.inl (List.mem_of_getElem? (i := 0) rfl))
  have N11 := Fr.snoc X11 N5 g_ab
  have pre12 : Goes p e below s₁ (entryFrame m #[(.ref ac), (.int (0 : Int32)), (.ref ab), (.int (0 : Int32)), (.int (2 : Int32))] 7) T11 (mkF m 32 #[.val (.ref ac), .val (.int (1 : Int32)), .val (.ref ab), .val (.int (1 : Int32)), .val (.int (2 : Int32)), .val (.int (1 : Int32)), .val (.int v1)] []) := fun t kt => pre9 t (st11 t kt)
  have pre13 : Goes p e below s₁ (entryFrame m #[(.ref ac), (.int (0 : Int32)), (.ref ab), (.int (0 : Int32)), (.int (2 : Int32))] 7) T11 (mkF m 46 #[.val (.ref ac), .val (.int (2 : Int32)), .val (.ref ab), .val (.int (2 : Int32)), .val (.int (2 : Int32)), .val (.int (2 : Int32)), .val (.int v1)] [(.int (2 : Int32))]) := fun t kt => pre12 t (by
      show Steps p.tables e below (T11.setTop (mkF m 32 #[.val (.ref ac), .val (.int (1 : Int32)), .val (.ref ab), .val (.int (1 : Int32)), .val (.int (2 : Int32)), .val (.int (1 : Int32)), .val (.int v1)] [])) _
      refine XS.iinc X11.here hx rfl (hb hby own_dcmpI2_32) rfl (l' := #[.val (.ref ac), .val (.int (2 : Int32)), .val (.ref ab), .val (.int (1 : Int32)), .val (.int (2 : Int32)), .val (.int (1 : Int32)), .val (.int v1)]) rfl ?_
      show Steps p.tables e below (T11.setTop (mkF m 35 #[.val (.ref ac), .val (.int (2 : Int32)), .val (.ref ab), .val (.int (1 : Int32)), .val (.int (2 : Int32)), .val (.int (1 : Int32)), .val (.int v1)] [])) _
      refine XS.iinc X11.here hx rfl (hb hby own_dcmpI2_35) rfl (l' := #[.val (.ref ac), .val (.int (2 : Int32)), .val (.ref ab), .val (.int (2 : Int32)), .val (.int (2 : Int32)), .val (.int (1 : Int32)), .val (.int v1)]) rfl ?_
      show Steps p.tables e below (T11.setTop (mkF m 38 #[.val (.ref ac), .val (.int (2 : Int32)), .val (.ref ab), .val (.int (2 : Int32)), .val (.int (2 : Int32)), .val (.int (1 : Int32)), .val (.int v1)] [])) _
      refine XS.iinc X11.here hx rfl (hb hby own_dcmpI2_38) rfl (l' := #[.val (.ref ac), .val (.int (2 : Int32)), .val (.ref ab), .val (.int (2 : Int32)), .val (.int (2 : Int32)), .val (.int (2 : Int32)), .val (.int v1)]) rfl ?_
      show Steps p.tables e below (T11.setTop (mkF m 41 #[.val (.ref ac), .val (.int (2 : Int32)), .val (.ref ab), .val (.int (2 : Int32)), .val (.int (2 : Int32)), .val (.int (2 : Int32)), .val (.int v1)] [])) _
      refine XS.goto X11.here hx rfl (pc0 := 41) (pc' := 3) rfl (hb hby own_dcmpI2_41) (by decide) (by decide) ?_
      show Steps p.tables e below (T11.setTop (mkF m 3 #[.val (.ref ac), .val (.int (2 : Int32)), .val (.ref ab), .val (.int (2 : Int32)), .val (.int (2 : Int32)), .val (.int (2 : Int32)), .val (.int v1)] [])) _
      refine XS.iload X11.here hx rfl (hb hby own_dcmpI2_3) rfl ?_
      show Steps p.tables e below (T11.setTop (mkF m 5 #[.val (.ref ac), .val (.int (2 : Int32)), .val (.ref ab), .val (.int (2 : Int32)), .val (.int (2 : Int32)), .val (.int (2 : Int32)), .val (.int v1)] [(.int (2 : Int32))])) _
      refine XS.iload X11.here hx rfl (hb hby own_dcmpI2_5) rfl ?_
      show Steps p.tables e below (T11.setTop (mkF m 7 #[.val (.ref ac), .val (.int (2 : Int32)), .val (.ref ab), .val (.int (2 : Int32)), .val (.int (2 : Int32)), .val (.int (2 : Int32)), .val (.int v1)] [(.int (2 : Int32)), (.int (2 : Int32))])) _
      refine XS.icmpYes X11.here hx rfl (pc0 := 7) (pc' := 44) rfl (hb hby own_dcmpI2_7) rfl (flt (by decide : ¬ ((2 : Int32) < (2 : Int32)))).2.1 (by decide) (by decide) ?_
      show Steps p.tables e below (T11.setTop (mkF m 44 #[.val (.ref ac), .val (.int (2 : Int32)), .val (.ref ab), .val (.int (2 : Int32)), .val (.int (2 : Int32)), .val (.int (2 : Int32)), .val (.int v1)] [])) _
      refine XS.iload X11.here hx rfl (hb hby own_dcmpI2_44) rfl ?_
      exact kt)
  obtain ⟨fs, hr, hrun, hended, hW, hsame⟩ := X11.leave (v := some (.int (2 : Int32))) (fun h => by rw [Bd.returns] at h; cases h)
  refine ⟨_, _, pre13 _ ?_, hrun, hended, _, _, rfl, ?_, ⟨_, rfl⟩, hW, hsame.mono (by decide) (by decide)⟩
  · show Steps p.tables e below (T11.setTop (mkF m 46 #[.val (.ref ac), .val (.int (2 : Int32)), .val (.ref ab), .val (.int (2 : Int32)), .val (.int (2 : Int32)), .val (.int (2 : Int32)), .val (.int v1)] [(.int (2 : Int32))])) _
    exact retI X11 hx Bd.returns (hb hby own_dcmpI2_46) hr
  · show Q_own_cmpI2 Z ac ab kc kb v0 v1 h0 n0 _ T11.heap _
    rw [e11]
    exact ⟨rfl, N11, K11, V11⟩
theorem own_dcmpO2_0 : decode jdk_52_method_16_code 0 = .ok (.iload_n 2, 1) := by decide +kernel
theorem own_dcmpO2_1 : decode jdk_52_method_16_code 1 = .ok (.newarray .byte, 2) := by decide +kernel
theorem own_dcmpO2_3 : decode jdk_52_method_16_code 3 = .ok (.astore_n 3, 1) := by decide +kernel
theorem own_dcmpO2_4 : decode jdk_52_method_16_code 4 = .ok (.aload_n 0, 1) := by decide +kernel
theorem own_dcmpO2_5 : decode jdk_52_method_16_code 5 = .ok (.iload_n 1, 1) := by decide +kernel
theorem own_dcmpO2_6 : decode jdk_52_method_16_code 6 = .ok (.aload_n 3, 1) := by decide +kernel
theorem own_dcmpO2_7 : decode jdk_52_method_16_code 7 = .ok (.iconst 0, 1) := by decide +kernel
theorem own_dcmpO2_8 : decode jdk_52_method_16_code 8 = .ok (.iload_n 2, 1) := by decide +kernel
theorem own_dcmpO2_9 : decode jdk_52_method_16_code 9 = .ok (.invokestatic 115, 3) := by decide +kernel
theorem own_dcmpO2_12 : decode jdk_52_method_16_code 12 = .ok (.istore 4, 2) := by decide +kernel
theorem own_dcmpO2_14 : decode jdk_52_method_16_code 14 = .ok (.iload 4, 2) := by decide +kernel
theorem own_dcmpO2_16 : decode jdk_52_method_16_code 16 = .ok (.iload_n 2, 1) := by decide +kernel
theorem own_dcmpO2_17 : decode jdk_52_method_16_code 17 = .ok (.if_icmp .eq 40, 3) := by decide +kernel
theorem own_dcmpO2_57 : decode jdk_52_method_16_code 57 = .ok (.aload_n 3, 1) := by decide +kernel
theorem own_dcmpO2_58 : decode jdk_52_method_16_code 58 = .ok (.areturn, 1) := by decide +kernel
theorem own_pn_own_cmpO2 : plainName "java/lang/StringUTF16" = true := by first | (simp [plainName, overriddenIn]; done) | decide +kernel
theorem own_ef_own_cmpO2 (m : MethodId) (x0 : Addr) (x1 : Int32) (x2 : Int32) : entryFrame m #[(.ref x0), (.int x1), (.int x2)] 6 = mkF m 0 #[.val (.ref x0), .val (.int x1), .val (.int x2), .unset, .unset, .unset] [] := by first | (simp [entryFrame, mkF, argsToLocals, Value.category]; done) | rfl
def Q_own_cmpO2 (Z : State) (ac : Addr) (kc : ClassId) (v0 : Int32) (v1 : Int32) (h0 : Heap) (n0 : Nat) (v : Option Value) (h : Heap) (L : List Loc) : Prop := ∃ (y : Addr) (ky : ClassId), v = some (.ref y) ∧ Fr n0 L ∧ Keep h0 h [] ∧ h0.size ≤ y ∧ n0 ≤ y ∧ Arv Z h y ky .byte (2 : Int32) [(.int (nar .byte (v0.toInt8.toInt32))), (.int (nar .byte (v1.toInt8.toInt32)))] (.int (0 : Int32))
set_option maxRecDepth 65536 in
set_option maxHeartbeats 40000000 in
theorem own_cmpO2 (l : Launch) (Z : State) (a0 : Array Value) (hw : ∀ d ∈ tables_1, d.before a0 Z = true) (ws : List Jvm.Cond) (ac : Addr) (kc : ClassId) (v0 : Int32) (v1 : Int32) (h0 : Heap) (n0 : Nat) (Z0 : n0 ≤ h0.size) (V_ac : Arv Z h0 ac kc .char (2 : Int32) [(.int v0), (.int v1)] (.int (0 : Int32))) (hp0 : ¬ ((255 : Int32) < v0)) (hp1 : ¬ ((255 : Int32) < v1)) :
    MetFree l (⟨"java/lang/StringUTF16", "compress", "([CII)[B"⟩ : MethodName) (head1 (Jvm.Cond.code (⟨"java/lang/StringUTF16", "compress", "([CII)[B"⟩ : MethodName) jdk_52_method_16_code 6 (some (.array .byte)) :: ws) ({ frames := 1, cells := 1, slots := 2, locals := 18 } : Room)) (fun a U => a = #[(.ref ac), (.int (0 : Int32)), (.int (2 : Int32))] ∧ Z.Warmed39 U.vm ∧ U.heap = h0) (fun _ _ _ _ _ => True) (fun _ U o U' => ∃ v L, o = .returned v ∧ Q_own_cmpO2 Z ac kc v0 v1 h0 n0 v U'.heap L ∧ FrameEnd U o U' L ({ frames := 1, cells := 1, slots := 2, locals := 18 } : Room).cells ({ frames := 1, cells := 1, slots := 2, locals := 18 } : Room).slots) := by
  refine MetFree.of_bodySF (plainFor_of_name own_pn_own_cmpO2) hisR ?_
  intro p e s m args below meth c s₁ Bd hml0 hP hK
  obtain ⟨rfl, hZ, hh⟩ := hP
  have hx := Bd.exec
  have hby := Bd.bytes
  have hml : c.maxLocals = 6 := hml0
  have hown : s.vm.findClass "java/lang/StringUTF16" = some m.cls := findClass_of_methodNamed Bd.named
  have hnm := (name_of_methodNamed Bd.named Bd.method).1
  have X0 : Stand p l e ({ frames := 1, cells := 1, slots := 2, locals := 18 } : Room) s m #[(.ref ac), (.int (0 : Int32)), (.int (2 : Int32))] below meth c s₁ [] 0 0 := Stand.of_body Bd
  have e0 : s₁.heap = h0 := by rw [← hh, Bd.state]; rfl
  have N0 := Fr.nil n0
  have pre0 : Goes p e below s₁ (entryFrame m #[(.ref ac), (.int (0 : Int32)), (.int (2 : Int32))] 6) s₁ (mkF m 0 #[.val (.ref ac), .val (.int (0 : Int32)), .val (.int (2 : Int32)), .unset, .unset, .unset] []) := fun t k => castTop (own_ef_own_cmpO2 m ac (0 : Int32) (2 : Int32)) k
  have pre1 : Goes p e below s₁ (entryFrame m #[(.ref ac), (.int (0 : Int32)), (.int (2 : Int32))] 6) s₁ (mkF m 1 #[.val (.ref ac), .val (.int (0 : Int32)), .val (.int (2 : Int32)), .unset, .unset, .unset] [(.int (2 : Int32))]) := fun t kt => pre0 t (by
      show Steps p.tables e below (s₁.setTop (mkF m 0 #[.val (.ref ac), .val (.int (0 : Int32)), .val (.int (2 : Int32)), .unset, .unset, .unset] [])) _
      refine XS.iloadN X0.here hx rfl (hb hby own_dcmpO2_0) rfl ?_
      exact kt)
  obtain ⟨T2, h2, k2, X2, e2, E2, A2, st2⟩ := newP X0 hx hZ (hw _ (List.mem_of_getElem? (i := 23) rfl)) e0 (g := (mkF m 1 #[.val (.ref ac), .val (.int (0 : Int32)), .val (.int (2 : Int32)), .unset, .unset, .unset] [(.int (2 : Int32))])) rfl (hb hby own_dcmpO2_1) rfl (by decide) (cap := 2) (by decide) (by decide) (by decide) (by decide)
  obtain ⟨b2, g2⟩ : ∃ z, z = h0.size := ⟨_, rfl⟩
  rw [← g2] at A2 st2
  have V_b2 : Arv Z h2 b2 k2 .byte (2 : Int32) [(.int (0 : Int32)), (.int (0 : Int32))] (.int (0 : Int32)) := (Arv.new A2 (by decide)).pad (pad_rep [] (.int (0 : Int32)) 2)
  have g_b2 : n0 ≤ b2 := Nat.le_trans Z0 (Nat.le_of_eq g2.symm)
  have sz_b2 : h0.size ≤ b2 := (Nat.le_trans (Keep.refl h0 []).1 (Nat.le_of_eq g2.symm))
  have K2 : Keep h0 h2 [] := (Keep.refl h0 []).ext E2
  have pre3 : Goes p e below s₁ (entryFrame m #[(.ref ac), (.int (0 : Int32)), (.int (2 : Int32))] 6) T2 (mkF m 3 #[.val (.ref ac), .val (.int (0 : Int32)), .val (.int (2 : Int32)), .unset, .unset, .unset] [(.ref b2)]) := fun t kt => pre1 t (st2 t kt)
  have pre4 : Goes p e below s₁ (entryFrame m #[(.ref ac), (.int (0 : Int32)), (.int (2 : Int32))] 6) T2 (mkF m 9 #[.val (.ref ac), .val (.int (0 : Int32)), .val (.int (2 : Int32)), .val (.ref b2), .unset, .unset] [(.int (2 : Int32)), (.int (0 : Int32)), (.ref b2), (.int (0 : Int32)), (.ref ac)]) := fun t kt => pre3 t (by
      show Steps p.tables e below (T2.setTop (mkF m 3 #[.val (.ref ac), .val (.int (0 : Int32)), .val (.int (2 : Int32)), .unset, .unset, .unset] [(.ref b2)])) _
      refine XS.astoreN X2.here hx rfl (hb hby own_dcmpO2_3) rfl rfl (l' := #[.val (.ref ac), .val (.int (0 : Int32)), .val (.int (2 : Int32)), .val (.ref b2), .unset, .unset]) rfl ?_
      show Steps p.tables e below (T2.setTop (mkF m 4 #[.val (.ref ac), .val (.int (0 : Int32)), .val (.int (2 : Int32)), .val (.ref b2), .unset, .unset] [])) _
      refine XS.aloadN X2.here hx rfl (hb hby own_dcmpO2_4) rfl rfl ?_
      show Steps p.tables e below (T2.setTop (mkF m 5 #[.val (.ref ac), .val (.int (0 : Int32)), .val (.int (2 : Int32)), .val (.ref b2), .unset, .unset] [(.ref ac)])) _
      refine XS.iloadN X2.here hx rfl (hb hby own_dcmpO2_5) rfl ?_
      show Steps p.tables e below (T2.setTop (mkF m 6 #[.val (.ref ac), .val (.int (0 : Int32)), .val (.int (2 : Int32)), .val (.ref b2), .unset, .unset] [(.int (0 : Int32)), (.ref ac)])) _
      refine XS.aloadN X2.here hx rfl (hb hby own_dcmpO2_6) rfl rfl ?_
      show Steps p.tables e below (T2.setTop (mkF m 7 #[.val (.ref ac), .val (.int (0 : Int32)), .val (.int (2 : Int32)), .val (.ref b2), .unset, .unset] [(.ref b2), (.int (0 : Int32)), (.ref ac)])) _
      refine XS.iconst X2.here hx rfl (hb hby own_dcmpO2_7) ?_
      show Steps p.tables e below (T2.setTop (mkF m 8 #[.val (.ref ac), .val (.int (0 : Int32)), .val (.int (2 : Int32)), .val (.ref b2), .unset, .unset] [(.int (0 : Int32)), (.ref b2), (.int (0 : Int32)), (.ref ac)])) _
      refine XS.iloadN X2.here hx rfl (hb hby own_dcmpO2_8) rfl ?_
      exact kt)
  obtain ⟨_, _, ⟨T5, L5, k5, n5⟩, -, X5, ⟨Lc5, hQ5, l5, y5, z5⟩, st5⟩ := Jvm.LawKit.callS X2 hx (y := (⟨"java/lang/StringUTF16", "compress", "([CI[BII)I"⟩ : MethodName)) hown (mvT hZ (hw _ (List.mem_of_getElem? (i := 24) rfl))) (mvT hZ (hw _ (List.mem_of_getElem? (i := 25) rfl))) (mvT hZ (hw _ (List.mem_of_getElem? (i := 21) rfl))) (mvT hZ (hw _ (List.mem_of_getElem? (i := 26) rfl))) (by decide) (backOf (W := 0) (own_cmpI2 l Z a0 hw [] ac b2 kc k2 v0 v1 h2 n0 (Nat.le_trans Z0 E2.1) (V_ac.ext E2) V_b2 g_b2 (Nat.ne_of_lt (Nat.lt_of_lt_of_le V_ac.lt (Nat.le_of_eq g2.symm))) hp0 hp1) hZ (hw _ (List.mem_of_getElem? (i := 26) rfl)) (hw _ (List.mem_of_getElem? (i := 21) rfl)) (by decide) (by decide)) (g := (mkF m 9 #[.val (.ref ac), .val (.int (0 : Int32)), .val (.int (2 : Int32)), .val (.ref b2), .unset, .unset] [(.int (2 : Int32)), (.int (0 : Int32)), (.ref b2), (.int (0 : Int32)), (.ref ac)])) rfl (by rw [hml]; rfl) (argsL := [(.ref ac), (.int (0 : Int32)), (.ref b2), (.int (0 : Int32)), (.int (2 : Int32))]) (rest := []) (lenOf own_pd0 rfl) rfl (by show 2 * 0 + _ ≤ _; exact Nat.le_of_eq rfl) (hb hby own_dcmpO2_9) (fun _ _ => ⟨rfl, e2, (by decide : 1 + 0 ≤ _), (by decide : 2 + 0 ≤ _)⟩)
  dsimp only [Pt.U, Pt.locs, Pt.cells, Pt.slots] at X5 l5 y5 z5 st5 hQ5
  subst l5 y5 z5
  obtain ⟨rfl, N5q, K5q, Vb5⟩ := hQ5
  have N5 := Fr.app N0 N5q
  have KC5 : Keep h0 T5.heap [] := K2.trans K5q (allS (Or.inr sz_b2) all0)
  have pre6 : Goes p e below s₁ (entryFrame m #[(.ref ac), (.int (0 : Int32)), (.int (2 : Int32))] 6) T5 (mkF m 12 #[.val (.ref ac), .val (.int (0 : Int32)), .val (.int (2 : Int32)), .val (.ref b2), .unset, .unset] [(.int (2 : Int32))]) := fun t kt => pre4 t (st5 t kt)
  have pre7 : Goes p e below s₁ (entryFrame m #[(.ref ac), (.int (0 : Int32)), (.int (2 : Int32))] 6) T5 (mkF m 58 #[.val (.ref ac), .val (.int (0 : Int32)), .val (.int (2 : Int32)), .val (.ref b2), .val (.int (2 : Int32)), .unset] [(.ref b2)]) := fun t kt => pre6 t (by
      show Steps p.tables e below (T5.setTop (mkF m 12 #[.val (.ref ac), .val (.int (0 : Int32)), .val (.int (2 : Int32)), .val (.ref b2), .unset, .unset] [(.int (2 : Int32))])) _
      refine XS.istore X5.here hx rfl (hb hby own_dcmpO2_12) rfl (l' := #[.val (.ref ac), .val (.int (0 : Int32)), .val (.int (2 : Int32)), .val (.ref b2), .val (.int (2 : Int32)), .unset]) rfl ?_
      show Steps p.tables e below (T5.setTop (mkF m 14 #[.val (.ref ac), .val (.int (0 : Int32)), .val (.int (2 : Int32)), .val (.ref b2), .val (.int (2 : Int32)), .unset] [])) _
      refine XS.iload X5.here hx rfl (hb hby own_dcmpO2_14) rfl ?_
      show Steps p.tables e below (T5.setTop (mkF m 16 #[.val (.ref ac), .val (.int (0 : Int32)), .val (.int (2 : Int32)), .val (.ref b2), .val (.int (2 : Int32)), .unset] [(.int (2 : Int32))])) _
      refine XS.iloadN X5.here hx rfl (hb hby own_dcmpO2_16) rfl ?_
      show Steps p.tables e below (T5.setTop (mkF m 17 #[.val (.ref ac), .val (.int (0 : Int32)), .val (.int (2 : Int32)), .val (.ref b2), .val (.int (2 : Int32)), .unset] [(.int (2 : Int32)), (.int (2 : Int32))])) _
      refine XS.icmpYes X5.here hx rfl (pc0 := 17) (pc' := 57) rfl (hb hby own_dcmpO2_17) rfl (teq (by decide : (2 : Int32) = (2 : Int32))).1 (by decide) (by decide) ?_
      show Steps p.tables e below (T5.setTop (mkF m 57 #[.val (.ref ac), .val (.int (0 : Int32)), .val (.int (2 : Int32)), .val (.ref b2), .val (.int (2 : Int32)), .unset] [])) _
      refine XS.aloadN X5.here hx rfl (hb hby own_dcmpO2_57) rfl rfl ?_
      exact kt)
  obtain ⟨fs, hr, hrun, hended, hW, hsame⟩ := X5.leave (v := some (.ref b2)) (fun h => by rw [Bd.returns] at h; cases h)
  refine ⟨_, _, pre7 _ ?_, hrun, hended, _, _, rfl, ?_, ⟨_, rfl⟩, hW, hsame.mono (by decide) (by decide)⟩
  · show Steps p.tables e below (T5.setTop (mkF m 58 #[.val (.ref ac), .val (.int (0 : Int32)), .val (.int (2 : Int32)), .val (.ref b2), .val (.int (2 : Int32)), .unset] [(.ref b2)])) _
    jvm_step X5.here [X5.here.top, hx, (hb hby own_dcmpO2_58), X5.method', Bd.returns, Value.isRef, FieldType.isReference]
    first | (intro acts; rw [hr _ acts rfl rfl rfl]) | rw [hr _ _ rfl rfl rfl]
    exact Steps.refl _
  · show Q_own_cmpO2 Z ac kc v0 v1 h0 n0 _ T5.heap _
    exact ⟨b2, k2, rfl, N5, KC5, sz_b2, g_b2, Vb5⟩
theorem own_dcod2_0 : decode jdk_52_method_15_code 0 = .ok (.iload_n 1, 1) := by decide +kernel
theorem own_dcod2_1 : decode jdk_52_method_15_code 1 = .ok (.aload_n 0, 1) := by decide +kernel
theorem own_dcod2_2 : decode jdk_52_method_15_code 2 = .ok (.arraylength, 1) := by decide +kernel
theorem own_dcod2_3 : decode jdk_52_method_15_code 3 = .ok (.isub, 1) := by decide +kernel
theorem own_dcod2_4 : decode jdk_52_method_15_code 4 = .ok (.bipush 31, 2) := by decide +kernel
theorem own_dcod2_6 : decode jdk_52_method_15_code 6 = .ok (.iushr, 1) := by decide +kernel
theorem own_dcod2_7 : decode jdk_52_method_15_code 7 = .ok (.i2b, 1) := by decide +kernel
theorem own_dcod2_8 : decode jdk_52_method_15_code 8 = .ok (.ireturn, 1) := by decide +kernel
theorem own_pn_own_cod2 : plainName "java/lang/StringUTF16" = true := by first | (simp [plainName, overriddenIn]; done) | decide +kernel
theorem own_ef_own_cod2 (m : MethodId) (x0 : Addr) (x1 : Int32) : entryFrame m #[(.ref x0), (.int x1)] 2 = mkF m 0 #[.val (.ref x0), .val (.int x1)] [] := by first | (simp [entryFrame, mkF, argsToLocals, Value.category]; done) | rfl
def Q_own_cod2 (Z : State) (ab : Addr) (kb : ClassId) (v0 : Int32) (v1 : Int32) (h0 : Heap) (n0 : Nat) (v : Option Value) (h : Heap) (L : List Loc) : Prop := v = some (.int (0 : Int32)) ∧ Fr n0 L ∧ h = h0
set_option maxRecDepth 65536 in
set_option maxHeartbeats 40000000 in
theorem own_cod2 (l : Launch) (Z : State) (a0 : Array Value) (hw : ∀ d ∈ tables_1, d.before a0 Z = true) (ws : List Jvm.Cond) (ab : Addr) (kb : ClassId) (v0 : Int32) (v1 : Int32) (h0 : Heap) (n0 : Nat) (Z0 : n0 ≤ h0.size) (V_ab : Arv Z h0 ab kb .byte (2 : Int32) [(.int v0), (.int v1)] (.int (0 : Int32))) :
    MetFree l (⟨"java/lang/StringUTF16", "coderFromArrayLen", "([BI)B"⟩ : MethodName) (head1 (Jvm.Cond.code (⟨"java/lang/StringUTF16", "coderFromArrayLen", "([BI)B"⟩ : MethodName) jdk_52_method_15_code 2 (some .byte) :: ws) ({ frames := 0, cells := 0, slots := 0, locals := 0 } : Room)) (fun a U => a = #[(.ref ab), (.int (2 : Int32))] ∧ Z.Warmed39 U.vm ∧ U.heap = h0) (fun _ _ _ _ _ => True) (fun _ U o U' => ∃ v L, o = .returned v ∧ Q_own_cod2 Z ab kb v0 v1 h0 n0 v U'.heap L ∧ FrameEnd U o U' L ({ frames := 0, cells := 0, slots := 0, locals := 0 } : Room).cells ({ frames := 0, cells := 0, slots := 0, locals := 0 } : Room).slots) := by
  refine MetFree.of_bodySF (plainFor_of_name own_pn_own_cod2) hisR ?_
  intro p e s m args below meth c s₁ Bd hml0 hP hK
  obtain ⟨rfl, hZ, hh⟩ := hP
  have hx := Bd.exec
  have hby := Bd.bytes
  have hml : c.maxLocals = 2 := hml0
  have hown : s.vm.findClass "java/lang/StringUTF16" = some m.cls := findClass_of_methodNamed Bd.named
  have hnm := (name_of_methodNamed Bd.named Bd.method).1
  have X0 : Stand p l e ({ frames := 0, cells := 0, slots := 0, locals := 0 } : Room) s m #[(.ref ab), (.int (2 : Int32))] below meth c s₁ [] 0 0 := Stand.of_body Bd
  have e0 : s₁.heap = h0 := by rw [← hh, Bd.state]; rfl
  have N0 := Fr.nil n0
  have pre0 : Goes p e below s₁ (entryFrame m #[(.ref ab), (.int (2 : Int32))] 2) s₁ (mkF m 0 #[.val (.ref ab), .val (.int (2 : Int32))] []) := fun t k => castTop (own_ef_own_cod2 m ab (2 : Int32)) k
  have pre1 : Goes p e below s₁ (entryFrame m #[(.ref ab), (.int (2 : Int32))] 2) s₁ (mkF m 2 #[.val (.ref ab), .val (.int (2 : Int32))] [(.ref ab), (.int (2 : Int32))]) := fun t kt => pre0 t (by
      show Steps p.tables e below (s₁.setTop (mkF m 0 #[.val (.ref ab), .val (.int (2 : Int32))] [])) _
      refine XS.iloadN X0.here hx rfl (hb hby own_dcod2_0) rfl ?_
      show Steps p.tables e below (s₁.setTop (mkF m 1 #[.val (.ref ab), .val (.int (2 : Int32))] [(.int (2 : Int32))])) _
      refine XS.aloadN X0.here hx rfl (hb hby own_dcod2_1) rfl rfl ?_
      exact kt)
  obtain ⟨cl2, Ar2, q2, S2, N_2, H2, G2⟩ := (id (V_ab))
  have pre3 : Goes p e below s₁ (entryFrame m #[(.ref ab), (.int (2 : Int32))] 2) s₁ (mkF m 8 #[.val (.ref ab), .val (.int (2 : Int32))] [(.int ((((0 : Int32).toUInt32 >>> ((31 : Int32) &&& 31).toUInt32).toInt32).toInt8.toInt32))]) := fun t kt => pre1 t (by
      show Steps p.tables e below (s₁.setTop (mkF m 2 #[.val (.ref ab), .val (.int (2 : Int32))] [(.ref ab), (.int (2 : Int32))])) _
      refine X0.arraylength hx (by (try rw [e0]); exact Ar2.1) (State.isArrayOf_alike hZ.alike Ar2.2.1) (g := (mkF m 2 #[.val (.ref ab), .val (.int (2 : Int32))] [(.ref ab), (.int (2 : Int32))])) rfl rfl (hb hby own_dcod2_2) _ ?_
      rw [len_of S2 N_2]
      show Steps p.tables e below (s₁.setTop (mkF m 3 #[.val (.ref ab), .val (.int (2 : Int32))] [(.int (2 : Int32)), (.int (2 : Int32))])) _
      refine XS.isub X0.here hx rfl (hb hby own_dcod2_3) rfl ?_
      show Steps p.tables e below (s₁.setTop (mkF m 4 #[.val (.ref ab), .val (.int (2 : Int32))] [(.int (0 : Int32))])) _
      refine XS.bipush X0.here hx rfl (hb hby own_dcod2_4) ?_
      show Steps p.tables e below (s₁.setTop (mkF m 6 #[.val (.ref ab), .val (.int (2 : Int32))] [(.int (31 : Int32)), (.int (0 : Int32))])) _
      refine XS.iushr X0.here hx rfl (hb hby own_dcod2_6) rfl ?_
      show Steps p.tables e below (s₁.setTop (mkF m 7 #[.val (.ref ab), .val (.int (2 : Int32))] [(.int (((0 : Int32).toUInt32 >>> ((31 : Int32) &&& 31).toUInt32).toInt32))])) _
      refine XS.i2b X0.here hx rfl (hb hby own_dcod2_7) rfl ?_
      exact kt)
  obtain ⟨fs, hr, hrun, hended, hW, hsame⟩ := X0.leave (v := some (.int (nar .byte ((((0 : Int32).toUInt32 >>> ((31 : Int32) &&& 31).toUInt32).toInt32).toInt8.toInt32)))) (fun h => by rw [Bd.returns] at h; cases h)
  refine ⟨_, _, pre3 _ ?_, hrun, hended, _, _, rfl, ?_, ⟨_, rfl⟩, hW, hsame.mono (by decide) (by decide)⟩
  · show Steps p.tables e below (s₁.setTop (mkF m 8 #[.val (.ref ab), .val (.int (2 : Int32))] [(.int ((((0 : Int32).toUInt32 >>> ((31 : Int32) &&& 31).toUInt32).toInt32).toInt8.toInt32))])) _
    exact retN X0 hx (t := .byte) Bd.returns (by simp) (hb hby own_dcod2_8) hr
  · show Q_own_cod2 Z ab kb v0 v1 h0 n0 _ s₁.heap _
    rw [e0]
    exact ⟨rfl, N0, rfl⟩
theorem own_dsI2_0 : decode jdk_42_method_149_code 0 = .ok (.aload_n 0, 1) := by decide +kernel
theorem own_dsI2_1 : decode jdk_42_method_149_code 1 = .ok (.invokespecial 1, 3) := by decide +kernel
theorem own_dsI2_4 : decode jdk_42_method_149_code 4 = .ok (.iload_n 3, 1) := by decide +kernel
theorem own_dsI2_5 : decode jdk_42_method_149_code 5 = .ok (.ifCond .ne 22, 3) := by decide +kernel
theorem own_dsI2_27 : decode jdk_42_method_149_code 27 = .ok (.getstatic 38, 3) := by decide +kernel
theorem own_dsI2_30 : decode jdk_42_method_149_code 30 = .ok (.ifCond .eq 28, 3) := by decide +kernel
theorem own_dsI2_33 : decode jdk_42_method_149_code 33 = .ok (.aload_n 1, 1) := by decide +kernel
theorem own_dsI2_34 : decode jdk_42_method_149_code 34 = .ok (.iload_n 2, 1) := by decide +kernel
theorem own_dsI2_35 : decode jdk_42_method_149_code 35 = .ok (.iload_n 3, 1) := by decide +kernel
theorem own_dsI2_36 : decode jdk_42_method_149_code 36 = .ok (.invokestatic 177, 3) := by decide +kernel
theorem own_dsI2_39 : decode jdk_42_method_149_code 39 = .ok (.astore 5, 2) := by decide +kernel
theorem own_dsI2_41 : decode jdk_42_method_149_code 41 = .ok (.aload_n 0, 1) := by decide +kernel
theorem own_dsI2_42 : decode jdk_42_method_149_code 42 = .ok (.aload 5, 2) := by decide +kernel
theorem own_dsI2_44 : decode jdk_42_method_149_code 44 = .ok (.iload_n 3, 1) := by decide +kernel
theorem own_dsI2_45 : decode jdk_42_method_149_code 45 = .ok (.invokestatic 47, 3) := by decide +kernel
theorem own_dsI2_48 : decode jdk_42_method_149_code 48 = .ok (.putfield 15, 3) := by decide +kernel
theorem own_dsI2_51 : decode jdk_42_method_149_code 51 = .ok (.aload_n 0, 1) := by decide +kernel
theorem own_dsI2_52 : decode jdk_42_method_149_code 52 = .ok (.aload 5, 2) := by decide +kernel
theorem own_dsI2_54 : decode jdk_42_method_149_code 54 = .ok (.putfield 9, 3) := by decide +kernel
theorem own_dsI2_57 : decode jdk_42_method_149_code 57 = .ok (.return_, 1) := by decide +kernel
theorem own_pn_own_sI2 : plainName "java/lang/String" = true := by first | (simp [plainName, overriddenIn]; done) | decide +kernel
theorem own_ef_own_sI2 (m : MethodId) (x0 : Addr) (x1 : Addr) (x2 : Int32) (x3 : Int32) : entryFrame m #[(.ref x0), (.ref x1), (.int x2), (.int x3), .null] 6 = mkF m 0 #[.val (.ref x0), .val (.ref x1), .val (.int x2), .val (.int x3), .val .null, .unset] [] := by first | (simp [entryFrame, mkF, argsToLocals, Value.category]; done) | rfl
def Q_own_sI2 (Z : State) (a1 : Addr) (ac : Addr) (kc : ClassId) (cs : Int32) (uv : Value) (uc : Value) (v0 : Int32) (v1 : Int32) (h0 : Heap) (n0 : Nat) (v : Option Value) (h : Heap) (L : List Loc) : Prop := v = none ∧ Fr n0 L ∧ Keep h0 h [a1] ∧ Exa Z h a1 "java/lang/String" ∧ Fld Z h a1 "java/lang/String" "coder" "B" (.int (0 : Int32)) ∧ ∃ (y : Addr) (ky : ClassId), h0.size ≤ y ∧ n0 ≤ y ∧ Fld Z h a1 "java/lang/String" "value" "[B" (.ref y) ∧ Arv Z h y ky .byte (2 : Int32) [(.int (nar .byte (v0.toInt8.toInt32))), (.int (nar .byte (v1.toInt8.toInt32)))] (.int (0 : Int32))
set_option maxRecDepth 65536 in
set_option maxHeartbeats 40000000 in
theorem own_sI2 (l : Launch) (Z : State) (a0 : Array Value) (hw : ∀ d ∈ tables_1, d.before a0 Z = true) (ws : List Jvm.Cond) (a1 : Addr) (ac : Addr) (kc : ClassId) (cs : Int32) (uv : Value) (uc : Value) (v0 : Int32) (v1 : Int32) (h0 : Heap) (n0 : Nat) (Z0 : n0 ≤ h0.size) (E_a1 : Exa Z h0 a1 "java/lang/String") (Fv : Fld Z h0 a1 "java/lang/String" "value" "[B" uv) (Fc : Fld Z h0 a1 "java/lang/String" "coder" "B" uc) (g_a1 : n0 ≤ a1) (V_ac : Arv Z h0 ac kc .char (2 : Int32) [(.int v0), (.int v1)] (.int (0 : Int32))) (S_CS : Sta Z h0 "java/lang/String" "COMPACT_STRINGS" "Z" (.int cs)) (hcs : ¬ (cs = (0 : Int32))) (hp0 : ¬ ((255 : Int32) < v0)) (hp1 : ¬ ((255 : Int32) < v1)) :
    MetFree l (⟨"java/lang/String", "<init>", "([CIILjava/lang/Void;)V"⟩ : MethodName) (head1 (Jvm.Cond.code (⟨"java/lang/String", "<init>", "([CIILjava/lang/Void;)V"⟩ : MethodName) jdk_42_method_149_code 6 none :: ws) ({ frames := 2, cells := 1, slots := 2, locals := 35 } : Room)) (fun a U => a = #[(.ref a1), (.ref ac), (.int (0 : Int32)), (.int (2 : Int32)), .null] ∧ Z.Warmed39 U.vm ∧ U.heap = h0) (fun _ _ _ _ _ => True) (fun _ U o U' => ∃ v L, o = .returned v ∧ Q_own_sI2 Z a1 ac kc cs uv uc v0 v1 h0 n0 v U'.heap L ∧ FrameEnd U o U' L ({ frames := 2, cells := 1, slots := 2, locals := 35 } : Room).cells ({ frames := 2, cells := 1, slots := 2, locals := 35 } : Room).slots) := by
  refine MetFree.of_bodySF (plainFor_of_name own_pn_own_sI2) hisR ?_
  intro p e s m args below meth c s₁ Bd hml0 hP hK
  obtain ⟨rfl, hZ, hh⟩ := hP
  have hx := Bd.exec
  have hby := Bd.bytes
  have hml : c.maxLocals = 6 := hml0
  have hown : s.vm.findClass "java/lang/String" = some m.cls := findClass_of_methodNamed Bd.named
  have hnm := (name_of_methodNamed Bd.named Bd.method).1
  have X0 : Stand p l e ({ frames := 2, cells := 1, slots := 2, locals := 35 } : Room) s m #[(.ref a1), (.ref ac), (.int (0 : Int32)), (.int (2 : Int32)), .null] below meth c s₁ [] 0 0 := Stand.of_body Bd
  have e0 : s₁.heap = h0 := by rw [← hh, Bd.state]; rfl
  have N0 := Fr.nil n0
  have pre0 : Goes p e below s₁ (entryFrame m #[(.ref a1), (.ref ac), (.int (0 : Int32)), (.int (2 : Int32)), .null] 6) s₁ (mkF m 0 #[.val (.ref a1), .val (.ref ac), .val (.int (0 : Int32)), .val (.int (2 : Int32)), .val .null, .unset] []) := fun t k => castTop (own_ef_own_sI2 m a1 ac (0 : Int32) (2 : Int32)) k
  have pre1 : Goes p e below s₁ (entryFrame m #[(.ref a1), (.ref ac), (.int (0 : Int32)), (.int (2 : Int32)), .null] 6) s₁ (mkF m 1 #[.val (.ref a1), .val (.ref ac), .val (.int (0 : Int32)), .val (.int (2 : Int32)), .val .null, .unset] [(.ref a1)]) := fun t kt => pre0 t (by
      show Steps p.tables e below (s₁.setTop (mkF m 0 #[.val (.ref a1), .val (.ref ac), .val (.int (0 : Int32)), .val (.int (2 : Int32)), .val .null, .unset] [])) _
      refine XS.aloadN X0.here hx rfl (hb hby own_dsI2_0) rfl rfl ?_
      exact kt)
  obtain ⟨T2, X2, e2, st2⟩ := initO X0 hx hZ hown (hw _ (List.mem_of_getElem? (i := 15) rfl)) (hw _ (List.mem_of_getElem? (i := 16) rfl)) (hw _ (List.mem_of_getElem? (i := 17) rfl)) e0 (g := (mkF m 1 #[.val (.ref a1), .val (.ref ac), .val (.int (0 : Int32)), .val (.int (2 : Int32)), .val .null, .unset] [(.ref a1)])) rfl (by rw [hml]; rfl) rfl (hb hby own_dsI2_1) (by decide) (W := 0) (by show 2 * 0 + _ ≤ _; exact Nat.le_of_eq rfl) (by decide)
  have pre3 : Goes p e below s₁ (entryFrame m #[(.ref a1), (.ref ac), (.int (0 : Int32)), (.int (2 : Int32)), .null] 6) T2 (mkF m 4 #[.val (.ref a1), .val (.ref ac), .val (.int (0 : Int32)), .val (.int (2 : Int32)), .val .null, .unset] []) := fun t kt => pre1 t (st2 t kt)
  have pre4 : Goes p e below s₁ (entryFrame m #[(.ref a1), (.ref ac), (.int (0 : Int32)), (.int (2 : Int32)), .null] 6) T2 (mkF m 27 #[.val (.ref a1), .val (.ref ac), .val (.int (0 : Int32)), .val (.int (2 : Int32)), .val .null, .unset] []) := fun t kt => pre3 t (by
      show Steps p.tables e below (T2.setTop (mkF m 4 #[.val (.ref a1), .val (.ref ac), .val (.int (0 : Int32)), .val (.int (2 : Int32)), .val .null, .unset] [])) _
      refine XS.iloadN X2.here hx rfl (hb hby own_dsI2_4) rfl ?_
      show Steps p.tables e below (T2.setTop (mkF m 5 #[.val (.ref a1), .val (.ref ac), .val (.int (0 : Int32)), .val (.int (2 : Int32)), .val .null, .unset] [(.int (2 : Int32))])) _
      refine XS.ifYes X2.here hx rfl (pc0 := 5) (pc' := 27) rfl (hb hby own_dsI2_5) rfl ((if0 _ _).trans (feq (by decide : ¬ ((2 : Int32) = (0 : Int32)))).2) (by decide) (by decide) ?_
      exact kt)
  obtain ⟨T5, X5, e5, st5⟩ := getS2 X2 hx hZ hown (host := "") (Or.inl (hw _ (List.mem_of_getElem? (i := 18) rfl))) Via.refl e2 S_CS (g := (mkF m 27 #[.val (.ref a1), .val (.ref ac), .val (.int (0 : Int32)), .val (.int (2 : Int32)), .val .null, .unset] [])) rfl (hb hby own_dsI2_27)
  have pre6 : Goes p e below s₁ (entryFrame m #[(.ref a1), (.ref ac), (.int (0 : Int32)), (.int (2 : Int32)), .null] 6) T5 (mkF m 30 #[.val (.ref a1), .val (.ref ac), .val (.int (0 : Int32)), .val (.int (2 : Int32)), .val .null, .unset] [(.int cs)]) := fun t kt => pre4 t (st5 t kt)
  have pre7 : Goes p e below s₁ (entryFrame m #[(.ref a1), (.ref ac), (.int (0 : Int32)), (.int (2 : Int32)), .null] 6) T5 (mkF m 36 #[.val (.ref a1), .val (.ref ac), .val (.int (0 : Int32)), .val (.int (2 : Int32)), .val .null, .unset] [(.int (2 : Int32)), (.int (0 : Int32)), (.ref ac)]) := fun t kt => pre6 t (by
      show Steps p.tables e below (T5.setTop (mkF m 30 #[.val (.ref a1), .val (.ref ac), .val (.int (0 : Int32)), .val (.int (2 : Int32)), .val .null, .unset] [(.int cs)])) _
      refine XS.ifNo X5.here hx rfl (hb hby own_dsI2_30) rfl ((if0 _ _).trans (feq hcs).1) ?_
      show Steps p.tables e below (T5.setTop (mkF m 33 #[.val (.ref a1), .val (.ref ac), .val (.int (0 : Int32)), .val (.int (2 : Int32)), .val .null, .unset] [])) _
      refine XS.aloadN X5.here hx rfl (hb hby own_dsI2_33) rfl rfl ?_
      show Steps p.tables e below (T5.setTop (mkF m 34 #[.val (.ref a1), .val (.ref ac), .val (.int (0 : Int32)), .val (.int (2 : Int32)), .val .null, .unset] [(.ref ac)])) _
      refine XS.iloadN X5.here hx rfl (hb hby own_dsI2_34) rfl ?_
      show Steps p.tables e below (T5.setTop (mkF m 35 #[.val (.ref a1), .val (.ref ac), .val (.int (0 : Int32)), .val (.int (2 : Int32)), .val .null, .unset] [(.int (0 : Int32)), (.ref ac)])) _
      refine XS.iloadN X5.here hx rfl (hb hby own_dsI2_35) rfl ?_
      exact kt)
  obtain ⟨_, _, ⟨T8, L8, k8, n8⟩, -, X8, ⟨Lc8, hQ8, l8, y8, z8⟩, st8⟩ := Jvm.LawKit.callS X5 hx (y := (⟨"java/lang/StringUTF16", "compress", "([CII)[B"⟩ : MethodName)) hown (mvT hZ (hw _ (List.mem_of_getElem? (i := 19) rfl))) (mvT hZ (hw _ (List.mem_of_getElem? (i := 20) rfl))) (mvT hZ (hw _ (List.mem_of_getElem? (i := 21) rfl))) (mvT hZ (hw _ (List.mem_of_getElem? (i := 22) rfl))) (by decide) (backOf (W := 0) (own_cmpO2 l Z a0 hw [] ac kc v0 v1 h0 n0 Z0 V_ac hp0 hp1) hZ (hw _ (List.mem_of_getElem? (i := 22) rfl)) (hw _ (List.mem_of_getElem? (i := 21) rfl)) (by decide) (by decide)) (g := (mkF m 36 #[.val (.ref a1), .val (.ref ac), .val (.int (0 : Int32)), .val (.int (2 : Int32)), .val .null, .unset] [(.int (2 : Int32)), (.int (0 : Int32)), (.ref ac)])) rfl (by rw [hml]; rfl) (argsL := [(.ref ac), (.int (0 : Int32)), (.int (2 : Int32))]) (rest := []) (lenOf own_pd1 rfl) rfl (by show 2 * 0 + _ ≤ _; exact Nat.le_of_eq rfl) (hb hby own_dsI2_36) (fun _ _ => ⟨rfl, e5, (by decide : 0 + 1 ≤ _), (by decide : 0 + 2 ≤ _)⟩)
  dsimp only [Pt.U, Pt.locs, Pt.cells, Pt.slots] at X8 l8 y8 z8 st8 hQ8
  subst l8 y8 z8
  obtain ⟨yy8, ky8, rfl, N8q, K8q, zy8, gy8, Vy8⟩ := hQ8
  have N8 := Fr.app N0 N8q
  have KC8 : Keep h0 T8.heap [a1] := (Keep.refl h0 [a1]).trans K8q all0
  have pre9 : Goes p e below s₁ (entryFrame m #[(.ref a1), (.ref ac), (.int (0 : Int32)), (.int (2 : Int32)), .null] 6) T8 (mkF m 39 #[.val (.ref a1), .val (.ref ac), .val (.int (0 : Int32)), .val (.int (2 : Int32)), .val .null, .unset] [(.ref yy8)]) := fun t kt => pre7 t (st8 t kt)
  have sz_yy8 := zy8
  have g_yy8 := gy8
  have pre10 : Goes p e below s₁ (entryFrame m #[(.ref a1), (.ref ac), (.int (0 : Int32)), (.int (2 : Int32)), .null] 6) T8 (mkF m 45 #[.val (.ref a1), .val (.ref ac), .val (.int (0 : Int32)), .val (.int (2 : Int32)), .val .null, .val (.ref yy8)] [(.int (2 : Int32)), (.ref yy8), (.ref a1)]) := fun t kt => pre9 t (by
      show Steps p.tables e below (T8.setTop (mkF m 39 #[.val (.ref a1), .val (.ref ac), .val (.int (0 : Int32)), .val (.int (2 : Int32)), .val .null, .unset] [(.ref yy8)])) _
      refine XS.astore X8.here hx rfl (hb hby own_dsI2_39) rfl rfl (l' := #[.val (.ref a1), .val (.ref ac), .val (.int (0 : Int32)), .val (.int (2 : Int32)), .val .null, .val (.ref yy8)]) rfl ?_
      show Steps p.tables e below (T8.setTop (mkF m 41 #[.val (.ref a1), .val (.ref ac), .val (.int (0 : Int32)), .val (.int (2 : Int32)), .val .null, .val (.ref yy8)] [])) _
      refine XS.aloadN X8.here hx rfl (hb hby own_dsI2_41) rfl rfl ?_
      show Steps p.tables e below (T8.setTop (mkF m 42 #[.val (.ref a1), .val (.ref ac), .val (.int (0 : Int32)), .val (.int (2 : Int32)), .val .null, .val (.ref yy8)] [(.ref a1)])) _
      refine XS.aload X8.here hx rfl (hb hby own_dsI2_42) rfl rfl ?_
      show Steps p.tables e below (T8.setTop (mkF m 44 #[.val (.ref a1), .val (.ref ac), .val (.int (0 : Int32)), .val (.int (2 : Int32)), .val .null, .val (.ref yy8)] [(.ref yy8), (.ref a1)])) _
      refine XS.iloadN X8.here hx rfl (hb hby own_dsI2_44) rfl ?_
      exact kt)
  obtain ⟨_, _, ⟨T11, L11, k11, n11⟩, -, X11, ⟨Lc11, hQ11, l11, y11, z11⟩, st11⟩ := Jvm.LawKit.callS X8 hx (y := (⟨"java/lang/StringUTF16", "coderFromArrayLen", "([BI)B"⟩ : MethodName)) hown (mvT hZ (hw _ (List.mem_of_getElem? (i := 27) rfl))) (mvT hZ (hw _ (List.mem_of_getElem? (i := 28) rfl))) (mvT hZ (hw _ (List.mem_of_getElem? (i := 21) rfl))) (mvT hZ (hw _ (List.mem_of_getElem? (i := 29) rfl))) (by decide) (backOf (W := 1) (own_cod2 l Z a0 hw [] yy8 ky8 (nar .byte (v0.toInt8.toInt32)) (nar .byte (v1.toInt8.toInt32)) T8.heap n0 (Nat.le_trans Z0 K8q.1) Vy8) hZ (hw _ (List.mem_of_getElem? (i := 29) rfl)) (hw _ (List.mem_of_getElem? (i := 21) rfl)) (by decide) (by decide)) (g := (mkF m 45 #[.val (.ref a1), .val (.ref ac), .val (.int (0 : Int32)), .val (.int (2 : Int32)), .val .null, .val (.ref yy8)] [(.int (2 : Int32)), (.ref yy8), (.ref a1)])) rfl (by rw [hml]; rfl) (argsL := [(.ref yy8), (.int (2 : Int32))]) (rest := [(.ref a1)]) (lenOf own_pd2 rfl) rfl (by show 2 * 0 + _ ≤ _; exact Nat.le_of_eq rfl) (hb hby own_dsI2_45) (fun _ _ => ⟨rfl, rfl, (by decide : 1 + 0 ≤ _), (by decide : 2 + 0 ≤ _)⟩)
  dsimp only [Pt.U, Pt.locs, Pt.cells, Pt.slots] at X11 l11 y11 z11 st11 hQ11
  subst l11 y11 z11
  obtain ⟨rfl, N11q, e11⟩ := hQ11
  have N11 := Fr.app N8 N11q
  have pre12 : Goes p e below s₁ (entryFrame m #[(.ref a1), (.ref ac), (.int (0 : Int32)), (.int (2 : Int32)), .null] 6) T11 (mkF m 48 #[.val (.ref a1), .val (.ref ac), .val (.int (0 : Int32)), .val (.int (2 : Int32)), .val .null, .val (.ref yy8)] [(.int (0 : Int32)), (.ref a1)]) := fun t kt => pre10 t (st11 t kt)
  obtain ⟨T13, h13, X13, e13, W13, st13⟩ := putFN X11 hx hZ hown (hw _ (List.mem_of_getElem? (i := 30) rfl)) Via.refl e11 (Fc.keep K8q nin0) (E_a1.keep K8q) (Or.inr ⟨(hw _ (List.mem_of_getElem? (i := 31) rfl)), rfl, hnm⟩) (hw _ (List.mem_of_getElem? (i := 6) rfl)) (ty := .byte) (v' := (.int (0 : Int32))) (by decide) rfl rfl (g := (mkF m 48 #[.val (.ref a1), .val (.ref ac), .val (.int (0 : Int32)), .val (.int (2 : Int32)), .val .null, .val (.ref yy8)] [(.int (0 : Int32)), (.ref a1)])) rfl rfl (hb hby own_dsI2_48)
  have Fw13 := (Fc.keep K8q nin0).same W13
  have K13 : Keep h0 h13 [a1] := KC8.wr W13 (Or.inl (List.mem_of_getElem? (i := 0) rfl))
  have N13 := Fr.snoc X13 N11 g_a1
  have pre14 : Goes p e below s₁ (entryFrame m #[(.ref a1), (.ref ac), (.int (0 : Int32)), (.int (2 : Int32)), .null] 6) T13 (mkF m 51 #[.val (.ref a1), .val (.ref ac), .val (.int (0 : Int32)), .val (.int (2 : Int32)), .val .null, .val (.ref yy8)] []) := fun t kt => pre12 t (st13 t kt)
  have pre15 : Goes p e below s₁ (entryFrame m #[(.ref a1), (.ref ac), (.int (0 : Int32)), (.int (2 : Int32)), .null] 6) T13 (mkF m 54 #[.val (.ref a1), .val (.ref ac), .val (.int (0 : Int32)), .val (.int (2 : Int32)), .val .null, .val (.ref yy8)] [(.ref yy8), (.ref a1)]) := fun t kt => pre14 t (by
      show Steps p.tables e below (T13.setTop (mkF m 51 #[.val (.ref a1), .val (.ref ac), .val (.int (0 : Int32)), .val (.int (2 : Int32)), .val .null, .val (.ref yy8)] [])) _
      refine XS.aloadN X13.here hx rfl (hb hby own_dsI2_51) rfl rfl ?_
      show Steps p.tables e below (T13.setTop (mkF m 52 #[.val (.ref a1), .val (.ref ac), .val (.int (0 : Int32)), .val (.int (2 : Int32)), .val .null, .val (.ref yy8)] [(.ref a1)])) _
      refine XS.aload X13.here hx rfl (hb hby own_dsI2_52) rfl rfl ?_
      exact kt)
  obtain ⟨T16, h16, X16, e16, W16, st16⟩ := putF X13 hx hZ hown (host := "") (Or.inl (hw _ (List.mem_of_getElem? (i := 32) rfl))) Via.refl e13 ((Fv.keep K8q nin0).other W13 (Or.inr (slot_ne (Or.inr (hw _ (List.mem_of_getElem? (i := 33) rfl))) (Or.inr (hw _ (List.mem_of_getElem? (i := 31) rfl))) (by decide) (t := (.array .byte)) (t' := .byte) (by decide) (by decide)))) ((E_a1.keep K8q).wr W13) (Or.inr ⟨(hw _ (List.mem_of_getElem? (i := 33) rfl)), rfl, hnm⟩) (hw _ (List.mem_of_getElem? (i := 6) rfl)) (ty := (.array .byte)) (by decide) rfl rfl (g := (mkF m 54 #[.val (.ref a1), .val (.ref ac), .val (.int (0 : Int32)), .val (.int (2 : Int32)), .val .null, .val (.ref yy8)] [(.ref yy8), (.ref a1)])) rfl rfl (hb hby own_dsI2_54)
  have Fw16 := ((Fv.keep K8q nin0).other W13 (Or.inr (slot_ne (Or.inr (hw _ (List.mem_of_getElem? (i := 33) rfl))) (Or.inr (hw _ (List.mem_of_getElem? (i := 31) rfl))) (by decide) (t := (.array .byte)) (t' := .byte) (by decide) (by decide)))).same W16
  have K16 : Keep h0 h16 [a1] := K13.wr W16 (Or.inl (List.mem_of_getElem? (i := 0) rfl))
  have N16 := Fr.snoc X16 N13 g_a1
  have pre17 : Goes p e below s₁ (entryFrame m #[(.ref a1), (.ref ac), (.int (0 : Int32)), (.int (2 : Int32)), .null] 6) T16 (mkF m 57 #[.val (.ref a1), .val (.ref ac), .val (.int (0 : Int32)), .val (.int (2 : Int32)), .val .null, .val (.ref yy8)] []) := fun t kt => pre15 t (st16 t kt)
  obtain ⟨fs, hr, hrun, hended, hW, hsame⟩ := X16.leave (v := none) (fun _ => rfl)
  refine ⟨_, _, pre17 _ ?_, hrun, hended, _, _, rfl, ?_, ⟨_, rfl⟩, hW, hsame.mono (by decide) (by decide)⟩
  · show Steps p.tables e below (T16.setTop (mkF m 57 #[.val (.ref a1), .val (.ref ac), .val (.int (0 : Int32)), .val (.int (2 : Int32)), .val .null, .val (.ref yy8)] [])) _
    exact X16.returnOut hx Bd.returns (hb hby own_dsI2_57) hr
  · show Q_own_sI2 Z a1 ac kc cs uv uc v0 v1 h0 n0 _ T16.heap _
    rw [e16]
    exact ⟨rfl, N16, K16, (((E_a1.keep K8q).wr W13).wr W16), (Fw13.other W16 (Or.inr (slot_ne (Or.inr (hw _ (List.mem_of_getElem? (i := 31) rfl))) (Or.inr (hw _ (List.mem_of_getElem? (i := 33) rfl))) (by decide) (t := .byte) (t' := (.array .byte)) (by decide) (by decide)))), yy8, ky8, zy8, gy8, Fw16, ((Vy8.other W13 (Ne.symm (Nat.ne_of_lt (Nat.lt_of_lt_of_le E_a1.lt zy8)))).other W16 (Ne.symm (Nat.ne_of_lt (Nat.lt_of_lt_of_le E_a1.lt zy8))))⟩
theorem own_dsJ2_0 : decode jdk_42_method_3_code 0 = .ok (.aload_n 0, 1) := by decide +kernel
theorem own_dsJ2_1 : decode jdk_42_method_3_code 1 = .ok (.aload_n 1, 1) := by decide +kernel
theorem own_dsJ2_2 : decode jdk_42_method_3_code 2 = .ok (.iconst 0, 1) := by decide +kernel
theorem own_dsJ2_3 : decode jdk_42_method_3_code 3 = .ok (.aload_n 1, 1) := by decide +kernel
theorem own_dsJ2_4 : decode jdk_42_method_3_code 4 = .ok (.arraylength, 1) := by decide +kernel
theorem own_dsJ2_5 : decode jdk_42_method_3_code 5 = .ok (.aconst_null, 1) := by decide +kernel
theorem own_dsJ2_6 : decode jdk_42_method_3_code 6 = .ok (.invokespecial 27, 3) := by decide +kernel
theorem own_dsJ2_9 : decode jdk_42_method_3_code 9 = .ok (.return_, 1) := by decide +kernel
theorem own_pn_own_sJ2 : plainName "java/lang/String" = true := by first | (simp [plainName, overriddenIn]; done) | decide +kernel
theorem own_ef_own_sJ2 (m : MethodId) (x0 : Addr) (x1 : Addr) : entryFrame m #[(.ref x0), (.ref x1)] 2 = mkF m 0 #[.val (.ref x0), .val (.ref x1)] [] := by first | (simp [entryFrame, mkF, argsToLocals, Value.category]; done) | rfl
def Q_own_sJ2 (Z : State) (a1 : Addr) (ac : Addr) (kc : ClassId) (cs : Int32) (uv : Value) (uc : Value) (v0 : Int32) (v1 : Int32) (h0 : Heap) (n0 : Nat) (v : Option Value) (h : Heap) (L : List Loc) : Prop := v = none ∧ Fr n0 L ∧ Keep h0 h [a1] ∧ Exa Z h a1 "java/lang/String" ∧ Fld Z h a1 "java/lang/String" "coder" "B" (.int (0 : Int32)) ∧ ∃ (y : Addr) (ky : ClassId), h0.size ≤ y ∧ n0 ≤ y ∧ Fld Z h a1 "java/lang/String" "value" "[B" (.ref y) ∧ Arv Z h y ky .byte (2 : Int32) [(.int (nar .byte (v0.toInt8.toInt32))), (.int (nar .byte (v1.toInt8.toInt32)))] (.int (0 : Int32))
set_option maxRecDepth 65536 in
set_option maxHeartbeats 40000000 in
theorem own_sJ2 (l : Launch) (Z : State) (a0 : Array Value) (hw : ∀ d ∈ tables_1, d.before a0 Z = true) (ws : List Jvm.Cond) (a1 : Addr) (ac : Addr) (kc : ClassId) (cs : Int32) (uv : Value) (uc : Value) (v0 : Int32) (v1 : Int32) (h0 : Heap) (n0 : Nat) (Z0 : n0 ≤ h0.size) (E_a1 : Exa Z h0 a1 "java/lang/String") (Fv : Fld Z h0 a1 "java/lang/String" "value" "[B" uv) (Fc : Fld Z h0 a1 "java/lang/String" "coder" "B" uc) (g_a1 : n0 ≤ a1) (V_ac : Arv Z h0 ac kc .char (2 : Int32) [(.int v0), (.int v1)] (.int (0 : Int32))) (S_CS : Sta Z h0 "java/lang/String" "COMPACT_STRINGS" "Z" (.int cs)) (hcs : ¬ (cs = (0 : Int32))) (hp0 : ¬ ((255 : Int32) < v0)) (hp1 : ¬ ((255 : Int32) < v1)) :
    MetFree l (⟨"java/lang/String", "<init>", "([C)V"⟩ : MethodName) (head1 (Jvm.Cond.code (⟨"java/lang/String", "<init>", "([C)V"⟩ : MethodName) jdk_42_method_3_code 2 none :: ws) ({ frames := 3, cells := 1, slots := 2, locals := 52 } : Room)) (fun a U => a = #[(.ref a1), (.ref ac)] ∧ Z.Warmed39 U.vm ∧ U.heap = h0) (fun _ _ _ _ _ => True) (fun _ U o U' => ∃ v L, o = .returned v ∧ Q_own_sJ2 Z a1 ac kc cs uv uc v0 v1 h0 n0 v U'.heap L ∧ FrameEnd U o U' L ({ frames := 3, cells := 1, slots := 2, locals := 52 } : Room).cells ({ frames := 3, cells := 1, slots := 2, locals := 52 } : Room).slots) := by
  refine MetFree.of_bodySF (plainFor_of_name own_pn_own_sJ2) hisR ?_
  intro p e s m args below meth c s₁ Bd hml0 hP hK
  obtain ⟨rfl, hZ, hh⟩ := hP
  have hx := Bd.exec
  have hby := Bd.bytes
  have hml : c.maxLocals = 2 := hml0
  have hown : s.vm.findClass "java/lang/String" = some m.cls := findClass_of_methodNamed Bd.named
  have hnm := (name_of_methodNamed Bd.named Bd.method).1
  have X0 : Stand p l e ({ frames := 3, cells := 1, slots := 2, locals := 52 } : Room) s m #[(.ref a1), (.ref ac)] below meth c s₁ [] 0 0 := Stand.of_body Bd
  have e0 : s₁.heap = h0 := by rw [← hh, Bd.state]; rfl
  have N0 := Fr.nil n0
  have pre0 : Goes p e below s₁ (entryFrame m #[(.ref a1), (.ref ac)] 2) s₁ (mkF m 0 #[.val (.ref a1), .val (.ref ac)] []) := fun t k => castTop (own_ef_own_sJ2 m a1 ac) k
  have pre1 : Goes p e below s₁ (entryFrame m #[(.ref a1), (.ref ac)] 2) s₁ (mkF m 4 #[.val (.ref a1), .val (.ref ac)] [(.ref ac), (.int (0 : Int32)), (.ref ac), (.ref a1)]) := fun t kt => pre0 t (by
      show Steps p.tables e below (s₁.setTop (mkF m 0 #[.val (.ref a1), .val (.ref ac)] [])) _
      refine XS.aloadN X0.here hx rfl (hb hby own_dsJ2_0) rfl rfl ?_
      show Steps p.tables e below (s₁.setTop (mkF m 1 #[.val (.ref a1), .val (.ref ac)] [(.ref a1)])) _
      refine XS.aloadN X0.here hx rfl (hb hby own_dsJ2_1) rfl rfl ?_
      show Steps p.tables e below (s₁.setTop (mkF m 2 #[.val (.ref a1), .val (.ref ac)] [(.ref ac), (.ref a1)])) _
      refine XS.iconst X0.here hx rfl (hb hby own_dsJ2_2) ?_
      show Steps p.tables e below (s₁.setTop (mkF m 3 #[.val (.ref a1), .val (.ref ac)] [(.int (0 : Int32)), (.ref ac), (.ref a1)])) _
      refine XS.aloadN X0.here hx rfl (hb hby own_dsJ2_3) rfl rfl ?_
      exact kt)
  obtain ⟨cl2, Ar2, q2, S2, N_2, H2, G2⟩ := (id (V_ac))
  have pre3 : Goes p e below s₁ (entryFrame m #[(.ref a1), (.ref ac)] 2) s₁ (mkF m 6 #[.val (.ref a1), .val (.ref ac)] [.null, (.int (2 : Int32)), (.int (0 : Int32)), (.ref ac), (.ref a1)]) := fun t kt => pre1 t (by
      show Steps p.tables e below (s₁.setTop (mkF m 4 #[.val (.ref a1), .val (.ref ac)] [(.ref ac), (.int (0 : Int32)), (.ref ac), (.ref a1)])) _
      refine X0.arraylength hx (by (try rw [e0]); exact Ar2.1) (State.isArrayOf_alike hZ.alike Ar2.2.1) (g := (mkF m 4 #[.val (.ref a1), .val (.ref ac)] [(.ref ac), (.int (0 : Int32)), (.ref ac), (.ref a1)])) rfl rfl (hb hby own_dsJ2_4) _ ?_
      rw [len_of S2 N_2]
      show Steps p.tables e below (s₁.setTop (mkF m 5 #[.val (.ref a1), .val (.ref ac)] [(.int (2 : Int32)), (.int (0 : Int32)), (.ref ac), (.ref a1)])) _
      refine XS.aconstNull X0.here hx rfl (hb hby own_dsJ2_5) ?_
      exact kt)
  obtain ⟨_, _, ⟨T4, L4, k4, n4⟩, -, X4, ⟨Lc4, hQ4, l4, y4, z4⟩, st4⟩ := X0.specialBack hx (y := (⟨"java/lang/String", "<init>", "([CIILjava/lang/Void;)V"⟩ : MethodName)) rfl hown (mvT hZ (hw _ (List.mem_of_getElem? (i := 11) rfl))) (mvT hZ (hw _ (List.mem_of_getElem? (i := 12) rfl))) (mvT hZ (hw _ (List.mem_of_getElem? (i := 14) rfl))) (by decide) (backOf (W := 0) (own_sI2 l Z a0 hw [] a1 ac kc cs uv uc v0 v1 h0 n0 Z0 E_a1 Fv Fc g_a1 V_ac S_CS hcs hp0 hp1) hZ (hw _ (List.mem_of_getElem? (i := 14) rfl)) (hw _ (List.mem_of_getElem? (i := 7) rfl)) (by decide) (by decide)) (g := (mkF m 6 #[.val (.ref a1), .val (.ref ac)] [.null, (.int (2 : Int32)), (.int (0 : Int32)), (.ref ac), (.ref a1)])) rfl (by rw [hml]; rfl) (Steps.refl _) (a := a1) (argsL := [(.ref ac), (.int (0 : Int32)), (.int (2 : Int32)), .null]) (rest := []) (lenOf own_pd3 rfl) rfl (by show 2 * 0 + _ ≤ _; exact Nat.le_of_eq rfl) (hb hby own_dsJ2_6) (fun _ _ => ⟨rfl, e0, (by decide : 0 + 1 ≤ _), (by decide : 0 + 2 ≤ _)⟩)
  dsimp only [Pt.U, Pt.locs, Pt.cells, Pt.slots] at X4 l4 y4 z4 st4 hQ4
  subst l4 y4 z4
  obtain ⟨rfl, N4q, K4q, Rest4⟩ := hQ4
  have N4 := Fr.app N0 N4q
  have KC4 : Keep h0 T4.heap [a1] := (Keep.refl h0 [a1]).trans K4q (allS (Or.inl (List.mem_of_getElem? (i := 0) rfl)) all0)
  have pre5 : Goes p e below s₁ (entryFrame m #[(.ref a1), (.ref ac)] 2) T4 (mkF m 9 #[.val (.ref a1), .val (.ref ac)] []) := fun t kt => pre3 t (st4.trans kt)
  obtain ⟨fs, hr, hrun, hended, hW, hsame⟩ := X4.leave (v := none) (fun _ => rfl)
  refine ⟨_, _, pre5 _ ?_, hrun, hended, _, _, rfl, ?_, ⟨_, rfl⟩, hW, hsame.mono (by decide) (by decide)⟩
  · show Steps p.tables e below (T4.setTop (mkF m 9 #[.val (.ref a1), .val (.ref ac)] [])) _
    exact X4.returnOut hx Bd.returns (hb hby own_dsJ2_9) hr
  · show Q_own_sJ2 Z a1 ac kc cs uv uc v0 v1 h0 n0 _ T4.heap _
    exact ⟨rfl, N4, KC4, Rest4⟩
theorem own_dmkN_0 : decode method_3_code 0 = .ok (.iload_n 0, 1) := by decide +kernel
theorem own_dmkN_1 : decode method_3_code 1 = .ok (.ifCond .eq 5, 3) := by decide +kernel
theorem own_dmkN_4 : decode method_3_code 4 = .ok (.aconst_null, 1) := by decide +kernel
theorem own_dmkN_5 : decode method_3_code 5 = .ok (.areturn, 1) := by decide +kernel
theorem own_pn_own_makeN : plainName "com/example/tallygate/tallygate/KeyTypeCanKeyPinLaw" = true := by first | (simp [plainName, overriddenIn]; done) | decide +kernel
theorem own_ef_own_makeN (m : MethodId) (x0 : Int32) (x1 : Int32) (x2 : Int32) : entryFrame m #[(.int x0), (.int x1), (.int x2)] 4 = mkF m 0 #[.val (.int x0), .val (.int x1), .val (.int x2), .unset] [] := by first | (simp [entryFrame, mkF, argsToLocals, Value.category]; done) | rfl
def Q_own_makeN (Z : State) (p2 : Int32) (p3 : Int32) (h0 : Heap) (n0 : Nat) (v : Option Value) (h : Heap) (L : List Loc) : Prop := v = some .null ∧ Fr n0 L ∧ h = h0
set_option maxRecDepth 65536 in
set_option maxHeartbeats 40000000 in
theorem own_makeN (l : Launch) (Z : State) (a0 : Array Value) (hw : ∀ d ∈ tables_1, d.before a0 Z = true) (ws : List Jvm.Cond) (p2 : Int32) (p3 : Int32) (h0 : Heap) (n0 : Nat) (Z0 : n0 ≤ h0.size) :
    MetFree l (⟨"com/example/tallygate/tallygate/KeyTypeCanKeyPinLaw", "make", "(ZZI)Ljava/lang/String;"⟩ : MethodName) (head1 (Jvm.Cond.code (⟨"com/example/tallygate/tallygate/KeyTypeCanKeyPinLaw", "make", "(ZZI)Ljava/lang/String;"⟩ : MethodName) method_3_code 4 (some (.object "java/lang/String")) :: ws) ({ frames := 0, cells := 0, slots := 0, locals := 0 } : Room)) (fun a U => a = #[(.int (1 : Int32)), (.int p2), (.int p3)] ∧ Z.Warmed39 U.vm ∧ U.heap = h0) (fun _ _ _ _ _ => True) (fun _ U o U' => ∃ v L, o = .returned v ∧ Q_own_makeN Z p2 p3 h0 n0 v U'.heap L ∧ FrameEnd U o U' L ({ frames := 0, cells := 0, slots := 0, locals := 0 } : Room).cells ({ frames := 0, cells := 0, slots := 0, locals := 0 } : Room).slots) := by
  refine MetFree.of_bodySF (plainFor_of_name own_pn_own_makeN) hisR ?_
  intro p e s m args below meth c s₁ Bd hml0 hP hK
  obtain ⟨rfl, hZ, hh⟩ := hP
  have hx := Bd.exec
  have hby := Bd.bytes
  have hml : c.maxLocals = 4 := hml0
  have hown : s.vm.findClass "com/example/tallygate/tallygate/KeyTypeCanKeyPinLaw" = some m.cls := findClass_of_methodNamed Bd.named
  have hnm := (name_of_methodNamed Bd.named Bd.method).1
  have X0 : Stand p l e ({ frames := 0, cells := 0, slots := 0, locals := 0 } : Room) s m #[(.int (1 : Int32)), (.int p2), (.int p3)] below meth c s₁ [] 0 0 := Stand.of_body Bd
  have e0 : s₁.heap = h0 := by rw [← hh, Bd.state]; rfl
  have N0 := Fr.nil n0
  have pre0 : Goes p e below s₁ (entryFrame m #[(.int (1 : Int32)), (.int p2), (.int p3)] 4) s₁ (mkF m 0 #[.val (.int (1 : Int32)), .val (.int p2), .val (.int p3), .unset] []) := fun t k => castTop (own_ef_own_makeN m (1 : Int32) p2 p3) k
  have pre1 : Goes p e below s₁ (entryFrame m #[(.int (1 : Int32)), (.int p2), (.int p3)] 4) s₁ (mkF m 5 #[.val (.int (1 : Int32)), .val (.int p2), .val (.int p3), .unset] [.null]) := fun t kt => pre0 t (by
      show Steps p.tables e below (s₁.setTop (mkF m 0 #[.val (.int (1 : Int32)), .val (.int p2), .val (.int p3), .unset] [])) _
      refine XS.iloadN X0.here hx rfl (hb hby own_dmkN_0) rfl ?_
      show Steps p.tables e below (s₁.setTop (mkF m 1 #[.val (.int (1 : Int32)), .val (.int p2), .val (.int p3), .unset] [(.int (1 : Int32))])) _
      refine XS.ifNo X0.here hx rfl (hb hby own_dmkN_1) rfl ((if0 _ _).trans (feq (by decide : ¬ ((1 : Int32) = (0 : Int32)))).1) ?_
      show Steps p.tables e below (s₁.setTop (mkF m 4 #[.val (.int (1 : Int32)), .val (.int p2), .val (.int p3), .unset] [])) _
      refine XS.aconstNull X0.here hx rfl (hb hby own_dmkN_4) ?_
      exact kt)
  obtain ⟨fs, hr, hrun, hended, hW, hsame⟩ := X0.leave (v := some .null) (fun h => by rw [Bd.returns] at h; cases h)
  refine ⟨_, _, pre1 _ ?_, hrun, hended, _, _, rfl, ?_, ⟨_, rfl⟩, hW, hsame.mono (by decide) (by decide)⟩
  · show Steps p.tables e below (s₁.setTop (mkF m 5 #[.val (.int (1 : Int32)), .val (.int p2), .val (.int p3), .unset] [.null])) _
    jvm_step X0.here [X0.here.top, hx, (hb hby own_dmkN_5), X0.method', Bd.returns, Value.isRef, FieldType.isReference]
    first | (intro acts; rw [hr _ acts rfl rfl rfl]) | rw [hr _ _ rfl rfl rfl]
    exact Steps.refl _
  · show Q_own_makeN Z p2 p3 h0 n0 _ s₁.heap _
    rw [e0]
    exact ⟨rfl, N0, rfl⟩
theorem own_dmkE_0 : decode method_3_code 0 = .ok (.iload_n 0, 1) := by decide +kernel
theorem own_dmkE_1 : decode method_3_code 1 = .ok (.ifCond .eq 5, 3) := by decide +kernel
theorem own_dmkE_6 : decode method_3_code 6 = .ok (.iload_n 1, 1) := by decide +kernel
theorem own_dmkE_7 : decode method_3_code 7 = .ok (.ifCond .eq 6, 3) := by decide +kernel
theorem own_dmkE_10 : decode method_3_code 10 = .ok (.ldc 29, 2) := by decide +kernel
theorem own_dmkE_12 : decode method_3_code 12 = .ok (.areturn, 1) := by decide +kernel
theorem own_pn_own_makeE : plainName "com/example/tallygate/tallygate/KeyTypeCanKeyPinLaw" = true := by first | (simp [plainName, overriddenIn]; done) | decide +kernel
theorem own_ef_own_makeE (m : MethodId) (x0 : Int32) (x1 : Int32) (x2 : Int32) : entryFrame m #[(.int x0), (.int x1), (.int x2)] 4 = mkF m 0 #[.val (.int x0), .val (.int x1), .val (.int x2), .unset] [] := by first | (simp [entryFrame, mkF, argsToLocals, Value.category]; done) | rfl
def Q_own_makeE (Z : State) (p3 : Int32) (h0 : Heap) (n0 : Nat) (v : Option Value) (h : Heap) (L : List Loc) : Prop := ∃ a : Addr, v = some (.ref a) ∧ Fr n0 L ∧ Keep h0 h []
set_option maxRecDepth 65536 in
set_option maxHeartbeats 40000000 in
theorem own_makeE (l : Launch) (Z : State) (a0 : Array Value) (hw : ∀ d ∈ tables_1, d.before a0 Z = true) (ws : List Jvm.Cond) (p3 : Int32) (h0 : Heap) (n0 : Nat) (Z0 : n0 ≤ h0.size) :
    MetFree l (⟨"com/example/tallygate/tallygate/KeyTypeCanKeyPinLaw", "make", "(ZZI)Ljava/lang/String;"⟩ : MethodName) (head1 (Jvm.Cond.code (⟨"com/example/tallygate/tallygate/KeyTypeCanKeyPinLaw", "make", "(ZZI)Ljava/lang/String;"⟩ : MethodName) method_3_code 4 (some (.object "java/lang/String")) :: ws) ({ frames := 0, cells := 2, slots := 4, locals := 0 } : Room)) (fun a U => a = #[(.int (0 : Int32)), (.int (1 : Int32)), (.int p3)] ∧ Z.Warmed39 U.vm ∧ U.heap = h0) (fun _ _ _ _ _ => True) (fun _ U o U' => ∃ v L, o = .returned v ∧ Q_own_makeE Z p3 h0 n0 v U'.heap L ∧ ReturnedEndW U o U' L ({ frames := 0, cells := 2, slots := 4, locals := 0 } : Room).cells ({ frames := 0, cells := 2, slots := 4, locals := 0 } : Room).slots) := by
  refine MetFree.of_bodySF (plainFor_of_name own_pn_own_makeE) hisR ?_
  intro p e s m args below meth c s₁ Bd hml0 hP hK
  obtain ⟨rfl, hZ, hh⟩ := hP
  have hx := Bd.exec
  have hby := Bd.bytes
  have hml : c.maxLocals = 4 := hml0
  have hown : s.vm.findClass "com/example/tallygate/tallygate/KeyTypeCanKeyPinLaw" = some m.cls := findClass_of_methodNamed Bd.named
  have hnm := (name_of_methodNamed Bd.named Bd.method).1
  have X0 : Stand p l e ({ frames := 0, cells := 2, slots := 4, locals := 0 } : Room) s m #[(.int (0 : Int32)), (.int (1 : Int32)), (.int p3)] below meth c s₁ [] 0 0 := Stand.of_body Bd
  have e0 : s₁.heap = h0 := by rw [← hh, Bd.state]; rfl
  have N0 := Fr.nil n0
  have pre0 : Goes p e below s₁ (entryFrame m #[(.int (0 : Int32)), (.int (1 : Int32)), (.int p3)] 4) s₁ (mkF m 0 #[.val (.int (0 : Int32)), .val (.int (1 : Int32)), .val (.int p3), .unset] []) := fun t k => castTop (own_ef_own_makeE m (0 : Int32) (1 : Int32) p3) k
  have pre1 : Goes p e below s₁ (entryFrame m #[(.int (0 : Int32)), (.int (1 : Int32)), (.int p3)] 4) s₁ (mkF m 10 #[.val (.int (0 : Int32)), .val (.int (1 : Int32)), .val (.int p3), .unset] []) := fun t kt => pre0 t (by
      show Steps p.tables e below (s₁.setTop (mkF m 0 #[.val (.int (0 : Int32)), .val (.int (1 : Int32)), .val (.int p3), .unset] [])) _
      refine XS.iloadN X0.here hx rfl (hb hby own_dmkE_0) rfl ?_
      show Steps p.tables e below (s₁.setTop (mkF m 1 #[.val (.int (0 : Int32)), .val (.int (1 : Int32)), .val (.int p3), .unset] [(.int (0 : Int32))])) _
      refine XS.ifYes X0.here hx rfl (pc0 := 1) (pc' := 6) rfl (hb hby own_dmkE_1) rfl ((if0 _ _).trans (teq (by decide : (0 : Int32) = (0 : Int32))).1) (by decide) (by decide) ?_
      show Steps p.tables e below (s₁.setTop (mkF m 6 #[.val (.int (0 : Int32)), .val (.int (1 : Int32)), .val (.int p3), .unset] [])) _
      refine XS.iloadN X0.here hx rfl (hb hby own_dmkE_6) rfl ?_
      show Steps p.tables e below (s₁.setTop (mkF m 7 #[.val (.int (0 : Int32)), .val (.int (1 : Int32)), .val (.int p3), .unset] [(.int (1 : Int32))])) _
      refine XS.ifNo X0.here hx rfl (hb hby own_dmkE_7) rfl ((if0 _ _).trans (feq (by decide : ¬ ((1 : Int32) = (0 : Int32)))).1) ?_
      exact kt)
  have wS2 : ∀ a ∈ Bundle.stringAtoms, a.before a0 Z = true := fun d hd => by
    simp only [Bundle.stringAtoms, List.mem_cons, List.not_mem_nil, or_false] at hd
    rcases hd with rfl | rfl | rfl | rfl | rfl | rfl | rfl
    · exact (hw _ (List.mem_of_getElem? (i := 7) rfl))
    · exact (hw _ (List.mem_of_getElem? (i := 6) rfl))
    · exact (hw _ (List.mem_of_getElem? (i := 23) rfl))
    · exact (hw _ (List.mem_of_getElem? (i := 33) rfl))
    · exact (hw _ (List.mem_of_getElem? (i := 31) rfl))
    · exact (hw _ (List.mem_of_getElem? (i := 56) rfl))
    · exact (hw _ (List.mem_of_getElem? (i := 57) rfl))
  obtain ⟨sa2, T2, h2, kk2, X2, e2, E2, hS2, hk2, hZ, hown, st2⟩ := ldcS (s := s) (vm0 := s.vm) X0 hx hZ hown (hw _ (List.mem_of_getElem? (i := 55) rfl)) wS2 e0 (State.WarmedH.since (State.WarmedH.refl s) 0) (Nat.zero_le _) (g := (mkF m 10 #[.val (.int (0 : Int32)), .val (.int (1 : Int32)), .val (.int p3), .unset] [])) rfl (hb hby own_dmkE_10) (n := 0) (by decide) (by decide) (by decide) (by decide)
  have K2 : Keep h0 h2 [] := (Keep.refl h0 []).ext E2
  have pre3 : Goes p e below s₁ (entryFrame m #[(.int (0 : Int32)), (.int (1 : Int32)), (.int p3)] 4) T2 (mkF m 12 #[.val (.int (0 : Int32)), .val (.int (1 : Int32)), .val (.int p3), .unset] [(.ref sa2)]) := fun t kt => pre1 t (st2 t kt)
  obtain ⟨fs, hr, hrun, hended, hEnd⟩ := X2.leaveW hS2 (by rw [e2]; exact hk2) (v := some (.ref sa2)) (fun h => by rw [Bd.returns] at h; cases h)
  refine ⟨_, _, pre3 _ ?_, hrun, hended, _, _, rfl, ?_, hEnd.1, hEnd.2.1, hEnd.2.2.1, hEnd.2.2.2.mono (by decide) (by decide)⟩
  · show Steps p.tables e below (T2.setTop (mkF m 12 #[.val (.int (0 : Int32)), .val (.int (1 : Int32)), .val (.int p3), .unset] [(.ref sa2)])) _
    jvm_step X2.here [X2.here.top, hx, (hb hby own_dmkE_12), X2.method', Bd.returns, Value.isRef, FieldType.isReference]
    first | (intro acts; rw [hr _ acts rfl rfl rfl]) | rw [hr _ _ rfl rfl rfl]
    exact Steps.refl _
  · show Q_own_makeE Z p3 h0 n0 _ T2.heap _
    rw [e2]
    exact ⟨_, rfl, N0, K2⟩
theorem own_dmkS_0 : decode method_3_code 0 = .ok (.iload_n 0, 1) := by decide +kernel
theorem own_dmkS_1 : decode method_3_code 1 = .ok (.ifCond .eq 5, 3) := by decide +kernel
theorem own_dmkS_6 : decode method_3_code 6 = .ok (.iload_n 1, 1) := by decide +kernel
theorem own_dmkS_7 : decode method_3_code 7 = .ok (.ifCond .eq 6, 3) := by decide +kernel
theorem own_dmkS_13 : decode method_3_code 13 = .ok (.iconst 2, 1) := by decide +kernel
theorem own_dmkS_14 : decode method_3_code 14 = .ok (.newarray .char, 2) := by decide +kernel
theorem own_dmkS_16 : decode method_3_code 16 = .ok (.astore_n 3, 1) := by decide +kernel
theorem own_dmkS_17 : decode method_3_code 17 = .ok (.aload_n 3, 1) := by decide +kernel
theorem own_dmkS_18 : decode method_3_code 18 = .ok (.iconst 0, 1) := by decide +kernel
theorem own_dmkS_19 : decode method_3_code 19 = .ok (.iload_n 2, 1) := by decide +kernel
theorem own_dmkS_20 : decode method_3_code 20 = .ok (.sipush 255, 3) := by decide +kernel
theorem own_dmkS_23 : decode method_3_code 23 = .ok (.iand, 1) := by decide +kernel
theorem own_dmkS_24 : decode method_3_code 24 = .ok (.i2c, 1) := by decide +kernel
theorem own_dmkS_25 : decode method_3_code 25 = .ok (.castore, 1) := by decide +kernel
theorem own_dmkS_26 : decode method_3_code 26 = .ok (.aload_n 3, 1) := by decide +kernel
theorem own_dmkS_27 : decode method_3_code 27 = .ok (.iconst 1, 1) := by decide +kernel
theorem own_dmkS_28 : decode method_3_code 28 = .ok (.iload_n 2, 1) := by decide +kernel
theorem own_dmkS_29 : decode method_3_code 29 = .ok (.bipush 8, 2) := by decide +kernel
theorem own_dmkS_31 : decode method_3_code 31 = .ok (.iushr, 1) := by decide +kernel
theorem own_dmkS_32 : decode method_3_code 32 = .ok (.sipush 255, 3) := by decide +kernel
theorem own_dmkS_35 : decode method_3_code 35 = .ok (.iand, 1) := by decide +kernel
theorem own_dmkS_36 : decode method_3_code 36 = .ok (.i2c, 1) := by decide +kernel
theorem own_dmkS_37 : decode method_3_code 37 = .ok (.castore, 1) := by decide +kernel
theorem own_dmkS_38 : decode method_3_code 38 = .ok (.new 31, 3) := by decide +kernel
theorem own_dmkS_41 : decode method_3_code 41 = .ok (.dup, 1) := by decide +kernel
theorem own_dmkS_42 : decode method_3_code 42 = .ok (.aload_n 3, 1) := by decide +kernel
theorem own_dmkS_43 : decode method_3_code 43 = .ok (.invokespecial 33, 3) := by decide +kernel
theorem own_dmkS_46 : decode method_3_code 46 = .ok (.areturn, 1) := by decide +kernel
theorem own_pn_own_makeS : plainName "com/example/tallygate/tallygate/KeyTypeCanKeyPinLaw" = true := by first | (simp [plainName, overriddenIn]; done) | decide +kernel
theorem own_ef_own_makeS (m : MethodId) (x0 : Int32) (x1 : Int32) (x2 : Int32) : entryFrame m #[(.int x0), (.int x1), (.int x2)] 4 = mkF m 0 #[.val (.int x0), .val (.int x1), .val (.int x2), .unset] [] := by first | (simp [entryFrame, mkF, argsToLocals, Value.category]; done) | rfl
def Q_own_makeS (Z : State) (p3 : Int32) (cs : Int32) (h0 : Heap) (n0 : Nat) (v : Option Value) (h : Heap) (L : List Loc) : Prop := ∃ a : Addr, v = some (.ref a) ∧ Fr n0 L ∧ Keep h0 h []
set_option maxRecDepth 65536 in
set_option maxHeartbeats 40000000 in
theorem own_makeS (l : Launch) (Z : State) (a0 : Array Value) (hw : ∀ d ∈ tables_1, d.before a0 Z = true) (ws : List Jvm.Cond) (p3 : Int32) (cs : Int32) (h0 : Heap) (n0 : Nat) (Z0 : n0 ≤ h0.size) (S_CS : Sta Z h0 "java/lang/String" "COMPACT_STRINGS" "Z" (.int cs)) (hcs : ¬ (cs = (0 : Int32))) :
    MetFree l (⟨"com/example/tallygate/tallygate/KeyTypeCanKeyPinLaw", "make", "(ZZI)Ljava/lang/String;"⟩ : MethodName) (head1 (Jvm.Cond.code (⟨"com/example/tallygate/tallygate/KeyTypeCanKeyPinLaw", "make", "(ZZI)Ljava/lang/String;"⟩ : MethodName) method_3_code 4 (some (.object "java/lang/String")) :: ws) ({ frames := 4, cells := 3, slots := 8, locals := 66 } : Room)) (fun a U => a = #[(.int (0 : Int32)), (.int (0 : Int32)), (.int p3)] ∧ Z.Warmed39 U.vm ∧ U.heap = h0) (fun _ _ _ _ _ => True) (fun _ U o U' => ∃ v L, o = .returned v ∧ Q_own_makeS Z p3 cs h0 n0 v U'.heap L ∧ FrameEnd U o U' L ({ frames := 4, cells := 3, slots := 8, locals := 66 } : Room).cells ({ frames := 4, cells := 3, slots := 8, locals := 66 } : Room).slots) := by
  refine MetFree.of_bodySF (plainFor_of_name own_pn_own_makeS) hisR ?_
  intro p e s m args below meth c s₁ Bd hml0 hP hK
  obtain ⟨rfl, hZ, hh⟩ := hP
  have hx := Bd.exec
  have hby := Bd.bytes
  have hml : c.maxLocals = 4 := hml0
  have hown : s.vm.findClass "com/example/tallygate/tallygate/KeyTypeCanKeyPinLaw" = some m.cls := findClass_of_methodNamed Bd.named
  have hnm := (name_of_methodNamed Bd.named Bd.method).1
  have X0 : Stand p l e ({ frames := 4, cells := 3, slots := 8, locals := 66 } : Room) s m #[(.int (0 : Int32)), (.int (0 : Int32)), (.int p3)] below meth c s₁ [] 0 0 := Stand.of_body Bd
  have e0 : s₁.heap = h0 := by rw [← hh, Bd.state]; rfl
  have N0 := Fr.nil n0
  have pre0 : Goes p e below s₁ (entryFrame m #[(.int (0 : Int32)), (.int (0 : Int32)), (.int p3)] 4) s₁ (mkF m 0 #[.val (.int (0 : Int32)), .val (.int (0 : Int32)), .val (.int p3), .unset] []) := fun t k => castTop (own_ef_own_makeS m (0 : Int32) (0 : Int32) p3) k
  have pre1 : Goes p e below s₁ (entryFrame m #[(.int (0 : Int32)), (.int (0 : Int32)), (.int p3)] 4) s₁ (mkF m 14 #[.val (.int (0 : Int32)), .val (.int (0 : Int32)), .val (.int p3), .unset] [(.int (2 : Int32))]) := fun t kt => pre0 t (by
      show Steps p.tables e below (s₁.setTop (mkF m 0 #[.val (.int (0 : Int32)), .val (.int (0 : Int32)), .val (.int p3), .unset] [])) _
      refine XS.iloadN X0.here hx rfl (hb hby own_dmkS_0) rfl ?_
      show Steps p.tables e below (s₁.setTop (mkF m 1 #[.val (.int (0 : Int32)), .val (.int (0 : Int32)), .val (.int p3), .unset] [(.int (0 : Int32))])) _
      refine XS.ifYes X0.here hx rfl (pc0 := 1) (pc' := 6) rfl (hb hby own_dmkS_1) rfl ((if0 _ _).trans (teq (by decide : (0 : Int32) = (0 : Int32))).1) (by decide) (by decide) ?_
      show Steps p.tables e below (s₁.setTop (mkF m 6 #[.val (.int (0 : Int32)), .val (.int (0 : Int32)), .val (.int p3), .unset] [])) _
      refine XS.iloadN X0.here hx rfl (hb hby own_dmkS_6) rfl ?_
      show Steps p.tables e below (s₁.setTop (mkF m 7 #[.val (.int (0 : Int32)), .val (.int (0 : Int32)), .val (.int p3), .unset] [(.int (0 : Int32))])) _
      refine XS.ifYes X0.here hx rfl (pc0 := 7) (pc' := 13) rfl (hb hby own_dmkS_7) rfl ((if0 _ _).trans (teq (by decide : (0 : Int32) = (0 : Int32))).1) (by decide) (by decide) ?_
      show Steps p.tables e below (s₁.setTop (mkF m 13 #[.val (.int (0 : Int32)), .val (.int (0 : Int32)), .val (.int p3), .unset] [])) _
      refine XS.iconst X0.here hx rfl (hb hby own_dmkS_13) ?_
      exact kt)
  obtain ⟨T2, h2, k2, X2, e2, E2, A2, st2⟩ := newP X0 hx hZ (hw _ (List.mem_of_getElem? (i := 4) rfl)) e0 (g := (mkF m 14 #[.val (.int (0 : Int32)), .val (.int (0 : Int32)), .val (.int p3), .unset] [(.int (2 : Int32))])) rfl (hb hby own_dmkS_14) rfl (by decide) (cap := 2) (by decide) (by decide) (by decide) (by decide)
  obtain ⟨b2, g2⟩ : ∃ z, z = h0.size := ⟨_, rfl⟩
  rw [← g2] at A2 st2
  have V_b2 : Arv Z h2 b2 k2 .char (2 : Int32) [(.int (0 : Int32)), (.int (0 : Int32))] (.int (0 : Int32)) := (Arv.new A2 (by decide)).pad (pad_rep [] (.int (0 : Int32)) 2)
  have g_b2 : n0 ≤ b2 := Nat.le_trans Z0 (Nat.le_of_eq g2.symm)
  have sz_b2 : h0.size ≤ b2 := (Nat.le_trans (Keep.refl h0 []).1 (Nat.le_of_eq g2.symm))
  have K2 : Keep h0 h2 [] := (Keep.refl h0 []).ext E2
  have pre3 : Goes p e below s₁ (entryFrame m #[(.int (0 : Int32)), (.int (0 : Int32)), (.int p3)] 4) T2 (mkF m 16 #[.val (.int (0 : Int32)), .val (.int (0 : Int32)), .val (.int p3), .unset] [(.ref b2)]) := fun t kt => pre1 t (st2 t kt)
  have pre4 : Goes p e below s₁ (entryFrame m #[(.int (0 : Int32)), (.int (0 : Int32)), (.int p3)] 4) T2 (mkF m 25 #[.val (.int (0 : Int32)), .val (.int (0 : Int32)), .val (.int p3), .val (.ref b2)] [(.int ((p3 &&& (255 : Int32)).toUInt32.toUInt16.toUInt32.toInt32)), (.int (0 : Int32)), (.ref b2)]) := fun t kt => pre3 t (by
      show Steps p.tables e below (T2.setTop (mkF m 16 #[.val (.int (0 : Int32)), .val (.int (0 : Int32)), .val (.int p3), .unset] [(.ref b2)])) _
      refine XS.astoreN X2.here hx rfl (hb hby own_dmkS_16) rfl rfl (l' := #[.val (.int (0 : Int32)), .val (.int (0 : Int32)), .val (.int p3), .val (.ref b2)]) rfl ?_
      show Steps p.tables e below (T2.setTop (mkF m 17 #[.val (.int (0 : Int32)), .val (.int (0 : Int32)), .val (.int p3), .val (.ref b2)] [])) _
      refine XS.aloadN X2.here hx rfl (hb hby own_dmkS_17) rfl rfl ?_
      show Steps p.tables e below (T2.setTop (mkF m 18 #[.val (.int (0 : Int32)), .val (.int (0 : Int32)), .val (.int p3), .val (.ref b2)] [(.ref b2)])) _
      refine XS.iconst X2.here hx rfl (hb hby own_dmkS_18) ?_
      show Steps p.tables e below (T2.setTop (mkF m 19 #[.val (.int (0 : Int32)), .val (.int (0 : Int32)), .val (.int p3), .val (.ref b2)] [(.int (0 : Int32)), (.ref b2)])) _
      refine XS.iloadN X2.here hx rfl (hb hby own_dmkS_19) rfl ?_
      show Steps p.tables e below (T2.setTop (mkF m 20 #[.val (.int (0 : Int32)), .val (.int (0 : Int32)), .val (.int p3), .val (.ref b2)] [(.int p3), (.int (0 : Int32)), (.ref b2)])) _
      refine XS.sipush X2.here hx rfl (hb hby own_dmkS_20) ?_
      show Steps p.tables e below (T2.setTop (mkF m 23 #[.val (.int (0 : Int32)), .val (.int (0 : Int32)), .val (.int p3), .val (.ref b2)] [(.int (255 : Int32)), (.int p3), (.int (0 : Int32)), (.ref b2)])) _
      refine XS.iand X2.here hx rfl (hb hby own_dmkS_23) rfl ?_
      show Steps p.tables e below (T2.setTop (mkF m 24 #[.val (.int (0 : Int32)), .val (.int (0 : Int32)), .val (.int p3), .val (.ref b2)] [(.int (p3 &&& (255 : Int32))), (.int (0 : Int32)), (.ref b2)])) _
      refine XS.i2c X2.here hx rfl (hb hby own_dmkS_24) rfl ?_
      exact kt)
  obtain ⟨cl5, Ar5, q5, S5, N_5, H5, G5⟩ := (id (V_b2))
  have hin5 : ¬ ((0 : Int32) < 0 ∨ cl5.slots.size ≤ ((0 : Int32)).toNatClampNeg) := inb_of S5 ⟨by decide, by decide⟩
  obtain ⟨T6, h6, X6, e6, W6, st6⟩ := stC X2 hx hZ e2 Ar5 (j := (0 : Int32)) hin5 (g := (mkF m 25 #[.val (.int (0 : Int32)), .val (.int (0 : Int32)), .val (.int p3), .val (.ref b2)] [(.int ((p3 &&& (255 : Int32)).toUInt32.toUInt16.toUInt32.toInt32)), (.int (0 : Int32)), (.ref b2)])) rfl rfl (hb hby own_dmkS_25)
  have V6 : Arv Z h6 b2 k2 .char (2 : Int32) [(.int (nar .char ((p3 &&& (255 : Int32)).toUInt32.toUInt16.toUInt32.toInt32))), (.int (0 : Int32))] (.int (0 : Int32)) := Arv.set Ar5 q5 S5 N_5 H5 G5 (fits_nar_char _) W6 0 rfl (Nat.le_of_ble_eq_true rfl)
  have K6 : Keep h0 h6 [] := K2.wr W6 (Or.inr sz_b2)
  have N6 := Fr.snoc X6 N0 g_b2
  have pre7 : Goes p e below s₁ (entryFrame m #[(.int (0 : Int32)), (.int (0 : Int32)), (.int p3)] 4) T6 (mkF m 26 #[.val (.int (0 : Int32)), .val (.int (0 : Int32)), .val (.int p3), .val (.ref b2)] []) := fun t kt => pre4 t (st6 t kt)
  have pre8 : Goes p e below s₁ (entryFrame m #[(.int (0 : Int32)), (.int (0 : Int32)), (.int p3)] 4) T6 (mkF m 37 #[.val (.int (0 : Int32)), .val (.int (0 : Int32)), .val (.int p3), .val (.ref b2)] [(.int ((((p3.toUInt32 >>> ((8 : Int32) &&& 31).toUInt32).toInt32) &&& (255 : Int32)).toUInt32.toUInt16.toUInt32.toInt32)), (.int (1 : Int32)), (.ref b2)]) := fun t kt => pre7 t (by
      show Steps p.tables e below (T6.setTop (mkF m 26 #[.val (.int (0 : Int32)), .val (.int (0 : Int32)), .val (.int p3), .val (.ref b2)] [])) _
      refine XS.aloadN X6.here hx rfl (hb hby own_dmkS_26) rfl rfl ?_
      show Steps p.tables e below (T6.setTop (mkF m 27 #[.val (.int (0 : Int32)), .val (.int (0 : Int32)), .val (.int p3), .val (.ref b2)] [(.ref b2)])) _
      refine XS.iconst X6.here hx rfl (hb hby own_dmkS_27) ?_
      show Steps p.tables e below (T6.setTop (mkF m 28 #[.val (.int (0 : Int32)), .val (.int (0 : Int32)), .val (.int p3), .val (.ref b2)] [(.int (1 : Int32)), (.ref b2)])) _
      refine XS.iloadN X6.here hx rfl (hb hby own_dmkS_28) rfl ?_
      show Steps p.tables e below (T6.setTop (mkF m 29 #[.val (.int (0 : Int32)), .val (.int (0 : Int32)), .val (.int p3), .val (.ref b2)] [(.int p3), (.int (1 : Int32)), (.ref b2)])) _
      refine XS.bipush X6.here hx rfl (hb hby own_dmkS_29) ?_
      show Steps p.tables e below (T6.setTop (mkF m 31 #[.val (.int (0 : Int32)), .val (.int (0 : Int32)), .val (.int p3), .val (.ref b2)] [(.int (8 : Int32)), (.int p3), (.int (1 : Int32)), (.ref b2)])) _
      refine XS.iushr X6.here hx rfl (hb hby own_dmkS_31) rfl ?_
      show Steps p.tables e below (T6.setTop (mkF m 32 #[.val (.int (0 : Int32)), .val (.int (0 : Int32)), .val (.int p3), .val (.ref b2)] [(.int ((p3.toUInt32 >>> ((8 : Int32) &&& 31).toUInt32).toInt32)), (.int (1 : Int32)), (.ref b2)])) _
      refine XS.sipush X6.here hx rfl (hb hby own_dmkS_32) ?_
      show Steps p.tables e below (T6.setTop (mkF m 35 #[.val (.int (0 : Int32)), .val (.int (0 : Int32)), .val (.int p3), .val (.ref b2)] [(.int (255 : Int32)), (.int ((p3.toUInt32 >>> ((8 : Int32) &&& 31).toUInt32).toInt32)), (.int (1 : Int32)), (.ref b2)])) _
      refine XS.iand X6.here hx rfl (hb hby own_dmkS_35) rfl ?_
      show Steps p.tables e below (T6.setTop (mkF m 36 #[.val (.int (0 : Int32)), .val (.int (0 : Int32)), .val (.int p3), .val (.ref b2)] [(.int (((p3.toUInt32 >>> ((8 : Int32) &&& 31).toUInt32).toInt32) &&& (255 : Int32))), (.int (1 : Int32)), (.ref b2)])) _
      refine XS.i2c X6.here hx rfl (hb hby own_dmkS_36) rfl ?_
      exact kt)
  obtain ⟨cl9, Ar9, q9, S9, N_9, H9, G9⟩ := (id (V6))
  have hin9 : ¬ ((1 : Int32) < 0 ∨ cl9.slots.size ≤ ((1 : Int32)).toNatClampNeg) := inb_of S9 ⟨by decide, by decide⟩
  obtain ⟨T10, h10, X10, e10, W10, st10⟩ := stC X6 hx hZ e6 Ar9 (j := (1 : Int32)) hin9 (g := (mkF m 37 #[.val (.int (0 : Int32)), .val (.int (0 : Int32)), .val (.int p3), .val (.ref b2)] [(.int ((((p3.toUInt32 >>> ((8 : Int32) &&& 31).toUInt32).toInt32) &&& (255 : Int32)).toUInt32.toUInt16.toUInt32.toInt32)), (.int (1 : Int32)), (.ref b2)])) rfl rfl (hb hby own_dmkS_37)
  have V10 : Arv Z h10 b2 k2 .char (2 : Int32) [(.int (nar .char ((p3 &&& (255 : Int32)).toUInt32.toUInt16.toUInt32.toInt32))), (.int (nar .char ((((p3.toUInt32 >>> ((8 : Int32) &&& 31).toUInt32).toInt32) &&& (255 : Int32)).toUInt32.toUInt16.toUInt32.toInt32)))] (.int (0 : Int32)) := Arv.set Ar9 q9 S9 N_9 H9 G9 (fits_nar_char _) W10 1 rfl (Nat.le_of_ble_eq_true rfl)
  have K10 : Keep h0 h10 [] := K6.wr W10 (Or.inr sz_b2)
  have N10 := Fr.snoc X10 N6 g_b2
  have pre11 : Goes p e below s₁ (entryFrame m #[(.int (0 : Int32)), (.int (0 : Int32)), (.int p3)] 4) T10 (mkF m 38 #[.val (.int (0 : Int32)), .val (.int (0 : Int32)), .val (.int p3), .val (.ref b2)] []) := fun t kt => pre8 t (st10 t kt)
  obtain ⟨T12, h12, X12, e12, E12, A12, DD12, -, st12⟩ := newO X10 hx hZ hown (hw _ (List.mem_of_getElem? (i := 5) rfl)) (hw _ (List.mem_of_getElem? (i := 6) rfl)) (hw _ (List.mem_of_getElem? (i := 7) rfl)) e10 (g := (mkF m 38 #[.val (.int (0 : Int32)), .val (.int (0 : Int32)), .val (.int p3), .val (.ref b2)] [])) rfl (hb hby own_dmkS_38) (by decide) (by decide)
  obtain ⟨b12, g12⟩ : ∃ z, z = h10.size := ⟨_, rfl⟩
  rw [← g12] at A12 DD12 st12
  have F_coder_b12 : Fld Z h12 b12 "java/lang/String" "coder" "B" (.int (0 : Int32)) := DD12 (Or.inr (hw _ (List.mem_of_getElem? (i := 31) rfl))) (ty := .byte) (by decide)
  have F_value_b12 : Fld Z h12 b12 "java/lang/String" "value" "[B" .null := DD12 (Or.inr (hw _ (List.mem_of_getElem? (i := 33) rfl))) (ty := (.array .byte)) (by decide)
  have g_b12 : n0 ≤ b12 := Nat.le_trans (Nat.le_trans (Nat.le_trans (Nat.le_trans Z0 E2.1) (Keep.of_wr W6).1) (Keep.of_wr W10).1) (Nat.le_of_eq g12.symm)
  have sz_b12 : h0.size ≤ b12 := (Nat.le_trans K10.1 (Nat.le_of_eq g12.symm))
  have K12 : Keep h0 h12 [] := K10.ext E12
  have pre13 : Goes p e below s₁ (entryFrame m #[(.int (0 : Int32)), (.int (0 : Int32)), (.int p3)] 4) T12 (mkF m 41 #[.val (.int (0 : Int32)), .val (.int (0 : Int32)), .val (.int p3), .val (.ref b2)] [(.ref b12)]) := fun t kt => pre11 t (st12 t kt)
  have pre14 : Goes p e below s₁ (entryFrame m #[(.int (0 : Int32)), (.int (0 : Int32)), (.int p3)] 4) T12 (mkF m 43 #[.val (.int (0 : Int32)), .val (.int (0 : Int32)), .val (.int p3), .val (.ref b2)] [(.ref b2), (.ref b12), (.ref b12)]) := fun t kt => pre13 t (by
      show Steps p.tables e below (T12.setTop (mkF m 41 #[.val (.int (0 : Int32)), .val (.int (0 : Int32)), .val (.int p3), .val (.ref b2)] [(.ref b12)])) _
      refine XS.dup X12.here hx rfl (hb hby own_dmkS_41) rfl rfl ?_
      show Steps p.tables e below (T12.setTop (mkF m 42 #[.val (.int (0 : Int32)), .val (.int (0 : Int32)), .val (.int p3), .val (.ref b2)] [(.ref b12), (.ref b12)])) _
      refine XS.aloadN X12.here hx rfl (hb hby own_dmkS_42) rfl rfl ?_
      exact kt)
  obtain ⟨_, _, ⟨T15, L15, k15, n15⟩, -, X15, ⟨Lc15, hQ15, l15, y15, z15⟩, st15⟩ := X12.specialBack hx (y := (⟨"java/lang/String", "<init>", "([C)V"⟩ : MethodName)) rfl hown (mvT hZ (hw _ (List.mem_of_getElem? (i := 8) rfl))) (mvT hZ (hw _ (List.mem_of_getElem? (i := 9) rfl))) (mvT hZ (hw _ (List.mem_of_getElem? (i := 10) rfl))) (by decide) (backOf (W := 1) (own_sJ2 l Z a0 hw [] b12 b2 k2 cs _ _ (nar .char ((p3 &&& (255 : Int32)).toUInt32.toUInt16.toUInt32.toInt32)) (nar .char ((((p3.toUInt32 >>> ((8 : Int32) &&& 31).toUInt32).toInt32) &&& (255 : Int32)).toUInt32.toUInt16.toUInt32.toInt32)) h12 n0 (Nat.le_trans (Nat.le_trans (Nat.le_trans (Nat.le_trans Z0 E2.1) (Keep.of_wr W6).1) (Keep.of_wr W10).1) E12.1) A12 F_value_b12 F_coder_b12 g_b12 (V10.ext E12) ((((S_CS.ext E2).wr W6).wr W10).ext E12) hcs (own_n1 p3) (own_n2 p3)) hZ (hw _ (List.mem_of_getElem? (i := 10) rfl)) (hw _ (List.mem_of_getElem? (i := 7) rfl)) (by decide) (by decide)) (g := (mkF m 43 #[.val (.int (0 : Int32)), .val (.int (0 : Int32)), .val (.int p3), .val (.ref b2)] [(.ref b2), (.ref b12), (.ref b12)])) rfl (by rw [hml]; rfl) (Steps.refl _) (a := b12) (argsL := [(.ref b2)]) (rest := [(.ref b12)]) (lenOf own_pd4 rfl) rfl (by show 2 * 0 + _ ≤ _; exact Nat.le_of_eq rfl) (hb hby own_dmkS_43) (fun _ _ => ⟨rfl, e12, (by decide : 2 + 1 ≤ _), (by decide : 6 + 2 ≤ _)⟩)
  dsimp only [Pt.U, Pt.locs, Pt.cells, Pt.slots] at X15 l15 y15 z15 st15 hQ15
  subst l15 y15 z15
  obtain ⟨rfl, N15q, K15q, Rs15⟩ := hQ15
  have N15 := Fr.app N10 N15q
  have KC15 : Keep h0 T15.heap [] := K12.trans K15q (allS (Or.inr sz_b12) all0)
  have pre16 : Goes p e below s₁ (entryFrame m #[(.int (0 : Int32)), (.int (0 : Int32)), (.int p3)] 4) T15 (mkF m 46 #[.val (.int (0 : Int32)), .val (.int (0 : Int32)), .val (.int p3), .val (.ref b2)] [(.ref b12)]) := fun t kt => pre14 t (st15.trans kt)
  obtain ⟨fs, hr, hrun, hended, hW, hsame⟩ := X15.leave (v := some (.ref b12)) (fun h => by rw [Bd.returns] at h; cases h)
  refine ⟨_, _, pre16 _ ?_, hrun, hended, _, _, rfl, ?_, ⟨_, rfl⟩, hW, hsame.mono (by decide) (by decide)⟩
  · show Steps p.tables e below (T15.setTop (mkF m 46 #[.val (.int (0 : Int32)), .val (.int (0 : Int32)), .val (.int p3), .val (.ref b2)] [(.ref b12)])) _
    jvm_step X15.here [X15.here.top, hx, (hb hby own_dmkS_46), X15.method', Bd.returns, Value.isRef, FieldType.isReference]
    first | (intro acts; rw [hr _ acts rfl rfl rfl]) | rw [hr _ _ rfl rfl rfl]
    exact Steps.refl _
  · show Q_own_makeS Z p3 cs h0 n0 _ T15.heap _
    exact ⟨_, rfl, N15, KC15⟩
theorem own_d9_0 : decode jdk_37_method_2_code 0 = .ok (.aload_n 0, 1) := by decide +kernel
theorem own_d9_1 : decode jdk_37_method_2_code 1 = .ok (.getfield 7, 3) := by decide +kernel
theorem own_d9_4 : decode jdk_37_method_2_code 4 = .ok (.ireturn, 1) := by decide +kernel
theorem own_pn_own_ordinal : plainName "java/lang/Enum" = true := by first | (simp [plainName, overriddenIn]; done) | decide +kernel
theorem own_ef_own_ordinal (m : MethodId) (x0 : Addr) : entryFrame m #[(.ref x0)] 1 = mkF m 0 #[.val (.ref x0)] [] := by first | (simp [entryFrame, mkF, argsToLocals, Value.category]; done) | rfl
def Q_own_ordinal (Z : State) (a1 : Addr) (p1 : Int32) (h0 : Heap) (n0 : Nat) (v : Option Value) (h : Heap) (L : List Loc) : Prop := v = some (.int p1) ∧ Fr n0 L ∧ h = h0
set_option maxRecDepth 65536 in
set_option maxHeartbeats 40000000 in
theorem own_ordinal (l : Launch) (Z : State) (a0 : Array Value) (hw : ∀ d ∈ tables_1, d.before a0 Z = true) (ws : List Jvm.Cond) (a1 : Addr) (p1 : Int32) (h0 : Heap) (n0 : Nat) (Z0 : n0 ≤ h0.size) (O_a1 : Fld Z h0 a1 "java/lang/Enum" "ordinal" "I" (.int p1)) :
    MetFree l (⟨"java/lang/Enum", "ordinal", "()I"⟩ : MethodName) (head1 (Jvm.Cond.code (⟨"java/lang/Enum", "ordinal", "()I"⟩ : MethodName) jdk_37_method_2_code 1 (some .int) :: ws) ({ frames := 0, cells := 0, slots := 0, locals := 0 } : Room)) (fun a U => a = #[(.ref a1)] ∧ Z.Warmed39 U.vm ∧ U.heap = h0) (fun _ _ _ _ _ => True) (fun _ U o U' => ∃ v L, o = .returned v ∧ Q_own_ordinal Z a1 p1 h0 n0 v U'.heap L ∧ FrameEnd U o U' L ({ frames := 0, cells := 0, slots := 0, locals := 0 } : Room).cells ({ frames := 0, cells := 0, slots := 0, locals := 0 } : Room).slots) := by
  refine MetFree.of_bodySF (plainFor_of_name own_pn_own_ordinal) hisR ?_
  intro p e s m args below meth c s₁ Bd hml0 hP hK
  obtain ⟨rfl, hZ, hh⟩ := hP
  have hx := Bd.exec
  have hby := Bd.bytes
  have hml : c.maxLocals = 1 := hml0
  have hown : s.vm.findClass "java/lang/Enum" = some m.cls := findClass_of_methodNamed Bd.named
  have hnm := (name_of_methodNamed Bd.named Bd.method).1
  have X0 : Stand p l e ({ frames := 0, cells := 0, slots := 0, locals := 0 } : Room) s m #[(.ref a1)] below meth c s₁ [] 0 0 := Stand.of_body Bd
  have e0 : s₁.heap = h0 := by rw [← hh, Bd.state]; rfl
  have N0 := Fr.nil n0
  have pre0 : Goes p e below s₁ (entryFrame m #[(.ref a1)] 1) s₁ (mkF m 0 #[.val (.ref a1)] []) := fun t k => castTop (own_ef_own_ordinal m a1) k
  have pre1 : Goes p e below s₁ (entryFrame m #[(.ref a1)] 1) s₁ (mkF m 1 #[.val (.ref a1)] [(.ref a1)]) := fun t kt => pre0 t (by
      show Steps p.tables e below (s₁.setTop (mkF m 0 #[.val (.ref a1)] [])) _
      refine XS.aloadN X0.here hx rfl (hb hby own_d9_0) rfl rfl ?_
      exact kt)
  obtain ⟨T2, X2, e2, st2⟩ := getF X0 hx hZ hown (host := "") (Or.inl (hw _ (List.mem_of_getElem? (i := 49) rfl))) Via.refl e0 O_a1 (g := (mkF m 1 #[.val (.ref a1)] [(.ref a1)])) rfl rfl (hb hby own_d9_1)
  have pre3 : Goes p e below s₁ (entryFrame m #[(.ref a1)] 1) T2 (mkF m 4 #[.val (.ref a1)] [(.int p1)]) := fun t kt => pre1 t (st2 t kt)
  obtain ⟨fs, hr, hrun, hended, hW, hsame⟩ := X2.leave (v := some (.int p1)) (fun h => by rw [Bd.returns] at h; cases h)
  refine ⟨_, _, pre3 _ ?_, hrun, hended, _, _, rfl, ?_, ⟨_, rfl⟩, hW, hsame.mono (by decide) (by decide)⟩
  · show Steps p.tables e below (T2.setTop (mkF m 4 #[.val (.ref a1)] [(.int p1)])) _
    exact retI X2 hx Bd.returns (hb hby own_d9_4) hr
  · show Q_own_ordinal Z a1 p1 h0 n0 _ T2.heap _
    rw [e2]
    exact ⟨rfl, N0, rfl⟩
theorem own_d_own_canKey000_0 : decode prog_10_method_7_code 0 = .ok (.aload_n 0, 1) := by decide +kernel
theorem own_d_own_canKey000_1 : decode prog_10_method_7_code 1 = .ok (.invokevirtual 48, 3) := by decide +kernel
theorem own_d_own_canKey000_4 : decode prog_10_method_7_code 4 = .ok (.tableswitch 28 0 2 #[38, 50, 62], 28) := by decide +kernel
theorem own_d_own_canKey000_42 : decode prog_10_method_7_code 42 = .ok (.aload_n 1, 1) := by decide +kernel
theorem own_d_own_canKey000_43 : decode prog_10_method_7_code 43 = .ok (.ifnull 7, 3) := by decide +kernel
theorem own_d_own_canKey000_50 : decode prog_10_method_7_code 50 = .ok (.iconst 0, 1) := by decide +kernel
theorem own_d_own_canKey000_51 : decode prog_10_method_7_code 51 = .ok (.goto 28, 3) := by decide +kernel
theorem own_d_own_canKey000_79 : decode prog_10_method_7_code 79 = .ok (.ireturn, 1) := by decide +kernel
theorem own_pn_own_canKey000 : plainName "com/example/tallygate/tallygate/KeyType" = true := by first | (simp [plainName, overriddenIn]; done) | decide +kernel
theorem own_ef_own_canKey000 (m : MethodId) (x0 : Addr) : entryFrame m #[(.ref x0), .null, .null] 3 = mkF m 0 #[.val (.ref x0), .val .null, .val .null] [] := by first | (simp [entryFrame, mkF, argsToLocals, Value.category]; done) | rfl
def Q_own_canKey000 (Z : State) (a1 : Addr) (h0 : Heap) (n0 : Nat) (v : Option Value) (h : Heap) (L : List Loc) : Prop := v = some (.int (0 : Int32)) ∧ Fr n0 L ∧ h = h0
set_option maxRecDepth 65536 in
set_option maxHeartbeats 40000000 in
theorem own_canKey000 (l : Launch) (Z : State) (a0 : Array Value) (hw : ∀ d ∈ tables_1, d.before a0 Z = true) (ws : List Jvm.Cond) (a1 : Addr) (h0 : Heap) (n0 : Nat) (Z0 : n0 ≤ h0.size) (E_a1 : Exa Z h0 a1 "com/example/tallygate/tallygate/KeyType") (O_a1 : Fld Z h0 a1 "java/lang/Enum" "ordinal" "I" (.int (0 : Int32))) :
    MetFree l (⟨"com/example/tallygate/tallygate/KeyType", "canKey", "(Ljava/lang/String;Ljava/lang/String;)Z"⟩ : MethodName) (head1 (Jvm.Cond.code (⟨"com/example/tallygate/tallygate/KeyType", "canKey", "(Ljava/lang/String;Ljava/lang/String;)Z"⟩ : MethodName) prog_10_method_7_code 3 (some .boolean) :: ws) ({ frames := 1, cells := 0, slots := 0, locals := 12 } : Room)) (fun a U => a = #[(.ref a1), .null, .null] ∧ Z.Warmed39 U.vm ∧ U.heap = h0) (fun _ _ _ _ _ => True) (fun _ U o U' => ∃ v L, o = .returned v ∧ Q_own_canKey000 Z a1 h0 n0 v U'.heap L ∧ FrameEnd U o U' L ({ frames := 1, cells := 0, slots := 0, locals := 12 } : Room).cells ({ frames := 1, cells := 0, slots := 0, locals := 12 } : Room).slots) := by
  refine MetFree.of_bodySF (plainFor_of_name own_pn_own_canKey000) hisR ?_
  intro p e s m args below meth c s₁ Bd hml0 hP hK
  obtain ⟨rfl, hZ, hh⟩ := hP
  have hx := Bd.exec
  have hby := Bd.bytes
  have hml : c.maxLocals = 3 := hml0
  have hown : s.vm.findClass "com/example/tallygate/tallygate/KeyType" = some m.cls := findClass_of_methodNamed Bd.named
  have hnm := (name_of_methodNamed Bd.named Bd.method).1
  have X0 : Stand p l e ({ frames := 1, cells := 0, slots := 0, locals := 12 } : Room) s m #[(.ref a1), .null, .null] below meth c s₁ [] 0 0 := Stand.of_body Bd
  have e0 : s₁.heap = h0 := by rw [← hh, Bd.state]; rfl
  have N0 := Fr.nil n0
  have pre0 : Goes p e below s₁ (entryFrame m #[(.ref a1), .null, .null] 3) s₁ (mkF m 0 #[.val (.ref a1), .val .null, .val .null] []) := fun t k => castTop (own_ef_own_canKey000 m a1) k
  have pre1 : Goes p e below s₁ (entryFrame m #[(.ref a1), .null, .null] 3) s₁ (mkF m 1 #[.val (.ref a1), .val .null, .val .null] [(.ref a1)]) := fun t kt => pre0 t (by
      show Steps p.tables e below (s₁.setTop (mkF m 0 #[.val (.ref a1), .val .null, .val .null] [])) _
      refine XS.aloadN X0.here hx rfl (hb hby own_d_own_canKey000_0) rfl rfl ?_
      exact kt)
  obtain ⟨cq2, kq2, q2a, q2b, q2c⟩ := isOf hZ e0 E_a1
  obtain ⟨_, _, ⟨T2, L2, k2, n2⟩, -, X2, ⟨Lc2, hQ2, l2, y2, z2⟩, st2⟩ := X0.virtualBackUp hx (x := (⟨"com/example/tallygate/tallygate/KeyType", "ordinal", "()I"⟩ : MethodName)) (y := (⟨"java/lang/Enum", "ordinal", "()I"⟩ : MethodName)) hown (mvT hZ (hw _ (List.mem_of_getElem? (i := 42) rfl))) (mvT hZ (hw _ (List.mem_of_getElem? (i := 43) rfl))) (mvT hZ (hw _ (List.mem_of_getElem? (i := 44) rfl))) (by decide) (mvT hZ (hw _ (List.mem_of_getElem? (i := 46) rfl))) (mvT hZ (hw _ (List.mem_of_getElem? (i := 45) rfl))) (backOf (W := 0) (own_ordinal l Z a0 hw [] a1 (0 : Int32) h0 n0 Z0 O_a1) hZ (hw _ (List.mem_of_getElem? (i := 48) rfl)) (hw _ (List.mem_of_getElem? (i := 47) rfl)) (by decide) (by decide)) q2a q2c (g := (mkF m 1 #[.val (.ref a1), .val .null, .val .null] [(.ref a1)])) rfl (by rw [hml]; rfl) (Steps.refl _) (argsL := []) (rest := []) (lenOf own_pd5 rfl) rfl (by show 2 * 0 + _ ≤ _; exact Nat.le_of_eq rfl) (hb hby own_d_own_canKey000_1) (fun _ _ => ⟨rfl, e0, (by decide : 0 + 0 ≤ _), (by decide : 0 + 0 ≤ _)⟩)
  dsimp only [Pt.U, Pt.locs, Pt.cells, Pt.slots] at X2 l2 y2 z2 st2 hQ2
  subst l2 y2 z2
  obtain ⟨rfl, N2q, e2⟩ := hQ2
  have N2 := Fr.app N0 N2q
  have pre3 : Goes p e below s₁ (entryFrame m #[(.ref a1), .null, .null] 3) T2 (mkF m 4 #[.val (.ref a1), .val .null, .val .null] [(.int (0 : Int32))]) := fun t kt => pre1 t (st2.trans kt)
  have pre4 : Goes p e below s₁ (entryFrame m #[(.ref a1), .null, .null] 3) T2 (mkF m 79 #[.val (.ref a1), .val .null, .val .null] [(.int (0 : Int32))]) := fun t kt => pre3 t (by
      show Steps p.tables e below (T2.setTop (mkF m 4 #[.val (.ref a1), .val .null, .val .null] [(.int (0 : Int32))])) _
      refine XS.tswIn X2.here hx rfl (pc0 := 4) (pc' := 42) rfl (hb hby own_d_own_canKey000_4) rfl (by decide) (o := 38) (by decide) (by decide) (by decide) ?_
      show Steps p.tables e below (T2.setTop (mkF m 42 #[.val (.ref a1), .val .null, .val .null] [])) _
      refine XS.aloadN X2.here hx rfl (hb hby own_d_own_canKey000_42) rfl rfl ?_
      show Steps p.tables e below (T2.setTop (mkF m 43 #[.val (.ref a1), .val .null, .val .null] [.null])) _
      refine XS.ifnullYes X2.here hx rfl (pc0 := 43) (pc' := 50) rfl (hb hby own_d_own_canKey000_43) rfl (by decide) (by decide) ?_
      show Steps p.tables e below (T2.setTop (mkF m 50 #[.val (.ref a1), .val .null, .val .null] [])) _
      refine XS.iconst X2.here hx rfl (hb hby own_d_own_canKey000_50) ?_
      show Steps p.tables e below (T2.setTop (mkF m 51 #[.val (.ref a1), .val .null, .val .null] [(.int (0 : Int32))])) _
      refine XS.goto X2.here hx rfl (pc0 := 51) (pc' := 79) rfl (hb hby own_d_own_canKey000_51) (by decide) (by decide) ?_
      exact kt)
  obtain ⟨fs, hr, hrun, hended, hW, hsame⟩ := X2.leave (v := some (.int (0 : Int32))) (fun h => by rw [Bd.returns] at h; cases h)
  refine ⟨_, _, pre4 _ ?_, hrun, hended, _, _, rfl, ?_, ⟨_, rfl⟩, hW, hsame.mono (by decide) (by decide)⟩
  · show Steps p.tables e below (T2.setTop (mkF m 79 #[.val (.ref a1), .val .null, .val .null] [(.int (0 : Int32))])) _
    exact retN X2 hx (t := .boolean) Bd.returns (by simp) (hb hby own_d_own_canKey000_79) hr
  · show Q_own_canKey000 Z a1 h0 n0 _ T2.heap _
    rw [e2]
    exact ⟨rfl, N2, rfl⟩
theorem own_d_own_canKey001_0 : decode prog_10_method_7_code 0 = .ok (.aload_n 0, 1) := by decide +kernel
theorem own_d_own_canKey001_1 : decode prog_10_method_7_code 1 = .ok (.invokevirtual 48, 3) := by decide +kernel
theorem own_d_own_canKey001_4 : decode prog_10_method_7_code 4 = .ok (.tableswitch 28 0 2 #[38, 50, 62], 28) := by decide +kernel
theorem own_d_own_canKey001_42 : decode prog_10_method_7_code 42 = .ok (.aload_n 1, 1) := by decide +kernel
theorem own_d_own_canKey001_43 : decode prog_10_method_7_code 43 = .ok (.ifnull 7, 3) := by decide +kernel
theorem own_d_own_canKey001_50 : decode prog_10_method_7_code 50 = .ok (.iconst 0, 1) := by decide +kernel
theorem own_d_own_canKey001_51 : decode prog_10_method_7_code 51 = .ok (.goto 28, 3) := by decide +kernel
theorem own_d_own_canKey001_79 : decode prog_10_method_7_code 79 = .ok (.ireturn, 1) := by decide +kernel
theorem own_pn_own_canKey001 : plainName "com/example/tallygate/tallygate/KeyType" = true := by first | (simp [plainName, overriddenIn]; done) | decide +kernel
theorem own_ef_own_canKey001 (m : MethodId) (x0 : Addr) (x2 : Addr) : entryFrame m #[(.ref x0), .null, (.ref x2)] 3 = mkF m 0 #[.val (.ref x0), .val .null, .val (.ref x2)] [] := by first | (simp [entryFrame, mkF, argsToLocals, Value.category]; done) | rfl
def Q_own_canKey001 (Z : State) (a1 : Addr) (a3 : Addr) (h0 : Heap) (n0 : Nat) (v : Option Value) (h : Heap) (L : List Loc) : Prop := v = some (.int (0 : Int32)) ∧ Fr n0 L ∧ h = h0
set_option maxRecDepth 65536 in
set_option maxHeartbeats 40000000 in
theorem own_canKey001 (l : Launch) (Z : State) (a0 : Array Value) (hw : ∀ d ∈ tables_1, d.before a0 Z = true) (ws : List Jvm.Cond) (a1 : Addr) (a3 : Addr) (h0 : Heap) (n0 : Nat) (Z0 : n0 ≤ h0.size) (E_a1 : Exa Z h0 a1 "com/example/tallygate/tallygate/KeyType") (O_a1 : Fld Z h0 a1 "java/lang/Enum" "ordinal" "I" (.int (0 : Int32))) :
    MetFree l (⟨"com/example/tallygate/tallygate/KeyType", "canKey", "(Ljava/lang/String;Ljava/lang/String;)Z"⟩ : MethodName) (head1 (Jvm.Cond.code (⟨"com/example/tallygate/tallygate/KeyType", "canKey", "(Ljava/lang/String;Ljava/lang/String;)Z"⟩ : MethodName) prog_10_method_7_code 3 (some .boolean) :: ws) ({ frames := 1, cells := 0, slots := 0, locals := 12 } : Room)) (fun a U => a = #[(.ref a1), .null, (.ref a3)] ∧ Z.Warmed39 U.vm ∧ U.heap = h0) (fun _ _ _ _ _ => True) (fun _ U o U' => ∃ v L, o = .returned v ∧ Q_own_canKey001 Z a1 a3 h0 n0 v U'.heap L ∧ FrameEnd U o U' L ({ frames := 1, cells := 0, slots := 0, locals := 12 } : Room).cells ({ frames := 1, cells := 0, slots := 0, locals := 12 } : Room).slots) := by
  refine MetFree.of_bodySF (plainFor_of_name own_pn_own_canKey001) hisR ?_
  intro p e s m args below meth c s₁ Bd hml0 hP hK
  obtain ⟨rfl, hZ, hh⟩ := hP
  have hx := Bd.exec
  have hby := Bd.bytes
  have hml : c.maxLocals = 3 := hml0
  have hown : s.vm.findClass "com/example/tallygate/tallygate/KeyType" = some m.cls := findClass_of_methodNamed Bd.named
  have hnm := (name_of_methodNamed Bd.named Bd.method).1
  have X0 : Stand p l e ({ frames := 1, cells := 0, slots := 0, locals := 12 } : Room) s m #[(.ref a1), .null, (.ref a3)] below meth c s₁ [] 0 0 := Stand.of_body Bd
  have e0 : s₁.heap = h0 := by rw [← hh, Bd.state]; rfl
  have N0 := Fr.nil n0
  have pre0 : Goes p e below s₁ (entryFrame m #[(.ref a1), .null, (.ref a3)] 3) s₁ (mkF m 0 #[.val (.ref a1), .val .null, .val (.ref a3)] []) := fun t k => castTop (own_ef_own_canKey001 m a1 a3) k
  have pre1 : Goes p e below s₁ (entryFrame m #[(.ref a1), .null, (.ref a3)] 3) s₁ (mkF m 1 #[.val (.ref a1), .val .null, .val (.ref a3)] [(.ref a1)]) := fun t kt => pre0 t (by
      show Steps p.tables e below (s₁.setTop (mkF m 0 #[.val (.ref a1), .val .null, .val (.ref a3)] [])) _
      refine XS.aloadN X0.here hx rfl (hb hby own_d_own_canKey001_0) rfl rfl ?_
      exact kt)
  obtain ⟨cq2, kq2, q2a, q2b, q2c⟩ := isOf hZ e0 E_a1
  obtain ⟨_, _, ⟨T2, L2, k2, n2⟩, -, X2, ⟨Lc2, hQ2, l2, y2, z2⟩, st2⟩ := X0.virtualBackUp hx (x := (⟨"com/example/tallygate/tallygate/KeyType", "ordinal", "()I"⟩ : MethodName)) (y := (⟨"java/lang/Enum", "ordinal", "()I"⟩ : MethodName)) hown (mvT hZ (hw _ (List.mem_of_getElem? (i := 42) rfl))) (mvT hZ (hw _ (List.mem_of_getElem? (i := 43) rfl))) (mvT hZ (hw _ (List.mem_of_getElem? (i := 44) rfl))) (by decide) (mvT hZ (hw _ (List.mem_of_getElem? (i := 46) rfl))) (mvT hZ (hw _ (List.mem_of_getElem? (i := 45) rfl))) (backOf (W := 0) (own_ordinal l Z a0 hw [] a1 (0 : Int32) h0 n0 Z0 O_a1) hZ (hw _ (List.mem_of_getElem? (i := 48) rfl)) (hw _ (List.mem_of_getElem? (i := 47) rfl)) (by decide) (by decide)) q2a q2c (g := (mkF m 1 #[.val (.ref a1), .val .null, .val (.ref a3)] [(.ref a1)])) rfl (by rw [hml]; rfl) (Steps.refl _) (argsL := []) (rest := []) (lenOf own_pd5 rfl) rfl (by show 2 * 0 + _ ≤ _; exact Nat.le_of_eq rfl) (hb hby own_d_own_canKey001_1) (fun _ _ => ⟨rfl, e0, (by decide : 0 + 0 ≤ _), (by decide : 0 + 0 ≤ _)⟩)
  dsimp only [Pt.U, Pt.locs, Pt.cells, Pt.slots] at X2 l2 y2 z2 st2 hQ2
  subst l2 y2 z2
  obtain ⟨rfl, N2q, e2⟩ := hQ2
  have N2 := Fr.app N0 N2q
  have pre3 : Goes p e below s₁ (entryFrame m #[(.ref a1), .null, (.ref a3)] 3) T2 (mkF m 4 #[.val (.ref a1), .val .null, .val (.ref a3)] [(.int (0 : Int32))]) := fun t kt => pre1 t (st2.trans kt)
  have pre4 : Goes p e below s₁ (entryFrame m #[(.ref a1), .null, (.ref a3)] 3) T2 (mkF m 79 #[.val (.ref a1), .val .null, .val (.ref a3)] [(.int (0 : Int32))]) := fun t kt => pre3 t (by
      show Steps p.tables e below (T2.setTop (mkF m 4 #[.val (.ref a1), .val .null, .val (.ref a3)] [(.int (0 : Int32))])) _
      refine XS.tswIn X2.here hx rfl (pc0 := 4) (pc' := 42) rfl (hb hby own_d_own_canKey001_4) rfl (by decide) (o := 38) (by decide) (by decide) (by decide) ?_
      show Steps p.tables e below (T2.setTop (mkF m 42 #[.val (.ref a1), .val .null, .val (.ref a3)] [])) _
      refine XS.aloadN X2.here hx rfl (hb hby own_d_own_canKey001_42) rfl rfl ?_
      show Steps p.tables e below (T2.setTop (mkF m 43 #[.val (.ref a1), .val .null, .val (.ref a3)] [.null])) _
      refine XS.ifnullYes X2.here hx rfl (pc0 := 43) (pc' := 50) rfl (hb hby own_d_own_canKey001_43) rfl (by decide) (by decide) ?_
      show Steps p.tables e below (T2.setTop (mkF m 50 #[.val (.ref a1), .val .null, .val (.ref a3)] [])) _
      refine XS.iconst X2.here hx rfl (hb hby own_d_own_canKey001_50) ?_
      show Steps p.tables e below (T2.setTop (mkF m 51 #[.val (.ref a1), .val .null, .val (.ref a3)] [(.int (0 : Int32))])) _
      refine XS.goto X2.here hx rfl (pc0 := 51) (pc' := 79) rfl (hb hby own_d_own_canKey001_51) (by decide) (by decide) ?_
      exact kt)
  obtain ⟨fs, hr, hrun, hended, hW, hsame⟩ := X2.leave (v := some (.int (0 : Int32))) (fun h => by rw [Bd.returns] at h; cases h)
  refine ⟨_, _, pre4 _ ?_, hrun, hended, _, _, rfl, ?_, ⟨_, rfl⟩, hW, hsame.mono (by decide) (by decide)⟩
  · show Steps p.tables e below (T2.setTop (mkF m 79 #[.val (.ref a1), .val .null, .val (.ref a3)] [(.int (0 : Int32))])) _
    exact retN X2 hx (t := .boolean) Bd.returns (by simp) (hb hby own_d_own_canKey001_79) hr
  · show Q_own_canKey001 Z a1 a3 h0 n0 _ T2.heap _
    rw [e2]
    exact ⟨rfl, N2, rfl⟩
theorem own_d_own_canKey010_0 : decode prog_10_method_7_code 0 = .ok (.aload_n 0, 1) := by decide +kernel
theorem own_d_own_canKey010_1 : decode prog_10_method_7_code 1 = .ok (.invokevirtual 48, 3) := by decide +kernel
theorem own_d_own_canKey010_4 : decode prog_10_method_7_code 4 = .ok (.tableswitch 28 0 2 #[38, 50, 62], 28) := by decide +kernel
theorem own_d_own_canKey010_42 : decode prog_10_method_7_code 42 = .ok (.aload_n 1, 1) := by decide +kernel
theorem own_d_own_canKey010_43 : decode prog_10_method_7_code 43 = .ok (.ifnull 7, 3) := by decide +kernel
theorem own_d_own_canKey010_46 : decode prog_10_method_7_code 46 = .ok (.iconst 1, 1) := by decide +kernel
theorem own_d_own_canKey010_47 : decode prog_10_method_7_code 47 = .ok (.goto 32, 3) := by decide +kernel
theorem own_d_own_canKey010_79 : decode prog_10_method_7_code 79 = .ok (.ireturn, 1) := by decide +kernel
theorem own_pn_own_canKey010 : plainName "com/example/tallygate/tallygate/KeyType" = true := by first | (simp [plainName, overriddenIn]; done) | decide +kernel
theorem own_ef_own_canKey010 (m : MethodId) (x0 : Addr) (x1 : Addr) : entryFrame m #[(.ref x0), (.ref x1), .null] 3 = mkF m 0 #[.val (.ref x0), .val (.ref x1), .val .null] [] := by first | (simp [entryFrame, mkF, argsToLocals, Value.category]; done) | rfl
def Q_own_canKey010 (Z : State) (a1 : Addr) (a2 : Addr) (h0 : Heap) (n0 : Nat) (v : Option Value) (h : Heap) (L : List Loc) : Prop := v = some (.int (1 : Int32)) ∧ Fr n0 L ∧ h = h0
set_option maxRecDepth 65536 in
set_option maxHeartbeats 40000000 in
theorem own_canKey010 (l : Launch) (Z : State) (a0 : Array Value) (hw : ∀ d ∈ tables_1, d.before a0 Z = true) (ws : List Jvm.Cond) (a1 : Addr) (a2 : Addr) (h0 : Heap) (n0 : Nat) (Z0 : n0 ≤ h0.size) (E_a1 : Exa Z h0 a1 "com/example/tallygate/tallygate/KeyType") (O_a1 : Fld Z h0 a1 "java/lang/Enum" "ordinal" "I" (.int (0 : Int32))) :
    MetFree l (⟨"com/example/tallygate/tallygate/KeyType", "canKey", "(Ljava/lang/String;Ljava/lang/String;)Z"⟩ : MethodName) (head1 (Jvm.Cond.code (⟨"com/example/tallygate/tallygate/KeyType", "canKey", "(Ljava/lang/String;Ljava/lang/String;)Z"⟩ : MethodName) prog_10_method_7_code 3 (some .boolean) :: ws) ({ frames := 1, cells := 0, slots := 0, locals := 12 } : Room)) (fun a U => a = #[(.ref a1), (.ref a2), .null] ∧ Z.Warmed39 U.vm ∧ U.heap = h0) (fun _ _ _ _ _ => True) (fun _ U o U' => ∃ v L, o = .returned v ∧ Q_own_canKey010 Z a1 a2 h0 n0 v U'.heap L ∧ FrameEnd U o U' L ({ frames := 1, cells := 0, slots := 0, locals := 12 } : Room).cells ({ frames := 1, cells := 0, slots := 0, locals := 12 } : Room).slots) := by
  refine MetFree.of_bodySF (plainFor_of_name own_pn_own_canKey010) hisR ?_
  intro p e s m args below meth c s₁ Bd hml0 hP hK
  obtain ⟨rfl, hZ, hh⟩ := hP
  have hx := Bd.exec
  have hby := Bd.bytes
  have hml : c.maxLocals = 3 := hml0
  have hown : s.vm.findClass "com/example/tallygate/tallygate/KeyType" = some m.cls := findClass_of_methodNamed Bd.named
  have hnm := (name_of_methodNamed Bd.named Bd.method).1
  have X0 : Stand p l e ({ frames := 1, cells := 0, slots := 0, locals := 12 } : Room) s m #[(.ref a1), (.ref a2), .null] below meth c s₁ [] 0 0 := Stand.of_body Bd
  have e0 : s₁.heap = h0 := by rw [← hh, Bd.state]; rfl
  have N0 := Fr.nil n0
  have pre0 : Goes p e below s₁ (entryFrame m #[(.ref a1), (.ref a2), .null] 3) s₁ (mkF m 0 #[.val (.ref a1), .val (.ref a2), .val .null] []) := fun t k => castTop (own_ef_own_canKey010 m a1 a2) k
  have pre1 : Goes p e below s₁ (entryFrame m #[(.ref a1), (.ref a2), .null] 3) s₁ (mkF m 1 #[.val (.ref a1), .val (.ref a2), .val .null] [(.ref a1)]) := fun t kt => pre0 t (by
      show Steps p.tables e below (s₁.setTop (mkF m 0 #[.val (.ref a1), .val (.ref a2), .val .null] [])) _
      refine XS.aloadN X0.here hx rfl (hb hby own_d_own_canKey010_0) rfl rfl ?_
      exact kt)
  obtain ⟨cq2, kq2, q2a, q2b, q2c⟩ := isOf hZ e0 E_a1
  obtain ⟨_, _, ⟨T2, L2, k2, n2⟩, -, X2, ⟨Lc2, hQ2, l2, y2, z2⟩, st2⟩ := X0.virtualBackUp hx (x := (⟨"com/example/tallygate/tallygate/KeyType", "ordinal", "()I"⟩ : MethodName)) (y := (⟨"java/lang/Enum", "ordinal", "()I"⟩ : MethodName)) hown (mvT hZ (hw _ (List.mem_of_getElem? (i := 42) rfl))) (mvT hZ (hw _ (List.mem_of_getElem? (i := 43) rfl))) (mvT hZ (hw _ (List.mem_of_getElem? (i := 44) rfl))) (by decide) (mvT hZ (hw _ (List.mem_of_getElem? (i := 46) rfl))) (mvT hZ (hw _ (List.mem_of_getElem? (i := 45) rfl))) (backOf (W := 0) (own_ordinal l Z a0 hw [] a1 (0 : Int32) h0 n0 Z0 O_a1) hZ (hw _ (List.mem_of_getElem? (i := 48) rfl)) (hw _ (List.mem_of_getElem? (i := 47) rfl)) (by decide) (by decide)) q2a q2c (g := (mkF m 1 #[.val (.ref a1), .val (.ref a2), .val .null] [(.ref a1)])) rfl (by rw [hml]; rfl) (Steps.refl _) (argsL := []) (rest := []) (lenOf own_pd5 rfl) rfl (by show 2 * 0 + _ ≤ _; exact Nat.le_of_eq rfl) (hb hby own_d_own_canKey010_1) (fun _ _ => ⟨rfl, e0, (by decide : 0 + 0 ≤ _), (by decide : 0 + 0 ≤ _)⟩)
  dsimp only [Pt.U, Pt.locs, Pt.cells, Pt.slots] at X2 l2 y2 z2 st2 hQ2
  subst l2 y2 z2
  obtain ⟨rfl, N2q, e2⟩ := hQ2
  have N2 := Fr.app N0 N2q
  have pre3 : Goes p e below s₁ (entryFrame m #[(.ref a1), (.ref a2), .null] 3) T2 (mkF m 4 #[.val (.ref a1), .val (.ref a2), .val .null] [(.int (0 : Int32))]) := fun t kt => pre1 t (st2.trans kt)
  have pre4 : Goes p e below s₁ (entryFrame m #[(.ref a1), (.ref a2), .null] 3) T2 (mkF m 79 #[.val (.ref a1), .val (.ref a2), .val .null] [(.int (1 : Int32))]) := fun t kt => pre3 t (by
      show Steps p.tables e below (T2.setTop (mkF m 4 #[.val (.ref a1), .val (.ref a2), .val .null] [(.int (0 : Int32))])) _
      refine XS.tswIn X2.here hx rfl (pc0 := 4) (pc' := 42) rfl (hb hby own_d_own_canKey010_4) rfl (by decide) (o := 38) (by decide) (by decide) (by decide) ?_
      show Steps p.tables e below (T2.setTop (mkF m 42 #[.val (.ref a1), .val (.ref a2), .val .null] [])) _
      refine XS.aloadN X2.here hx rfl (hb hby own_d_own_canKey010_42) rfl rfl ?_
      show Steps p.tables e below (T2.setTop (mkF m 43 #[.val (.ref a1), .val (.ref a2), .val .null] [(.ref a2)])) _
      refine XS.ifnullNo X2.here hx rfl (hb hby own_d_own_canKey010_43) rfl ?_
      show Steps p.tables e below (T2.setTop (mkF m 46 #[.val (.ref a1), .val (.ref a2), .val .null] [])) _
      refine XS.iconst X2.here hx rfl (hb hby own_d_own_canKey010_46) ?_
      show Steps p.tables e below (T2.setTop (mkF m 47 #[.val (.ref a1), .val (.ref a2), .val .null] [(.int (1 : Int32))])) _
      refine XS.goto X2.here hx rfl (pc0 := 47) (pc' := 79) rfl (hb hby own_d_own_canKey010_47) (by decide) (by decide) ?_
      exact kt)
  obtain ⟨fs, hr, hrun, hended, hW, hsame⟩ := X2.leave (v := some (.int (1 : Int32))) (fun h => by rw [Bd.returns] at h; cases h)
  refine ⟨_, _, pre4 _ ?_, hrun, hended, _, _, rfl, ?_, ⟨_, rfl⟩, hW, hsame.mono (by decide) (by decide)⟩
  · show Steps p.tables e below (T2.setTop (mkF m 79 #[.val (.ref a1), .val (.ref a2), .val .null] [(.int (1 : Int32))])) _
    exact retN X2 hx (t := .boolean) Bd.returns (by simp) (hb hby own_d_own_canKey010_79) hr
  · show Q_own_canKey010 Z a1 a2 h0 n0 _ T2.heap _
    rw [e2]
    exact ⟨rfl, N2, rfl⟩
theorem own_d_own_canKey011_0 : decode prog_10_method_7_code 0 = .ok (.aload_n 0, 1) := by decide +kernel
theorem own_d_own_canKey011_1 : decode prog_10_method_7_code 1 = .ok (.invokevirtual 48, 3) := by decide +kernel
theorem own_d_own_canKey011_4 : decode prog_10_method_7_code 4 = .ok (.tableswitch 28 0 2 #[38, 50, 62], 28) := by decide +kernel
theorem own_d_own_canKey011_42 : decode prog_10_method_7_code 42 = .ok (.aload_n 1, 1) := by decide +kernel
theorem own_d_own_canKey011_43 : decode prog_10_method_7_code 43 = .ok (.ifnull 7, 3) := by decide +kernel
theorem own_d_own_canKey011_46 : decode prog_10_method_7_code 46 = .ok (.iconst 1, 1) := by decide +kernel
theorem own_d_own_canKey011_47 : decode prog_10_method_7_code 47 = .ok (.goto 32, 3) := by decide +kernel
theorem own_d_own_canKey011_79 : decode prog_10_method_7_code 79 = .ok (.ireturn, 1) := by decide +kernel
theorem own_pn_own_canKey011 : plainName "com/example/tallygate/tallygate/KeyType" = true := by first | (simp [plainName, overriddenIn]; done) | decide +kernel
theorem own_ef_own_canKey011 (m : MethodId) (x0 : Addr) (x1 : Addr) (x2 : Addr) : entryFrame m #[(.ref x0), (.ref x1), (.ref x2)] 3 = mkF m 0 #[.val (.ref x0), .val (.ref x1), .val (.ref x2)] [] := by first | (simp [entryFrame, mkF, argsToLocals, Value.category]; done) | rfl
def Q_own_canKey011 (Z : State) (a1 : Addr) (a2 : Addr) (a3 : Addr) (h0 : Heap) (n0 : Nat) (v : Option Value) (h : Heap) (L : List Loc) : Prop := v = some (.int (1 : Int32)) ∧ Fr n0 L ∧ h = h0
set_option maxRecDepth 65536 in
set_option maxHeartbeats 40000000 in
theorem own_canKey011 (l : Launch) (Z : State) (a0 : Array Value) (hw : ∀ d ∈ tables_1, d.before a0 Z = true) (ws : List Jvm.Cond) (a1 : Addr) (a2 : Addr) (a3 : Addr) (h0 : Heap) (n0 : Nat) (Z0 : n0 ≤ h0.size) (E_a1 : Exa Z h0 a1 "com/example/tallygate/tallygate/KeyType") (O_a1 : Fld Z h0 a1 "java/lang/Enum" "ordinal" "I" (.int (0 : Int32))) :
    MetFree l (⟨"com/example/tallygate/tallygate/KeyType", "canKey", "(Ljava/lang/String;Ljava/lang/String;)Z"⟩ : MethodName) (head1 (Jvm.Cond.code (⟨"com/example/tallygate/tallygate/KeyType", "canKey", "(Ljava/lang/String;Ljava/lang/String;)Z"⟩ : MethodName) prog_10_method_7_code 3 (some .boolean) :: ws) ({ frames := 1, cells := 0, slots := 0, locals := 12 } : Room)) (fun a U => a = #[(.ref a1), (.ref a2), (.ref a3)] ∧ Z.Warmed39 U.vm ∧ U.heap = h0) (fun _ _ _ _ _ => True) (fun _ U o U' => ∃ v L, o = .returned v ∧ Q_own_canKey011 Z a1 a2 a3 h0 n0 v U'.heap L ∧ FrameEnd U o U' L ({ frames := 1, cells := 0, slots := 0, locals := 12 } : Room).cells ({ frames := 1, cells := 0, slots := 0, locals := 12 } : Room).slots) := by
  refine MetFree.of_bodySF (plainFor_of_name own_pn_own_canKey011) hisR ?_
  intro p e s m args below meth c s₁ Bd hml0 hP hK
  obtain ⟨rfl, hZ, hh⟩ := hP
  have hx := Bd.exec
  have hby := Bd.bytes
  have hml : c.maxLocals = 3 := hml0
  have hown : s.vm.findClass "com/example/tallygate/tallygate/KeyType" = some m.cls := findClass_of_methodNamed Bd.named
  have hnm := (name_of_methodNamed Bd.named Bd.method).1
  have X0 : Stand p l e ({ frames := 1, cells := 0, slots := 0, locals := 12 } : Room) s m #[(.ref a1), (.ref a2), (.ref a3)] below meth c s₁ [] 0 0 := Stand.of_body Bd
  have e0 : s₁.heap = h0 := by rw [← hh, Bd.state]; rfl
  have N0 := Fr.nil n0
  have pre0 : Goes p e below s₁ (entryFrame m #[(.ref a1), (.ref a2), (.ref a3)] 3) s₁ (mkF m 0 #[.val (.ref a1), .val (.ref a2), .val (.ref a3)] []) := fun t k => castTop (own_ef_own_canKey011 m a1 a2 a3) k
  have pre1 : Goes p e below s₁ (entryFrame m #[(.ref a1), (.ref a2), (.ref a3)] 3) s₁ (mkF m 1 #[.val (.ref a1), .val (.ref a2), .val (.ref a3)] [(.ref a1)]) := fun t kt => pre0 t (by
      show Steps p.tables e below (s₁.setTop (mkF m 0 #[.val (.ref a1), .val (.ref a2), .val (.ref a3)] [])) _
      refine XS.aloadN X0.here hx rfl (hb hby own_d_own_canKey011_0) rfl rfl ?_
      exact kt)
  obtain ⟨cq2, kq2, q2a, q2b, q2c⟩ := isOf hZ e0 E_a1
  obtain ⟨_, _, ⟨T2, L2, k2, n2⟩, -, X2, ⟨Lc2, hQ2, l2, y2, z2⟩, st2⟩ := X0.virtualBackUp hx (x := (⟨"com/example/tallygate/tallygate/KeyType", "ordinal", "()I"⟩ : MethodName)) (y := (⟨"java/lang/Enum", "ordinal", "()I"⟩ : MethodName)) hown (mvT hZ (hw _ (List.mem_of_getElem? (i := 42) rfl))) (mvT hZ (hw _ (List.mem_of_getElem? (i := 43) rfl))) (mvT hZ (hw _ (List.mem_of_getElem? (i := 44) rfl))) (by decide) (mvT hZ (hw _ (List.mem_of_getElem? (i := 46) rfl))) (mvT hZ (hw _ (List.mem_of_getElem? (i := 45) rfl))) (backOf (W := 0) (own_ordinal l Z a0 hw [] a1 (0 : Int32) h0 n0 Z0 O_a1) hZ (hw _ (List.mem_of_getElem? (i := 48) rfl)) (hw _ (List.mem_of_getElem? (i := 47) rfl)) (by decide) (by decide)) q2a q2c (g := (mkF m 1 #[.val (.ref a1), .val (.ref a2), .val (.ref a3)] [(.ref a1)])) rfl (by rw [hml]; rfl) (Steps.refl _) (argsL := []) (rest := []) (lenOf own_pd5 rfl) rfl (by show 2 * 0 + _ ≤ _; exact Nat.le_of_eq rfl) (hb hby own_d_own_canKey011_1) (fun _ _ => ⟨rfl, e0, (by decide : 0 + 0 ≤ _), (by decide : 0 + 0 ≤ _)⟩)
  dsimp only [Pt.U, Pt.locs, Pt.cells, Pt.slots] at X2 l2 y2 z2 st2 hQ2
  subst l2 y2 z2
  obtain ⟨rfl, N2q, e2⟩ := hQ2
  have N2 := Fr.app N0 N2q
  have pre3 : Goes p e below s₁ (entryFrame m #[(.ref a1), (.ref a2), (.ref a3)] 3) T2 (mkF m 4 #[.val (.ref a1), .val (.ref a2), .val (.ref a3)] [(.int (0 : Int32))]) := fun t kt => pre1 t (st2.trans kt)
  have pre4 : Goes p e below s₁ (entryFrame m #[(.ref a1), (.ref a2), (.ref a3)] 3) T2 (mkF m 79 #[.val (.ref a1), .val (.ref a2), .val (.ref a3)] [(.int (1 : Int32))]) := fun t kt => pre3 t (by
      show Steps p.tables e below (T2.setTop (mkF m 4 #[.val (.ref a1), .val (.ref a2), .val (.ref a3)] [(.int (0 : Int32))])) _
      refine XS.tswIn X2.here hx rfl (pc0 := 4) (pc' := 42) rfl (hb hby own_d_own_canKey011_4) rfl (by decide) (o := 38) (by decide) (by decide) (by decide) ?_
      show Steps p.tables e below (T2.setTop (mkF m 42 #[.val (.ref a1), .val (.ref a2), .val (.ref a3)] [])) _
      refine XS.aloadN X2.here hx rfl (hb hby own_d_own_canKey011_42) rfl rfl ?_
      show Steps p.tables e below (T2.setTop (mkF m 43 #[.val (.ref a1), .val (.ref a2), .val (.ref a3)] [(.ref a2)])) _
      refine XS.ifnullNo X2.here hx rfl (hb hby own_d_own_canKey011_43) rfl ?_
      show Steps p.tables e below (T2.setTop (mkF m 46 #[.val (.ref a1), .val (.ref a2), .val (.ref a3)] [])) _
      refine XS.iconst X2.here hx rfl (hb hby own_d_own_canKey011_46) ?_
      show Steps p.tables e below (T2.setTop (mkF m 47 #[.val (.ref a1), .val (.ref a2), .val (.ref a3)] [(.int (1 : Int32))])) _
      refine XS.goto X2.here hx rfl (pc0 := 47) (pc' := 79) rfl (hb hby own_d_own_canKey011_47) (by decide) (by decide) ?_
      exact kt)
  obtain ⟨fs, hr, hrun, hended, hW, hsame⟩ := X2.leave (v := some (.int (1 : Int32))) (fun h => by rw [Bd.returns] at h; cases h)
  refine ⟨_, _, pre4 _ ?_, hrun, hended, _, _, rfl, ?_, ⟨_, rfl⟩, hW, hsame.mono (by decide) (by decide)⟩
  · show Steps p.tables e below (T2.setTop (mkF m 79 #[.val (.ref a1), .val (.ref a2), .val (.ref a3)] [(.int (1 : Int32))])) _
    exact retN X2 hx (t := .boolean) Bd.returns (by simp) (hb hby own_d_own_canKey011_79) hr
  · show Q_own_canKey011 Z a1 a2 a3 h0 n0 _ T2.heap _
    rw [e2]
    exact ⟨rfl, N2, rfl⟩
theorem own_d_own_canKey100_0 : decode prog_10_method_7_code 0 = .ok (.aload_n 0, 1) := by decide +kernel
theorem own_d_own_canKey100_1 : decode prog_10_method_7_code 1 = .ok (.invokevirtual 48, 3) := by decide +kernel
theorem own_d_own_canKey100_4 : decode prog_10_method_7_code 4 = .ok (.tableswitch 28 0 2 #[38, 50, 62], 28) := by decide +kernel
theorem own_d_own_canKey100_54 : decode prog_10_method_7_code 54 = .ok (.aload_n 2, 1) := by decide +kernel
theorem own_d_own_canKey100_55 : decode prog_10_method_7_code 55 = .ok (.ifnull 7, 3) := by decide +kernel
theorem own_d_own_canKey100_62 : decode prog_10_method_7_code 62 = .ok (.iconst 0, 1) := by decide +kernel
theorem own_d_own_canKey100_63 : decode prog_10_method_7_code 63 = .ok (.goto 16, 3) := by decide +kernel
theorem own_d_own_canKey100_79 : decode prog_10_method_7_code 79 = .ok (.ireturn, 1) := by decide +kernel
theorem own_pn_own_canKey100 : plainName "com/example/tallygate/tallygate/KeyType" = true := by first | (simp [plainName, overriddenIn]; done) | decide +kernel
theorem own_ef_own_canKey100 (m : MethodId) (x0 : Addr) : entryFrame m #[(.ref x0), .null, .null] 3 = mkF m 0 #[.val (.ref x0), .val .null, .val .null] [] := by first | (simp [entryFrame, mkF, argsToLocals, Value.category]; done) | rfl
def Q_own_canKey100 (Z : State) (a1 : Addr) (h0 : Heap) (n0 : Nat) (v : Option Value) (h : Heap) (L : List Loc) : Prop := v = some (.int (0 : Int32)) ∧ Fr n0 L ∧ h = h0
set_option maxRecDepth 65536 in
set_option maxHeartbeats 40000000 in
theorem own_canKey100 (l : Launch) (Z : State) (a0 : Array Value) (hw : ∀ d ∈ tables_1, d.before a0 Z = true) (ws : List Jvm.Cond) (a1 : Addr) (h0 : Heap) (n0 : Nat) (Z0 : n0 ≤ h0.size) (E_a1 : Exa Z h0 a1 "com/example/tallygate/tallygate/KeyType") (O_a1 : Fld Z h0 a1 "java/lang/Enum" "ordinal" "I" (.int (1 : Int32))) :
    MetFree l (⟨"com/example/tallygate/tallygate/KeyType", "canKey", "(Ljava/lang/String;Ljava/lang/String;)Z"⟩ : MethodName) (head1 (Jvm.Cond.code (⟨"com/example/tallygate/tallygate/KeyType", "canKey", "(Ljava/lang/String;Ljava/lang/String;)Z"⟩ : MethodName) prog_10_method_7_code 3 (some .boolean) :: ws) ({ frames := 1, cells := 0, slots := 0, locals := 12 } : Room)) (fun a U => a = #[(.ref a1), .null, .null] ∧ Z.Warmed39 U.vm ∧ U.heap = h0) (fun _ _ _ _ _ => True) (fun _ U o U' => ∃ v L, o = .returned v ∧ Q_own_canKey100 Z a1 h0 n0 v U'.heap L ∧ FrameEnd U o U' L ({ frames := 1, cells := 0, slots := 0, locals := 12 } : Room).cells ({ frames := 1, cells := 0, slots := 0, locals := 12 } : Room).slots) := by
  refine MetFree.of_bodySF (plainFor_of_name own_pn_own_canKey100) hisR ?_
  intro p e s m args below meth c s₁ Bd hml0 hP hK
  obtain ⟨rfl, hZ, hh⟩ := hP
  have hx := Bd.exec
  have hby := Bd.bytes
  have hml : c.maxLocals = 3 := hml0
  have hown : s.vm.findClass "com/example/tallygate/tallygate/KeyType" = some m.cls := findClass_of_methodNamed Bd.named
  have hnm := (name_of_methodNamed Bd.named Bd.method).1
  have X0 : Stand p l e ({ frames := 1, cells := 0, slots := 0, locals := 12 } : Room) s m #[(.ref a1), .null, .null] below meth c s₁ [] 0 0 := Stand.of_body Bd
  have e0 : s₁.heap = h0 := by rw [← hh, Bd.state]; rfl
  have N0 := Fr.nil n0
  have pre0 : Goes p e below s₁ (entryFrame m #[(.ref a1), .null, .null] 3) s₁ (mkF m 0 #[.val (.ref a1), .val .null, .val .null] []) := fun t k => castTop (own_ef_own_canKey100 m a1) k
  have pre1 : Goes p e below s₁ (entryFrame m #[(.ref a1), .null, .null] 3) s₁ (mkF m 1 #[.val (.ref a1), .val .null, .val .null] [(.ref a1)]) := fun t kt => pre0 t (by
      show Steps p.tables e below (s₁.setTop (mkF m 0 #[.val (.ref a1), .val .null, .val .null] [])) _
      refine XS.aloadN X0.here hx rfl (hb hby own_d_own_canKey100_0) rfl rfl ?_
      exact kt)
  obtain ⟨cq2, kq2, q2a, q2b, q2c⟩ := isOf hZ e0 E_a1
  obtain ⟨_, _, ⟨T2, L2, k2, n2⟩, -, X2, ⟨Lc2, hQ2, l2, y2, z2⟩, st2⟩ := X0.virtualBackUp hx (x := (⟨"com/example/tallygate/tallygate/KeyType", "ordinal", "()I"⟩ : MethodName)) (y := (⟨"java/lang/Enum", "ordinal", "()I"⟩ : MethodName)) hown (mvT hZ (hw _ (List.mem_of_getElem? (i := 42) rfl))) (mvT hZ (hw _ (List.mem_of_getElem? (i := 43) rfl))) (mvT hZ (hw _ (List.mem_of_getElem? (i := 44) rfl))) (by decide) (mvT hZ (hw _ (List.mem_of_getElem? (i := 46) rfl))) (mvT hZ (hw _ (List.mem_of_getElem? (i := 45) rfl))) (backOf (W := 0) (own_ordinal l Z a0 hw [] a1 (1 : Int32) h0 n0 Z0 O_a1) hZ (hw _ (List.mem_of_getElem? (i := 48) rfl)) (hw _ (List.mem_of_getElem? (i := 47) rfl)) (by decide) (by decide)) q2a q2c (g := (mkF m 1 #[.val (.ref a1), .val .null, .val .null] [(.ref a1)])) rfl (by rw [hml]; rfl) (Steps.refl _) (argsL := []) (rest := []) (lenOf own_pd5 rfl) rfl (by show 2 * 0 + _ ≤ _; exact Nat.le_of_eq rfl) (hb hby own_d_own_canKey100_1) (fun _ _ => ⟨rfl, e0, (by decide : 0 + 0 ≤ _), (by decide : 0 + 0 ≤ _)⟩)
  dsimp only [Pt.U, Pt.locs, Pt.cells, Pt.slots] at X2 l2 y2 z2 st2 hQ2
  subst l2 y2 z2
  obtain ⟨rfl, N2q, e2⟩ := hQ2
  have N2 := Fr.app N0 N2q
  have pre3 : Goes p e below s₁ (entryFrame m #[(.ref a1), .null, .null] 3) T2 (mkF m 4 #[.val (.ref a1), .val .null, .val .null] [(.int (1 : Int32))]) := fun t kt => pre1 t (st2.trans kt)
  have pre4 : Goes p e below s₁ (entryFrame m #[(.ref a1), .null, .null] 3) T2 (mkF m 79 #[.val (.ref a1), .val .null, .val .null] [(.int (0 : Int32))]) := fun t kt => pre3 t (by
      show Steps p.tables e below (T2.setTop (mkF m 4 #[.val (.ref a1), .val .null, .val .null] [(.int (1 : Int32))])) _
      refine XS.tswIn X2.here hx rfl (pc0 := 4) (pc' := 54) rfl (hb hby own_d_own_canKey100_4) rfl (by decide) (o := 50) (by decide) (by decide) (by decide) ?_
      show Steps p.tables e below (T2.setTop (mkF m 54 #[.val (.ref a1), .val .null, .val .null] [])) _
      refine XS.aloadN X2.here hx rfl (hb hby own_d_own_canKey100_54) rfl rfl ?_
      show Steps p.tables e below (T2.setTop (mkF m 55 #[.val (.ref a1), .val .null, .val .null] [.null])) _
      refine XS.ifnullYes X2.here hx rfl (pc0 := 55) (pc' := 62) rfl (hb hby own_d_own_canKey100_55) rfl (by decide) (by decide) ?_
      show Steps p.tables e below (T2.setTop (mkF m 62 #[.val (.ref a1), .val .null, .val .null] [])) _
      refine XS.iconst X2.here hx rfl (hb hby own_d_own_canKey100_62) ?_
      show Steps p.tables e below (T2.setTop (mkF m 63 #[.val (.ref a1), .val .null, .val .null] [(.int (0 : Int32))])) _
      refine XS.goto X2.here hx rfl (pc0 := 63) (pc' := 79) rfl (hb hby own_d_own_canKey100_63) (by decide) (by decide) ?_
      exact kt)
  obtain ⟨fs, hr, hrun, hended, hW, hsame⟩ := X2.leave (v := some (.int (0 : Int32))) (fun h => by rw [Bd.returns] at h; cases h)
  refine ⟨_, _, pre4 _ ?_, hrun, hended, _, _, rfl, ?_, ⟨_, rfl⟩, hW, hsame.mono (by decide) (by decide)⟩
  · show Steps p.tables e below (T2.setTop (mkF m 79 #[.val (.ref a1), .val .null, .val .null] [(.int (0 : Int32))])) _
    exact retN X2 hx (t := .boolean) Bd.returns (by simp) (hb hby own_d_own_canKey100_79) hr
  · show Q_own_canKey100 Z a1 h0 n0 _ T2.heap _
    rw [e2]
    exact ⟨rfl, N2, rfl⟩
theorem own_d_own_canKey101_0 : decode prog_10_method_7_code 0 = .ok (.aload_n 0, 1) := by decide +kernel
theorem own_d_own_canKey101_1 : decode prog_10_method_7_code 1 = .ok (.invokevirtual 48, 3) := by decide +kernel
theorem own_d_own_canKey101_4 : decode prog_10_method_7_code 4 = .ok (.tableswitch 28 0 2 #[38, 50, 62], 28) := by decide +kernel
theorem own_d_own_canKey101_54 : decode prog_10_method_7_code 54 = .ok (.aload_n 2, 1) := by decide +kernel
theorem own_d_own_canKey101_55 : decode prog_10_method_7_code 55 = .ok (.ifnull 7, 3) := by decide +kernel
theorem own_d_own_canKey101_58 : decode prog_10_method_7_code 58 = .ok (.iconst 1, 1) := by decide +kernel
theorem own_d_own_canKey101_59 : decode prog_10_method_7_code 59 = .ok (.goto 20, 3) := by decide +kernel
theorem own_d_own_canKey101_79 : decode prog_10_method_7_code 79 = .ok (.ireturn, 1) := by decide +kernel
theorem own_pn_own_canKey101 : plainName "com/example/tallygate/tallygate/KeyType" = true := by first | (simp [plainName, overriddenIn]; done) | decide +kernel
theorem own_ef_own_canKey101 (m : MethodId) (x0 : Addr) (x2 : Addr) : entryFrame m #[(.ref x0), .null, (.ref x2)] 3 = mkF m 0 #[.val (.ref x0), .val .null, .val (.ref x2)] [] := by first | (simp [entryFrame, mkF, argsToLocals, Value.category]; done) | rfl
def Q_own_canKey101 (Z : State) (a1 : Addr) (a3 : Addr) (h0 : Heap) (n0 : Nat) (v : Option Value) (h : Heap) (L : List Loc) : Prop := v = some (.int (1 : Int32)) ∧ Fr n0 L ∧ h = h0
set_option maxRecDepth 65536 in
set_option maxHeartbeats 40000000 in
theorem own_canKey101 (l : Launch) (Z : State) (a0 : Array Value) (hw : ∀ d ∈ tables_1, d.before a0 Z = true) (ws : List Jvm.Cond) (a1 : Addr) (a3 : Addr) (h0 : Heap) (n0 : Nat) (Z0 : n0 ≤ h0.size) (E_a1 : Exa Z h0 a1 "com/example/tallygate/tallygate/KeyType") (O_a1 : Fld Z h0 a1 "java/lang/Enum" "ordinal" "I" (.int (1 : Int32))) :
    MetFree l (⟨"com/example/tallygate/tallygate/KeyType", "canKey", "(Ljava/lang/String;Ljava/lang/String;)Z"⟩ : MethodName) (head1 (Jvm.Cond.code (⟨"com/example/tallygate/tallygate/KeyType", "canKey", "(Ljava/lang/String;Ljava/lang/String;)Z"⟩ : MethodName) prog_10_method_7_code 3 (some .boolean) :: ws) ({ frames := 1, cells := 0, slots := 0, locals := 12 } : Room)) (fun a U => a = #[(.ref a1), .null, (.ref a3)] ∧ Z.Warmed39 U.vm ∧ U.heap = h0) (fun _ _ _ _ _ => True) (fun _ U o U' => ∃ v L, o = .returned v ∧ Q_own_canKey101 Z a1 a3 h0 n0 v U'.heap L ∧ FrameEnd U o U' L ({ frames := 1, cells := 0, slots := 0, locals := 12 } : Room).cells ({ frames := 1, cells := 0, slots := 0, locals := 12 } : Room).slots) := by
  refine MetFree.of_bodySF (plainFor_of_name own_pn_own_canKey101) hisR ?_
  intro p e s m args below meth c s₁ Bd hml0 hP hK
  obtain ⟨rfl, hZ, hh⟩ := hP
  have hx := Bd.exec
  have hby := Bd.bytes
  have hml : c.maxLocals = 3 := hml0
  have hown : s.vm.findClass "com/example/tallygate/tallygate/KeyType" = some m.cls := findClass_of_methodNamed Bd.named
  have hnm := (name_of_methodNamed Bd.named Bd.method).1
  have X0 : Stand p l e ({ frames := 1, cells := 0, slots := 0, locals := 12 } : Room) s m #[(.ref a1), .null, (.ref a3)] below meth c s₁ [] 0 0 := Stand.of_body Bd
  have e0 : s₁.heap = h0 := by rw [← hh, Bd.state]; rfl
  have N0 := Fr.nil n0
  have pre0 : Goes p e below s₁ (entryFrame m #[(.ref a1), .null, (.ref a3)] 3) s₁ (mkF m 0 #[.val (.ref a1), .val .null, .val (.ref a3)] []) := fun t k => castTop (own_ef_own_canKey101 m a1 a3) k
  have pre1 : Goes p e below s₁ (entryFrame m #[(.ref a1), .null, (.ref a3)] 3) s₁ (mkF m 1 #[.val (.ref a1), .val .null, .val (.ref a3)] [(.ref a1)]) := fun t kt => pre0 t (by
      show Steps p.tables e below (s₁.setTop (mkF m 0 #[.val (.ref a1), .val .null, .val (.ref a3)] [])) _
      refine XS.aloadN X0.here hx rfl (hb hby own_d_own_canKey101_0) rfl rfl ?_
      exact kt)
  obtain ⟨cq2, kq2, q2a, q2b, q2c⟩ := isOf hZ e0 E_a1
  obtain ⟨_, _, ⟨T2, L2, k2, n2⟩, -, X2, ⟨Lc2, hQ2, l2, y2, z2⟩, st2⟩ := X0.virtualBackUp hx (x := (⟨"com/example/tallygate/tallygate/KeyType", "ordinal", "()I"⟩ : MethodName)) (y := (⟨"java/lang/Enum", "ordinal", "()I"⟩ : MethodName)) hown (mvT hZ (hw _ (List.mem_of_getElem? (i := 42) rfl))) (mvT hZ (hw _ (List.mem_of_getElem? (i := 43) rfl))) (mvT hZ (hw _ (List.mem_of_getElem? (i := 44) rfl))) (by decide) (mvT hZ (hw _ (List.mem_of_getElem? (i := 46) rfl))) (mvT hZ (hw _ (List.mem_of_getElem? (i := 45) rfl))) (backOf (W := 0) (own_ordinal l Z a0 hw [] a1 (1 : Int32) h0 n0 Z0 O_a1) hZ (hw _ (List.mem_of_getElem? (i := 48) rfl)) (hw _ (List.mem_of_getElem? (i := 47) rfl)) (by decide) (by decide)) q2a q2c (g := (mkF m 1 #[.val (.ref a1), .val .null, .val (.ref a3)] [(.ref a1)])) rfl (by rw [hml]; rfl) (Steps.refl _) (argsL := []) (rest := []) (lenOf own_pd5 rfl) rfl (by show 2 * 0 + _ ≤ _; exact Nat.le_of_eq rfl) (hb hby own_d_own_canKey101_1) (fun _ _ => ⟨rfl, e0, (by decide : 0 + 0 ≤ _), (by decide : 0 + 0 ≤ _)⟩)
  dsimp only [Pt.U, Pt.locs, Pt.cells, Pt.slots] at X2 l2 y2 z2 st2 hQ2
  subst l2 y2 z2
  obtain ⟨rfl, N2q, e2⟩ := hQ2
  have N2 := Fr.app N0 N2q
  have pre3 : Goes p e below s₁ (entryFrame m #[(.ref a1), .null, (.ref a3)] 3) T2 (mkF m 4 #[.val (.ref a1), .val .null, .val (.ref a3)] [(.int (1 : Int32))]) := fun t kt => pre1 t (st2.trans kt)
  have pre4 : Goes p e below s₁ (entryFrame m #[(.ref a1), .null, (.ref a3)] 3) T2 (mkF m 79 #[.val (.ref a1), .val .null, .val (.ref a3)] [(.int (1 : Int32))]) := fun t kt => pre3 t (by
      show Steps p.tables e below (T2.setTop (mkF m 4 #[.val (.ref a1), .val .null, .val (.ref a3)] [(.int (1 : Int32))])) _
      refine XS.tswIn X2.here hx rfl (pc0 := 4) (pc' := 54) rfl (hb hby own_d_own_canKey101_4) rfl (by decide) (o := 50) (by decide) (by decide) (by decide) ?_
      show Steps p.tables e below (T2.setTop (mkF m 54 #[.val (.ref a1), .val .null, .val (.ref a3)] [])) _
      refine XS.aloadN X2.here hx rfl (hb hby own_d_own_canKey101_54) rfl rfl ?_
      show Steps p.tables e below (T2.setTop (mkF m 55 #[.val (.ref a1), .val .null, .val (.ref a3)] [(.ref a3)])) _
      refine XS.ifnullNo X2.here hx rfl (hb hby own_d_own_canKey101_55) rfl ?_
      show Steps p.tables e below (T2.setTop (mkF m 58 #[.val (.ref a1), .val .null, .val (.ref a3)] [])) _
      refine XS.iconst X2.here hx rfl (hb hby own_d_own_canKey101_58) ?_
      show Steps p.tables e below (T2.setTop (mkF m 59 #[.val (.ref a1), .val .null, .val (.ref a3)] [(.int (1 : Int32))])) _
      refine XS.goto X2.here hx rfl (pc0 := 59) (pc' := 79) rfl (hb hby own_d_own_canKey101_59) (by decide) (by decide) ?_
      exact kt)
  obtain ⟨fs, hr, hrun, hended, hW, hsame⟩ := X2.leave (v := some (.int (1 : Int32))) (fun h => by rw [Bd.returns] at h; cases h)
  refine ⟨_, _, pre4 _ ?_, hrun, hended, _, _, rfl, ?_, ⟨_, rfl⟩, hW, hsame.mono (by decide) (by decide)⟩
  · show Steps p.tables e below (T2.setTop (mkF m 79 #[.val (.ref a1), .val .null, .val (.ref a3)] [(.int (1 : Int32))])) _
    exact retN X2 hx (t := .boolean) Bd.returns (by simp) (hb hby own_d_own_canKey101_79) hr
  · show Q_own_canKey101 Z a1 a3 h0 n0 _ T2.heap _
    rw [e2]
    exact ⟨rfl, N2, rfl⟩
theorem own_d_own_canKey110_0 : decode prog_10_method_7_code 0 = .ok (.aload_n 0, 1) := by decide +kernel
theorem own_d_own_canKey110_1 : decode prog_10_method_7_code 1 = .ok (.invokevirtual 48, 3) := by decide +kernel
theorem own_d_own_canKey110_4 : decode prog_10_method_7_code 4 = .ok (.tableswitch 28 0 2 #[38, 50, 62], 28) := by decide +kernel
theorem own_d_own_canKey110_54 : decode prog_10_method_7_code 54 = .ok (.aload_n 2, 1) := by decide +kernel
theorem own_d_own_canKey110_55 : decode prog_10_method_7_code 55 = .ok (.ifnull 7, 3) := by decide +kernel
theorem own_d_own_canKey110_62 : decode prog_10_method_7_code 62 = .ok (.iconst 0, 1) := by decide +kernel
theorem own_d_own_canKey110_63 : decode prog_10_method_7_code 63 = .ok (.goto 16, 3) := by decide +kernel
theorem own_d_own_canKey110_79 : decode prog_10_method_7_code 79 = .ok (.ireturn, 1) := by decide +kernel
theorem own_pn_own_canKey110 : plainName "com/example/tallygate/tallygate/KeyType" = true := by first | (simp [plainName, overriddenIn]; done) | decide +kernel
theorem own_ef_own_canKey110 (m : MethodId) (x0 : Addr) (x1 : Addr) : entryFrame m #[(.ref x0), (.ref x1), .null] 3 = mkF m 0 #[.val (.ref x0), .val (.ref x1), .val .null] [] := by first | (simp [entryFrame, mkF, argsToLocals, Value.category]; done) | rfl
def Q_own_canKey110 (Z : State) (a1 : Addr) (a2 : Addr) (h0 : Heap) (n0 : Nat) (v : Option Value) (h : Heap) (L : List Loc) : Prop := v = some (.int (0 : Int32)) ∧ Fr n0 L ∧ h = h0
set_option maxRecDepth 65536 in
set_option maxHeartbeats 40000000 in
theorem own_canKey110 (l : Launch) (Z : State) (a0 : Array Value) (hw : ∀ d ∈ tables_1, d.before a0 Z = true) (ws : List Jvm.Cond) (a1 : Addr) (a2 : Addr) (h0 : Heap) (n0 : Nat) (Z0 : n0 ≤ h0.size) (E_a1 : Exa Z h0 a1 "com/example/tallygate/tallygate/KeyType") (O_a1 : Fld Z h0 a1 "java/lang/Enum" "ordinal" "I" (.int (1 : Int32))) :
    MetFree l (⟨"com/example/tallygate/tallygate/KeyType", "canKey", "(Ljava/lang/String;Ljava/lang/String;)Z"⟩ : MethodName) (head1 (Jvm.Cond.code (⟨"com/example/tallygate/tallygate/KeyType", "canKey", "(Ljava/lang/String;Ljava/lang/String;)Z"⟩ : MethodName) prog_10_method_7_code 3 (some .boolean) :: ws) ({ frames := 1, cells := 0, slots := 0, locals := 12 } : Room)) (fun a U => a = #[(.ref a1), (.ref a2), .null] ∧ Z.Warmed39 U.vm ∧ U.heap = h0) (fun _ _ _ _ _ => True) (fun _ U o U' => ∃ v L, o = .returned v ∧ Q_own_canKey110 Z a1 a2 h0 n0 v U'.heap L ∧ FrameEnd U o U' L ({ frames := 1, cells := 0, slots := 0, locals := 12 } : Room).cells ({ frames := 1, cells := 0, slots := 0, locals := 12 } : Room).slots) := by
  refine MetFree.of_bodySF (plainFor_of_name own_pn_own_canKey110) hisR ?_
  intro p e s m args below meth c s₁ Bd hml0 hP hK
  obtain ⟨rfl, hZ, hh⟩ := hP
  have hx := Bd.exec
  have hby := Bd.bytes
  have hml : c.maxLocals = 3 := hml0
  have hown : s.vm.findClass "com/example/tallygate/tallygate/KeyType" = some m.cls := findClass_of_methodNamed Bd.named
  have hnm := (name_of_methodNamed Bd.named Bd.method).1
  have X0 : Stand p l e ({ frames := 1, cells := 0, slots := 0, locals := 12 } : Room) s m #[(.ref a1), (.ref a2), .null] below meth c s₁ [] 0 0 := Stand.of_body Bd
  have e0 : s₁.heap = h0 := by rw [← hh, Bd.state]; rfl
  have N0 := Fr.nil n0
  have pre0 : Goes p e below s₁ (entryFrame m #[(.ref a1), (.ref a2), .null] 3) s₁ (mkF m 0 #[.val (.ref a1), .val (.ref a2), .val .null] []) := fun t k => castTop (own_ef_own_canKey110 m a1 a2) k
  have pre1 : Goes p e below s₁ (entryFrame m #[(.ref a1), (.ref a2), .null] 3) s₁ (mkF m 1 #[.val (.ref a1), .val (.ref a2), .val .null] [(.ref a1)]) := fun t kt => pre0 t (by
      show Steps p.tables e below (s₁.setTop (mkF m 0 #[.val (.ref a1), .val (.ref a2), .val .null] [])) _
      refine XS.aloadN X0.here hx rfl (hb hby own_d_own_canKey110_0) rfl rfl ?_
      exact kt)
  obtain ⟨cq2, kq2, q2a, q2b, q2c⟩ := isOf hZ e0 E_a1
  obtain ⟨_, _, ⟨T2, L2, k2, n2⟩, -, X2, ⟨Lc2, hQ2, l2, y2, z2⟩, st2⟩ := X0.virtualBackUp hx (x := (⟨"com/example/tallygate/tallygate/KeyType", "ordinal", "()I"⟩ : MethodName)) (y := (⟨"java/lang/Enum", "ordinal", "()I"⟩ : MethodName)) hown (mvT hZ (hw _ (List.mem_of_getElem? (i := 42) rfl))) (mvT hZ (hw _ (List.mem_of_getElem? (i := 43) rfl))) (mvT hZ (hw _ (List.mem_of_getElem? (i := 44) rfl))) (by decide) (mvT hZ (hw _ (List.mem_of_getElem? (i := 46) rfl))) (mvT hZ (hw _ (List.mem_of_getElem? (i := 45) rfl))) (backOf (W := 0) (own_ordinal l Z a0 hw [] a1 (1 : Int32) h0 n0 Z0 O_a1) hZ (hw _ (List.mem_of_getElem? (i := 48) rfl)) (hw _ (List.mem_of_getElem? (i := 47) rfl)) (by decide) (by decide)) q2a q2c (g := (mkF m 1 #[.val (.ref a1), .val (.ref a2), .val .null] [(.ref a1)])) rfl (by rw [hml]; rfl) (Steps.refl _) (argsL := []) (rest := []) (lenOf own_pd5 rfl) rfl (by show 2 * 0 + _ ≤ _; exact Nat.le_of_eq rfl) (hb hby own_d_own_canKey110_1) (fun _ _ => ⟨rfl, e0, (by decide : 0 + 0 ≤ _), (by decide : 0 + 0 ≤ _)⟩)
  dsimp only [Pt.U, Pt.locs, Pt.cells, Pt.slots] at X2 l2 y2 z2 st2 hQ2
  subst l2 y2 z2
  obtain ⟨rfl, N2q, e2⟩ := hQ2
  have N2 := Fr.app N0 N2q
  have pre3 : Goes p e below s₁ (entryFrame m #[(.ref a1), (.ref a2), .null] 3) T2 (mkF m 4 #[.val (.ref a1), .val (.ref a2), .val .null] [(.int (1 : Int32))]) := fun t kt => pre1 t (st2.trans kt)
  have pre4 : Goes p e below s₁ (entryFrame m #[(.ref a1), (.ref a2), .null] 3) T2 (mkF m 79 #[.val (.ref a1), .val (.ref a2), .val .null] [(.int (0 : Int32))]) := fun t kt => pre3 t (by
      show Steps p.tables e below (T2.setTop (mkF m 4 #[.val (.ref a1), .val (.ref a2), .val .null] [(.int (1 : Int32))])) _
      refine XS.tswIn X2.here hx rfl (pc0 := 4) (pc' := 54) rfl (hb hby own_d_own_canKey110_4) rfl (by decide) (o := 50) (by decide) (by decide) (by decide) ?_
      show Steps p.tables e below (T2.setTop (mkF m 54 #[.val (.ref a1), .val (.ref a2), .val .null] [])) _
      refine XS.aloadN X2.here hx rfl (hb hby own_d_own_canKey110_54) rfl rfl ?_
      show Steps p.tables e below (T2.setTop (mkF m 55 #[.val (.ref a1), .val (.ref a2), .val .null] [.null])) _
      refine XS.ifnullYes X2.here hx rfl (pc0 := 55) (pc' := 62) rfl (hb hby own_d_own_canKey110_55) rfl (by decide) (by decide) ?_
      show Steps p.tables e below (T2.setTop (mkF m 62 #[.val (.ref a1), .val (.ref a2), .val .null] [])) _
      refine XS.iconst X2.here hx rfl (hb hby own_d_own_canKey110_62) ?_
      show Steps p.tables e below (T2.setTop (mkF m 63 #[.val (.ref a1), .val (.ref a2), .val .null] [(.int (0 : Int32))])) _
      refine XS.goto X2.here hx rfl (pc0 := 63) (pc' := 79) rfl (hb hby own_d_own_canKey110_63) (by decide) (by decide) ?_
      exact kt)
  obtain ⟨fs, hr, hrun, hended, hW, hsame⟩ := X2.leave (v := some (.int (0 : Int32))) (fun h => by rw [Bd.returns] at h; cases h)
  refine ⟨_, _, pre4 _ ?_, hrun, hended, _, _, rfl, ?_, ⟨_, rfl⟩, hW, hsame.mono (by decide) (by decide)⟩
  · show Steps p.tables e below (T2.setTop (mkF m 79 #[.val (.ref a1), .val (.ref a2), .val .null] [(.int (0 : Int32))])) _
    exact retN X2 hx (t := .boolean) Bd.returns (by simp) (hb hby own_d_own_canKey110_79) hr
  · show Q_own_canKey110 Z a1 a2 h0 n0 _ T2.heap _
    rw [e2]
    exact ⟨rfl, N2, rfl⟩
theorem own_d_own_canKey111_0 : decode prog_10_method_7_code 0 = .ok (.aload_n 0, 1) := by decide +kernel
theorem own_d_own_canKey111_1 : decode prog_10_method_7_code 1 = .ok (.invokevirtual 48, 3) := by decide +kernel
theorem own_d_own_canKey111_4 : decode prog_10_method_7_code 4 = .ok (.tableswitch 28 0 2 #[38, 50, 62], 28) := by decide +kernel
theorem own_d_own_canKey111_54 : decode prog_10_method_7_code 54 = .ok (.aload_n 2, 1) := by decide +kernel
theorem own_d_own_canKey111_55 : decode prog_10_method_7_code 55 = .ok (.ifnull 7, 3) := by decide +kernel
theorem own_d_own_canKey111_58 : decode prog_10_method_7_code 58 = .ok (.iconst 1, 1) := by decide +kernel
theorem own_d_own_canKey111_59 : decode prog_10_method_7_code 59 = .ok (.goto 20, 3) := by decide +kernel
theorem own_d_own_canKey111_79 : decode prog_10_method_7_code 79 = .ok (.ireturn, 1) := by decide +kernel
theorem own_pn_own_canKey111 : plainName "com/example/tallygate/tallygate/KeyType" = true := by first | (simp [plainName, overriddenIn]; done) | decide +kernel
theorem own_ef_own_canKey111 (m : MethodId) (x0 : Addr) (x1 : Addr) (x2 : Addr) : entryFrame m #[(.ref x0), (.ref x1), (.ref x2)] 3 = mkF m 0 #[.val (.ref x0), .val (.ref x1), .val (.ref x2)] [] := by first | (simp [entryFrame, mkF, argsToLocals, Value.category]; done) | rfl
def Q_own_canKey111 (Z : State) (a1 : Addr) (a2 : Addr) (a3 : Addr) (h0 : Heap) (n0 : Nat) (v : Option Value) (h : Heap) (L : List Loc) : Prop := v = some (.int (1 : Int32)) ∧ Fr n0 L ∧ h = h0
set_option maxRecDepth 65536 in
set_option maxHeartbeats 40000000 in
theorem own_canKey111 (l : Launch) (Z : State) (a0 : Array Value) (hw : ∀ d ∈ tables_1, d.before a0 Z = true) (ws : List Jvm.Cond) (a1 : Addr) (a2 : Addr) (a3 : Addr) (h0 : Heap) (n0 : Nat) (Z0 : n0 ≤ h0.size) (E_a1 : Exa Z h0 a1 "com/example/tallygate/tallygate/KeyType") (O_a1 : Fld Z h0 a1 "java/lang/Enum" "ordinal" "I" (.int (1 : Int32))) :
    MetFree l (⟨"com/example/tallygate/tallygate/KeyType", "canKey", "(Ljava/lang/String;Ljava/lang/String;)Z"⟩ : MethodName) (head1 (Jvm.Cond.code (⟨"com/example/tallygate/tallygate/KeyType", "canKey", "(Ljava/lang/String;Ljava/lang/String;)Z"⟩ : MethodName) prog_10_method_7_code 3 (some .boolean) :: ws) ({ frames := 1, cells := 0, slots := 0, locals := 12 } : Room)) (fun a U => a = #[(.ref a1), (.ref a2), (.ref a3)] ∧ Z.Warmed39 U.vm ∧ U.heap = h0) (fun _ _ _ _ _ => True) (fun _ U o U' => ∃ v L, o = .returned v ∧ Q_own_canKey111 Z a1 a2 a3 h0 n0 v U'.heap L ∧ FrameEnd U o U' L ({ frames := 1, cells := 0, slots := 0, locals := 12 } : Room).cells ({ frames := 1, cells := 0, slots := 0, locals := 12 } : Room).slots) := by
  refine MetFree.of_bodySF (plainFor_of_name own_pn_own_canKey111) hisR ?_
  intro p e s m args below meth c s₁ Bd hml0 hP hK
  obtain ⟨rfl, hZ, hh⟩ := hP
  have hx := Bd.exec
  have hby := Bd.bytes
  have hml : c.maxLocals = 3 := hml0
  have hown : s.vm.findClass "com/example/tallygate/tallygate/KeyType" = some m.cls := findClass_of_methodNamed Bd.named
  have hnm := (name_of_methodNamed Bd.named Bd.method).1
  have X0 : Stand p l e ({ frames := 1, cells := 0, slots := 0, locals := 12 } : Room) s m #[(.ref a1), (.ref a2), (.ref a3)] below meth c s₁ [] 0 0 := Stand.of_body Bd
  have e0 : s₁.heap = h0 := by rw [← hh, Bd.state]; rfl
  have N0 := Fr.nil n0
  have pre0 : Goes p e below s₁ (entryFrame m #[(.ref a1), (.ref a2), (.ref a3)] 3) s₁ (mkF m 0 #[.val (.ref a1), .val (.ref a2), .val (.ref a3)] []) := fun t k => castTop (own_ef_own_canKey111 m a1 a2 a3) k
  have pre1 : Goes p e below s₁ (entryFrame m #[(.ref a1), (.ref a2), (.ref a3)] 3) s₁ (mkF m 1 #[.val (.ref a1), .val (.ref a2), .val (.ref a3)] [(.ref a1)]) := fun t kt => pre0 t (by
      show Steps p.tables e below (s₁.setTop (mkF m 0 #[.val (.ref a1), .val (.ref a2), .val (.ref a3)] [])) _
      refine XS.aloadN X0.here hx rfl (hb hby own_d_own_canKey111_0) rfl rfl ?_
      exact kt)
  obtain ⟨cq2, kq2, q2a, q2b, q2c⟩ := isOf hZ e0 E_a1
  obtain ⟨_, _, ⟨T2, L2, k2, n2⟩, -, X2, ⟨Lc2, hQ2, l2, y2, z2⟩, st2⟩ := X0.virtualBackUp hx (x := (⟨"com/example/tallygate/tallygate/KeyType", "ordinal", "()I"⟩ : MethodName)) (y := (⟨"java/lang/Enum", "ordinal", "()I"⟩ : MethodName)) hown (mvT hZ (hw _ (List.mem_of_getElem? (i := 42) rfl))) (mvT hZ (hw _ (List.mem_of_getElem? (i := 43) rfl))) (mvT hZ (hw _ (List.mem_of_getElem? (i := 44) rfl))) (by decide) (mvT hZ (hw _ (List.mem_of_getElem? (i := 46) rfl))) (mvT hZ (hw _ (List.mem_of_getElem? (i := 45) rfl))) (backOf (W := 0) (own_ordinal l Z a0 hw [] a1 (1 : Int32) h0 n0 Z0 O_a1) hZ (hw _ (List.mem_of_getElem? (i := 48) rfl)) (hw _ (List.mem_of_getElem? (i := 47) rfl)) (by decide) (by decide)) q2a q2c (g := (mkF m 1 #[.val (.ref a1), .val (.ref a2), .val (.ref a3)] [(.ref a1)])) rfl (by rw [hml]; rfl) (Steps.refl _) (argsL := []) (rest := []) (lenOf own_pd5 rfl) rfl (by show 2 * 0 + _ ≤ _; exact Nat.le_of_eq rfl) (hb hby own_d_own_canKey111_1) (fun _ _ => ⟨rfl, e0, (by decide : 0 + 0 ≤ _), (by decide : 0 + 0 ≤ _)⟩)
  dsimp only [Pt.U, Pt.locs, Pt.cells, Pt.slots] at X2 l2 y2 z2 st2 hQ2
  subst l2 y2 z2
  obtain ⟨rfl, N2q, e2⟩ := hQ2
  have N2 := Fr.app N0 N2q
  have pre3 : Goes p e below s₁ (entryFrame m #[(.ref a1), (.ref a2), (.ref a3)] 3) T2 (mkF m 4 #[.val (.ref a1), .val (.ref a2), .val (.ref a3)] [(.int (1 : Int32))]) := fun t kt => pre1 t (st2.trans kt)
  have pre4 : Goes p e below s₁ (entryFrame m #[(.ref a1), (.ref a2), (.ref a3)] 3) T2 (mkF m 79 #[.val (.ref a1), .val (.ref a2), .val (.ref a3)] [(.int (1 : Int32))]) := fun t kt => pre3 t (by
      show Steps p.tables e below (T2.setTop (mkF m 4 #[.val (.ref a1), .val (.ref a2), .val (.ref a3)] [(.int (1 : Int32))])) _
      refine XS.tswIn X2.here hx rfl (pc0 := 4) (pc' := 54) rfl (hb hby own_d_own_canKey111_4) rfl (by decide) (o := 50) (by decide) (by decide) (by decide) ?_
      show Steps p.tables e below (T2.setTop (mkF m 54 #[.val (.ref a1), .val (.ref a2), .val (.ref a3)] [])) _
      refine XS.aloadN X2.here hx rfl (hb hby own_d_own_canKey111_54) rfl rfl ?_
      show Steps p.tables e below (T2.setTop (mkF m 55 #[.val (.ref a1), .val (.ref a2), .val (.ref a3)] [(.ref a3)])) _
      refine XS.ifnullNo X2.here hx rfl (hb hby own_d_own_canKey111_55) rfl ?_
      show Steps p.tables e below (T2.setTop (mkF m 58 #[.val (.ref a1), .val (.ref a2), .val (.ref a3)] [])) _
      refine XS.iconst X2.here hx rfl (hb hby own_d_own_canKey111_58) ?_
      show Steps p.tables e below (T2.setTop (mkF m 59 #[.val (.ref a1), .val (.ref a2), .val (.ref a3)] [(.int (1 : Int32))])) _
      refine XS.goto X2.here hx rfl (pc0 := 59) (pc' := 79) rfl (hb hby own_d_own_canKey111_59) (by decide) (by decide) ?_
      exact kt)
  obtain ⟨fs, hr, hrun, hended, hW, hsame⟩ := X2.leave (v := some (.int (1 : Int32))) (fun h => by rw [Bd.returns] at h; cases h)
  refine ⟨_, _, pre4 _ ?_, hrun, hended, _, _, rfl, ?_, ⟨_, rfl⟩, hW, hsame.mono (by decide) (by decide)⟩
  · show Steps p.tables e below (T2.setTop (mkF m 79 #[.val (.ref a1), .val (.ref a2), .val (.ref a3)] [(.int (1 : Int32))])) _
    exact retN X2 hx (t := .boolean) Bd.returns (by simp) (hb hby own_d_own_canKey111_79) hr
  · show Q_own_canKey111 Z a1 a2 a3 h0 n0 _ T2.heap _
    rw [e2]
    exact ⟨rfl, N2, rfl⟩
theorem own_d_own_canKey200_0 : decode prog_10_method_7_code 0 = .ok (.aload_n 0, 1) := by decide +kernel
theorem own_d_own_canKey200_1 : decode prog_10_method_7_code 1 = .ok (.invokevirtual 48, 3) := by decide +kernel
theorem own_d_own_canKey200_4 : decode prog_10_method_7_code 4 = .ok (.tableswitch 28 0 2 #[38, 50, 62], 28) := by decide +kernel
theorem own_d_own_canKey200_66 : decode prog_10_method_7_code 66 = .ok (.aload_n 1, 1) := by decide +kernel
theorem own_d_own_canKey200_67 : decode prog_10_method_7_code 67 = .ok (.ifnull 11, 3) := by decide +kernel
theorem own_d_own_canKey200_78 : decode prog_10_method_7_code 78 = .ok (.iconst 0, 1) := by decide +kernel
theorem own_d_own_canKey200_79 : decode prog_10_method_7_code 79 = .ok (.ireturn, 1) := by decide +kernel
theorem own_pn_own_canKey200 : plainName "com/example/tallygate/tallygate/KeyType" = true := by first | (simp [plainName, overriddenIn]; done) | decide +kernel
theorem own_ef_own_canKey200 (m : MethodId) (x0 : Addr) : entryFrame m #[(.ref x0), .null, .null] 3 = mkF m 0 #[.val (.ref x0), .val .null, .val .null] [] := by first | (simp [entryFrame, mkF, argsToLocals, Value.category]; done) | rfl
def Q_own_canKey200 (Z : State) (a1 : Addr) (h0 : Heap) (n0 : Nat) (v : Option Value) (h : Heap) (L : List Loc) : Prop := v = some (.int (0 : Int32)) ∧ Fr n0 L ∧ h = h0
set_option maxRecDepth 65536 in
set_option maxHeartbeats 40000000 in
theorem own_canKey200 (l : Launch) (Z : State) (a0 : Array Value) (hw : ∀ d ∈ tables_1, d.before a0 Z = true) (ws : List Jvm.Cond) (a1 : Addr) (h0 : Heap) (n0 : Nat) (Z0 : n0 ≤ h0.size) (E_a1 : Exa Z h0 a1 "com/example/tallygate/tallygate/KeyType") (O_a1 : Fld Z h0 a1 "java/lang/Enum" "ordinal" "I" (.int (2 : Int32))) :
    MetFree l (⟨"com/example/tallygate/tallygate/KeyType", "canKey", "(Ljava/lang/String;Ljava/lang/String;)Z"⟩ : MethodName) (head1 (Jvm.Cond.code (⟨"com/example/tallygate/tallygate/KeyType", "canKey", "(Ljava/lang/String;Ljava/lang/String;)Z"⟩ : MethodName) prog_10_method_7_code 3 (some .boolean) :: ws) ({ frames := 1, cells := 0, slots := 0, locals := 12 } : Room)) (fun a U => a = #[(.ref a1), .null, .null] ∧ Z.Warmed39 U.vm ∧ U.heap = h0) (fun _ _ _ _ _ => True) (fun _ U o U' => ∃ v L, o = .returned v ∧ Q_own_canKey200 Z a1 h0 n0 v U'.heap L ∧ FrameEnd U o U' L ({ frames := 1, cells := 0, slots := 0, locals := 12 } : Room).cells ({ frames := 1, cells := 0, slots := 0, locals := 12 } : Room).slots) := by
  refine MetFree.of_bodySF (plainFor_of_name own_pn_own_canKey200) hisR ?_
  intro p e s m args below meth c s₁ Bd hml0 hP hK
  obtain ⟨rfl, hZ, hh⟩ := hP
  have hx := Bd.exec
  have hby := Bd.bytes
  have hml : c.maxLocals = 3 := hml0
  have hown : s.vm.findClass "com/example/tallygate/tallygate/KeyType" = some m.cls := findClass_of_methodNamed Bd.named
  have hnm := (name_of_methodNamed Bd.named Bd.method).1
  have X0 : Stand p l e ({ frames := 1, cells := 0, slots := 0, locals := 12 } : Room) s m #[(.ref a1), .null, .null] below meth c s₁ [] 0 0 := Stand.of_body Bd
  have e0 : s₁.heap = h0 := by rw [← hh, Bd.state]; rfl
  have N0 := Fr.nil n0
  have pre0 : Goes p e below s₁ (entryFrame m #[(.ref a1), .null, .null] 3) s₁ (mkF m 0 #[.val (.ref a1), .val .null, .val .null] []) := fun t k => castTop (own_ef_own_canKey200 m a1) k
  have pre1 : Goes p e below s₁ (entryFrame m #[(.ref a1), .null, .null] 3) s₁ (mkF m 1 #[.val (.ref a1), .val .null, .val .null] [(.ref a1)]) := fun t kt => pre0 t (by
      show Steps p.tables e below (s₁.setTop (mkF m 0 #[.val (.ref a1), .val .null, .val .null] [])) _
      refine XS.aloadN X0.here hx rfl (hb hby own_d_own_canKey200_0) rfl rfl ?_
      exact kt)
  obtain ⟨cq2, kq2, q2a, q2b, q2c⟩ := isOf hZ e0 E_a1
  obtain ⟨_, _, ⟨T2, L2, k2, n2⟩, -, X2, ⟨Lc2, hQ2, l2, y2, z2⟩, st2⟩ := X0.virtualBackUp hx (x := (⟨"com/example/tallygate/tallygate/KeyType", "ordinal", "()I"⟩ : MethodName)) (y := (⟨"java/lang/Enum", "ordinal", "()I"⟩ : MethodName)) hown (mvT hZ (hw _ (List.mem_of_getElem? (i := 42) rfl))) (mvT hZ (hw _ (List.mem_of_getElem? (i := 43) rfl))) (mvT hZ (hw _ (List.mem_of_getElem? (i := 44) rfl))) (by decide) (mvT hZ (hw _ (List.mem_of_getElem? (i := 46) rfl))) (mvT hZ (hw _ (List.mem_of_getElem? (i := 45) rfl))) (backOf (W := 0) (own_ordinal l Z a0 hw [] a1 (2 : Int32) h0 n0 Z0 O_a1) hZ (hw _ (List.mem_of_getElem? (i := 48) rfl)) (hw _ (List.mem_of_getElem? (i := 47) rfl)) (by decide) (by decide)) q2a q2c (g := (mkF m 1 #[.val (.ref a1), .val .null, .val .null] [(.ref a1)])) rfl (by rw [hml]; rfl) (Steps.refl _) (argsL := []) (rest := []) (lenOf own_pd5 rfl) rfl (by show 2 * 0 + _ ≤ _; exact Nat.le_of_eq rfl) (hb hby own_d_own_canKey200_1) (fun _ _ => ⟨rfl, e0, (by decide : 0 + 0 ≤ _), (by decide : 0 + 0 ≤ _)⟩)
  dsimp only [Pt.U, Pt.locs, Pt.cells, Pt.slots] at X2 l2 y2 z2 st2 hQ2
  subst l2 y2 z2
  obtain ⟨rfl, N2q, e2⟩ := hQ2
  have N2 := Fr.app N0 N2q
  have pre3 : Goes p e below s₁ (entryFrame m #[(.ref a1), .null, .null] 3) T2 (mkF m 4 #[.val (.ref a1), .val .null, .val .null] [(.int (2 : Int32))]) := fun t kt => pre1 t (st2.trans kt)
  have pre4 : Goes p e below s₁ (entryFrame m #[(.ref a1), .null, .null] 3) T2 (mkF m 79 #[.val (.ref a1), .val .null, .val .null] [(.int (0 : Int32))]) := fun t kt => pre3 t (by
      show Steps p.tables e below (T2.setTop (mkF m 4 #[.val (.ref a1), .val .null, .val .null] [(.int (2 : Int32))])) _
      refine XS.tswIn X2.here hx rfl (pc0 := 4) (pc' := 66) rfl (hb hby own_d_own_canKey200_4) rfl (by decide) (o := 62) (by decide) (by decide) (by decide) ?_
      show Steps p.tables e below (T2.setTop (mkF m 66 #[.val (.ref a1), .val .null, .val .null] [])) _
      refine XS.aloadN X2.here hx rfl (hb hby own_d_own_canKey200_66) rfl rfl ?_
      show Steps p.tables e below (T2.setTop (mkF m 67 #[.val (.ref a1), .val .null, .val .null] [.null])) _
      refine XS.ifnullYes X2.here hx rfl (pc0 := 67) (pc' := 78) rfl (hb hby own_d_own_canKey200_67) rfl (by decide) (by decide) ?_
      show Steps p.tables e below (T2.setTop (mkF m 78 #[.val (.ref a1), .val .null, .val .null] [])) _
      refine XS.iconst X2.here hx rfl (hb hby own_d_own_canKey200_78) ?_
      exact kt)
  obtain ⟨fs, hr, hrun, hended, hW, hsame⟩ := X2.leave (v := some (.int (0 : Int32))) (fun h => by rw [Bd.returns] at h; cases h)
  refine ⟨_, _, pre4 _ ?_, hrun, hended, _, _, rfl, ?_, ⟨_, rfl⟩, hW, hsame.mono (by decide) (by decide)⟩
  · show Steps p.tables e below (T2.setTop (mkF m 79 #[.val (.ref a1), .val .null, .val .null] [(.int (0 : Int32))])) _
    exact retN X2 hx (t := .boolean) Bd.returns (by simp) (hb hby own_d_own_canKey200_79) hr
  · show Q_own_canKey200 Z a1 h0 n0 _ T2.heap _
    rw [e2]
    exact ⟨rfl, N2, rfl⟩
theorem own_d_own_canKey201_0 : decode prog_10_method_7_code 0 = .ok (.aload_n 0, 1) := by decide +kernel
theorem own_d_own_canKey201_1 : decode prog_10_method_7_code 1 = .ok (.invokevirtual 48, 3) := by decide +kernel
theorem own_d_own_canKey201_4 : decode prog_10_method_7_code 4 = .ok (.tableswitch 28 0 2 #[38, 50, 62], 28) := by decide +kernel
theorem own_d_own_canKey201_66 : decode prog_10_method_7_code 66 = .ok (.aload_n 1, 1) := by decide +kernel
theorem own_d_own_canKey201_67 : decode prog_10_method_7_code 67 = .ok (.ifnull 11, 3) := by decide +kernel
theorem own_d_own_canKey201_78 : decode prog_10_method_7_code 78 = .ok (.iconst 0, 1) := by decide +kernel
theorem own_d_own_canKey201_79 : decode prog_10_method_7_code 79 = .ok (.ireturn, 1) := by decide +kernel
theorem own_pn_own_canKey201 : plainName "com/example/tallygate/tallygate/KeyType" = true := by first | (simp [plainName, overriddenIn]; done) | decide +kernel
theorem own_ef_own_canKey201 (m : MethodId) (x0 : Addr) (x2 : Addr) : entryFrame m #[(.ref x0), .null, (.ref x2)] 3 = mkF m 0 #[.val (.ref x0), .val .null, .val (.ref x2)] [] := by first | (simp [entryFrame, mkF, argsToLocals, Value.category]; done) | rfl
def Q_own_canKey201 (Z : State) (a1 : Addr) (a3 : Addr) (h0 : Heap) (n0 : Nat) (v : Option Value) (h : Heap) (L : List Loc) : Prop := v = some (.int (0 : Int32)) ∧ Fr n0 L ∧ h = h0
set_option maxRecDepth 65536 in
set_option maxHeartbeats 40000000 in
theorem own_canKey201 (l : Launch) (Z : State) (a0 : Array Value) (hw : ∀ d ∈ tables_1, d.before a0 Z = true) (ws : List Jvm.Cond) (a1 : Addr) (a3 : Addr) (h0 : Heap) (n0 : Nat) (Z0 : n0 ≤ h0.size) (E_a1 : Exa Z h0 a1 "com/example/tallygate/tallygate/KeyType") (O_a1 : Fld Z h0 a1 "java/lang/Enum" "ordinal" "I" (.int (2 : Int32))) :
    MetFree l (⟨"com/example/tallygate/tallygate/KeyType", "canKey", "(Ljava/lang/String;Ljava/lang/String;)Z"⟩ : MethodName) (head1 (Jvm.Cond.code (⟨"com/example/tallygate/tallygate/KeyType", "canKey", "(Ljava/lang/String;Ljava/lang/String;)Z"⟩ : MethodName) prog_10_method_7_code 3 (some .boolean) :: ws) ({ frames := 1, cells := 0, slots := 0, locals := 12 } : Room)) (fun a U => a = #[(.ref a1), .null, (.ref a3)] ∧ Z.Warmed39 U.vm ∧ U.heap = h0) (fun _ _ _ _ _ => True) (fun _ U o U' => ∃ v L, o = .returned v ∧ Q_own_canKey201 Z a1 a3 h0 n0 v U'.heap L ∧ FrameEnd U o U' L ({ frames := 1, cells := 0, slots := 0, locals := 12 } : Room).cells ({ frames := 1, cells := 0, slots := 0, locals := 12 } : Room).slots) := by
  refine MetFree.of_bodySF (plainFor_of_name own_pn_own_canKey201) hisR ?_
  intro p e s m args below meth c s₁ Bd hml0 hP hK
  obtain ⟨rfl, hZ, hh⟩ := hP
  have hx := Bd.exec
  have hby := Bd.bytes
  have hml : c.maxLocals = 3 := hml0
  have hown : s.vm.findClass "com/example/tallygate/tallygate/KeyType" = some m.cls := findClass_of_methodNamed Bd.named
  have hnm := (name_of_methodNamed Bd.named Bd.method).1
  have X0 : Stand p l e ({ frames := 1, cells := 0, slots := 0, locals := 12 } : Room) s m #[(.ref a1), .null, (.ref a3)] below meth c s₁ [] 0 0 := Stand.of_body Bd
  have e0 : s₁.heap = h0 := by rw [← hh, Bd.state]; rfl
  have N0 := Fr.nil n0
  have pre0 : Goes p e below s₁ (entryFrame m #[(.ref a1), .null, (.ref a3)] 3) s₁ (mkF m 0 #[.val (.ref a1), .val .null, .val (.ref a3)] []) := fun t k => castTop (own_ef_own_canKey201 m a1 a3) k
  have pre1 : Goes p e below s₁ (entryFrame m #[(.ref a1), .null, (.ref a3)] 3) s₁ (mkF m 1 #[.val (.ref a1), .val .null, .val (.ref a3)] [(.ref a1)]) := fun t kt => pre0 t (by
      show Steps p.tables e below (s₁.setTop (mkF m 0 #[.val (.ref a1), .val .null, .val (.ref a3)] [])) _
      refine XS.aloadN X0.here hx rfl (hb hby own_d_own_canKey201_0) rfl rfl ?_
      exact kt)
  obtain ⟨cq2, kq2, q2a, q2b, q2c⟩ := isOf hZ e0 E_a1
  obtain ⟨_, _, ⟨T2, L2, k2, n2⟩, -, X2, ⟨Lc2, hQ2, l2, y2, z2⟩, st2⟩ := X0.virtualBackUp hx (x := (⟨"com/example/tallygate/tallygate/KeyType", "ordinal", "()I"⟩ : MethodName)) (y := (⟨"java/lang/Enum", "ordinal", "()I"⟩ : MethodName)) hown (mvT hZ (hw _ (List.mem_of_getElem? (i := 42) rfl))) (mvT hZ (hw _ (List.mem_of_getElem? (i := 43) rfl))) (mvT hZ (hw _ (List.mem_of_getElem? (i := 44) rfl))) (by decide) (mvT hZ (hw _ (List.mem_of_getElem? (i := 46) rfl))) (mvT hZ (hw _ (List.mem_of_getElem? (i := 45) rfl))) (backOf (W := 0) (own_ordinal l Z a0 hw [] a1 (2 : Int32) h0 n0 Z0 O_a1) hZ (hw _ (List.mem_of_getElem? (i := 48) rfl)) (hw _ (List.mem_of_getElem? (i := 47) rfl)) (by decide) (by decide)) q2a q2c (g := (mkF m 1 #[.val (.ref a1), .val .null, .val (.ref a3)] [(.ref a1)])) rfl (by rw [hml]; rfl) (Steps.refl _) (argsL := []) (rest := []) (lenOf own_pd5 rfl) rfl (by show 2 * 0 + _ ≤ _; exact Nat.le_of_eq rfl) (hb hby own_d_own_canKey201_1) (fun _ _ => ⟨rfl, e0, (by decide : 0 + 0 ≤ _), (by decide : 0 + 0 ≤ _)⟩)
  dsimp only [Pt.U, Pt.locs, Pt.cells, Pt.slots] at X2 l2 y2 z2 st2 hQ2
  subst l2 y2 z2
  obtain ⟨rfl, N2q, e2⟩ := hQ2
  have N2 := Fr.app N0 N2q
  have pre3 : Goes p e below s₁ (entryFrame m #[(.ref a1), .null, (.ref a3)] 3) T2 (mkF m 4 #[.val (.ref a1), .val .null, .val (.ref a3)] [(.int (2 : Int32))]) := fun t kt => pre1 t (st2.trans kt)
  have pre4 : Goes p e below s₁ (entryFrame m #[(.ref a1), .null, (.ref a3)] 3) T2 (mkF m 79 #[.val (.ref a1), .val .null, .val (.ref a3)] [(.int (0 : Int32))]) := fun t kt => pre3 t (by
      show Steps p.tables e below (T2.setTop (mkF m 4 #[.val (.ref a1), .val .null, .val (.ref a3)] [(.int (2 : Int32))])) _
      refine XS.tswIn X2.here hx rfl (pc0 := 4) (pc' := 66) rfl (hb hby own_d_own_canKey201_4) rfl (by decide) (o := 62) (by decide) (by decide) (by decide) ?_
      show Steps p.tables e below (T2.setTop (mkF m 66 #[.val (.ref a1), .val .null, .val (.ref a3)] [])) _
      refine XS.aloadN X2.here hx rfl (hb hby own_d_own_canKey201_66) rfl rfl ?_
      show Steps p.tables e below (T2.setTop (mkF m 67 #[.val (.ref a1), .val .null, .val (.ref a3)] [.null])) _
      refine XS.ifnullYes X2.here hx rfl (pc0 := 67) (pc' := 78) rfl (hb hby own_d_own_canKey201_67) rfl (by decide) (by decide) ?_
      show Steps p.tables e below (T2.setTop (mkF m 78 #[.val (.ref a1), .val .null, .val (.ref a3)] [])) _
      refine XS.iconst X2.here hx rfl (hb hby own_d_own_canKey201_78) ?_
      exact kt)
  obtain ⟨fs, hr, hrun, hended, hW, hsame⟩ := X2.leave (v := some (.int (0 : Int32))) (fun h => by rw [Bd.returns] at h; cases h)
  refine ⟨_, _, pre4 _ ?_, hrun, hended, _, _, rfl, ?_, ⟨_, rfl⟩, hW, hsame.mono (by decide) (by decide)⟩
  · show Steps p.tables e below (T2.setTop (mkF m 79 #[.val (.ref a1), .val .null, .val (.ref a3)] [(.int (0 : Int32))])) _
    exact retN X2 hx (t := .boolean) Bd.returns (by simp) (hb hby own_d_own_canKey201_79) hr
  · show Q_own_canKey201 Z a1 a3 h0 n0 _ T2.heap _
    rw [e2]
    exact ⟨rfl, N2, rfl⟩
theorem own_d_own_canKey210_0 : decode prog_10_method_7_code 0 = .ok (.aload_n 0, 1) := by decide +kernel
theorem own_d_own_canKey210_1 : decode prog_10_method_7_code 1 = .ok (.invokevirtual 48, 3) := by decide +kernel
theorem own_d_own_canKey210_4 : decode prog_10_method_7_code 4 = .ok (.tableswitch 28 0 2 #[38, 50, 62], 28) := by decide +kernel
theorem own_d_own_canKey210_66 : decode prog_10_method_7_code 66 = .ok (.aload_n 1, 1) := by decide +kernel
theorem own_d_own_canKey210_67 : decode prog_10_method_7_code 67 = .ok (.ifnull 11, 3) := by decide +kernel
theorem own_d_own_canKey210_70 : decode prog_10_method_7_code 70 = .ok (.aload_n 2, 1) := by decide +kernel
theorem own_d_own_canKey210_71 : decode prog_10_method_7_code 71 = .ok (.ifnull 7, 3) := by decide +kernel
theorem own_d_own_canKey210_78 : decode prog_10_method_7_code 78 = .ok (.iconst 0, 1) := by decide +kernel
theorem own_d_own_canKey210_79 : decode prog_10_method_7_code 79 = .ok (.ireturn, 1) := by decide +kernel
theorem own_pn_own_canKey210 : plainName "com/example/tallygate/tallygate/KeyType" = true := by first | (simp [plainName, overriddenIn]; done) | decide +kernel
theorem own_ef_own_canKey210 (m : MethodId) (x0 : Addr) (x1 : Addr) : entryFrame m #[(.ref x0), (.ref x1), .null] 3 = mkF m 0 #[.val (.ref x0), .val (.ref x1), .val .null] [] := by first | (simp [entryFrame, mkF, argsToLocals, Value.category]; done) | rfl
def Q_own_canKey210 (Z : State) (a1 : Addr) (a2 : Addr) (h0 : Heap) (n0 : Nat) (v : Option Value) (h : Heap) (L : List Loc) : Prop := v = some (.int (0 : Int32)) ∧ Fr n0 L ∧ h = h0
set_option maxRecDepth 65536 in
set_option maxHeartbeats 40000000 in
theorem own_canKey210 (l : Launch) (Z : State) (a0 : Array Value) (hw : ∀ d ∈ tables_1, d.before a0 Z = true) (ws : List Jvm.Cond) (a1 : Addr) (a2 : Addr) (h0 : Heap) (n0 : Nat) (Z0 : n0 ≤ h0.size) (E_a1 : Exa Z h0 a1 "com/example/tallygate/tallygate/KeyType") (O_a1 : Fld Z h0 a1 "java/lang/Enum" "ordinal" "I" (.int (2 : Int32))) :
    MetFree l (⟨"com/example/tallygate/tallygate/KeyType", "canKey", "(Ljava/lang/String;Ljava/lang/String;)Z"⟩ : MethodName) (head1 (Jvm.Cond.code (⟨"com/example/tallygate/tallygate/KeyType", "canKey", "(Ljava/lang/String;Ljava/lang/String;)Z"⟩ : MethodName) prog_10_method_7_code 3 (some .boolean) :: ws) ({ frames := 1, cells := 0, slots := 0, locals := 12 } : Room)) (fun a U => a = #[(.ref a1), (.ref a2), .null] ∧ Z.Warmed39 U.vm ∧ U.heap = h0) (fun _ _ _ _ _ => True) (fun _ U o U' => ∃ v L, o = .returned v ∧ Q_own_canKey210 Z a1 a2 h0 n0 v U'.heap L ∧ FrameEnd U o U' L ({ frames := 1, cells := 0, slots := 0, locals := 12 } : Room).cells ({ frames := 1, cells := 0, slots := 0, locals := 12 } : Room).slots) := by
  refine MetFree.of_bodySF (plainFor_of_name own_pn_own_canKey210) hisR ?_
  intro p e s m args below meth c s₁ Bd hml0 hP hK
  obtain ⟨rfl, hZ, hh⟩ := hP
  have hx := Bd.exec
  have hby := Bd.bytes
  have hml : c.maxLocals = 3 := hml0
  have hown : s.vm.findClass "com/example/tallygate/tallygate/KeyType" = some m.cls := findClass_of_methodNamed Bd.named
  have hnm := (name_of_methodNamed Bd.named Bd.method).1
  have X0 : Stand p l e ({ frames := 1, cells := 0, slots := 0, locals := 12 } : Room) s m #[(.ref a1), (.ref a2), .null] below meth c s₁ [] 0 0 := Stand.of_body Bd
  have e0 : s₁.heap = h0 := by rw [← hh, Bd.state]; rfl
  have N0 := Fr.nil n0
  have pre0 : Goes p e below s₁ (entryFrame m #[(.ref a1), (.ref a2), .null] 3) s₁ (mkF m 0 #[.val (.ref a1), .val (.ref a2), .val .null] []) := fun t k => castTop (own_ef_own_canKey210 m a1 a2) k
  have pre1 : Goes p e below s₁ (entryFrame m #[(.ref a1), (.ref a2), .null] 3) s₁ (mkF m 1 #[.val (.ref a1), .val (.ref a2), .val .null] [(.ref a1)]) := fun t kt => pre0 t (by
      show Steps p.tables e below (s₁.setTop (mkF m 0 #[.val (.ref a1), .val (.ref a2), .val .null] [])) _
      refine XS.aloadN X0.here hx rfl (hb hby own_d_own_canKey210_0) rfl rfl ?_
      exact kt)
  obtain ⟨cq2, kq2, q2a, q2b, q2c⟩ := isOf hZ e0 E_a1
  obtain ⟨_, _, ⟨T2, L2, k2, n2⟩, -, X2, ⟨Lc2, hQ2, l2, y2, z2⟩, st2⟩ := X0.virtualBackUp hx (x := (⟨"com/example/tallygate/tallygate/KeyType", "ordinal", "()I"⟩ : MethodName)) (y := (⟨"java/lang/Enum", "ordinal", "()I"⟩ : MethodName)) hown (mvT hZ (hw _ (List.mem_of_getElem? (i := 42) rfl))) (mvT hZ (hw _ (List.mem_of_getElem? (i := 43) rfl))) (mvT hZ (hw _ (List.mem_of_getElem? (i := 44) rfl))) (by decide) (mvT hZ (hw _ (List.mem_of_getElem? (i := 46) rfl))) (mvT hZ (hw _ (List.mem_of_getElem? (i := 45) rfl))) (backOf (W := 0) (own_ordinal l Z a0 hw [] a1 (2 : Int32) h0 n0 Z0 O_a1) hZ (hw _ (List.mem_of_getElem? (i := 48) rfl)) (hw _ (List.mem_of_getElem? (i := 47) rfl)) (by decide) (by decide)) q2a q2c (g := (mkF m 1 #[.val (.ref a1), .val (.ref a2), .val .null] [(.ref a1)])) rfl (by rw [hml]; rfl) (Steps.refl _) (argsL := []) (rest := []) (lenOf own_pd5 rfl) rfl (by show 2 * 0 + _ ≤ _; exact Nat.le_of_eq rfl) (hb hby own_d_own_canKey210_1) (fun _ _ => ⟨rfl, e0, (by decide : 0 + 0 ≤ _), (by decide : 0 + 0 ≤ _)⟩)
  dsimp only [Pt.U, Pt.locs, Pt.cells, Pt.slots] at X2 l2 y2 z2 st2 hQ2
  subst l2 y2 z2
  obtain ⟨rfl, N2q, e2⟩ := hQ2
  have N2 := Fr.app N0 N2q
  have pre3 : Goes p e below s₁ (entryFrame m #[(.ref a1), (.ref a2), .null] 3) T2 (mkF m 4 #[.val (.ref a1), .val (.ref a2), .val .null] [(.int (2 : Int32))]) := fun t kt => pre1 t (st2.trans kt)
  have pre4 : Goes p e below s₁ (entryFrame m #[(.ref a1), (.ref a2), .null] 3) T2 (mkF m 79 #[.val (.ref a1), .val (.ref a2), .val .null] [(.int (0 : Int32))]) := fun t kt => pre3 t (by
      show Steps p.tables e below (T2.setTop (mkF m 4 #[.val (.ref a1), .val (.ref a2), .val .null] [(.int (2 : Int32))])) _
      refine XS.tswIn X2.here hx rfl (pc0 := 4) (pc' := 66) rfl (hb hby own_d_own_canKey210_4) rfl (by decide) (o := 62) (by decide) (by decide) (by decide) ?_
      show Steps p.tables e below (T2.setTop (mkF m 66 #[.val (.ref a1), .val (.ref a2), .val .null] [])) _
      refine XS.aloadN X2.here hx rfl (hb hby own_d_own_canKey210_66) rfl rfl ?_
      show Steps p.tables e below (T2.setTop (mkF m 67 #[.val (.ref a1), .val (.ref a2), .val .null] [(.ref a2)])) _
      refine XS.ifnullNo X2.here hx rfl (hb hby own_d_own_canKey210_67) rfl ?_
      show Steps p.tables e below (T2.setTop (mkF m 70 #[.val (.ref a1), .val (.ref a2), .val .null] [])) _
      refine XS.aloadN X2.here hx rfl (hb hby own_d_own_canKey210_70) rfl rfl ?_
      show Steps p.tables e below (T2.setTop (mkF m 71 #[.val (.ref a1), .val (.ref a2), .val .null] [.null])) _
      refine XS.ifnullYes X2.here hx rfl (pc0 := 71) (pc' := 78) rfl (hb hby own_d_own_canKey210_71) rfl (by decide) (by decide) ?_
      show Steps p.tables e below (T2.setTop (mkF m 78 #[.val (.ref a1), .val (.ref a2), .val .null] [])) _
      refine XS.iconst X2.here hx rfl (hb hby own_d_own_canKey210_78) ?_
      exact kt)
  obtain ⟨fs, hr, hrun, hended, hW, hsame⟩ := X2.leave (v := some (.int (0 : Int32))) (fun h => by rw [Bd.returns] at h; cases h)
  refine ⟨_, _, pre4 _ ?_, hrun, hended, _, _, rfl, ?_, ⟨_, rfl⟩, hW, hsame.mono (by decide) (by decide)⟩
  · show Steps p.tables e below (T2.setTop (mkF m 79 #[.val (.ref a1), .val (.ref a2), .val .null] [(.int (0 : Int32))])) _
    exact retN X2 hx (t := .boolean) Bd.returns (by simp) (hb hby own_d_own_canKey210_79) hr
  · show Q_own_canKey210 Z a1 a2 h0 n0 _ T2.heap _
    rw [e2]
    exact ⟨rfl, N2, rfl⟩
theorem own_d_own_canKey211_0 : decode prog_10_method_7_code 0 = .ok (.aload_n 0, 1) := by decide +kernel
theorem own_d_own_canKey211_1 : decode prog_10_method_7_code 1 = .ok (.invokevirtual 48, 3) := by decide +kernel
theorem own_d_own_canKey211_4 : decode prog_10_method_7_code 4 = .ok (.tableswitch 28 0 2 #[38, 50, 62], 28) := by decide +kernel
theorem own_d_own_canKey211_66 : decode prog_10_method_7_code 66 = .ok (.aload_n 1, 1) := by decide +kernel
theorem own_d_own_canKey211_67 : decode prog_10_method_7_code 67 = .ok (.ifnull 11, 3) := by decide +kernel
theorem own_d_own_canKey211_70 : decode prog_10_method_7_code 70 = .ok (.aload_n 2, 1) := by decide +kernel
theorem own_d_own_canKey211_71 : decode prog_10_method_7_code 71 = .ok (.ifnull 7, 3) := by decide +kernel
theorem own_d_own_canKey211_74 : decode prog_10_method_7_code 74 = .ok (.iconst 1, 1) := by decide +kernel
theorem own_d_own_canKey211_75 : decode prog_10_method_7_code 75 = .ok (.goto 4, 3) := by decide +kernel
theorem own_d_own_canKey211_79 : decode prog_10_method_7_code 79 = .ok (.ireturn, 1) := by decide +kernel
theorem own_pn_own_canKey211 : plainName "com/example/tallygate/tallygate/KeyType" = true := by first | (simp [plainName, overriddenIn]; done) | decide +kernel
theorem own_ef_own_canKey211 (m : MethodId) (x0 : Addr) (x1 : Addr) (x2 : Addr) : entryFrame m #[(.ref x0), (.ref x1), (.ref x2)] 3 = mkF m 0 #[.val (.ref x0), .val (.ref x1), .val (.ref x2)] [] := by first | (simp [entryFrame, mkF, argsToLocals, Value.category]; done) | rfl
def Q_own_canKey211 (Z : State) (a1 : Addr) (a2 : Addr) (a3 : Addr) (h0 : Heap) (n0 : Nat) (v : Option Value) (h : Heap) (L : List Loc) : Prop := v = some (.int (1 : Int32)) ∧ Fr n0 L ∧ h = h0
set_option maxRecDepth 65536 in
set_option maxHeartbeats 40000000 in
theorem own_canKey211 (l : Launch) (Z : State) (a0 : Array Value) (hw : ∀ d ∈ tables_1, d.before a0 Z = true) (ws : List Jvm.Cond) (a1 : Addr) (a2 : Addr) (a3 : Addr) (h0 : Heap) (n0 : Nat) (Z0 : n0 ≤ h0.size) (E_a1 : Exa Z h0 a1 "com/example/tallygate/tallygate/KeyType") (O_a1 : Fld Z h0 a1 "java/lang/Enum" "ordinal" "I" (.int (2 : Int32))) :
    MetFree l (⟨"com/example/tallygate/tallygate/KeyType", "canKey", "(Ljava/lang/String;Ljava/lang/String;)Z"⟩ : MethodName) (head1 (Jvm.Cond.code (⟨"com/example/tallygate/tallygate/KeyType", "canKey", "(Ljava/lang/String;Ljava/lang/String;)Z"⟩ : MethodName) prog_10_method_7_code 3 (some .boolean) :: ws) ({ frames := 1, cells := 0, slots := 0, locals := 12 } : Room)) (fun a U => a = #[(.ref a1), (.ref a2), (.ref a3)] ∧ Z.Warmed39 U.vm ∧ U.heap = h0) (fun _ _ _ _ _ => True) (fun _ U o U' => ∃ v L, o = .returned v ∧ Q_own_canKey211 Z a1 a2 a3 h0 n0 v U'.heap L ∧ FrameEnd U o U' L ({ frames := 1, cells := 0, slots := 0, locals := 12 } : Room).cells ({ frames := 1, cells := 0, slots := 0, locals := 12 } : Room).slots) := by
  refine MetFree.of_bodySF (plainFor_of_name own_pn_own_canKey211) hisR ?_
  intro p e s m args below meth c s₁ Bd hml0 hP hK
  obtain ⟨rfl, hZ, hh⟩ := hP
  have hx := Bd.exec
  have hby := Bd.bytes
  have hml : c.maxLocals = 3 := hml0
  have hown : s.vm.findClass "com/example/tallygate/tallygate/KeyType" = some m.cls := findClass_of_methodNamed Bd.named
  have hnm := (name_of_methodNamed Bd.named Bd.method).1
  have X0 : Stand p l e ({ frames := 1, cells := 0, slots := 0, locals := 12 } : Room) s m #[(.ref a1), (.ref a2), (.ref a3)] below meth c s₁ [] 0 0 := Stand.of_body Bd
  have e0 : s₁.heap = h0 := by rw [← hh, Bd.state]; rfl
  have N0 := Fr.nil n0
  have pre0 : Goes p e below s₁ (entryFrame m #[(.ref a1), (.ref a2), (.ref a3)] 3) s₁ (mkF m 0 #[.val (.ref a1), .val (.ref a2), .val (.ref a3)] []) := fun t k => castTop (own_ef_own_canKey211 m a1 a2 a3) k
  have pre1 : Goes p e below s₁ (entryFrame m #[(.ref a1), (.ref a2), (.ref a3)] 3) s₁ (mkF m 1 #[.val (.ref a1), .val (.ref a2), .val (.ref a3)] [(.ref a1)]) := fun t kt => pre0 t (by
      show Steps p.tables e below (s₁.setTop (mkF m 0 #[.val (.ref a1), .val (.ref a2), .val (.ref a3)] [])) _
      refine XS.aloadN X0.here hx rfl (hb hby own_d_own_canKey211_0) rfl rfl ?_
      exact kt)
  obtain ⟨cq2, kq2, q2a, q2b, q2c⟩ := isOf hZ e0 E_a1
  obtain ⟨_, _, ⟨T2, L2, k2, n2⟩, -, X2, ⟨Lc2, hQ2, l2, y2, z2⟩, st2⟩ := X0.virtualBackUp hx (x := (⟨"com/example/tallygate/tallygate/KeyType", "ordinal", "()I"⟩ : MethodName)) (y := (⟨"java/lang/Enum", "ordinal", "()I"⟩ : MethodName)) hown (mvT hZ (hw _ (List.mem_of_getElem? (i := 42) rfl))) (mvT hZ (hw _ (List.mem_of_getElem? (i := 43) rfl))) (mvT hZ (hw _ (List.mem_of_getElem? (i := 44) rfl))) (by decide) (mvT hZ (hw _ (List.mem_of_getElem? (i := 46) rfl))) (mvT hZ (hw _ (List.mem_of_getElem? (i := 45) rfl))) (backOf (W := 0) (own_ordinal l Z a0 hw [] a1 (2 : Int32) h0 n0 Z0 O_a1) hZ (hw _ (List.mem_of_getElem? (i := 48) rfl)) (hw _ (List.mem_of_getElem? (i := 47) rfl)) (by decide) (by decide)) q2a q2c (g := (mkF m 1 #[.val (.ref a1), .val (.ref a2), .val (.ref a3)] [(.ref a1)])) rfl (by rw [hml]; rfl) (Steps.refl _) (argsL := []) (rest := []) (lenOf own_pd5 rfl) rfl (by show 2 * 0 + _ ≤ _; exact Nat.le_of_eq rfl) (hb hby own_d_own_canKey211_1) (fun _ _ => ⟨rfl, e0, (by decide : 0 + 0 ≤ _), (by decide : 0 + 0 ≤ _)⟩)
  dsimp only [Pt.U, Pt.locs, Pt.cells, Pt.slots] at X2 l2 y2 z2 st2 hQ2
  subst l2 y2 z2
  obtain ⟨rfl, N2q, e2⟩ := hQ2
  have N2 := Fr.app N0 N2q
  have pre3 : Goes p e below s₁ (entryFrame m #[(.ref a1), (.ref a2), (.ref a3)] 3) T2 (mkF m 4 #[.val (.ref a1), .val (.ref a2), .val (.ref a3)] [(.int (2 : Int32))]) := fun t kt => pre1 t (st2.trans kt)
  have pre4 : Goes p e below s₁ (entryFrame m #[(.ref a1), (.ref a2), (.ref a3)] 3) T2 (mkF m 79 #[.val (.ref a1), .val (.ref a2), .val (.ref a3)] [(.int (1 : Int32))]) := fun t kt => pre3 t (by
      show Steps p.tables e below (T2.setTop (mkF m 4 #[.val (.ref a1), .val (.ref a2), .val (.ref a3)] [(.int (2 : Int32))])) _
      refine XS.tswIn X2.here hx rfl (pc0 := 4) (pc' := 66) rfl (hb hby own_d_own_canKey211_4) rfl (by decide) (o := 62) (by decide) (by decide) (by decide) ?_
      show Steps p.tables e below (T2.setTop (mkF m 66 #[.val (.ref a1), .val (.ref a2), .val (.ref a3)] [])) _
      refine XS.aloadN X2.here hx rfl (hb hby own_d_own_canKey211_66) rfl rfl ?_
      show Steps p.tables e below (T2.setTop (mkF m 67 #[.val (.ref a1), .val (.ref a2), .val (.ref a3)] [(.ref a2)])) _
      refine XS.ifnullNo X2.here hx rfl (hb hby own_d_own_canKey211_67) rfl ?_
      show Steps p.tables e below (T2.setTop (mkF m 70 #[.val (.ref a1), .val (.ref a2), .val (.ref a3)] [])) _
      refine XS.aloadN X2.here hx rfl (hb hby own_d_own_canKey211_70) rfl rfl ?_
      show Steps p.tables e below (T2.setTop (mkF m 71 #[.val (.ref a1), .val (.ref a2), .val (.ref a3)] [(.ref a3)])) _
      refine XS.ifnullNo X2.here hx rfl (hb hby own_d_own_canKey211_71) rfl ?_
      show Steps p.tables e below (T2.setTop (mkF m 74 #[.val (.ref a1), .val (.ref a2), .val (.ref a3)] [])) _
      refine XS.iconst X2.here hx rfl (hb hby own_d_own_canKey211_74) ?_
      show Steps p.tables e below (T2.setTop (mkF m 75 #[.val (.ref a1), .val (.ref a2), .val (.ref a3)] [(.int (1 : Int32))])) _
      refine XS.goto X2.here hx rfl (pc0 := 75) (pc' := 79) rfl (hb hby own_d_own_canKey211_75) (by decide) (by decide) ?_
      exact kt)
  obtain ⟨fs, hr, hrun, hended, hW, hsame⟩ := X2.leave (v := some (.int (1 : Int32))) (fun h => by rw [Bd.returns] at h; cases h)
  refine ⟨_, _, pre4 _ ?_, hrun, hended, _, _, rfl, ?_, ⟨_, rfl⟩, hW, hsame.mono (by decide) (by decide)⟩
  · show Steps p.tables e below (T2.setTop (mkF m 79 #[.val (.ref a1), .val (.ref a2), .val (.ref a3)] [(.int (1 : Int32))])) _
    exact retN X2 hx (t := .boolean) Bd.returns (by simp) (hb hby own_d_own_canKey211_79) hr
  · show Q_own_canKey211 Z a1 a2 a3 h0 n0 _ T2.heap _
    rw [e2]
    exact ⟨rfl, N2, rfl⟩
theorem own_pn_own_rm0 : plainName "com/example/tallygate/tallygate/KeyTypeCanKeyPinLaw" = true := by first | (simp [plainName, overriddenIn]; done) | decide +kernel
theorem own_ef_own_rm0 (m : MethodId) (x0 : Int32) (x1 : Int32) (x2 : Int32) : entryFrame m #[(.int x0), (.int x1), (.int x2)] maxLocals = mkF m 0 #[.val (.int x0), .val (.int x1), .val (.int x2), .unset, .unset, .unset, .unset, .unset, .unset, .unset] [] := by first | (simp [entryFrame, mkF, argsToLocals, Value.category, maxLocals]; done) | rfl
def Q_own_rm0 (Z : State) (flags : Int32) (c1 : Int32) (c2 : Int32) (cs : Int32) (aACCOUNT : Addr) (aADDRESS : Addr) (aPAIR : Addr) (h0 : Heap) (n0 : Nat) (v : Option Value) (h : Heap) (L : List Loc) : Prop := v = some (.int (1 : Int32)) ∧ Fr n0 L
set_option maxRecDepth 65536 in
set_option maxHeartbeats 40000000 in
theorem own_rm0 (l : Launch) (Z : State) (a0 : Array Value) (hw : ∀ d ∈ tables_1, d.before a0 Z = true) (ws : List Jvm.Cond) (flags : Int32) (c1 : Int32) (c2 : Int32) (cs : Int32) (aACCOUNT : Addr) (aADDRESS : Addr) (aPAIR : Addr) (h0 : Heap) (n0 : Nat) (Z0 : n0 ≤ h0.size) (S_CS : Sta Z Z.heap "java/lang/String" "COMPACT_STRINGS" "Z" (.int cs)) (hcs : ¬ (cs = (0 : Int32))) (O0 : Old Z n0 h0) (S_ACCOUNT : Sta Z Z.heap "com/example/tallygate/tallygate/KeyType" "ACCOUNT" "Lcom/example/tallygate/tallygate/KeyType;" (.ref aACCOUNT)) (S_ADDRESS : Sta Z Z.heap "com/example/tallygate/tallygate/KeyType" "ADDRESS" "Lcom/example/tallygate/tallygate/KeyType;" (.ref aADDRESS)) (S_PAIR : Sta Z Z.heap "com/example/tallygate/tallygate/KeyType" "PAIR" "Lcom/example/tallygate/tallygate/KeyType;" (.ref aPAIR)) (E_ACCOUNT : Exa Z h0 aACCOUNT "com/example/tallygate/tallygate/KeyType") (E_ADDRESS : Exa Z h0 aADDRESS "com/example/tallygate/tallygate/KeyType") (E_PAIR : Exa Z h0 aPAIR "com/example/tallygate/tallygate/KeyType") (O_ACCOUNT : Fld Z h0 aACCOUNT "java/lang/Enum" "ordinal" "I" (.int (0 : Int32))) (O_ADDRESS : Fld Z h0 aADDRESS "java/lang/Enum" "ordinal" "I" (.int (1 : Int32))) (O_PAIR : Fld Z h0 aPAIR "java/lang/Enum" "ordinal" "I" (.int (2 : Int32))) :
    MetFree l x (head1 (Jvm.Cond.code x code maxLocals ret :: ws) room_1) (fun a U => a = #[(.int flags), (.int c1), (.int c2)] ∧ Z.Warmed39 U.vm ∧ U.heap = h0) (fun _ _ _ _ _ => True) (fun _ U o U' => ∃ v L, o = .returned v ∧ Q_own_rm0 Z flags c1 c2 cs aACCOUNT aADDRESS aPAIR h0 n0 v U'.heap L ∧ ReturnedEndW U o U' L room_1.cells room_1.slots) := by
  refine MetFree.of_bodySF (plainFor_of_name own_pn_own_rm0) hisR ?_
  intro p e s m args below meth c s₁ Bd hml0 hP hK
  obtain ⟨rfl, hZ, hh⟩ := hP
  have hx := Bd.exec
  have hby := Bd.bytes
  have hml : c.maxLocals = 10 := hml0
  have hown : s.vm.findClass "com/example/tallygate/tallygate/KeyTypeCanKeyPinLaw" = some m.cls := findClass_of_methodNamed Bd.named
  have hnm := (name_of_methodNamed Bd.named Bd.method).1
  have X0 : Stand p l e room_1 s m #[(.int flags), (.int c1), (.int c2)] below meth c s₁ [] 0 0 := Stand.of_body Bd
  have e0 : s₁.heap = h0 := by rw [← hh, Bd.state]; rfl
  have N0 := Fr.nil n0
  have pre0 : Goes p e below s₁ (entryFrame m #[(.int flags), (.int c1), (.int c2)] maxLocals) s₁ (mkF m 0 #[.val (.int flags), .val (.int c1), .val (.int c2), .unset, .unset, .unset, .unset, .unset, .unset, .unset] []) := fun t k => castTop (own_ef_own_rm0 m flags c1 c2) k
  obtain ⟨g1, hg1, pre2⟩ : ∃ (g1 : Int32), (g1 = (0 : Int32) ∨ g1 = (1 : Int32)) ∧ Goes p e below s₁ (entryFrame m #[(.int flags), (.int c1), (.int c2)] maxLocals) s₁ (mkF m 11 #[.val (.int flags), .val (.int c1), .val (.int c2), .unset, .unset, .unset, .unset, .unset, .unset, .unset] [(.int g1)]) := by
    have pre3 : Goes p e below s₁ (entryFrame m #[(.int flags), (.int c1), (.int c2)] maxLocals) s₁ (mkF m 3 #[.val (.int flags), .val (.int c1), .val (.int c2), .unset, .unset, .unset, .unset, .unset, .unset, .unset] [(.int (flags &&& (1 : Int32)))]) := fun t kt => pre0 t (by
        show Steps p.tables e below (s₁.setTop (mkF m 0 #[.val (.int flags), .val (.int c1), .val (.int c2), .unset, .unset, .unset, .unset, .unset, .unset, .unset] [])) _
        refine XS.iloadN X0.here hx rfl (hb hby at_0) rfl ?_
        show Steps p.tables e below (s₁.setTop (mkF m 1 #[.val (.int flags), .val (.int c1), .val (.int c2), .unset, .unset, .unset, .unset, .unset, .unset, .unset] [(.int flags)])) _
        refine XS.iconst X0.here hx rfl (hb hby at_1) ?_
        show Steps p.tables e below (s₁.setTop (mkF m 2 #[.val (.int flags), .val (.int c1), .val (.int c2), .unset, .unset, .unset, .unset, .unset, .unset, .unset] [(.int (1 : Int32)), (.int flags)])) _
        refine XS.iand X0.here hx rfl (hb hby at_2) rfl ?_
        exact kt)
    by_cases hc3_4 : (flags &&& (1 : Int32)) = (0 : Int32)
    · -- yes at pc 3: 
      have pre5 : Goes p e below s₁ (entryFrame m #[(.int flags), (.int c1), (.int c2)] maxLocals) s₁ (mkF m 11 #[.val (.int flags), .val (.int c1), .val (.int c2), .unset, .unset, .unset, .unset, .unset, .unset, .unset] [(.int (0 : Int32))]) := fun t kt => pre3 t (by
          show Steps p.tables e below (s₁.setTop (mkF m 3 #[.val (.int flags), .val (.int c1), .val (.int c2), .unset, .unset, .unset, .unset, .unset, .unset, .unset] [(.int (flags &&& (1 : Int32)))])) _
          refine XS.ifYes X0.here hx rfl (pc0 := 3) (pc' := 10) rfl (hb hby at_3) rfl ((if0 _ _).trans (teq hc3_4).1) (by decide) (by decide) ?_
          show Steps p.tables e below (s₁.setTop (mkF m 10 #[.val (.int flags), .val (.int c1), .val (.int c2), .unset, .unset, .unset, .unset, .unset, .unset, .unset] [])) _
          refine XS.iconst X0.here hx rfl (hb hby at_10) ?_
          exact kt)
      exact ⟨(0 : Int32), (Or.inl rfl), pre5⟩
    · -- no at pc 3: 
      have pre6 : Goes p e below s₁ (entryFrame m #[(.int flags), (.int c1), (.int c2)] maxLocals) s₁ (mkF m 11 #[.val (.int flags), .val (.int c1), .val (.int c2), .unset, .unset, .unset, .unset, .unset, .unset, .unset] [(.int (1 : Int32))]) := fun t kt => pre3 t (by
          show Steps p.tables e below (s₁.setTop (mkF m 3 #[.val (.int flags), .val (.int c1), .val (.int c2), .unset, .unset, .unset, .unset, .unset, .unset, .unset] [(.int (flags &&& (1 : Int32)))])) _
          refine XS.ifNo X0.here hx rfl (hb hby at_3) rfl ((if0 _ _).trans (feq hc3_4).1) ?_
          show Steps p.tables e below (s₁.setTop (mkF m 6 #[.val (.int flags), .val (.int c1), .val (.int c2), .unset, .unset, .unset, .unset, .unset, .unset, .unset] [])) _
          refine XS.iconst X0.here hx rfl (hb hby at_6) ?_
          show Steps p.tables e below (s₁.setTop (mkF m 7 #[.val (.int flags), .val (.int c1), .val (.int c2), .unset, .unset, .unset, .unset, .unset, .unset, .unset] [(.int (1 : Int32))])) _
          refine XS.goto X0.here hx rfl (pc0 := 7) (pc' := 11) rfl (hb hby at_7) (by decide) (by decide) ?_
          exact kt)
      exact ⟨(1 : Int32), (Or.inr rfl), pre6⟩
  obtain ⟨g2, hg2, pre8⟩ : ∃ (g2 : Int32), (g2 = (0 : Int32) ∨ g2 = (1 : Int32)) ∧ Goes p e below s₁ (entryFrame m #[(.int flags), (.int c1), (.int c2)] maxLocals) s₁ (mkF m 22 #[.val (.int flags), .val (.int c1), .val (.int c2), .unset, .unset, .unset, .unset, .unset, .unset, .unset] [(.int g2), (.int g1)]) := by
    have pre9 : Goes p e below s₁ (entryFrame m #[(.int flags), (.int c1), (.int c2)] maxLocals) s₁ (mkF m 14 #[.val (.int flags), .val (.int c1), .val (.int c2), .unset, .unset, .unset, .unset, .unset, .unset, .unset] [(.int (flags &&& (2 : Int32))), (.int g1)]) := fun t kt => pre2 t (by
        show Steps p.tables e below (s₁.setTop (mkF m 11 #[.val (.int flags), .val (.int c1), .val (.int c2), .unset, .unset, .unset, .unset, .unset, .unset, .unset] [(.int g1)])) _
        refine XS.iloadN X0.here hx rfl (hb hby at_11) rfl ?_
        show Steps p.tables e below (s₁.setTop (mkF m 12 #[.val (.int flags), .val (.int c1), .val (.int c2), .unset, .unset, .unset, .unset, .unset, .unset, .unset] [(.int flags), (.int g1)])) _
        refine XS.iconst X0.here hx rfl (hb hby at_12) ?_
        show Steps p.tables e below (s₁.setTop (mkF m 13 #[.val (.int flags), .val (.int c1), .val (.int c2), .unset, .unset, .unset, .unset, .unset, .unset, .unset] [(.int (2 : Int32)), (.int flags), (.int g1)])) _
        refine XS.iand X0.here hx rfl (hb hby at_13) rfl ?_
        exact kt)
    by_cases hc14_10 : (flags &&& (2 : Int32)) = (0 : Int32)
    · -- yes at pc 14: 
      have pre11 : Goes p e below s₁ (entryFrame m #[(.int flags), (.int c1), (.int c2)] maxLocals) s₁ (mkF m 22 #[.val (.int flags), .val (.int c1), .val (.int c2), .unset, .unset, .unset, .unset, .unset, .unset, .unset] [(.int (0 : Int32)), (.int g1)]) := fun t kt => pre9 t (by
          show Steps p.tables e below (s₁.setTop (mkF m 14 #[.val (.int flags), .val (.int c1), .val (.int c2), .unset, .unset, .unset, .unset, .unset, .unset, .unset] [(.int (flags &&& (2 : Int32))), (.int g1)])) _
          refine XS.ifYes X0.here hx rfl (pc0 := 14) (pc' := 21) rfl (hb hby at_14) rfl ((if0 _ _).trans (teq hc14_10).1) (by decide) (by decide) ?_
          show Steps p.tables e below (s₁.setTop (mkF m 21 #[.val (.int flags), .val (.int c1), .val (.int c2), .unset, .unset, .unset, .unset, .unset, .unset, .unset] [(.int g1)])) _
          refine XS.iconst X0.here hx rfl (hb hby at_21) ?_
          exact kt)
      exact ⟨(0 : Int32), (Or.inl rfl), pre11⟩
    · -- no at pc 14: 
      have pre12 : Goes p e below s₁ (entryFrame m #[(.int flags), (.int c1), (.int c2)] maxLocals) s₁ (mkF m 22 #[.val (.int flags), .val (.int c1), .val (.int c2), .unset, .unset, .unset, .unset, .unset, .unset, .unset] [(.int (1 : Int32)), (.int g1)]) := fun t kt => pre9 t (by
          show Steps p.tables e below (s₁.setTop (mkF m 14 #[.val (.int flags), .val (.int c1), .val (.int c2), .unset, .unset, .unset, .unset, .unset, .unset, .unset] [(.int (flags &&& (2 : Int32))), (.int g1)])) _
          refine XS.ifNo X0.here hx rfl (hb hby at_14) rfl ((if0 _ _).trans (feq hc14_10).1) ?_
          show Steps p.tables e below (s₁.setTop (mkF m 17 #[.val (.int flags), .val (.int c1), .val (.int c2), .unset, .unset, .unset, .unset, .unset, .unset, .unset] [(.int g1)])) _
          refine XS.iconst X0.here hx rfl (hb hby at_17) ?_
          show Steps p.tables e below (s₁.setTop (mkF m 18 #[.val (.int flags), .val (.int c1), .val (.int c2), .unset, .unset, .unset, .unset, .unset, .unset, .unset] [(.int (1 : Int32)), (.int g1)])) _
          refine XS.goto X0.here hx rfl (pc0 := 18) (pc' := 22) rfl (hb hby at_18) (by decide) (by decide) ?_
          exact kt)
      exact ⟨(1 : Int32), (Or.inr rfl), pre12⟩
  rcases hg1 with rfl | rfl
  · rcases hg2 with rfl | rfl
    · -- S
      have pre13 : Goes p e below s₁ (entryFrame m #[(.int flags), (.int c1), (.int c2)] maxLocals) s₁ (mkF m 23 #[.val (.int flags), .val (.int c1), .val (.int c2), .unset, .unset, .unset, .unset, .unset, .unset, .unset] [(.int c1), (.int (0 : Int32)), (.int (0 : Int32))]) := fun t kt => pre8 t (by
          show Steps p.tables e below (s₁.setTop (mkF m 22 #[.val (.int flags), .val (.int c1), .val (.int c2), .unset, .unset, .unset, .unset, .unset, .unset, .unset] [(.int (0 : Int32)), (.int (0 : Int32))])) _
          refine XS.iloadN X0.here hx rfl (hb hby at_22) rfl ?_
          exact kt)
      obtain ⟨_, _, ⟨T14, L14, k14, n14⟩, -, X14, ⟨Lc14, hQ14, l14, y14, z14⟩, st14⟩ := Jvm.LawKit.callS X0 hx (y := (⟨"com/example/tallygate/tallygate/KeyTypeCanKeyPinLaw", "make", "(ZZI)Ljava/lang/String;"⟩ : MethodName)) hown (mvT hZ (hw _ (List.mem_of_getElem? (i := 0) rfl))) (mvT hZ (hw _ (List.mem_of_getElem? (i := 1) rfl))) (mvT hZ (hw _ (List.mem_of_getElem? (i := 2) rfl))) (mvT hZ (hw _ (List.mem_of_getElem? (i := 3) rfl))) (by decide) (backOf (W := 0) (own_makeS l Z a0 hw [] c1 cs h0 n0 Z0 (S_CS.ext O0.2) hcs) hZ (hw _ (List.mem_of_getElem? (i := 3) rfl)) (hw _ (List.mem_of_getElem? (i := 2) rfl)) (by decide) (by decide)) (g := (mkF m 23 #[.val (.int flags), .val (.int c1), .val (.int c2), .unset, .unset, .unset, .unset, .unset, .unset, .unset] [(.int c1), (.int (0 : Int32)), (.int (0 : Int32))])) rfl (by rw [hml]; rfl) (argsL := [(.int (0 : Int32)), (.int (0 : Int32)), (.int c1)]) (rest := []) (lenOf own_pd6 rfl) rfl (by show 2 * 0 + _ ≤ _; exact Nat.le_of_eq rfl) (hb hby at_23) (fun _ _ => ⟨rfl, e0, (by decide : 0 + 3 ≤ _), (by decide : 0 + 8 ≤ _)⟩)
      dsimp only [Pt.U, Pt.locs, Pt.cells, Pt.slots] at X14 l14 y14 z14 st14 hQ14
      subst l14 y14 z14
      obtain ⟨sa14, rfl, N14q, K14q⟩ := hQ14
      have N14 := Fr.app N0 N14q
      have KC14 : Keep h0 T14.heap [] := (Keep.refl h0 []).trans K14q all0
      have pre15 : Goes p e below s₁ (entryFrame m #[(.int flags), (.int c1), (.int c2)] maxLocals) T14 (mkF m 26 #[.val (.int flags), .val (.int c1), .val (.int c2), .unset, .unset, .unset, .unset, .unset, .unset, .unset] [(.ref sa14)]) := fun t kt => pre13 t (st14 t kt)
      have pre16 : Goes p e below s₁ (entryFrame m #[(.int flags), (.int c1), (.int c2)] maxLocals) T14 (mkF m 27 #[.val (.int flags), .val (.int c1), .val (.int c2), .val (.ref sa14), .unset, .unset, .unset, .unset, .unset, .unset] []) := fun t kt => pre15 t (by
          show Steps p.tables e below (T14.setTop (mkF m 26 #[.val (.int flags), .val (.int c1), .val (.int c2), .unset, .unset, .unset, .unset, .unset, .unset, .unset] [(.ref sa14)])) _
          refine XS.astoreN X14.here hx rfl (hb hby at_26) rfl rfl (l' := #[.val (.int flags), .val (.int c1), .val (.int c2), .val (.ref sa14), .unset, .unset, .unset, .unset, .unset, .unset]) rfl ?_
          exact kt)
      obtain ⟨g3, hg3, pre18⟩ : ∃ (g3 : Int32), (g3 = (0 : Int32) ∨ g3 = (1 : Int32)) ∧ Goes p e below s₁ (entryFrame m #[(.int flags), (.int c1), (.int c2)] maxLocals) T14 (mkF m 38 #[.val (.int flags), .val (.int c1), .val (.int c2), .val (.ref sa14), .unset, .unset, .unset, .unset, .unset, .unset] [(.int g3)]) := by
        have pre19 : Goes p e below s₁ (entryFrame m #[(.int flags), (.int c1), (.int c2)] maxLocals) T14 (mkF m 30 #[.val (.int flags), .val (.int c1), .val (.int c2), .val (.ref sa14), .unset, .unset, .unset, .unset, .unset, .unset] [(.int (flags &&& (4 : Int32)))]) := fun t kt => pre16 t (by
            show Steps p.tables e below (T14.setTop (mkF m 27 #[.val (.int flags), .val (.int c1), .val (.int c2), .val (.ref sa14), .unset, .unset, .unset, .unset, .unset, .unset] [])) _
            refine XS.iloadN X14.here hx rfl (hb hby at_27) rfl ?_
            show Steps p.tables e below (T14.setTop (mkF m 28 #[.val (.int flags), .val (.int c1), .val (.int c2), .val (.ref sa14), .unset, .unset, .unset, .unset, .unset, .unset] [(.int flags)])) _
            refine XS.iconst X14.here hx rfl (hb hby at_28) ?_
            show Steps p.tables e below (T14.setTop (mkF m 29 #[.val (.int flags), .val (.int c1), .val (.int c2), .val (.ref sa14), .unset, .unset, .unset, .unset, .unset, .unset] [(.int (4 : Int32)), (.int flags)])) _
            refine XS.iand X14.here hx rfl (hb hby at_29) rfl ?_
            exact kt)
        by_cases hc30_20 : (flags &&& (4 : Int32)) = (0 : Int32)
        · -- yes at pc 30: 
          have pre21 : Goes p e below s₁ (entryFrame m #[(.int flags), (.int c1), (.int c2)] maxLocals) T14 (mkF m 38 #[.val (.int flags), .val (.int c1), .val (.int c2), .val (.ref sa14), .unset, .unset, .unset, .unset, .unset, .unset] [(.int (0 : Int32))]) := fun t kt => pre19 t (by
              show Steps p.tables e below (T14.setTop (mkF m 30 #[.val (.int flags), .val (.int c1), .val (.int c2), .val (.ref sa14), .unset, .unset, .unset, .unset, .unset, .unset] [(.int (flags &&& (4 : Int32)))])) _
              refine XS.ifYes X14.here hx rfl (pc0 := 30) (pc' := 37) rfl (hb hby at_30) rfl ((if0 _ _).trans (teq hc30_20).1) (by decide) (by decide) ?_
              show Steps p.tables e below (T14.setTop (mkF m 37 #[.val (.int flags), .val (.int c1), .val (.int c2), .val (.ref sa14), .unset, .unset, .unset, .unset, .unset, .unset] [])) _
              refine XS.iconst X14.here hx rfl (hb hby at_37) ?_
              exact kt)
          exact ⟨(0 : Int32), (Or.inl rfl), pre21⟩
        · -- no at pc 30: 
          have pre22 : Goes p e below s₁ (entryFrame m #[(.int flags), (.int c1), (.int c2)] maxLocals) T14 (mkF m 38 #[.val (.int flags), .val (.int c1), .val (.int c2), .val (.ref sa14), .unset, .unset, .unset, .unset, .unset, .unset] [(.int (1 : Int32))]) := fun t kt => pre19 t (by
              show Steps p.tables e below (T14.setTop (mkF m 30 #[.val (.int flags), .val (.int c1), .val (.int c2), .val (.ref sa14), .unset, .unset, .unset, .unset, .unset, .unset] [(.int (flags &&& (4 : Int32)))])) _
              refine XS.ifNo X14.here hx rfl (hb hby at_30) rfl ((if0 _ _).trans (feq hc30_20).1) ?_
              show Steps p.tables e below (T14.setTop (mkF m 33 #[.val (.int flags), .val (.int c1), .val (.int c2), .val (.ref sa14), .unset, .unset, .unset, .unset, .unset, .unset] [])) _
              refine XS.iconst X14.here hx rfl (hb hby at_33) ?_
              show Steps p.tables e below (T14.setTop (mkF m 34 #[.val (.int flags), .val (.int c1), .val (.int c2), .val (.ref sa14), .unset, .unset, .unset, .unset, .unset, .unset] [(.int (1 : Int32))])) _
              refine XS.goto X14.here hx rfl (pc0 := 34) (pc' := 38) rfl (hb hby at_34) (by decide) (by decide) ?_
              exact kt)
          exact ⟨(1 : Int32), (Or.inr rfl), pre22⟩
      obtain ⟨g4, hg4, pre24⟩ : ∃ (g4 : Int32), (g4 = (0 : Int32) ∨ g4 = (1 : Int32)) ∧ Goes p e below s₁ (entryFrame m #[(.int flags), (.int c1), (.int c2)] maxLocals) T14 (mkF m 50 #[.val (.int flags), .val (.int c1), .val (.int c2), .val (.ref sa14), .unset, .unset, .unset, .unset, .unset, .unset] [(.int g4), (.int g3)]) := by
        have pre25 : Goes p e below s₁ (entryFrame m #[(.int flags), (.int c1), (.int c2)] maxLocals) T14 (mkF m 42 #[.val (.int flags), .val (.int c1), .val (.int c2), .val (.ref sa14), .unset, .unset, .unset, .unset, .unset, .unset] [(.int (flags &&& (8 : Int32))), (.int g3)]) := fun t kt => pre18 t (by
            show Steps p.tables e below (T14.setTop (mkF m 38 #[.val (.int flags), .val (.int c1), .val (.int c2), .val (.ref sa14), .unset, .unset, .unset, .unset, .unset, .unset] [(.int g3)])) _
            refine XS.iloadN X14.here hx rfl (hb hby at_38) rfl ?_
            show Steps p.tables e below (T14.setTop (mkF m 39 #[.val (.int flags), .val (.int c1), .val (.int c2), .val (.ref sa14), .unset, .unset, .unset, .unset, .unset, .unset] [(.int flags), (.int g3)])) _
            refine XS.bipush X14.here hx rfl (hb hby at_39) ?_
            show Steps p.tables e below (T14.setTop (mkF m 41 #[.val (.int flags), .val (.int c1), .val (.int c2), .val (.ref sa14), .unset, .unset, .unset, .unset, .unset, .unset] [(.int (8 : Int32)), (.int flags), (.int g3)])) _
            refine XS.iand X14.here hx rfl (hb hby at_41) rfl ?_
            exact kt)
        by_cases hc42_26 : (flags &&& (8 : Int32)) = (0 : Int32)
        · -- yes at pc 42: 
          have pre27 : Goes p e below s₁ (entryFrame m #[(.int flags), (.int c1), (.int c2)] maxLocals) T14 (mkF m 50 #[.val (.int flags), .val (.int c1), .val (.int c2), .val (.ref sa14), .unset, .unset, .unset, .unset, .unset, .unset] [(.int (0 : Int32)), (.int g3)]) := fun t kt => pre25 t (by
              show Steps p.tables e below (T14.setTop (mkF m 42 #[.val (.int flags), .val (.int c1), .val (.int c2), .val (.ref sa14), .unset, .unset, .unset, .unset, .unset, .unset] [(.int (flags &&& (8 : Int32))), (.int g3)])) _
              refine XS.ifYes X14.here hx rfl (pc0 := 42) (pc' := 49) rfl (hb hby at_42) rfl ((if0 _ _).trans (teq hc42_26).1) (by decide) (by decide) ?_
              show Steps p.tables e below (T14.setTop (mkF m 49 #[.val (.int flags), .val (.int c1), .val (.int c2), .val (.ref sa14), .unset, .unset, .unset, .unset, .unset, .unset] [(.int g3)])) _
              refine XS.iconst X14.here hx rfl (hb hby at_49) ?_
              exact kt)
          exact ⟨(0 : Int32), (Or.inl rfl), pre27⟩
        · -- no at pc 42: 
          have pre28 : Goes p e below s₁ (entryFrame m #[(.int flags), (.int c1), (.int c2)] maxLocals) T14 (mkF m 50 #[.val (.int flags), .val (.int c1), .val (.int c2), .val (.ref sa14), .unset, .unset, .unset, .unset, .unset, .unset] [(.int (1 : Int32)), (.int g3)]) := fun t kt => pre25 t (by
              show Steps p.tables e below (T14.setTop (mkF m 42 #[.val (.int flags), .val (.int c1), .val (.int c2), .val (.ref sa14), .unset, .unset, .unset, .unset, .unset, .unset] [(.int (flags &&& (8 : Int32))), (.int g3)])) _
              refine XS.ifNo X14.here hx rfl (hb hby at_42) rfl ((if0 _ _).trans (feq hc42_26).1) ?_
              show Steps p.tables e below (T14.setTop (mkF m 45 #[.val (.int flags), .val (.int c1), .val (.int c2), .val (.ref sa14), .unset, .unset, .unset, .unset, .unset, .unset] [(.int g3)])) _
              refine XS.iconst X14.here hx rfl (hb hby at_45) ?_
              show Steps p.tables e below (T14.setTop (mkF m 46 #[.val (.int flags), .val (.int c1), .val (.int c2), .val (.ref sa14), .unset, .unset, .unset, .unset, .unset, .unset] [(.int (1 : Int32)), (.int g3)])) _
              refine XS.goto X14.here hx rfl (pc0 := 46) (pc' := 50) rfl (hb hby at_46) (by decide) (by decide) ?_
              exact kt)
          exact ⟨(1 : Int32), (Or.inr rfl), pre28⟩
      rcases hg3 with rfl | rfl
      · rcases hg4 with rfl | rfl
        · -- S
          have pre29 : Goes p e below s₁ (entryFrame m #[(.int flags), (.int c1), (.int c2)] maxLocals) T14 (mkF m 51 #[.val (.int flags), .val (.int c1), .val (.int c2), .val (.ref sa14), .unset, .unset, .unset, .unset, .unset, .unset] [(.int c2), (.int (0 : Int32)), (.int (0 : Int32))]) := fun t kt => pre24 t (by
              show Steps p.tables e below (T14.setTop (mkF m 50 #[.val (.int flags), .val (.int c1), .val (.int c2), .val (.ref sa14), .unset, .unset, .unset, .unset, .unset, .unset] [(.int (0 : Int32)), (.int (0 : Int32))])) _
              refine XS.iloadN X14.here hx rfl (hb hby at_50) rfl ?_
              exact kt)
          obtain ⟨_, _, ⟨T30, L30, k30, n30⟩, -, X30, ⟨Lc30, hQ30, l30, y30, z30⟩, st30⟩ := Jvm.LawKit.callS X14 hx (y := (⟨"com/example/tallygate/tallygate/KeyTypeCanKeyPinLaw", "make", "(ZZI)Ljava/lang/String;"⟩ : MethodName)) hown (mvT hZ (hw _ (List.mem_of_getElem? (i := 0) rfl))) (mvT hZ (hw _ (List.mem_of_getElem? (i := 1) rfl))) (mvT hZ (hw _ (List.mem_of_getElem? (i := 2) rfl))) (mvT hZ (hw _ (List.mem_of_getElem? (i := 3) rfl))) (by decide) (backOf (W := 0) (own_makeS l Z a0 hw [] c2 cs T14.heap n0 (Nat.le_trans Z0 K14q.1) (S_CS.ext (O0.keep K14q all0).2) hcs) hZ (hw _ (List.mem_of_getElem? (i := 3) rfl)) (hw _ (List.mem_of_getElem? (i := 2) rfl)) (by decide) (by decide)) (g := (mkF m 51 #[.val (.int flags), .val (.int c1), .val (.int c2), .val (.ref sa14), .unset, .unset, .unset, .unset, .unset, .unset] [(.int c2), (.int (0 : Int32)), (.int (0 : Int32))])) rfl (by rw [hml]; rfl) (argsL := [(.int (0 : Int32)), (.int (0 : Int32)), (.int c2)]) (rest := []) (lenOf own_pd6 rfl) rfl (by show 2 * 0 + _ ≤ _; exact Nat.le_of_eq rfl) (hb hby at_51) (fun _ _ => ⟨rfl, rfl, (by decide : 3 + 3 ≤ _), (by decide : 8 + 8 ≤ _)⟩)
          dsimp only [Pt.U, Pt.locs, Pt.cells, Pt.slots] at X30 l30 y30 z30 st30 hQ30
          subst l30 y30 z30
          obtain ⟨sa30, rfl, N30q, K30q⟩ := hQ30
          have N30 := Fr.app N14 N30q
          have KC30 : Keep h0 T30.heap [] := KC14.trans K30q all0
          have pre31 : Goes p e below s₁ (entryFrame m #[(.int flags), (.int c1), (.int c2)] maxLocals) T30 (mkF m 54 #[.val (.int flags), .val (.int c1), .val (.int c2), .val (.ref sa14), .unset, .unset, .unset, .unset, .unset, .unset] [(.ref sa30)]) := fun t kt => pre29 t (st30 t kt)
          have pre32 : Goes p e below s₁ (entryFrame m #[(.int flags), (.int c1), (.int c2)] maxLocals) T30 (mkF m 79 #[.val (.int flags), .val (.int c1), .val (.int c2), .val (.ref sa14), .val (.ref sa30), .val (.int (1 : Int32)), .val (.int (1 : Int32)), .unset, .unset, .unset] []) := fun t kt => pre31 t (by
              show Steps p.tables e below (T30.setTop (mkF m 54 #[.val (.int flags), .val (.int c1), .val (.int c2), .val (.ref sa14), .unset, .unset, .unset, .unset, .unset, .unset] [(.ref sa30)])) _
              refine XS.astore X30.here hx rfl (hb hby at_54) rfl rfl (l' := #[.val (.int flags), .val (.int c1), .val (.int c2), .val (.ref sa14), .val (.ref sa30), .unset, .unset, .unset, .unset, .unset]) rfl ?_
              show Steps p.tables e below (T30.setTop (mkF m 56 #[.val (.int flags), .val (.int c1), .val (.int c2), .val (.ref sa14), .val (.ref sa30), .unset, .unset, .unset, .unset, .unset] [])) _
              refine XS.aloadN X30.here hx rfl (hb hby at_56) rfl rfl ?_
              show Steps p.tables e below (T30.setTop (mkF m 57 #[.val (.int flags), .val (.int c1), .val (.int c2), .val (.ref sa14), .val (.ref sa30), .unset, .unset, .unset, .unset, .unset] [(.ref sa14)])) _
              refine XS.ifnullNo X30.here hx rfl (hb hby at_57) rfl ?_
              show Steps p.tables e below (T30.setTop (mkF m 60 #[.val (.int flags), .val (.int c1), .val (.int c2), .val (.ref sa14), .val (.ref sa30), .unset, .unset, .unset, .unset, .unset] [])) _
              refine XS.iconst X30.here hx rfl (hb hby at_60) ?_
              show Steps p.tables e below (T30.setTop (mkF m 61 #[.val (.int flags), .val (.int c1), .val (.int c2), .val (.ref sa14), .val (.ref sa30), .unset, .unset, .unset, .unset, .unset] [(.int (1 : Int32))])) _
              refine XS.goto X30.here hx rfl (pc0 := 61) (pc' := 65) rfl (hb hby at_61) (by decide) (by decide) ?_
              show Steps p.tables e below (T30.setTop (mkF m 65 #[.val (.int flags), .val (.int c1), .val (.int c2), .val (.ref sa14), .val (.ref sa30), .unset, .unset, .unset, .unset, .unset] [(.int (1 : Int32))])) _
              refine XS.istore X30.here hx rfl (hb hby at_65) rfl (l' := #[.val (.int flags), .val (.int c1), .val (.int c2), .val (.ref sa14), .val (.ref sa30), .val (.int (1 : Int32)), .unset, .unset, .unset, .unset]) rfl ?_
              show Steps p.tables e below (T30.setTop (mkF m 67 #[.val (.int flags), .val (.int c1), .val (.int c2), .val (.ref sa14), .val (.ref sa30), .val (.int (1 : Int32)), .unset, .unset, .unset, .unset] [])) _
              refine XS.aload X30.here hx rfl (hb hby at_67) rfl rfl ?_
              show Steps p.tables e below (T30.setTop (mkF m 69 #[.val (.int flags), .val (.int c1), .val (.int c2), .val (.ref sa14), .val (.ref sa30), .val (.int (1 : Int32)), .unset, .unset, .unset, .unset] [(.ref sa30)])) _
              refine XS.ifnullNo X30.here hx rfl (hb hby at_69) rfl ?_
              show Steps p.tables e below (T30.setTop (mkF m 72 #[.val (.int flags), .val (.int c1), .val (.int c2), .val (.ref sa14), .val (.ref sa30), .val (.int (1 : Int32)), .unset, .unset, .unset, .unset] [])) _
              refine XS.iconst X30.here hx rfl (hb hby at_72) ?_
              show Steps p.tables e below (T30.setTop (mkF m 73 #[.val (.int flags), .val (.int c1), .val (.int c2), .val (.ref sa14), .val (.ref sa30), .val (.int (1 : Int32)), .unset, .unset, .unset, .unset] [(.int (1 : Int32))])) _
              refine XS.goto X30.here hx rfl (pc0 := 73) (pc' := 77) rfl (hb hby at_73) (by decide) (by decide) ?_
              show Steps p.tables e below (T30.setTop (mkF m 77 #[.val (.int flags), .val (.int c1), .val (.int c2), .val (.ref sa14), .val (.ref sa30), .val (.int (1 : Int32)), .unset, .unset, .unset, .unset] [(.int (1 : Int32))])) _
              refine XS.istore X30.here hx rfl (hb hby at_77) rfl (l' := #[.val (.int flags), .val (.int c1), .val (.int c2), .val (.ref sa14), .val (.ref sa30), .val (.int (1 : Int32)), .val (.int (1 : Int32)), .unset, .unset, .unset]) rfl ?_
              exact kt)
          obtain ⟨T33, X33, e33, st33⟩ := getS2 X30 hx hZ hown (host := "") (Or.inl (hw _ (List.mem_of_getElem? (i := 34) rfl))) Via.refl rfl (S_ACCOUNT.ext ((O0.keep K14q all0).keep K30q all0).2) (g := (mkF m 79 #[.val (.int flags), .val (.int c1), .val (.int c2), .val (.ref sa14), .val (.ref sa30), .val (.int (1 : Int32)), .val (.int (1 : Int32)), .unset, .unset, .unset] [])) rfl (hb hby at_79)
          have pre34 : Goes p e below s₁ (entryFrame m #[(.int flags), (.int c1), (.int c2)] maxLocals) T33 (mkF m 82 #[.val (.int flags), .val (.int c1), .val (.int c2), .val (.ref sa14), .val (.ref sa30), .val (.int (1 : Int32)), .val (.int (1 : Int32)), .unset, .unset, .unset] [(.ref aACCOUNT)]) := fun t kt => pre32 t (st33 t kt)
          have pre35 : Goes p e below s₁ (entryFrame m #[(.int flags), (.int c1), (.int c2)] maxLocals) T33 (mkF m 85 #[.val (.int flags), .val (.int c1), .val (.int c2), .val (.ref sa14), .val (.ref sa30), .val (.int (1 : Int32)), .val (.int (1 : Int32)), .unset, .unset, .unset] [(.ref sa30), (.ref sa14), (.ref aACCOUNT)]) := fun t kt => pre34 t (by
              show Steps p.tables e below (T33.setTop (mkF m 82 #[.val (.int flags), .val (.int c1), .val (.int c2), .val (.ref sa14), .val (.ref sa30), .val (.int (1 : Int32)), .val (.int (1 : Int32)), .unset, .unset, .unset] [(.ref aACCOUNT)])) _
              refine XS.aloadN X33.here hx rfl (hb hby at_82) rfl rfl ?_
              show Steps p.tables e below (T33.setTop (mkF m 83 #[.val (.int flags), .val (.int c1), .val (.int c2), .val (.ref sa14), .val (.ref sa30), .val (.int (1 : Int32)), .val (.int (1 : Int32)), .unset, .unset, .unset] [(.ref sa14), (.ref aACCOUNT)])) _
              refine XS.aload X33.here hx rfl (hb hby at_83) rfl rfl ?_
              exact kt)
          obtain ⟨cq36, kq36, q36a, q36b, q36c⟩ := isOf hZ e33 ((E_ACCOUNT.keep K14q).keep K30q)
          obtain ⟨_, _, ⟨T36, L36, k36, n36⟩, -, X36, ⟨Lc36, hQ36, l36, y36, z36⟩, st36⟩ := X33.virtualBack hx (y := (⟨"com/example/tallygate/tallygate/KeyType", "canKey", "(Ljava/lang/String;Ljava/lang/String;)Z"⟩ : MethodName)) (z := (⟨"com/example/tallygate/tallygate/KeyType", "canKey", "(Ljava/lang/String;Ljava/lang/String;)Z"⟩ : MethodName)) hown (mvT hZ (hw _ (List.mem_of_getElem? (i := 37) rfl))) (mvT hZ (hw _ (List.mem_of_getElem? (i := 38) rfl))) (notFace_of_selects (args := #[]) (mvT hZ (hw _ (List.mem_of_getElem? (i := 40) rfl)))) (mvT hZ (hw _ (List.mem_of_getElem? (i := 40) rfl))) (mvT hZ (hw _ (List.mem_of_getElem? (i := 39) rfl))) (by decide) (backOf (W := 0) (own_canKey011 l Z a0 hw [] aACCOUNT sa14 sa30 T30.heap n0 (Nat.le_trans (Nat.le_trans Z0 K14q.1) K30q.1) ((E_ACCOUNT.keep K14q).keep K30q) ((O_ACCOUNT.keep K14q nin0).keep K30q nin0)) hZ (hw _ (List.mem_of_getElem? (i := 41) rfl)) (hw _ (List.mem_of_getElem? (i := 35) rfl)) (by decide) (by decide)) q36a q36c (g := (mkF m 85 #[.val (.int flags), .val (.int c1), .val (.int c2), .val (.ref sa14), .val (.ref sa30), .val (.int (1 : Int32)), .val (.int (1 : Int32)), .unset, .unset, .unset] [(.ref sa30), (.ref sa14), (.ref aACCOUNT)])) rfl (by rw [hml]; rfl) (Steps.refl _) (argsL := [(.ref sa14), (.ref sa30)]) (rest := []) (lenOf own_pd7 rfl) rfl (by show 2 * 0 + _ ≤ _; exact Nat.le_of_eq rfl) (hb hby at_85) (fun _ _ => ⟨rfl, e33, (by decide : 6 + 0 ≤ _), (by decide : 16 + 0 ≤ _)⟩)
          dsimp only [Pt.U, Pt.locs, Pt.cells, Pt.slots] at X36 l36 y36 z36 st36 hQ36
          subst l36 y36 z36
          obtain ⟨rfl, N36q, e36⟩ := hQ36
          have N36 := Fr.app N30 N36q
          have pre37 : Goes p e below s₁ (entryFrame m #[(.int flags), (.int c1), (.int c2)] maxLocals) T36 (mkF m 88 #[.val (.int flags), .val (.int c1), .val (.int c2), .val (.ref sa14), .val (.ref sa30), .val (.int (1 : Int32)), .val (.int (1 : Int32)), .unset, .unset, .unset] [(.int (1 : Int32))]) := fun t kt => pre35 t (st36.trans kt)
          have pre38 : Goes p e below s₁ (entryFrame m #[(.int flags), (.int c1), (.int c2)] maxLocals) T36 (mkF m 90 #[.val (.int flags), .val (.int c1), .val (.int c2), .val (.ref sa14), .val (.ref sa30), .val (.int (1 : Int32)), .val (.int (1 : Int32)), .val (.int (1 : Int32)), .unset, .unset] []) := fun t kt => pre37 t (by
              show Steps p.tables e below (T36.setTop (mkF m 88 #[.val (.int flags), .val (.int c1), .val (.int c2), .val (.ref sa14), .val (.ref sa30), .val (.int (1 : Int32)), .val (.int (1 : Int32)), .unset, .unset, .unset] [(.int (1 : Int32))])) _
              refine XS.istore X36.here hx rfl (hb hby at_88) rfl (l' := #[.val (.int flags), .val (.int c1), .val (.int c2), .val (.ref sa14), .val (.ref sa30), .val (.int (1 : Int32)), .val (.int (1 : Int32)), .val (.int (1 : Int32)), .unset, .unset]) rfl ?_
              exact kt)
          obtain ⟨T39, X39, e39, st39⟩ := getS2 X36 hx hZ hown (host := "") (Or.inl (hw _ (List.mem_of_getElem? (i := 51) rfl))) Via.refl e36 (S_ADDRESS.ext ((O0.keep K14q all0).keep K30q all0).2) (g := (mkF m 90 #[.val (.int flags), .val (.int c1), .val (.int c2), .val (.ref sa14), .val (.ref sa30), .val (.int (1 : Int32)), .val (.int (1 : Int32)), .val (.int (1 : Int32)), .unset, .unset] [])) rfl (hb hby at_90)
          have pre40 : Goes p e below s₁ (entryFrame m #[(.int flags), (.int c1), (.int c2)] maxLocals) T39 (mkF m 93 #[.val (.int flags), .val (.int c1), .val (.int c2), .val (.ref sa14), .val (.ref sa30), .val (.int (1 : Int32)), .val (.int (1 : Int32)), .val (.int (1 : Int32)), .unset, .unset] [(.ref aADDRESS)]) := fun t kt => pre38 t (st39 t kt)
          have pre41 : Goes p e below s₁ (entryFrame m #[(.int flags), (.int c1), (.int c2)] maxLocals) T39 (mkF m 96 #[.val (.int flags), .val (.int c1), .val (.int c2), .val (.ref sa14), .val (.ref sa30), .val (.int (1 : Int32)), .val (.int (1 : Int32)), .val (.int (1 : Int32)), .unset, .unset] [(.ref sa30), (.ref sa14), (.ref aADDRESS)]) := fun t kt => pre40 t (by
              show Steps p.tables e below (T39.setTop (mkF m 93 #[.val (.int flags), .val (.int c1), .val (.int c2), .val (.ref sa14), .val (.ref sa30), .val (.int (1 : Int32)), .val (.int (1 : Int32)), .val (.int (1 : Int32)), .unset, .unset] [(.ref aADDRESS)])) _
              refine XS.aloadN X39.here hx rfl (hb hby at_93) rfl rfl ?_
              show Steps p.tables e below (T39.setTop (mkF m 94 #[.val (.int flags), .val (.int c1), .val (.int c2), .val (.ref sa14), .val (.ref sa30), .val (.int (1 : Int32)), .val (.int (1 : Int32)), .val (.int (1 : Int32)), .unset, .unset] [(.ref sa14), (.ref aADDRESS)])) _
              refine XS.aload X39.here hx rfl (hb hby at_94) rfl rfl ?_
              exact kt)
          obtain ⟨cq42, kq42, q42a, q42b, q42c⟩ := isOf hZ e39 ((E_ADDRESS.keep K14q).keep K30q)
          obtain ⟨_, _, ⟨T42, L42, k42, n42⟩, -, X42, ⟨Lc42, hQ42, l42, y42, z42⟩, st42⟩ := X39.virtualBack hx (y := (⟨"com/example/tallygate/tallygate/KeyType", "canKey", "(Ljava/lang/String;Ljava/lang/String;)Z"⟩ : MethodName)) (z := (⟨"com/example/tallygate/tallygate/KeyType", "canKey", "(Ljava/lang/String;Ljava/lang/String;)Z"⟩ : MethodName)) hown (mvT hZ (hw _ (List.mem_of_getElem? (i := 37) rfl))) (mvT hZ (hw _ (List.mem_of_getElem? (i := 38) rfl))) (notFace_of_selects (args := #[]) (mvT hZ (hw _ (List.mem_of_getElem? (i := 40) rfl)))) (mvT hZ (hw _ (List.mem_of_getElem? (i := 40) rfl))) (mvT hZ (hw _ (List.mem_of_getElem? (i := 39) rfl))) (by decide) (backOf (W := 0) (own_canKey111 l Z a0 hw [] aADDRESS sa14 sa30 T30.heap n0 (Nat.le_trans (Nat.le_trans Z0 K14q.1) K30q.1) ((E_ADDRESS.keep K14q).keep K30q) ((O_ADDRESS.keep K14q nin0).keep K30q nin0)) hZ (hw _ (List.mem_of_getElem? (i := 41) rfl)) (hw _ (List.mem_of_getElem? (i := 35) rfl)) (by decide) (by decide)) q42a q42c (g := (mkF m 96 #[.val (.int flags), .val (.int c1), .val (.int c2), .val (.ref sa14), .val (.ref sa30), .val (.int (1 : Int32)), .val (.int (1 : Int32)), .val (.int (1 : Int32)), .unset, .unset] [(.ref sa30), (.ref sa14), (.ref aADDRESS)])) rfl (by rw [hml]; rfl) (Steps.refl _) (argsL := [(.ref sa14), (.ref sa30)]) (rest := []) (lenOf own_pd7 rfl) rfl (by show 2 * 0 + _ ≤ _; exact Nat.le_of_eq rfl) (hb hby at_96) (fun _ _ => ⟨rfl, e39, (by decide : 6 + 0 ≤ _), (by decide : 16 + 0 ≤ _)⟩)
          dsimp only [Pt.U, Pt.locs, Pt.cells, Pt.slots] at X42 l42 y42 z42 st42 hQ42
          subst l42 y42 z42
          obtain ⟨rfl, N42q, e42⟩ := hQ42
          have N42 := Fr.app N36 N42q
          have pre43 : Goes p e below s₁ (entryFrame m #[(.int flags), (.int c1), (.int c2)] maxLocals) T42 (mkF m 99 #[.val (.int flags), .val (.int c1), .val (.int c2), .val (.ref sa14), .val (.ref sa30), .val (.int (1 : Int32)), .val (.int (1 : Int32)), .val (.int (1 : Int32)), .unset, .unset] [(.int (1 : Int32))]) := fun t kt => pre41 t (st42.trans kt)
          have pre44 : Goes p e below s₁ (entryFrame m #[(.int flags), (.int c1), (.int c2)] maxLocals) T42 (mkF m 101 #[.val (.int flags), .val (.int c1), .val (.int c2), .val (.ref sa14), .val (.ref sa30), .val (.int (1 : Int32)), .val (.int (1 : Int32)), .val (.int (1 : Int32)), .val (.int (1 : Int32)), .unset] []) := fun t kt => pre43 t (by
              show Steps p.tables e below (T42.setTop (mkF m 99 #[.val (.int flags), .val (.int c1), .val (.int c2), .val (.ref sa14), .val (.ref sa30), .val (.int (1 : Int32)), .val (.int (1 : Int32)), .val (.int (1 : Int32)), .unset, .unset] [(.int (1 : Int32))])) _
              refine XS.istore X42.here hx rfl (hb hby at_99) rfl (l' := #[.val (.int flags), .val (.int c1), .val (.int c2), .val (.ref sa14), .val (.ref sa30), .val (.int (1 : Int32)), .val (.int (1 : Int32)), .val (.int (1 : Int32)), .val (.int (1 : Int32)), .unset]) rfl ?_
              exact kt)
          obtain ⟨T45, X45, e45, st45⟩ := getS2 X42 hx hZ hown (host := "") (Or.inl (hw _ (List.mem_of_getElem? (i := 53) rfl))) Via.refl e42 (S_PAIR.ext ((O0.keep K14q all0).keep K30q all0).2) (g := (mkF m 101 #[.val (.int flags), .val (.int c1), .val (.int c2), .val (.ref sa14), .val (.ref sa30), .val (.int (1 : Int32)), .val (.int (1 : Int32)), .val (.int (1 : Int32)), .val (.int (1 : Int32)), .unset] [])) rfl (hb hby at_101)
          have pre46 : Goes p e below s₁ (entryFrame m #[(.int flags), (.int c1), (.int c2)] maxLocals) T45 (mkF m 104 #[.val (.int flags), .val (.int c1), .val (.int c2), .val (.ref sa14), .val (.ref sa30), .val (.int (1 : Int32)), .val (.int (1 : Int32)), .val (.int (1 : Int32)), .val (.int (1 : Int32)), .unset] [(.ref aPAIR)]) := fun t kt => pre44 t (st45 t kt)
          have pre47 : Goes p e below s₁ (entryFrame m #[(.int flags), (.int c1), (.int c2)] maxLocals) T45 (mkF m 107 #[.val (.int flags), .val (.int c1), .val (.int c2), .val (.ref sa14), .val (.ref sa30), .val (.int (1 : Int32)), .val (.int (1 : Int32)), .val (.int (1 : Int32)), .val (.int (1 : Int32)), .unset] [(.ref sa30), (.ref sa14), (.ref aPAIR)]) := fun t kt => pre46 t (by
              show Steps p.tables e below (T45.setTop (mkF m 104 #[.val (.int flags), .val (.int c1), .val (.int c2), .val (.ref sa14), .val (.ref sa30), .val (.int (1 : Int32)), .val (.int (1 : Int32)), .val (.int (1 : Int32)), .val (.int (1 : Int32)), .unset] [(.ref aPAIR)])) _
              refine XS.aloadN X45.here hx rfl (hb hby at_104) rfl rfl ?_
              show Steps p.tables e below (T45.setTop (mkF m 105 #[.val (.int flags), .val (.int c1), .val (.int c2), .val (.ref sa14), .val (.ref sa30), .val (.int (1 : Int32)), .val (.int (1 : Int32)), .val (.int (1 : Int32)), .val (.int (1 : Int32)), .unset] [(.ref sa14), (.ref aPAIR)])) _
              refine XS.aload X45.here hx rfl (hb hby at_105) rfl rfl ?_
              exact kt)
          obtain ⟨cq48, kq48, q48a, q48b, q48c⟩ := isOf hZ e45 ((E_PAIR.keep K14q).keep K30q)
          obtain ⟨_, _, ⟨T48, L48, k48, n48⟩, -, X48, ⟨Lc48, hQ48, l48, y48, z48⟩, st48⟩ := X45.virtualBack hx (y := (⟨"com/example/tallygate/tallygate/KeyType", "canKey", "(Ljava/lang/String;Ljava/lang/String;)Z"⟩ : MethodName)) (z := (⟨"com/example/tallygate/tallygate/KeyType", "canKey", "(Ljava/lang/String;Ljava/lang/String;)Z"⟩ : MethodName)) hown (mvT hZ (hw _ (List.mem_of_getElem? (i := 37) rfl))) (mvT hZ (hw _ (List.mem_of_getElem? (i := 38) rfl))) (notFace_of_selects (args := #[]) (mvT hZ (hw _ (List.mem_of_getElem? (i := 40) rfl)))) (mvT hZ (hw _ (List.mem_of_getElem? (i := 40) rfl))) (mvT hZ (hw _ (List.mem_of_getElem? (i := 39) rfl))) (by decide) (backOf (W := 0) (own_canKey211 l Z a0 hw [] aPAIR sa14 sa30 T30.heap n0 (Nat.le_trans (Nat.le_trans Z0 K14q.1) K30q.1) ((E_PAIR.keep K14q).keep K30q) ((O_PAIR.keep K14q nin0).keep K30q nin0)) hZ (hw _ (List.mem_of_getElem? (i := 41) rfl)) (hw _ (List.mem_of_getElem? (i := 35) rfl)) (by decide) (by decide)) q48a q48c (g := (mkF m 107 #[.val (.int flags), .val (.int c1), .val (.int c2), .val (.ref sa14), .val (.ref sa30), .val (.int (1 : Int32)), .val (.int (1 : Int32)), .val (.int (1 : Int32)), .val (.int (1 : Int32)), .unset] [(.ref sa30), (.ref sa14), (.ref aPAIR)])) rfl (by rw [hml]; rfl) (Steps.refl _) (argsL := [(.ref sa14), (.ref sa30)]) (rest := []) (lenOf own_pd7 rfl) rfl (by show 2 * 0 + _ ≤ _; exact Nat.le_of_eq rfl) (hb hby at_107) (fun _ _ => ⟨rfl, e45, (by decide : 6 + 0 ≤ _), (by decide : 16 + 0 ≤ _)⟩)
          dsimp only [Pt.U, Pt.locs, Pt.cells, Pt.slots] at X48 l48 y48 z48 st48 hQ48
          subst l48 y48 z48
          obtain ⟨rfl, N48q, e48⟩ := hQ48
          have N48 := Fr.app N42 N48q
          have pre49 : Goes p e below s₁ (entryFrame m #[(.int flags), (.int c1), (.int c2)] maxLocals) T48 (mkF m 110 #[.val (.int flags), .val (.int c1), .val (.int c2), .val (.ref sa14), .val (.ref sa30), .val (.int (1 : Int32)), .val (.int (1 : Int32)), .val (.int (1 : Int32)), .val (.int (1 : Int32)), .unset] [(.int (1 : Int32))]) := fun t kt => pre47 t (st48.trans kt)
          have pre50 : Goes p e below s₁ (entryFrame m #[(.int flags), (.int c1), (.int c2)] maxLocals) T48 (mkF m 151 #[.val (.int flags), .val (.int c1), .val (.int c2), .val (.ref sa14), .val (.ref sa30), .val (.int (1 : Int32)), .val (.int (1 : Int32)), .val (.int (1 : Int32)), .val (.int (1 : Int32)), .val (.int (1 : Int32))] [(.int (1 : Int32))]) := fun t kt => pre49 t (by
              show Steps p.tables e below (T48.setTop (mkF m 110 #[.val (.int flags), .val (.int c1), .val (.int c2), .val (.ref sa14), .val (.ref sa30), .val (.int (1 : Int32)), .val (.int (1 : Int32)), .val (.int (1 : Int32)), .val (.int (1 : Int32)), .unset] [(.int (1 : Int32))])) _
              refine XS.istore X48.here hx rfl (hb hby at_110) rfl (l' := #[.val (.int flags), .val (.int c1), .val (.int c2), .val (.ref sa14), .val (.ref sa30), .val (.int (1 : Int32)), .val (.int (1 : Int32)), .val (.int (1 : Int32)), .val (.int (1 : Int32)), .val (.int (1 : Int32))]) rfl ?_
              show Steps p.tables e below (T48.setTop (mkF m 112 #[.val (.int flags), .val (.int c1), .val (.int c2), .val (.ref sa14), .val (.ref sa30), .val (.int (1 : Int32)), .val (.int (1 : Int32)), .val (.int (1 : Int32)), .val (.int (1 : Int32)), .val (.int (1 : Int32))] [])) _
              refine XS.iload X48.here hx rfl (hb hby at_112) rfl ?_
              show Steps p.tables e below (T48.setTop (mkF m 114 #[.val (.int flags), .val (.int c1), .val (.int c2), .val (.ref sa14), .val (.ref sa30), .val (.int (1 : Int32)), .val (.int (1 : Int32)), .val (.int (1 : Int32)), .val (.int (1 : Int32)), .val (.int (1 : Int32))] [(.int (1 : Int32))])) _
              refine XS.iload X48.here hx rfl (hb hby at_114) rfl ?_
              show Steps p.tables e below (T48.setTop (mkF m 116 #[.val (.int flags), .val (.int c1), .val (.int c2), .val (.ref sa14), .val (.ref sa30), .val (.int (1 : Int32)), .val (.int (1 : Int32)), .val (.int (1 : Int32)), .val (.int (1 : Int32)), .val (.int (1 : Int32))] [(.int (1 : Int32)), (.int (1 : Int32))])) _
              refine XS.icmpNo X48.here hx rfl (hb hby at_116) rfl (teq (by decide : (1 : Int32) = (1 : Int32))).2 ?_
              show Steps p.tables e below (T48.setTop (mkF m 119 #[.val (.int flags), .val (.int c1), .val (.int c2), .val (.ref sa14), .val (.ref sa30), .val (.int (1 : Int32)), .val (.int (1 : Int32)), .val (.int (1 : Int32)), .val (.int (1 : Int32)), .val (.int (1 : Int32))] [])) _
              refine XS.iload X48.here hx rfl (hb hby at_119) rfl ?_
              show Steps p.tables e below (T48.setTop (mkF m 121 #[.val (.int flags), .val (.int c1), .val (.int c2), .val (.ref sa14), .val (.ref sa30), .val (.int (1 : Int32)), .val (.int (1 : Int32)), .val (.int (1 : Int32)), .val (.int (1 : Int32)), .val (.int (1 : Int32))] [(.int (1 : Int32))])) _
              refine XS.iload X48.here hx rfl (hb hby at_121) rfl ?_
              show Steps p.tables e below (T48.setTop (mkF m 123 #[.val (.int flags), .val (.int c1), .val (.int c2), .val (.ref sa14), .val (.ref sa30), .val (.int (1 : Int32)), .val (.int (1 : Int32)), .val (.int (1 : Int32)), .val (.int (1 : Int32)), .val (.int (1 : Int32))] [(.int (1 : Int32)), (.int (1 : Int32))])) _
              refine XS.icmpNo X48.here hx rfl (hb hby at_123) rfl (teq (by decide : (1 : Int32) = (1 : Int32))).2 ?_
              show Steps p.tables e below (T48.setTop (mkF m 126 #[.val (.int flags), .val (.int c1), .val (.int c2), .val (.ref sa14), .val (.ref sa30), .val (.int (1 : Int32)), .val (.int (1 : Int32)), .val (.int (1 : Int32)), .val (.int (1 : Int32)), .val (.int (1 : Int32))] [])) _
              refine XS.iload X48.here hx rfl (hb hby at_126) rfl ?_
              show Steps p.tables e below (T48.setTop (mkF m 128 #[.val (.int flags), .val (.int c1), .val (.int c2), .val (.ref sa14), .val (.ref sa30), .val (.int (1 : Int32)), .val (.int (1 : Int32)), .val (.int (1 : Int32)), .val (.int (1 : Int32)), .val (.int (1 : Int32))] [(.int (1 : Int32))])) _
              refine XS.iload X48.here hx rfl (hb hby at_128) rfl ?_
              show Steps p.tables e below (T48.setTop (mkF m 130 #[.val (.int flags), .val (.int c1), .val (.int c2), .val (.ref sa14), .val (.ref sa30), .val (.int (1 : Int32)), .val (.int (1 : Int32)), .val (.int (1 : Int32)), .val (.int (1 : Int32)), .val (.int (1 : Int32))] [(.int (1 : Int32)), (.int (1 : Int32))])) _
              refine XS.ifNo X48.here hx rfl (hb hby at_130) rfl ((if0 _ _).trans (feq (by decide : ¬ ((1 : Int32) = (0 : Int32)))).1) ?_
              show Steps p.tables e below (T48.setTop (mkF m 133 #[.val (.int flags), .val (.int c1), .val (.int c2), .val (.ref sa14), .val (.ref sa30), .val (.int (1 : Int32)), .val (.int (1 : Int32)), .val (.int (1 : Int32)), .val (.int (1 : Int32)), .val (.int (1 : Int32))] [(.int (1 : Int32))])) _
              refine XS.iload X48.here hx rfl (hb hby at_133) rfl ?_
              show Steps p.tables e below (T48.setTop (mkF m 135 #[.val (.int flags), .val (.int c1), .val (.int c2), .val (.ref sa14), .val (.ref sa30), .val (.int (1 : Int32)), .val (.int (1 : Int32)), .val (.int (1 : Int32)), .val (.int (1 : Int32)), .val (.int (1 : Int32))] [(.int (1 : Int32)), (.int (1 : Int32))])) _
              refine XS.ifNo X48.here hx rfl (hb hby at_135) rfl ((if0 _ _).trans (feq (by decide : ¬ ((1 : Int32) = (0 : Int32)))).1) ?_
              show Steps p.tables e below (T48.setTop (mkF m 138 #[.val (.int flags), .val (.int c1), .val (.int c2), .val (.ref sa14), .val (.ref sa30), .val (.int (1 : Int32)), .val (.int (1 : Int32)), .val (.int (1 : Int32)), .val (.int (1 : Int32)), .val (.int (1 : Int32))] [(.int (1 : Int32))])) _
              refine XS.iconst X48.here hx rfl (hb hby at_138) ?_
              show Steps p.tables e below (T48.setTop (mkF m 139 #[.val (.int flags), .val (.int c1), .val (.int c2), .val (.ref sa14), .val (.ref sa30), .val (.int (1 : Int32)), .val (.int (1 : Int32)), .val (.int (1 : Int32)), .val (.int (1 : Int32)), .val (.int (1 : Int32))] [(.int (1 : Int32)), (.int (1 : Int32))])) _
              refine XS.goto X48.here hx rfl (pc0 := 139) (pc' := 143) rfl (hb hby at_139) (by decide) (by decide) ?_
              show Steps p.tables e below (T48.setTop (mkF m 143 #[.val (.int flags), .val (.int c1), .val (.int c2), .val (.ref sa14), .val (.ref sa30), .val (.int (1 : Int32)), .val (.int (1 : Int32)), .val (.int (1 : Int32)), .val (.int (1 : Int32)), .val (.int (1 : Int32))] [(.int (1 : Int32)), (.int (1 : Int32))])) _
              refine XS.icmpNo X48.here hx rfl (hb hby at_143) rfl (teq (by decide : (1 : Int32) = (1 : Int32))).2 ?_
              show Steps p.tables e below (T48.setTop (mkF m 146 #[.val (.int flags), .val (.int c1), .val (.int c2), .val (.ref sa14), .val (.ref sa30), .val (.int (1 : Int32)), .val (.int (1 : Int32)), .val (.int (1 : Int32)), .val (.int (1 : Int32)), .val (.int (1 : Int32))] [])) _
              refine XS.iconst X48.here hx rfl (hb hby at_146) ?_
              show Steps p.tables e below (T48.setTop (mkF m 147 #[.val (.int flags), .val (.int c1), .val (.int c2), .val (.ref sa14), .val (.ref sa30), .val (.int (1 : Int32)), .val (.int (1 : Int32)), .val (.int (1 : Int32)), .val (.int (1 : Int32)), .val (.int (1 : Int32))] [(.int (1 : Int32))])) _
              refine XS.goto X48.here hx rfl (pc0 := 147) (pc' := 151) rfl (hb hby at_147) (by decide) (by decide) ?_
              exact kt)
          obtain ⟨fs, hr, hrun, hended, hW, hsame⟩ := X48.leave (v := some (.int (1 : Int32))) (fun h => by rw [Bd.returns] at h; cases h)
          have hEnd := ReturnedEndW.of_narrow (o := .returned (some (.int (1 : Int32)))) ⟨_, rfl⟩ hW hsame
          refine ⟨_, _, pre50 _ ?_, hrun, hended, _, _, rfl, ?_, hEnd.1, hEnd.2.1, hEnd.2.2.1, hEnd.2.2.2.mono (by decide) (by decide)⟩
          · show Steps p.tables e below (T48.setTop (mkF m 151 #[.val (.int flags), .val (.int c1), .val (.int c2), .val (.ref sa14), .val (.ref sa30), .val (.int (1 : Int32)), .val (.int (1 : Int32)), .val (.int (1 : Int32)), .val (.int (1 : Int32)), .val (.int (1 : Int32))] [(.int (1 : Int32))])) _
            exact retN X48 hx (t := .boolean) Bd.returns (by simp) (hb hby at_151) hr
          · show Q_own_rm0 Z flags c1 c2 cs aACCOUNT aADDRESS aPAIR h0 n0 _ T48.heap _
            rw [e48]
            exact ⟨rfl, N48⟩
        · -- E
          have pre51 : Goes p e below s₁ (entryFrame m #[(.int flags), (.int c1), (.int c2)] maxLocals) T14 (mkF m 51 #[.val (.int flags), .val (.int c1), .val (.int c2), .val (.ref sa14), .unset, .unset, .unset, .unset, .unset, .unset] [(.int c2), (.int (1 : Int32)), (.int (0 : Int32))]) := fun t kt => pre24 t (by
              show Steps p.tables e below (T14.setTop (mkF m 50 #[.val (.int flags), .val (.int c1), .val (.int c2), .val (.ref sa14), .unset, .unset, .unset, .unset, .unset, .unset] [(.int (1 : Int32)), (.int (0 : Int32))])) _
              refine XS.iloadN X14.here hx rfl (hb hby at_50) rfl ?_
              exact kt)
          obtain ⟨_, _, ⟨T52, L52, k52, n52⟩, -, XX52, hSS52, hGG52, ⟨Lc52, hQ52, l52, y52, z52⟩, st52⟩ := Jvm.RoadKit.callSS X14 hx (y := (⟨"com/example/tallygate/tallygate/KeyTypeCanKeyPinLaw", "make", "(ZZI)Ljava/lang/String;"⟩ : MethodName)) hown (mvT hZ (hw _ (List.mem_of_getElem? (i := 0) rfl))) (mvT hZ (hw _ (List.mem_of_getElem? (i := 1) rfl))) (mvT hZ (hw _ (List.mem_of_getElem? (i := 2) rfl))) (mvT hZ (hw _ (List.mem_of_getElem? (i := 3) rfl))) (by decide) (backOfS (W := 0) (own_makeE l Z a0 hw [] c2 T14.heap n0 (Nat.le_trans Z0 K14q.1) ) hZ (hw _ (List.mem_of_getElem? (i := 3) rfl)) (hw _ (List.mem_of_getElem? (i := 2) rfl)) (by decide) (by decide)) (g := (mkF m 51 #[.val (.int flags), .val (.int c1), .val (.int c2), .val (.ref sa14), .unset, .unset, .unset, .unset, .unset, .unset] [(.int c2), (.int (1 : Int32)), (.int (0 : Int32))])) rfl (by rw [hml]; rfl) (argsL := [(.int (0 : Int32)), (.int (1 : Int32)), (.int c2)]) (rest := []) (lenOf own_pd6 rfl) rfl (by show 2 * 0 + _ ≤ _; exact Nat.le_of_eq rfl) (hb hby at_51) (fun _ _ => ⟨rfl, rfl, (by decide : 3 + 2 ≤ _), (by decide : 8 + 4 ≤ _)⟩)
          dsimp only [Pt.U, Pt.locs, Pt.cells, Pt.slots] at hSS52 hGG52 XX52 l52 y52 z52 st52 hQ52
          subst l52 y52 z52
          obtain ⟨sa52, rfl, N52q, K52q⟩ := hQ52
          have N52 := Fr.app N14 N52q
          obtain ⟨X52, hS52, hZ, hown⟩ := rebS (s := s) (vm0 := s.vm) (State.WarmedH.since (State.WarmedH.refl s) 0) (Nat.zero_le _) XX52 hSS52 hGG52 hZ hown
          have KC52 : Keep h0 T52.heap [] := KC14.trans K52q all0
          have pre53 : Goes p e below s₁ (entryFrame m #[(.int flags), (.int c1), (.int c2)] maxLocals) T52 (mkF m 54 #[.val (.int flags), .val (.int c1), .val (.int c2), .val (.ref sa14), .unset, .unset, .unset, .unset, .unset, .unset] [(.ref sa52)]) := fun t kt => pre51 t (st52.trans kt)
          have pre54 : Goes p e below s₁ (entryFrame m #[(.int flags), (.int c1), (.int c2)] maxLocals) T52 (mkF m 79 #[.val (.int flags), .val (.int c1), .val (.int c2), .val (.ref sa14), .val (.ref sa52), .val (.int (1 : Int32)), .val (.int (1 : Int32)), .unset, .unset, .unset] []) := fun t kt => pre53 t (by
              show Steps p.tables e below (T52.setTop (mkF m 54 #[.val (.int flags), .val (.int c1), .val (.int c2), .val (.ref sa14), .unset, .unset, .unset, .unset, .unset, .unset] [(.ref sa52)])) _
              refine XS.astore X52.here hx rfl (hb hby at_54) rfl rfl (l' := #[.val (.int flags), .val (.int c1), .val (.int c2), .val (.ref sa14), .val (.ref sa52), .unset, .unset, .unset, .unset, .unset]) rfl ?_
              show Steps p.tables e below (T52.setTop (mkF m 56 #[.val (.int flags), .val (.int c1), .val (.int c2), .val (.ref sa14), .val (.ref sa52), .unset, .unset, .unset, .unset, .unset] [])) _
              refine XS.aloadN X52.here hx rfl (hb hby at_56) rfl rfl ?_
              show Steps p.tables e below (T52.setTop (mkF m 57 #[.val (.int flags), .val (.int c1), .val (.int c2), .val (.ref sa14), .val (.ref sa52), .unset, .unset, .unset, .unset, .unset] [(.ref sa14)])) _
              refine XS.ifnullNo X52.here hx rfl (hb hby at_57) rfl ?_
              show Steps p.tables e below (T52.setTop (mkF m 60 #[.val (.int flags), .val (.int c1), .val (.int c2), .val (.ref sa14), .val (.ref sa52), .unset, .unset, .unset, .unset, .unset] [])) _
              refine XS.iconst X52.here hx rfl (hb hby at_60) ?_
              show Steps p.tables e below (T52.setTop (mkF m 61 #[.val (.int flags), .val (.int c1), .val (.int c2), .val (.ref sa14), .val (.ref sa52), .unset, .unset, .unset, .unset, .unset] [(.int (1 : Int32))])) _
              refine XS.goto X52.here hx rfl (pc0 := 61) (pc' := 65) rfl (hb hby at_61) (by decide) (by decide) ?_
              show Steps p.tables e below (T52.setTop (mkF m 65 #[.val (.int flags), .val (.int c1), .val (.int c2), .val (.ref sa14), .val (.ref sa52), .unset, .unset, .unset, .unset, .unset] [(.int (1 : Int32))])) _
              refine XS.istore X52.here hx rfl (hb hby at_65) rfl (l' := #[.val (.int flags), .val (.int c1), .val (.int c2), .val (.ref sa14), .val (.ref sa52), .val (.int (1 : Int32)), .unset, .unset, .unset, .unset]) rfl ?_
              show Steps p.tables e below (T52.setTop (mkF m 67 #[.val (.int flags), .val (.int c1), .val (.int c2), .val (.ref sa14), .val (.ref sa52), .val (.int (1 : Int32)), .unset, .unset, .unset, .unset] [])) _
              refine XS.aload X52.here hx rfl (hb hby at_67) rfl rfl ?_
              show Steps p.tables e below (T52.setTop (mkF m 69 #[.val (.int flags), .val (.int c1), .val (.int c2), .val (.ref sa14), .val (.ref sa52), .val (.int (1 : Int32)), .unset, .unset, .unset, .unset] [(.ref sa52)])) _
              refine XS.ifnullNo X52.here hx rfl (hb hby at_69) rfl ?_
              show Steps p.tables e below (T52.setTop (mkF m 72 #[.val (.int flags), .val (.int c1), .val (.int c2), .val (.ref sa14), .val (.ref sa52), .val (.int (1 : Int32)), .unset, .unset, .unset, .unset] [])) _
              refine XS.iconst X52.here hx rfl (hb hby at_72) ?_
              show Steps p.tables e below (T52.setTop (mkF m 73 #[.val (.int flags), .val (.int c1), .val (.int c2), .val (.ref sa14), .val (.ref sa52), .val (.int (1 : Int32)), .unset, .unset, .unset, .unset] [(.int (1 : Int32))])) _
              refine XS.goto X52.here hx rfl (pc0 := 73) (pc' := 77) rfl (hb hby at_73) (by decide) (by decide) ?_
              show Steps p.tables e below (T52.setTop (mkF m 77 #[.val (.int flags), .val (.int c1), .val (.int c2), .val (.ref sa14), .val (.ref sa52), .val (.int (1 : Int32)), .unset, .unset, .unset, .unset] [(.int (1 : Int32))])) _
              refine XS.istore X52.here hx rfl (hb hby at_77) rfl (l' := #[.val (.int flags), .val (.int c1), .val (.int c2), .val (.ref sa14), .val (.ref sa52), .val (.int (1 : Int32)), .val (.int (1 : Int32)), .unset, .unset, .unset]) rfl ?_
              exact kt)
          obtain ⟨T55, X55, e55, st55⟩ := getS2 X52 hx hZ hown (host := "") (Or.inl (hw _ (List.mem_of_getElem? (i := 34) rfl))) Via.refl rfl (S_ACCOUNT.ext ((O0.keep K14q all0).keep K52q all0).2) (g := (mkF m 79 #[.val (.int flags), .val (.int c1), .val (.int c2), .val (.ref sa14), .val (.ref sa52), .val (.int (1 : Int32)), .val (.int (1 : Int32)), .unset, .unset, .unset] [])) rfl (hb hby at_79)
          have pre56 : Goes p e below s₁ (entryFrame m #[(.int flags), (.int c1), (.int c2)] maxLocals) T55 (mkF m 82 #[.val (.int flags), .val (.int c1), .val (.int c2), .val (.ref sa14), .val (.ref sa52), .val (.int (1 : Int32)), .val (.int (1 : Int32)), .unset, .unset, .unset] [(.ref aACCOUNT)]) := fun t kt => pre54 t (st55 t kt)
          have pre57 : Goes p e below s₁ (entryFrame m #[(.int flags), (.int c1), (.int c2)] maxLocals) T55 (mkF m 85 #[.val (.int flags), .val (.int c1), .val (.int c2), .val (.ref sa14), .val (.ref sa52), .val (.int (1 : Int32)), .val (.int (1 : Int32)), .unset, .unset, .unset] [(.ref sa52), (.ref sa14), (.ref aACCOUNT)]) := fun t kt => pre56 t (by
              show Steps p.tables e below (T55.setTop (mkF m 82 #[.val (.int flags), .val (.int c1), .val (.int c2), .val (.ref sa14), .val (.ref sa52), .val (.int (1 : Int32)), .val (.int (1 : Int32)), .unset, .unset, .unset] [(.ref aACCOUNT)])) _
              refine XS.aloadN X55.here hx rfl (hb hby at_82) rfl rfl ?_
              show Steps p.tables e below (T55.setTop (mkF m 83 #[.val (.int flags), .val (.int c1), .val (.int c2), .val (.ref sa14), .val (.ref sa52), .val (.int (1 : Int32)), .val (.int (1 : Int32)), .unset, .unset, .unset] [(.ref sa14), (.ref aACCOUNT)])) _
              refine XS.aload X55.here hx rfl (hb hby at_83) rfl rfl ?_
              exact kt)
          obtain ⟨cq58, kq58, q58a, q58b, q58c⟩ := isOf hZ e55 ((E_ACCOUNT.keep K14q).keep K52q)
          obtain ⟨_, _, ⟨T58, L58, k58, n58⟩, -, X58, ⟨Lc58, hQ58, l58, y58, z58⟩, st58⟩ := X55.virtualBack hx (y := (⟨"com/example/tallygate/tallygate/KeyType", "canKey", "(Ljava/lang/String;Ljava/lang/String;)Z"⟩ : MethodName)) (z := (⟨"com/example/tallygate/tallygate/KeyType", "canKey", "(Ljava/lang/String;Ljava/lang/String;)Z"⟩ : MethodName)) hown (mvT hZ (hw _ (List.mem_of_getElem? (i := 37) rfl))) (mvT hZ (hw _ (List.mem_of_getElem? (i := 38) rfl))) (notFace_of_selects (args := #[]) (mvT hZ (hw _ (List.mem_of_getElem? (i := 40) rfl)))) (mvT hZ (hw _ (List.mem_of_getElem? (i := 40) rfl))) (mvT hZ (hw _ (List.mem_of_getElem? (i := 39) rfl))) (by decide) (backOf (W := 0) (own_canKey011 l Z a0 hw [] aACCOUNT sa14 sa52 T52.heap n0 (Nat.le_trans (Nat.le_trans Z0 K14q.1) K52q.1) ((E_ACCOUNT.keep K14q).keep K52q) ((O_ACCOUNT.keep K14q nin0).keep K52q nin0)) hZ (hw _ (List.mem_of_getElem? (i := 41) rfl)) (hw _ (List.mem_of_getElem? (i := 35) rfl)) (by decide) (by decide)) q58a q58c (g := (mkF m 85 #[.val (.int flags), .val (.int c1), .val (.int c2), .val (.ref sa14), .val (.ref sa52), .val (.int (1 : Int32)), .val (.int (1 : Int32)), .unset, .unset, .unset] [(.ref sa52), (.ref sa14), (.ref aACCOUNT)])) rfl (by rw [hml]; rfl) (Steps.refl _) (argsL := [(.ref sa14), (.ref sa52)]) (rest := []) (lenOf own_pd7 rfl) rfl (by show 2 * 0 + _ ≤ _; exact Nat.le_of_eq rfl) (hb hby at_85) (fun _ _ => ⟨rfl, e55, (by decide : 5 + 0 ≤ _), (by decide : 12 + 0 ≤ _)⟩)
          dsimp only [Pt.U, Pt.locs, Pt.cells, Pt.slots] at X58 l58 y58 z58 st58 hQ58
          subst l58 y58 z58
          obtain ⟨rfl, N58q, e58⟩ := hQ58
          have N58 := Fr.app N52 N58q
          have pre59 : Goes p e below s₁ (entryFrame m #[(.int flags), (.int c1), (.int c2)] maxLocals) T58 (mkF m 88 #[.val (.int flags), .val (.int c1), .val (.int c2), .val (.ref sa14), .val (.ref sa52), .val (.int (1 : Int32)), .val (.int (1 : Int32)), .unset, .unset, .unset] [(.int (1 : Int32))]) := fun t kt => pre57 t (st58.trans kt)
          have pre60 : Goes p e below s₁ (entryFrame m #[(.int flags), (.int c1), (.int c2)] maxLocals) T58 (mkF m 90 #[.val (.int flags), .val (.int c1), .val (.int c2), .val (.ref sa14), .val (.ref sa52), .val (.int (1 : Int32)), .val (.int (1 : Int32)), .val (.int (1 : Int32)), .unset, .unset] []) := fun t kt => pre59 t (by
              show Steps p.tables e below (T58.setTop (mkF m 88 #[.val (.int flags), .val (.int c1), .val (.int c2), .val (.ref sa14), .val (.ref sa52), .val (.int (1 : Int32)), .val (.int (1 : Int32)), .unset, .unset, .unset] [(.int (1 : Int32))])) _
              refine XS.istore X58.here hx rfl (hb hby at_88) rfl (l' := #[.val (.int flags), .val (.int c1), .val (.int c2), .val (.ref sa14), .val (.ref sa52), .val (.int (1 : Int32)), .val (.int (1 : Int32)), .val (.int (1 : Int32)), .unset, .unset]) rfl ?_
              exact kt)
          obtain ⟨T61, X61, e61, st61⟩ := getS2 X58 hx hZ hown (host := "") (Or.inl (hw _ (List.mem_of_getElem? (i := 51) rfl))) Via.refl e58 (S_ADDRESS.ext ((O0.keep K14q all0).keep K52q all0).2) (g := (mkF m 90 #[.val (.int flags), .val (.int c1), .val (.int c2), .val (.ref sa14), .val (.ref sa52), .val (.int (1 : Int32)), .val (.int (1 : Int32)), .val (.int (1 : Int32)), .unset, .unset] [])) rfl (hb hby at_90)
          have pre62 : Goes p e below s₁ (entryFrame m #[(.int flags), (.int c1), (.int c2)] maxLocals) T61 (mkF m 93 #[.val (.int flags), .val (.int c1), .val (.int c2), .val (.ref sa14), .val (.ref sa52), .val (.int (1 : Int32)), .val (.int (1 : Int32)), .val (.int (1 : Int32)), .unset, .unset] [(.ref aADDRESS)]) := fun t kt => pre60 t (st61 t kt)
          have pre63 : Goes p e below s₁ (entryFrame m #[(.int flags), (.int c1), (.int c2)] maxLocals) T61 (mkF m 96 #[.val (.int flags), .val (.int c1), .val (.int c2), .val (.ref sa14), .val (.ref sa52), .val (.int (1 : Int32)), .val (.int (1 : Int32)), .val (.int (1 : Int32)), .unset, .unset] [(.ref sa52), (.ref sa14), (.ref aADDRESS)]) := fun t kt => pre62 t (by
              show Steps p.tables e below (T61.setTop (mkF m 93 #[.val (.int flags), .val (.int c1), .val (.int c2), .val (.ref sa14), .val (.ref sa52), .val (.int (1 : Int32)), .val (.int (1 : Int32)), .val (.int (1 : Int32)), .unset, .unset] [(.ref aADDRESS)])) _
              refine XS.aloadN X61.here hx rfl (hb hby at_93) rfl rfl ?_
              show Steps p.tables e below (T61.setTop (mkF m 94 #[.val (.int flags), .val (.int c1), .val (.int c2), .val (.ref sa14), .val (.ref sa52), .val (.int (1 : Int32)), .val (.int (1 : Int32)), .val (.int (1 : Int32)), .unset, .unset] [(.ref sa14), (.ref aADDRESS)])) _
              refine XS.aload X61.here hx rfl (hb hby at_94) rfl rfl ?_
              exact kt)
          obtain ⟨cq64, kq64, q64a, q64b, q64c⟩ := isOf hZ e61 ((E_ADDRESS.keep K14q).keep K52q)
          obtain ⟨_, _, ⟨T64, L64, k64, n64⟩, -, X64, ⟨Lc64, hQ64, l64, y64, z64⟩, st64⟩ := X61.virtualBack hx (y := (⟨"com/example/tallygate/tallygate/KeyType", "canKey", "(Ljava/lang/String;Ljava/lang/String;)Z"⟩ : MethodName)) (z := (⟨"com/example/tallygate/tallygate/KeyType", "canKey", "(Ljava/lang/String;Ljava/lang/String;)Z"⟩ : MethodName)) hown (mvT hZ (hw _ (List.mem_of_getElem? (i := 37) rfl))) (mvT hZ (hw _ (List.mem_of_getElem? (i := 38) rfl))) (notFace_of_selects (args := #[]) (mvT hZ (hw _ (List.mem_of_getElem? (i := 40) rfl)))) (mvT hZ (hw _ (List.mem_of_getElem? (i := 40) rfl))) (mvT hZ (hw _ (List.mem_of_getElem? (i := 39) rfl))) (by decide) (backOf (W := 0) (own_canKey111 l Z a0 hw [] aADDRESS sa14 sa52 T52.heap n0 (Nat.le_trans (Nat.le_trans Z0 K14q.1) K52q.1) ((E_ADDRESS.keep K14q).keep K52q) ((O_ADDRESS.keep K14q nin0).keep K52q nin0)) hZ (hw _ (List.mem_of_getElem? (i := 41) rfl)) (hw _ (List.mem_of_getElem? (i := 35) rfl)) (by decide) (by decide)) q64a q64c (g := (mkF m 96 #[.val (.int flags), .val (.int c1), .val (.int c2), .val (.ref sa14), .val (.ref sa52), .val (.int (1 : Int32)), .val (.int (1 : Int32)), .val (.int (1 : Int32)), .unset, .unset] [(.ref sa52), (.ref sa14), (.ref aADDRESS)])) rfl (by rw [hml]; rfl) (Steps.refl _) (argsL := [(.ref sa14), (.ref sa52)]) (rest := []) (lenOf own_pd7 rfl) rfl (by show 2 * 0 + _ ≤ _; exact Nat.le_of_eq rfl) (hb hby at_96) (fun _ _ => ⟨rfl, e61, (by decide : 5 + 0 ≤ _), (by decide : 12 + 0 ≤ _)⟩)
          dsimp only [Pt.U, Pt.locs, Pt.cells, Pt.slots] at X64 l64 y64 z64 st64 hQ64
          subst l64 y64 z64
          obtain ⟨rfl, N64q, e64⟩ := hQ64
          have N64 := Fr.app N58 N64q
          have pre65 : Goes p e below s₁ (entryFrame m #[(.int flags), (.int c1), (.int c2)] maxLocals) T64 (mkF m 99 #[.val (.int flags), .val (.int c1), .val (.int c2), .val (.ref sa14), .val (.ref sa52), .val (.int (1 : Int32)), .val (.int (1 : Int32)), .val (.int (1 : Int32)), .unset, .unset] [(.int (1 : Int32))]) := fun t kt => pre63 t (st64.trans kt)
          have pre66 : Goes p e below s₁ (entryFrame m #[(.int flags), (.int c1), (.int c2)] maxLocals) T64 (mkF m 101 #[.val (.int flags), .val (.int c1), .val (.int c2), .val (.ref sa14), .val (.ref sa52), .val (.int (1 : Int32)), .val (.int (1 : Int32)), .val (.int (1 : Int32)), .val (.int (1 : Int32)), .unset] []) := fun t kt => pre65 t (by
              show Steps p.tables e below (T64.setTop (mkF m 99 #[.val (.int flags), .val (.int c1), .val (.int c2), .val (.ref sa14), .val (.ref sa52), .val (.int (1 : Int32)), .val (.int (1 : Int32)), .val (.int (1 : Int32)), .unset, .unset] [(.int (1 : Int32))])) _
              refine XS.istore X64.here hx rfl (hb hby at_99) rfl (l' := #[.val (.int flags), .val (.int c1), .val (.int c2), .val (.ref sa14), .val (.ref sa52), .val (.int (1 : Int32)), .val (.int (1 : Int32)), .val (.int (1 : Int32)), .val (.int (1 : Int32)), .unset]) rfl ?_
              exact kt)
          obtain ⟨T67, X67, e67, st67⟩ := getS2 X64 hx hZ hown (host := "") (Or.inl (hw _ (List.mem_of_getElem? (i := 53) rfl))) Via.refl e64 (S_PAIR.ext ((O0.keep K14q all0).keep K52q all0).2) (g := (mkF m 101 #[.val (.int flags), .val (.int c1), .val (.int c2), .val (.ref sa14), .val (.ref sa52), .val (.int (1 : Int32)), .val (.int (1 : Int32)), .val (.int (1 : Int32)), .val (.int (1 : Int32)), .unset] [])) rfl (hb hby at_101)
          have pre68 : Goes p e below s₁ (entryFrame m #[(.int flags), (.int c1), (.int c2)] maxLocals) T67 (mkF m 104 #[.val (.int flags), .val (.int c1), .val (.int c2), .val (.ref sa14), .val (.ref sa52), .val (.int (1 : Int32)), .val (.int (1 : Int32)), .val (.int (1 : Int32)), .val (.int (1 : Int32)), .unset] [(.ref aPAIR)]) := fun t kt => pre66 t (st67 t kt)
          have pre69 : Goes p e below s₁ (entryFrame m #[(.int flags), (.int c1), (.int c2)] maxLocals) T67 (mkF m 107 #[.val (.int flags), .val (.int c1), .val (.int c2), .val (.ref sa14), .val (.ref sa52), .val (.int (1 : Int32)), .val (.int (1 : Int32)), .val (.int (1 : Int32)), .val (.int (1 : Int32)), .unset] [(.ref sa52), (.ref sa14), (.ref aPAIR)]) := fun t kt => pre68 t (by
              show Steps p.tables e below (T67.setTop (mkF m 104 #[.val (.int flags), .val (.int c1), .val (.int c2), .val (.ref sa14), .val (.ref sa52), .val (.int (1 : Int32)), .val (.int (1 : Int32)), .val (.int (1 : Int32)), .val (.int (1 : Int32)), .unset] [(.ref aPAIR)])) _
              refine XS.aloadN X67.here hx rfl (hb hby at_104) rfl rfl ?_
              show Steps p.tables e below (T67.setTop (mkF m 105 #[.val (.int flags), .val (.int c1), .val (.int c2), .val (.ref sa14), .val (.ref sa52), .val (.int (1 : Int32)), .val (.int (1 : Int32)), .val (.int (1 : Int32)), .val (.int (1 : Int32)), .unset] [(.ref sa14), (.ref aPAIR)])) _
              refine XS.aload X67.here hx rfl (hb hby at_105) rfl rfl ?_
              exact kt)
          obtain ⟨cq70, kq70, q70a, q70b, q70c⟩ := isOf hZ e67 ((E_PAIR.keep K14q).keep K52q)
          obtain ⟨_, _, ⟨T70, L70, k70, n70⟩, -, X70, ⟨Lc70, hQ70, l70, y70, z70⟩, st70⟩ := X67.virtualBack hx (y := (⟨"com/example/tallygate/tallygate/KeyType", "canKey", "(Ljava/lang/String;Ljava/lang/String;)Z"⟩ : MethodName)) (z := (⟨"com/example/tallygate/tallygate/KeyType", "canKey", "(Ljava/lang/String;Ljava/lang/String;)Z"⟩ : MethodName)) hown (mvT hZ (hw _ (List.mem_of_getElem? (i := 37) rfl))) (mvT hZ (hw _ (List.mem_of_getElem? (i := 38) rfl))) (notFace_of_selects (args := #[]) (mvT hZ (hw _ (List.mem_of_getElem? (i := 40) rfl)))) (mvT hZ (hw _ (List.mem_of_getElem? (i := 40) rfl))) (mvT hZ (hw _ (List.mem_of_getElem? (i := 39) rfl))) (by decide) (backOf (W := 0) (own_canKey211 l Z a0 hw [] aPAIR sa14 sa52 T52.heap n0 (Nat.le_trans (Nat.le_trans Z0 K14q.1) K52q.1) ((E_PAIR.keep K14q).keep K52q) ((O_PAIR.keep K14q nin0).keep K52q nin0)) hZ (hw _ (List.mem_of_getElem? (i := 41) rfl)) (hw _ (List.mem_of_getElem? (i := 35) rfl)) (by decide) (by decide)) q70a q70c (g := (mkF m 107 #[.val (.int flags), .val (.int c1), .val (.int c2), .val (.ref sa14), .val (.ref sa52), .val (.int (1 : Int32)), .val (.int (1 : Int32)), .val (.int (1 : Int32)), .val (.int (1 : Int32)), .unset] [(.ref sa52), (.ref sa14), (.ref aPAIR)])) rfl (by rw [hml]; rfl) (Steps.refl _) (argsL := [(.ref sa14), (.ref sa52)]) (rest := []) (lenOf own_pd7 rfl) rfl (by show 2 * 0 + _ ≤ _; exact Nat.le_of_eq rfl) (hb hby at_107) (fun _ _ => ⟨rfl, e67, (by decide : 5 + 0 ≤ _), (by decide : 12 + 0 ≤ _)⟩)
          dsimp only [Pt.U, Pt.locs, Pt.cells, Pt.slots] at X70 l70 y70 z70 st70 hQ70
          subst l70 y70 z70
          obtain ⟨rfl, N70q, e70⟩ := hQ70
          have N70 := Fr.app N64 N70q
          have pre71 : Goes p e below s₁ (entryFrame m #[(.int flags), (.int c1), (.int c2)] maxLocals) T70 (mkF m 110 #[.val (.int flags), .val (.int c1), .val (.int c2), .val (.ref sa14), .val (.ref sa52), .val (.int (1 : Int32)), .val (.int (1 : Int32)), .val (.int (1 : Int32)), .val (.int (1 : Int32)), .unset] [(.int (1 : Int32))]) := fun t kt => pre69 t (st70.trans kt)
          have pre72 : Goes p e below s₁ (entryFrame m #[(.int flags), (.int c1), (.int c2)] maxLocals) T70 (mkF m 151 #[.val (.int flags), .val (.int c1), .val (.int c2), .val (.ref sa14), .val (.ref sa52), .val (.int (1 : Int32)), .val (.int (1 : Int32)), .val (.int (1 : Int32)), .val (.int (1 : Int32)), .val (.int (1 : Int32))] [(.int (1 : Int32))]) := fun t kt => pre71 t (by
              show Steps p.tables e below (T70.setTop (mkF m 110 #[.val (.int flags), .val (.int c1), .val (.int c2), .val (.ref sa14), .val (.ref sa52), .val (.int (1 : Int32)), .val (.int (1 : Int32)), .val (.int (1 : Int32)), .val (.int (1 : Int32)), .unset] [(.int (1 : Int32))])) _
              refine XS.istore X70.here hx rfl (hb hby at_110) rfl (l' := #[.val (.int flags), .val (.int c1), .val (.int c2), .val (.ref sa14), .val (.ref sa52), .val (.int (1 : Int32)), .val (.int (1 : Int32)), .val (.int (1 : Int32)), .val (.int (1 : Int32)), .val (.int (1 : Int32))]) rfl ?_
              show Steps p.tables e below (T70.setTop (mkF m 112 #[.val (.int flags), .val (.int c1), .val (.int c2), .val (.ref sa14), .val (.ref sa52), .val (.int (1 : Int32)), .val (.int (1 : Int32)), .val (.int (1 : Int32)), .val (.int (1 : Int32)), .val (.int (1 : Int32))] [])) _
              refine XS.iload X70.here hx rfl (hb hby at_112) rfl ?_
              show Steps p.tables e below (T70.setTop (mkF m 114 #[.val (.int flags), .val (.int c1), .val (.int c2), .val (.ref sa14), .val (.ref sa52), .val (.int (1 : Int32)), .val (.int (1 : Int32)), .val (.int (1 : Int32)), .val (.int (1 : Int32)), .val (.int (1 : Int32))] [(.int (1 : Int32))])) _
              refine XS.iload X70.here hx rfl (hb hby at_114) rfl ?_
              show Steps p.tables e below (T70.setTop (mkF m 116 #[.val (.int flags), .val (.int c1), .val (.int c2), .val (.ref sa14), .val (.ref sa52), .val (.int (1 : Int32)), .val (.int (1 : Int32)), .val (.int (1 : Int32)), .val (.int (1 : Int32)), .val (.int (1 : Int32))] [(.int (1 : Int32)), (.int (1 : Int32))])) _
              refine XS.icmpNo X70.here hx rfl (hb hby at_116) rfl (teq (by decide : (1 : Int32) = (1 : Int32))).2 ?_
              show Steps p.tables e below (T70.setTop (mkF m 119 #[.val (.int flags), .val (.int c1), .val (.int c2), .val (.ref sa14), .val (.ref sa52), .val (.int (1 : Int32)), .val (.int (1 : Int32)), .val (.int (1 : Int32)), .val (.int (1 : Int32)), .val (.int (1 : Int32))] [])) _
              refine XS.iload X70.here hx rfl (hb hby at_119) rfl ?_
              show Steps p.tables e below (T70.setTop (mkF m 121 #[.val (.int flags), .val (.int c1), .val (.int c2), .val (.ref sa14), .val (.ref sa52), .val (.int (1 : Int32)), .val (.int (1 : Int32)), .val (.int (1 : Int32)), .val (.int (1 : Int32)), .val (.int (1 : Int32))] [(.int (1 : Int32))])) _
              refine XS.iload X70.here hx rfl (hb hby at_121) rfl ?_
              show Steps p.tables e below (T70.setTop (mkF m 123 #[.val (.int flags), .val (.int c1), .val (.int c2), .val (.ref sa14), .val (.ref sa52), .val (.int (1 : Int32)), .val (.int (1 : Int32)), .val (.int (1 : Int32)), .val (.int (1 : Int32)), .val (.int (1 : Int32))] [(.int (1 : Int32)), (.int (1 : Int32))])) _
              refine XS.icmpNo X70.here hx rfl (hb hby at_123) rfl (teq (by decide : (1 : Int32) = (1 : Int32))).2 ?_
              show Steps p.tables e below (T70.setTop (mkF m 126 #[.val (.int flags), .val (.int c1), .val (.int c2), .val (.ref sa14), .val (.ref sa52), .val (.int (1 : Int32)), .val (.int (1 : Int32)), .val (.int (1 : Int32)), .val (.int (1 : Int32)), .val (.int (1 : Int32))] [])) _
              refine XS.iload X70.here hx rfl (hb hby at_126) rfl ?_
              show Steps p.tables e below (T70.setTop (mkF m 128 #[.val (.int flags), .val (.int c1), .val (.int c2), .val (.ref sa14), .val (.ref sa52), .val (.int (1 : Int32)), .val (.int (1 : Int32)), .val (.int (1 : Int32)), .val (.int (1 : Int32)), .val (.int (1 : Int32))] [(.int (1 : Int32))])) _
              refine XS.iload X70.here hx rfl (hb hby at_128) rfl ?_
              show Steps p.tables e below (T70.setTop (mkF m 130 #[.val (.int flags), .val (.int c1), .val (.int c2), .val (.ref sa14), .val (.ref sa52), .val (.int (1 : Int32)), .val (.int (1 : Int32)), .val (.int (1 : Int32)), .val (.int (1 : Int32)), .val (.int (1 : Int32))] [(.int (1 : Int32)), (.int (1 : Int32))])) _
              refine XS.ifNo X70.here hx rfl (hb hby at_130) rfl ((if0 _ _).trans (feq (by decide : ¬ ((1 : Int32) = (0 : Int32)))).1) ?_
              show Steps p.tables e below (T70.setTop (mkF m 133 #[.val (.int flags), .val (.int c1), .val (.int c2), .val (.ref sa14), .val (.ref sa52), .val (.int (1 : Int32)), .val (.int (1 : Int32)), .val (.int (1 : Int32)), .val (.int (1 : Int32)), .val (.int (1 : Int32))] [(.int (1 : Int32))])) _
              refine XS.iload X70.here hx rfl (hb hby at_133) rfl ?_
              show Steps p.tables e below (T70.setTop (mkF m 135 #[.val (.int flags), .val (.int c1), .val (.int c2), .val (.ref sa14), .val (.ref sa52), .val (.int (1 : Int32)), .val (.int (1 : Int32)), .val (.int (1 : Int32)), .val (.int (1 : Int32)), .val (.int (1 : Int32))] [(.int (1 : Int32)), (.int (1 : Int32))])) _
              refine XS.ifNo X70.here hx rfl (hb hby at_135) rfl ((if0 _ _).trans (feq (by decide : ¬ ((1 : Int32) = (0 : Int32)))).1) ?_
              show Steps p.tables e below (T70.setTop (mkF m 138 #[.val (.int flags), .val (.int c1), .val (.int c2), .val (.ref sa14), .val (.ref sa52), .val (.int (1 : Int32)), .val (.int (1 : Int32)), .val (.int (1 : Int32)), .val (.int (1 : Int32)), .val (.int (1 : Int32))] [(.int (1 : Int32))])) _
              refine XS.iconst X70.here hx rfl (hb hby at_138) ?_
              show Steps p.tables e below (T70.setTop (mkF m 139 #[.val (.int flags), .val (.int c1), .val (.int c2), .val (.ref sa14), .val (.ref sa52), .val (.int (1 : Int32)), .val (.int (1 : Int32)), .val (.int (1 : Int32)), .val (.int (1 : Int32)), .val (.int (1 : Int32))] [(.int (1 : Int32)), (.int (1 : Int32))])) _
              refine XS.goto X70.here hx rfl (pc0 := 139) (pc' := 143) rfl (hb hby at_139) (by decide) (by decide) ?_
              show Steps p.tables e below (T70.setTop (mkF m 143 #[.val (.int flags), .val (.int c1), .val (.int c2), .val (.ref sa14), .val (.ref sa52), .val (.int (1 : Int32)), .val (.int (1 : Int32)), .val (.int (1 : Int32)), .val (.int (1 : Int32)), .val (.int (1 : Int32))] [(.int (1 : Int32)), (.int (1 : Int32))])) _
              refine XS.icmpNo X70.here hx rfl (hb hby at_143) rfl (teq (by decide : (1 : Int32) = (1 : Int32))).2 ?_
              show Steps p.tables e below (T70.setTop (mkF m 146 #[.val (.int flags), .val (.int c1), .val (.int c2), .val (.ref sa14), .val (.ref sa52), .val (.int (1 : Int32)), .val (.int (1 : Int32)), .val (.int (1 : Int32)), .val (.int (1 : Int32)), .val (.int (1 : Int32))] [])) _
              refine XS.iconst X70.here hx rfl (hb hby at_146) ?_
              show Steps p.tables e below (T70.setTop (mkF m 147 #[.val (.int flags), .val (.int c1), .val (.int c2), .val (.ref sa14), .val (.ref sa52), .val (.int (1 : Int32)), .val (.int (1 : Int32)), .val (.int (1 : Int32)), .val (.int (1 : Int32)), .val (.int (1 : Int32))] [(.int (1 : Int32))])) _
              refine XS.goto X70.here hx rfl (pc0 := 147) (pc' := 151) rfl (hb hby at_147) (by decide) (by decide) ?_
              exact kt)
          obtain ⟨fs, hr, hrun, hended, hEnd⟩ := X70.leaveW hS52 (by rw [e70]; exact (Nat.le_refl _)) (v := some (.int (1 : Int32))) (fun h => by rw [Bd.returns] at h; cases h)
          refine ⟨_, _, pre72 _ ?_, hrun, hended, _, _, rfl, ?_, hEnd.1, hEnd.2.1, hEnd.2.2.1, hEnd.2.2.2.mono (by decide) (by decide)⟩
          · show Steps p.tables e below (T70.setTop (mkF m 151 #[.val (.int flags), .val (.int c1), .val (.int c2), .val (.ref sa14), .val (.ref sa52), .val (.int (1 : Int32)), .val (.int (1 : Int32)), .val (.int (1 : Int32)), .val (.int (1 : Int32)), .val (.int (1 : Int32))] [(.int (1 : Int32))])) _
            exact retN X70 hx (t := .boolean) Bd.returns (by simp) (hb hby at_151) hr
          · show Q_own_rm0 Z flags c1 c2 cs aACCOUNT aADDRESS aPAIR h0 n0 _ T70.heap _
            rw [e70]
            exact ⟨rfl, N70⟩
      · -- null
        have pre73 : Goes p e below s₁ (entryFrame m #[(.int flags), (.int c1), (.int c2)] maxLocals) T14 (mkF m 51 #[.val (.int flags), .val (.int c1), .val (.int c2), .val (.ref sa14), .unset, .unset, .unset, .unset, .unset, .unset] [(.int c2), (.int g4), (.int (1 : Int32))]) := fun t kt => pre24 t (by
            show Steps p.tables e below (T14.setTop (mkF m 50 #[.val (.int flags), .val (.int c1), .val (.int c2), .val (.ref sa14), .unset, .unset, .unset, .unset, .unset, .unset] [(.int g4), (.int (1 : Int32))])) _
            refine XS.iloadN X14.here hx rfl (hb hby at_50) rfl ?_
            exact kt)
        obtain ⟨_, _, ⟨T74, L74, k74, n74⟩, -, X74, ⟨Lc74, hQ74, l74, y74, z74⟩, st74⟩ := Jvm.LawKit.callS X14 hx (y := (⟨"com/example/tallygate/tallygate/KeyTypeCanKeyPinLaw", "make", "(ZZI)Ljava/lang/String;"⟩ : MethodName)) hown (mvT hZ (hw _ (List.mem_of_getElem? (i := 0) rfl))) (mvT hZ (hw _ (List.mem_of_getElem? (i := 1) rfl))) (mvT hZ (hw _ (List.mem_of_getElem? (i := 2) rfl))) (mvT hZ (hw _ (List.mem_of_getElem? (i := 3) rfl))) (by decide) (backOf (W := 0) (own_makeN l Z a0 hw [] g4 c2 T14.heap n0 (Nat.le_trans Z0 K14q.1) ) hZ (hw _ (List.mem_of_getElem? (i := 3) rfl)) (hw _ (List.mem_of_getElem? (i := 2) rfl)) (by decide) (by decide)) (g := (mkF m 51 #[.val (.int flags), .val (.int c1), .val (.int c2), .val (.ref sa14), .unset, .unset, .unset, .unset, .unset, .unset] [(.int c2), (.int g4), (.int (1 : Int32))])) rfl (by rw [hml]; rfl) (argsL := [(.int (1 : Int32)), (.int g4), (.int c2)]) (rest := []) (lenOf own_pd6 rfl) rfl (by show 2 * 0 + _ ≤ _; exact Nat.le_of_eq rfl) (hb hby at_51) (fun _ _ => ⟨rfl, rfl, (by decide : 3 + 0 ≤ _), (by decide : 8 + 0 ≤ _)⟩)
        dsimp only [Pt.U, Pt.locs, Pt.cells, Pt.slots] at X74 l74 y74 z74 st74 hQ74
        subst l74 y74 z74
        obtain ⟨rfl, N74q, e74⟩ := hQ74
        have N74 := Fr.app N14 N74q
        have pre75 : Goes p e below s₁ (entryFrame m #[(.int flags), (.int c1), (.int c2)] maxLocals) T74 (mkF m 54 #[.val (.int flags), .val (.int c1), .val (.int c2), .val (.ref sa14), .unset, .unset, .unset, .unset, .unset, .unset] [.null]) := fun t kt => pre73 t (st74 t kt)
        have pre76 : Goes p e below s₁ (entryFrame m #[(.int flags), (.int c1), (.int c2)] maxLocals) T74 (mkF m 79 #[.val (.int flags), .val (.int c1), .val (.int c2), .val (.ref sa14), .val .null, .val (.int (1 : Int32)), .val (.int (0 : Int32)), .unset, .unset, .unset] []) := fun t kt => pre75 t (by
            show Steps p.tables e below (T74.setTop (mkF m 54 #[.val (.int flags), .val (.int c1), .val (.int c2), .val (.ref sa14), .unset, .unset, .unset, .unset, .unset, .unset] [.null])) _
            refine XS.astore X74.here hx rfl (hb hby at_54) rfl rfl (l' := #[.val (.int flags), .val (.int c1), .val (.int c2), .val (.ref sa14), .val .null, .unset, .unset, .unset, .unset, .unset]) rfl ?_
            show Steps p.tables e below (T74.setTop (mkF m 56 #[.val (.int flags), .val (.int c1), .val (.int c2), .val (.ref sa14), .val .null, .unset, .unset, .unset, .unset, .unset] [])) _
            refine XS.aloadN X74.here hx rfl (hb hby at_56) rfl rfl ?_
            show Steps p.tables e below (T74.setTop (mkF m 57 #[.val (.int flags), .val (.int c1), .val (.int c2), .val (.ref sa14), .val .null, .unset, .unset, .unset, .unset, .unset] [(.ref sa14)])) _
            refine XS.ifnullNo X74.here hx rfl (hb hby at_57) rfl ?_
            show Steps p.tables e below (T74.setTop (mkF m 60 #[.val (.int flags), .val (.int c1), .val (.int c2), .val (.ref sa14), .val .null, .unset, .unset, .unset, .unset, .unset] [])) _
            refine XS.iconst X74.here hx rfl (hb hby at_60) ?_
            show Steps p.tables e below (T74.setTop (mkF m 61 #[.val (.int flags), .val (.int c1), .val (.int c2), .val (.ref sa14), .val .null, .unset, .unset, .unset, .unset, .unset] [(.int (1 : Int32))])) _
            refine XS.goto X74.here hx rfl (pc0 := 61) (pc' := 65) rfl (hb hby at_61) (by decide) (by decide) ?_
            show Steps p.tables e below (T74.setTop (mkF m 65 #[.val (.int flags), .val (.int c1), .val (.int c2), .val (.ref sa14), .val .null, .unset, .unset, .unset, .unset, .unset] [(.int (1 : Int32))])) _
            refine XS.istore X74.here hx rfl (hb hby at_65) rfl (l' := #[.val (.int flags), .val (.int c1), .val (.int c2), .val (.ref sa14), .val .null, .val (.int (1 : Int32)), .unset, .unset, .unset, .unset]) rfl ?_
            show Steps p.tables e below (T74.setTop (mkF m 67 #[.val (.int flags), .val (.int c1), .val (.int c2), .val (.ref sa14), .val .null, .val (.int (1 : Int32)), .unset, .unset, .unset, .unset] [])) _
            refine XS.aload X74.here hx rfl (hb hby at_67) rfl rfl ?_
            show Steps p.tables e below (T74.setTop (mkF m 69 #[.val (.int flags), .val (.int c1), .val (.int c2), .val (.ref sa14), .val .null, .val (.int (1 : Int32)), .unset, .unset, .unset, .unset] [.null])) _
            refine XS.ifnullYes X74.here hx rfl (pc0 := 69) (pc' := 76) rfl (hb hby at_69) rfl (by decide) (by decide) ?_
            show Steps p.tables e below (T74.setTop (mkF m 76 #[.val (.int flags), .val (.int c1), .val (.int c2), .val (.ref sa14), .val .null, .val (.int (1 : Int32)), .unset, .unset, .unset, .unset] [])) _
            refine XS.iconst X74.here hx rfl (hb hby at_76) ?_
            show Steps p.tables e below (T74.setTop (mkF m 77 #[.val (.int flags), .val (.int c1), .val (.int c2), .val (.ref sa14), .val .null, .val (.int (1 : Int32)), .unset, .unset, .unset, .unset] [(.int (0 : Int32))])) _
            refine XS.istore X74.here hx rfl (hb hby at_77) rfl (l' := #[.val (.int flags), .val (.int c1), .val (.int c2), .val (.ref sa14), .val .null, .val (.int (1 : Int32)), .val (.int (0 : Int32)), .unset, .unset, .unset]) rfl ?_
            exact kt)
        obtain ⟨T77, X77, e77, st77⟩ := getS2 X74 hx hZ hown (host := "") (Or.inl (hw _ (List.mem_of_getElem? (i := 34) rfl))) Via.refl e74 (S_ACCOUNT.ext (O0.keep K14q all0).2) (g := (mkF m 79 #[.val (.int flags), .val (.int c1), .val (.int c2), .val (.ref sa14), .val .null, .val (.int (1 : Int32)), .val (.int (0 : Int32)), .unset, .unset, .unset] [])) rfl (hb hby at_79)
        have pre78 : Goes p e below s₁ (entryFrame m #[(.int flags), (.int c1), (.int c2)] maxLocals) T77 (mkF m 82 #[.val (.int flags), .val (.int c1), .val (.int c2), .val (.ref sa14), .val .null, .val (.int (1 : Int32)), .val (.int (0 : Int32)), .unset, .unset, .unset] [(.ref aACCOUNT)]) := fun t kt => pre76 t (st77 t kt)
        have pre79 : Goes p e below s₁ (entryFrame m #[(.int flags), (.int c1), (.int c2)] maxLocals) T77 (mkF m 85 #[.val (.int flags), .val (.int c1), .val (.int c2), .val (.ref sa14), .val .null, .val (.int (1 : Int32)), .val (.int (0 : Int32)), .unset, .unset, .unset] [.null, (.ref sa14), (.ref aACCOUNT)]) := fun t kt => pre78 t (by
            show Steps p.tables e below (T77.setTop (mkF m 82 #[.val (.int flags), .val (.int c1), .val (.int c2), .val (.ref sa14), .val .null, .val (.int (1 : Int32)), .val (.int (0 : Int32)), .unset, .unset, .unset] [(.ref aACCOUNT)])) _
            refine XS.aloadN X77.here hx rfl (hb hby at_82) rfl rfl ?_
            show Steps p.tables e below (T77.setTop (mkF m 83 #[.val (.int flags), .val (.int c1), .val (.int c2), .val (.ref sa14), .val .null, .val (.int (1 : Int32)), .val (.int (0 : Int32)), .unset, .unset, .unset] [(.ref sa14), (.ref aACCOUNT)])) _
            refine XS.aload X77.here hx rfl (hb hby at_83) rfl rfl ?_
            exact kt)
        obtain ⟨cq80, kq80, q80a, q80b, q80c⟩ := isOf hZ e77 (E_ACCOUNT.keep K14q)
        obtain ⟨_, _, ⟨T80, L80, k80, n80⟩, -, X80, ⟨Lc80, hQ80, l80, y80, z80⟩, st80⟩ := X77.virtualBack hx (y := (⟨"com/example/tallygate/tallygate/KeyType", "canKey", "(Ljava/lang/String;Ljava/lang/String;)Z"⟩ : MethodName)) (z := (⟨"com/example/tallygate/tallygate/KeyType", "canKey", "(Ljava/lang/String;Ljava/lang/String;)Z"⟩ : MethodName)) hown (mvT hZ (hw _ (List.mem_of_getElem? (i := 37) rfl))) (mvT hZ (hw _ (List.mem_of_getElem? (i := 38) rfl))) (notFace_of_selects (args := #[]) (mvT hZ (hw _ (List.mem_of_getElem? (i := 40) rfl)))) (mvT hZ (hw _ (List.mem_of_getElem? (i := 40) rfl))) (mvT hZ (hw _ (List.mem_of_getElem? (i := 39) rfl))) (by decide) (backOf (W := 0) (own_canKey010 l Z a0 hw [] aACCOUNT sa14 T14.heap n0 (Nat.le_trans Z0 K14q.1) (E_ACCOUNT.keep K14q) (O_ACCOUNT.keep K14q nin0)) hZ (hw _ (List.mem_of_getElem? (i := 41) rfl)) (hw _ (List.mem_of_getElem? (i := 35) rfl)) (by decide) (by decide)) q80a q80c (g := (mkF m 85 #[.val (.int flags), .val (.int c1), .val (.int c2), .val (.ref sa14), .val .null, .val (.int (1 : Int32)), .val (.int (0 : Int32)), .unset, .unset, .unset] [.null, (.ref sa14), (.ref aACCOUNT)])) rfl (by rw [hml]; rfl) (Steps.refl _) (argsL := [(.ref sa14), .null]) (rest := []) (lenOf own_pd7 rfl) rfl (by show 2 * 0 + _ ≤ _; exact Nat.le_of_eq rfl) (hb hby at_85) (fun _ _ => ⟨rfl, e77, (by decide : 3 + 0 ≤ _), (by decide : 8 + 0 ≤ _)⟩)
        dsimp only [Pt.U, Pt.locs, Pt.cells, Pt.slots] at X80 l80 y80 z80 st80 hQ80
        subst l80 y80 z80
        obtain ⟨rfl, N80q, e80⟩ := hQ80
        have N80 := Fr.app N74 N80q
        have pre81 : Goes p e below s₁ (entryFrame m #[(.int flags), (.int c1), (.int c2)] maxLocals) T80 (mkF m 88 #[.val (.int flags), .val (.int c1), .val (.int c2), .val (.ref sa14), .val .null, .val (.int (1 : Int32)), .val (.int (0 : Int32)), .unset, .unset, .unset] [(.int (1 : Int32))]) := fun t kt => pre79 t (st80.trans kt)
        have pre82 : Goes p e below s₁ (entryFrame m #[(.int flags), (.int c1), (.int c2)] maxLocals) T80 (mkF m 90 #[.val (.int flags), .val (.int c1), .val (.int c2), .val (.ref sa14), .val .null, .val (.int (1 : Int32)), .val (.int (0 : Int32)), .val (.int (1 : Int32)), .unset, .unset] []) := fun t kt => pre81 t (by
            show Steps p.tables e below (T80.setTop (mkF m 88 #[.val (.int flags), .val (.int c1), .val (.int c2), .val (.ref sa14), .val .null, .val (.int (1 : Int32)), .val (.int (0 : Int32)), .unset, .unset, .unset] [(.int (1 : Int32))])) _
            refine XS.istore X80.here hx rfl (hb hby at_88) rfl (l' := #[.val (.int flags), .val (.int c1), .val (.int c2), .val (.ref sa14), .val .null, .val (.int (1 : Int32)), .val (.int (0 : Int32)), .val (.int (1 : Int32)), .unset, .unset]) rfl ?_
            exact kt)
        obtain ⟨T83, X83, e83, st83⟩ := getS2 X80 hx hZ hown (host := "") (Or.inl (hw _ (List.mem_of_getElem? (i := 51) rfl))) Via.refl e80 (S_ADDRESS.ext (O0.keep K14q all0).2) (g := (mkF m 90 #[.val (.int flags), .val (.int c1), .val (.int c2), .val (.ref sa14), .val .null, .val (.int (1 : Int32)), .val (.int (0 : Int32)), .val (.int (1 : Int32)), .unset, .unset] [])) rfl (hb hby at_90)
        have pre84 : Goes p e below s₁ (entryFrame m #[(.int flags), (.int c1), (.int c2)] maxLocals) T83 (mkF m 93 #[.val (.int flags), .val (.int c1), .val (.int c2), .val (.ref sa14), .val .null, .val (.int (1 : Int32)), .val (.int (0 : Int32)), .val (.int (1 : Int32)), .unset, .unset] [(.ref aADDRESS)]) := fun t kt => pre82 t (st83 t kt)
        have pre85 : Goes p e below s₁ (entryFrame m #[(.int flags), (.int c1), (.int c2)] maxLocals) T83 (mkF m 96 #[.val (.int flags), .val (.int c1), .val (.int c2), .val (.ref sa14), .val .null, .val (.int (1 : Int32)), .val (.int (0 : Int32)), .val (.int (1 : Int32)), .unset, .unset] [.null, (.ref sa14), (.ref aADDRESS)]) := fun t kt => pre84 t (by
            show Steps p.tables e below (T83.setTop (mkF m 93 #[.val (.int flags), .val (.int c1), .val (.int c2), .val (.ref sa14), .val .null, .val (.int (1 : Int32)), .val (.int (0 : Int32)), .val (.int (1 : Int32)), .unset, .unset] [(.ref aADDRESS)])) _
            refine XS.aloadN X83.here hx rfl (hb hby at_93) rfl rfl ?_
            show Steps p.tables e below (T83.setTop (mkF m 94 #[.val (.int flags), .val (.int c1), .val (.int c2), .val (.ref sa14), .val .null, .val (.int (1 : Int32)), .val (.int (0 : Int32)), .val (.int (1 : Int32)), .unset, .unset] [(.ref sa14), (.ref aADDRESS)])) _
            refine XS.aload X83.here hx rfl (hb hby at_94) rfl rfl ?_
            exact kt)
        obtain ⟨cq86, kq86, q86a, q86b, q86c⟩ := isOf hZ e83 (E_ADDRESS.keep K14q)
        obtain ⟨_, _, ⟨T86, L86, k86, n86⟩, -, X86, ⟨Lc86, hQ86, l86, y86, z86⟩, st86⟩ := X83.virtualBack hx (y := (⟨"com/example/tallygate/tallygate/KeyType", "canKey", "(Ljava/lang/String;Ljava/lang/String;)Z"⟩ : MethodName)) (z := (⟨"com/example/tallygate/tallygate/KeyType", "canKey", "(Ljava/lang/String;Ljava/lang/String;)Z"⟩ : MethodName)) hown (mvT hZ (hw _ (List.mem_of_getElem? (i := 37) rfl))) (mvT hZ (hw _ (List.mem_of_getElem? (i := 38) rfl))) (notFace_of_selects (args := #[]) (mvT hZ (hw _ (List.mem_of_getElem? (i := 40) rfl)))) (mvT hZ (hw _ (List.mem_of_getElem? (i := 40) rfl))) (mvT hZ (hw _ (List.mem_of_getElem? (i := 39) rfl))) (by decide) (backOf (W := 0) (own_canKey110 l Z a0 hw [] aADDRESS sa14 T14.heap n0 (Nat.le_trans Z0 K14q.1) (E_ADDRESS.keep K14q) (O_ADDRESS.keep K14q nin0)) hZ (hw _ (List.mem_of_getElem? (i := 41) rfl)) (hw _ (List.mem_of_getElem? (i := 35) rfl)) (by decide) (by decide)) q86a q86c (g := (mkF m 96 #[.val (.int flags), .val (.int c1), .val (.int c2), .val (.ref sa14), .val .null, .val (.int (1 : Int32)), .val (.int (0 : Int32)), .val (.int (1 : Int32)), .unset, .unset] [.null, (.ref sa14), (.ref aADDRESS)])) rfl (by rw [hml]; rfl) (Steps.refl _) (argsL := [(.ref sa14), .null]) (rest := []) (lenOf own_pd7 rfl) rfl (by show 2 * 0 + _ ≤ _; exact Nat.le_of_eq rfl) (hb hby at_96) (fun _ _ => ⟨rfl, e83, (by decide : 3 + 0 ≤ _), (by decide : 8 + 0 ≤ _)⟩)
        dsimp only [Pt.U, Pt.locs, Pt.cells, Pt.slots] at X86 l86 y86 z86 st86 hQ86
        subst l86 y86 z86
        obtain ⟨rfl, N86q, e86⟩ := hQ86
        have N86 := Fr.app N80 N86q
        have pre87 : Goes p e below s₁ (entryFrame m #[(.int flags), (.int c1), (.int c2)] maxLocals) T86 (mkF m 99 #[.val (.int flags), .val (.int c1), .val (.int c2), .val (.ref sa14), .val .null, .val (.int (1 : Int32)), .val (.int (0 : Int32)), .val (.int (1 : Int32)), .unset, .unset] [(.int (0 : Int32))]) := fun t kt => pre85 t (st86.trans kt)
        have pre88 : Goes p e below s₁ (entryFrame m #[(.int flags), (.int c1), (.int c2)] maxLocals) T86 (mkF m 101 #[.val (.int flags), .val (.int c1), .val (.int c2), .val (.ref sa14), .val .null, .val (.int (1 : Int32)), .val (.int (0 : Int32)), .val (.int (1 : Int32)), .val (.int (0 : Int32)), .unset] []) := fun t kt => pre87 t (by
            show Steps p.tables e below (T86.setTop (mkF m 99 #[.val (.int flags), .val (.int c1), .val (.int c2), .val (.ref sa14), .val .null, .val (.int (1 : Int32)), .val (.int (0 : Int32)), .val (.int (1 : Int32)), .unset, .unset] [(.int (0 : Int32))])) _
            refine XS.istore X86.here hx rfl (hb hby at_99) rfl (l' := #[.val (.int flags), .val (.int c1), .val (.int c2), .val (.ref sa14), .val .null, .val (.int (1 : Int32)), .val (.int (0 : Int32)), .val (.int (1 : Int32)), .val (.int (0 : Int32)), .unset]) rfl ?_
            exact kt)
        obtain ⟨T89, X89, e89, st89⟩ := getS2 X86 hx hZ hown (host := "") (Or.inl (hw _ (List.mem_of_getElem? (i := 53) rfl))) Via.refl e86 (S_PAIR.ext (O0.keep K14q all0).2) (g := (mkF m 101 #[.val (.int flags), .val (.int c1), .val (.int c2), .val (.ref sa14), .val .null, .val (.int (1 : Int32)), .val (.int (0 : Int32)), .val (.int (1 : Int32)), .val (.int (0 : Int32)), .unset] [])) rfl (hb hby at_101)
        have pre90 : Goes p e below s₁ (entryFrame m #[(.int flags), (.int c1), (.int c2)] maxLocals) T89 (mkF m 104 #[.val (.int flags), .val (.int c1), .val (.int c2), .val (.ref sa14), .val .null, .val (.int (1 : Int32)), .val (.int (0 : Int32)), .val (.int (1 : Int32)), .val (.int (0 : Int32)), .unset] [(.ref aPAIR)]) := fun t kt => pre88 t (st89 t kt)
        have pre91 : Goes p e below s₁ (entryFrame m #[(.int flags), (.int c1), (.int c2)] maxLocals) T89 (mkF m 107 #[.val (.int flags), .val (.int c1), .val (.int c2), .val (.ref sa14), .val .null, .val (.int (1 : Int32)), .val (.int (0 : Int32)), .val (.int (1 : Int32)), .val (.int (0 : Int32)), .unset] [.null, (.ref sa14), (.ref aPAIR)]) := fun t kt => pre90 t (by
            show Steps p.tables e below (T89.setTop (mkF m 104 #[.val (.int flags), .val (.int c1), .val (.int c2), .val (.ref sa14), .val .null, .val (.int (1 : Int32)), .val (.int (0 : Int32)), .val (.int (1 : Int32)), .val (.int (0 : Int32)), .unset] [(.ref aPAIR)])) _
            refine XS.aloadN X89.here hx rfl (hb hby at_104) rfl rfl ?_
            show Steps p.tables e below (T89.setTop (mkF m 105 #[.val (.int flags), .val (.int c1), .val (.int c2), .val (.ref sa14), .val .null, .val (.int (1 : Int32)), .val (.int (0 : Int32)), .val (.int (1 : Int32)), .val (.int (0 : Int32)), .unset] [(.ref sa14), (.ref aPAIR)])) _
            refine XS.aload X89.here hx rfl (hb hby at_105) rfl rfl ?_
            exact kt)
        obtain ⟨cq92, kq92, q92a, q92b, q92c⟩ := isOf hZ e89 (E_PAIR.keep K14q)
        obtain ⟨_, _, ⟨T92, L92, k92, n92⟩, -, X92, ⟨Lc92, hQ92, l92, y92, z92⟩, st92⟩ := X89.virtualBack hx (y := (⟨"com/example/tallygate/tallygate/KeyType", "canKey", "(Ljava/lang/String;Ljava/lang/String;)Z"⟩ : MethodName)) (z := (⟨"com/example/tallygate/tallygate/KeyType", "canKey", "(Ljava/lang/String;Ljava/lang/String;)Z"⟩ : MethodName)) hown (mvT hZ (hw _ (List.mem_of_getElem? (i := 37) rfl))) (mvT hZ (hw _ (List.mem_of_getElem? (i := 38) rfl))) (notFace_of_selects (args := #[]) (mvT hZ (hw _ (List.mem_of_getElem? (i := 40) rfl)))) (mvT hZ (hw _ (List.mem_of_getElem? (i := 40) rfl))) (mvT hZ (hw _ (List.mem_of_getElem? (i := 39) rfl))) (by decide) (backOf (W := 0) (own_canKey210 l Z a0 hw [] aPAIR sa14 T14.heap n0 (Nat.le_trans Z0 K14q.1) (E_PAIR.keep K14q) (O_PAIR.keep K14q nin0)) hZ (hw _ (List.mem_of_getElem? (i := 41) rfl)) (hw _ (List.mem_of_getElem? (i := 35) rfl)) (by decide) (by decide)) q92a q92c (g := (mkF m 107 #[.val (.int flags), .val (.int c1), .val (.int c2), .val (.ref sa14), .val .null, .val (.int (1 : Int32)), .val (.int (0 : Int32)), .val (.int (1 : Int32)), .val (.int (0 : Int32)), .unset] [.null, (.ref sa14), (.ref aPAIR)])) rfl (by rw [hml]; rfl) (Steps.refl _) (argsL := [(.ref sa14), .null]) (rest := []) (lenOf own_pd7 rfl) rfl (by show 2 * 0 + _ ≤ _; exact Nat.le_of_eq rfl) (hb hby at_107) (fun _ _ => ⟨rfl, e89, (by decide : 3 + 0 ≤ _), (by decide : 8 + 0 ≤ _)⟩)
        dsimp only [Pt.U, Pt.locs, Pt.cells, Pt.slots] at X92 l92 y92 z92 st92 hQ92
        subst l92 y92 z92
        obtain ⟨rfl, N92q, e92⟩ := hQ92
        have N92 := Fr.app N86 N92q
        have pre93 : Goes p e below s₁ (entryFrame m #[(.int flags), (.int c1), (.int c2)] maxLocals) T92 (mkF m 110 #[.val (.int flags), .val (.int c1), .val (.int c2), .val (.ref sa14), .val .null, .val (.int (1 : Int32)), .val (.int (0 : Int32)), .val (.int (1 : Int32)), .val (.int (0 : Int32)), .unset] [(.int (0 : Int32))]) := fun t kt => pre91 t (st92.trans kt)
        have pre94 : Goes p e below s₁ (entryFrame m #[(.int flags), (.int c1), (.int c2)] maxLocals) T92 (mkF m 151 #[.val (.int flags), .val (.int c1), .val (.int c2), .val (.ref sa14), .val .null, .val (.int (1 : Int32)), .val (.int (0 : Int32)), .val (.int (1 : Int32)), .val (.int (0 : Int32)), .val (.int (0 : Int32))] [(.int (1 : Int32))]) := fun t kt => pre93 t (by
            show Steps p.tables e below (T92.setTop (mkF m 110 #[.val (.int flags), .val (.int c1), .val (.int c2), .val (.ref sa14), .val .null, .val (.int (1 : Int32)), .val (.int (0 : Int32)), .val (.int (1 : Int32)), .val (.int (0 : Int32)), .unset] [(.int (0 : Int32))])) _
            refine XS.istore X92.here hx rfl (hb hby at_110) rfl (l' := #[.val (.int flags), .val (.int c1), .val (.int c2), .val (.ref sa14), .val .null, .val (.int (1 : Int32)), .val (.int (0 : Int32)), .val (.int (1 : Int32)), .val (.int (0 : Int32)), .val (.int (0 : Int32))]) rfl ?_
            show Steps p.tables e below (T92.setTop (mkF m 112 #[.val (.int flags), .val (.int c1), .val (.int c2), .val (.ref sa14), .val .null, .val (.int (1 : Int32)), .val (.int (0 : Int32)), .val (.int (1 : Int32)), .val (.int (0 : Int32)), .val (.int (0 : Int32))] [])) _
            refine XS.iload X92.here hx rfl (hb hby at_112) rfl ?_
            show Steps p.tables e below (T92.setTop (mkF m 114 #[.val (.int flags), .val (.int c1), .val (.int c2), .val (.ref sa14), .val .null, .val (.int (1 : Int32)), .val (.int (0 : Int32)), .val (.int (1 : Int32)), .val (.int (0 : Int32)), .val (.int (0 : Int32))] [(.int (1 : Int32))])) _
            refine XS.iload X92.here hx rfl (hb hby at_114) rfl ?_
            show Steps p.tables e below (T92.setTop (mkF m 116 #[.val (.int flags), .val (.int c1), .val (.int c2), .val (.ref sa14), .val .null, .val (.int (1 : Int32)), .val (.int (0 : Int32)), .val (.int (1 : Int32)), .val (.int (0 : Int32)), .val (.int (0 : Int32))] [(.int (1 : Int32)), (.int (1 : Int32))])) _
            refine XS.icmpNo X92.here hx rfl (hb hby at_116) rfl (teq (by decide : (1 : Int32) = (1 : Int32))).2 ?_
            show Steps p.tables e below (T92.setTop (mkF m 119 #[.val (.int flags), .val (.int c1), .val (.int c2), .val (.ref sa14), .val .null, .val (.int (1 : Int32)), .val (.int (0 : Int32)), .val (.int (1 : Int32)), .val (.int (0 : Int32)), .val (.int (0 : Int32))] [])) _
            refine XS.iload X92.here hx rfl (hb hby at_119) rfl ?_
            show Steps p.tables e below (T92.setTop (mkF m 121 #[.val (.int flags), .val (.int c1), .val (.int c2), .val (.ref sa14), .val .null, .val (.int (1 : Int32)), .val (.int (0 : Int32)), .val (.int (1 : Int32)), .val (.int (0 : Int32)), .val (.int (0 : Int32))] [(.int (0 : Int32))])) _
            refine XS.iload X92.here hx rfl (hb hby at_121) rfl ?_
            show Steps p.tables e below (T92.setTop (mkF m 123 #[.val (.int flags), .val (.int c1), .val (.int c2), .val (.ref sa14), .val .null, .val (.int (1 : Int32)), .val (.int (0 : Int32)), .val (.int (1 : Int32)), .val (.int (0 : Int32)), .val (.int (0 : Int32))] [(.int (0 : Int32)), (.int (0 : Int32))])) _
            refine XS.icmpNo X92.here hx rfl (hb hby at_123) rfl (teq (by decide : (0 : Int32) = (0 : Int32))).2 ?_
            show Steps p.tables e below (T92.setTop (mkF m 126 #[.val (.int flags), .val (.int c1), .val (.int c2), .val (.ref sa14), .val .null, .val (.int (1 : Int32)), .val (.int (0 : Int32)), .val (.int (1 : Int32)), .val (.int (0 : Int32)), .val (.int (0 : Int32))] [])) _
            refine XS.iload X92.here hx rfl (hb hby at_126) rfl ?_
            show Steps p.tables e below (T92.setTop (mkF m 128 #[.val (.int flags), .val (.int c1), .val (.int c2), .val (.ref sa14), .val .null, .val (.int (1 : Int32)), .val (.int (0 : Int32)), .val (.int (1 : Int32)), .val (.int (0 : Int32)), .val (.int (0 : Int32))] [(.int (0 : Int32))])) _
            refine XS.iload X92.here hx rfl (hb hby at_128) rfl ?_
            show Steps p.tables e below (T92.setTop (mkF m 130 #[.val (.int flags), .val (.int c1), .val (.int c2), .val (.ref sa14), .val .null, .val (.int (1 : Int32)), .val (.int (0 : Int32)), .val (.int (1 : Int32)), .val (.int (0 : Int32)), .val (.int (0 : Int32))] [(.int (1 : Int32)), (.int (0 : Int32))])) _
            refine XS.ifNo X92.here hx rfl (hb hby at_130) rfl ((if0 _ _).trans (feq (by decide : ¬ ((1 : Int32) = (0 : Int32)))).1) ?_
            show Steps p.tables e below (T92.setTop (mkF m 133 #[.val (.int flags), .val (.int c1), .val (.int c2), .val (.ref sa14), .val .null, .val (.int (1 : Int32)), .val (.int (0 : Int32)), .val (.int (1 : Int32)), .val (.int (0 : Int32)), .val (.int (0 : Int32))] [(.int (0 : Int32))])) _
            refine XS.iload X92.here hx rfl (hb hby at_133) rfl ?_
            show Steps p.tables e below (T92.setTop (mkF m 135 #[.val (.int flags), .val (.int c1), .val (.int c2), .val (.ref sa14), .val .null, .val (.int (1 : Int32)), .val (.int (0 : Int32)), .val (.int (1 : Int32)), .val (.int (0 : Int32)), .val (.int (0 : Int32))] [(.int (0 : Int32)), (.int (0 : Int32))])) _
            refine XS.ifYes X92.here hx rfl (pc0 := 135) (pc' := 142) rfl (hb hby at_135) rfl ((if0 _ _).trans (teq (by decide : (0 : Int32) = (0 : Int32))).1) (by decide) (by decide) ?_
            show Steps p.tables e below (T92.setTop (mkF m 142 #[.val (.int flags), .val (.int c1), .val (.int c2), .val (.ref sa14), .val .null, .val (.int (1 : Int32)), .val (.int (0 : Int32)), .val (.int (1 : Int32)), .val (.int (0 : Int32)), .val (.int (0 : Int32))] [(.int (0 : Int32))])) _
            refine XS.iconst X92.here hx rfl (hb hby at_142) ?_
            show Steps p.tables e below (T92.setTop (mkF m 143 #[.val (.int flags), .val (.int c1), .val (.int c2), .val (.ref sa14), .val .null, .val (.int (1 : Int32)), .val (.int (0 : Int32)), .val (.int (1 : Int32)), .val (.int (0 : Int32)), .val (.int (0 : Int32))] [(.int (0 : Int32)), (.int (0 : Int32))])) _
            refine XS.icmpNo X92.here hx rfl (hb hby at_143) rfl (teq (by decide : (0 : Int32) = (0 : Int32))).2 ?_
            show Steps p.tables e below (T92.setTop (mkF m 146 #[.val (.int flags), .val (.int c1), .val (.int c2), .val (.ref sa14), .val .null, .val (.int (1 : Int32)), .val (.int (0 : Int32)), .val (.int (1 : Int32)), .val (.int (0 : Int32)), .val (.int (0 : Int32))] [])) _
            refine XS.iconst X92.here hx rfl (hb hby at_146) ?_
            show Steps p.tables e below (T92.setTop (mkF m 147 #[.val (.int flags), .val (.int c1), .val (.int c2), .val (.ref sa14), .val .null, .val (.int (1 : Int32)), .val (.int (0 : Int32)), .val (.int (1 : Int32)), .val (.int (0 : Int32)), .val (.int (0 : Int32))] [(.int (1 : Int32))])) _
            refine XS.goto X92.here hx rfl (pc0 := 147) (pc' := 151) rfl (hb hby at_147) (by decide) (by decide) ?_
            exact kt)
        obtain ⟨fs, hr, hrun, hended, hW, hsame⟩ := X92.leave (v := some (.int (1 : Int32))) (fun h => by rw [Bd.returns] at h; cases h)
        have hEnd := ReturnedEndW.of_narrow (o := .returned (some (.int (1 : Int32)))) ⟨_, rfl⟩ hW hsame
        refine ⟨_, _, pre94 _ ?_, hrun, hended, _, _, rfl, ?_, hEnd.1, hEnd.2.1, hEnd.2.2.1, hEnd.2.2.2.mono (by decide) (by decide)⟩
        · show Steps p.tables e below (T92.setTop (mkF m 151 #[.val (.int flags), .val (.int c1), .val (.int c2), .val (.ref sa14), .val .null, .val (.int (1 : Int32)), .val (.int (0 : Int32)), .val (.int (1 : Int32)), .val (.int (0 : Int32)), .val (.int (0 : Int32))] [(.int (1 : Int32))])) _
          exact retN X92 hx (t := .boolean) Bd.returns (by simp) (hb hby at_151) hr
        · show Q_own_rm0 Z flags c1 c2 cs aACCOUNT aADDRESS aPAIR h0 n0 _ T92.heap _
          rw [e92]
          exact ⟨rfl, N92⟩
    · -- E
      have pre95 : Goes p e below s₁ (entryFrame m #[(.int flags), (.int c1), (.int c2)] maxLocals) s₁ (mkF m 23 #[.val (.int flags), .val (.int c1), .val (.int c2), .unset, .unset, .unset, .unset, .unset, .unset, .unset] [(.int c1), (.int (1 : Int32)), (.int (0 : Int32))]) := fun t kt => pre8 t (by
          show Steps p.tables e below (s₁.setTop (mkF m 22 #[.val (.int flags), .val (.int c1), .val (.int c2), .unset, .unset, .unset, .unset, .unset, .unset, .unset] [(.int (1 : Int32)), (.int (0 : Int32))])) _
          refine XS.iloadN X0.here hx rfl (hb hby at_22) rfl ?_
          exact kt)
      obtain ⟨_, _, ⟨T96, L96, k96, n96⟩, -, XX96, hSS96, hGG96, ⟨Lc96, hQ96, l96, y96, z96⟩, st96⟩ := Jvm.RoadKit.callSS X0 hx (y := (⟨"com/example/tallygate/tallygate/KeyTypeCanKeyPinLaw", "make", "(ZZI)Ljava/lang/String;"⟩ : MethodName)) hown (mvT hZ (hw _ (List.mem_of_getElem? (i := 0) rfl))) (mvT hZ (hw _ (List.mem_of_getElem? (i := 1) rfl))) (mvT hZ (hw _ (List.mem_of_getElem? (i := 2) rfl))) (mvT hZ (hw _ (List.mem_of_getElem? (i := 3) rfl))) (by decide) (backOfS (W := 0) (own_makeE l Z a0 hw [] c1 h0 n0 Z0 ) hZ (hw _ (List.mem_of_getElem? (i := 3) rfl)) (hw _ (List.mem_of_getElem? (i := 2) rfl)) (by decide) (by decide)) (g := (mkF m 23 #[.val (.int flags), .val (.int c1), .val (.int c2), .unset, .unset, .unset, .unset, .unset, .unset, .unset] [(.int c1), (.int (1 : Int32)), (.int (0 : Int32))])) rfl (by rw [hml]; rfl) (argsL := [(.int (0 : Int32)), (.int (1 : Int32)), (.int c1)]) (rest := []) (lenOf own_pd6 rfl) rfl (by show 2 * 0 + _ ≤ _; exact Nat.le_of_eq rfl) (hb hby at_23) (fun _ _ => ⟨rfl, e0, (by decide : 0 + 2 ≤ _), (by decide : 0 + 4 ≤ _)⟩)
      dsimp only [Pt.U, Pt.locs, Pt.cells, Pt.slots] at hSS96 hGG96 XX96 l96 y96 z96 st96 hQ96
      subst l96 y96 z96
      obtain ⟨sa96, rfl, N96q, K96q⟩ := hQ96
      have N96 := Fr.app N0 N96q
      obtain ⟨X96, hS96, hZ, hown⟩ := rebS (s := s) (vm0 := s.vm) (State.WarmedH.since (State.WarmedH.refl s) 0) (by rw [e0]; exact (Nat.zero_le _)) XX96 hSS96 hGG96 hZ hown
      have KC96 : Keep h0 T96.heap [] := (Keep.refl h0 []).trans K96q all0
      have pre97 : Goes p e below s₁ (entryFrame m #[(.int flags), (.int c1), (.int c2)] maxLocals) T96 (mkF m 26 #[.val (.int flags), .val (.int c1), .val (.int c2), .unset, .unset, .unset, .unset, .unset, .unset, .unset] [(.ref sa96)]) := fun t kt => pre95 t (st96.trans kt)
      have pre98 : Goes p e below s₁ (entryFrame m #[(.int flags), (.int c1), (.int c2)] maxLocals) T96 (mkF m 27 #[.val (.int flags), .val (.int c1), .val (.int c2), .val (.ref sa96), .unset, .unset, .unset, .unset, .unset, .unset] []) := fun t kt => pre97 t (by
          show Steps p.tables e below (T96.setTop (mkF m 26 #[.val (.int flags), .val (.int c1), .val (.int c2), .unset, .unset, .unset, .unset, .unset, .unset, .unset] [(.ref sa96)])) _
          refine XS.astoreN X96.here hx rfl (hb hby at_26) rfl rfl (l' := #[.val (.int flags), .val (.int c1), .val (.int c2), .val (.ref sa96), .unset, .unset, .unset, .unset, .unset, .unset]) rfl ?_
          exact kt)
      obtain ⟨g3, hg3, pre100⟩ : ∃ (g3 : Int32), (g3 = (0 : Int32) ∨ g3 = (1 : Int32)) ∧ Goes p e below s₁ (entryFrame m #[(.int flags), (.int c1), (.int c2)] maxLocals) T96 (mkF m 38 #[.val (.int flags), .val (.int c1), .val (.int c2), .val (.ref sa96), .unset, .unset, .unset, .unset, .unset, .unset] [(.int g3)]) := by
        have pre101 : Goes p e below s₁ (entryFrame m #[(.int flags), (.int c1), (.int c2)] maxLocals) T96 (mkF m 30 #[.val (.int flags), .val (.int c1), .val (.int c2), .val (.ref sa96), .unset, .unset, .unset, .unset, .unset, .unset] [(.int (flags &&& (4 : Int32)))]) := fun t kt => pre98 t (by
            show Steps p.tables e below (T96.setTop (mkF m 27 #[.val (.int flags), .val (.int c1), .val (.int c2), .val (.ref sa96), .unset, .unset, .unset, .unset, .unset, .unset] [])) _
            refine XS.iloadN X96.here hx rfl (hb hby at_27) rfl ?_
            show Steps p.tables e below (T96.setTop (mkF m 28 #[.val (.int flags), .val (.int c1), .val (.int c2), .val (.ref sa96), .unset, .unset, .unset, .unset, .unset, .unset] [(.int flags)])) _
            refine XS.iconst X96.here hx rfl (hb hby at_28) ?_
            show Steps p.tables e below (T96.setTop (mkF m 29 #[.val (.int flags), .val (.int c1), .val (.int c2), .val (.ref sa96), .unset, .unset, .unset, .unset, .unset, .unset] [(.int (4 : Int32)), (.int flags)])) _
            refine XS.iand X96.here hx rfl (hb hby at_29) rfl ?_
            exact kt)
        by_cases hc30_102 : (flags &&& (4 : Int32)) = (0 : Int32)
        · -- yes at pc 30: 
          have pre103 : Goes p e below s₁ (entryFrame m #[(.int flags), (.int c1), (.int c2)] maxLocals) T96 (mkF m 38 #[.val (.int flags), .val (.int c1), .val (.int c2), .val (.ref sa96), .unset, .unset, .unset, .unset, .unset, .unset] [(.int (0 : Int32))]) := fun t kt => pre101 t (by
              show Steps p.tables e below (T96.setTop (mkF m 30 #[.val (.int flags), .val (.int c1), .val (.int c2), .val (.ref sa96), .unset, .unset, .unset, .unset, .unset, .unset] [(.int (flags &&& (4 : Int32)))])) _
              refine XS.ifYes X96.here hx rfl (pc0 := 30) (pc' := 37) rfl (hb hby at_30) rfl ((if0 _ _).trans (teq hc30_102).1) (by decide) (by decide) ?_
              show Steps p.tables e below (T96.setTop (mkF m 37 #[.val (.int flags), .val (.int c1), .val (.int c2), .val (.ref sa96), .unset, .unset, .unset, .unset, .unset, .unset] [])) _
              refine XS.iconst X96.here hx rfl (hb hby at_37) ?_
              exact kt)
          exact ⟨(0 : Int32), (Or.inl rfl), pre103⟩
        · -- no at pc 30: 
          have pre104 : Goes p e below s₁ (entryFrame m #[(.int flags), (.int c1), (.int c2)] maxLocals) T96 (mkF m 38 #[.val (.int flags), .val (.int c1), .val (.int c2), .val (.ref sa96), .unset, .unset, .unset, .unset, .unset, .unset] [(.int (1 : Int32))]) := fun t kt => pre101 t (by
              show Steps p.tables e below (T96.setTop (mkF m 30 #[.val (.int flags), .val (.int c1), .val (.int c2), .val (.ref sa96), .unset, .unset, .unset, .unset, .unset, .unset] [(.int (flags &&& (4 : Int32)))])) _
              refine XS.ifNo X96.here hx rfl (hb hby at_30) rfl ((if0 _ _).trans (feq hc30_102).1) ?_
              show Steps p.tables e below (T96.setTop (mkF m 33 #[.val (.int flags), .val (.int c1), .val (.int c2), .val (.ref sa96), .unset, .unset, .unset, .unset, .unset, .unset] [])) _
              refine XS.iconst X96.here hx rfl (hb hby at_33) ?_
              show Steps p.tables e below (T96.setTop (mkF m 34 #[.val (.int flags), .val (.int c1), .val (.int c2), .val (.ref sa96), .unset, .unset, .unset, .unset, .unset, .unset] [(.int (1 : Int32))])) _
              refine XS.goto X96.here hx rfl (pc0 := 34) (pc' := 38) rfl (hb hby at_34) (by decide) (by decide) ?_
              exact kt)
          exact ⟨(1 : Int32), (Or.inr rfl), pre104⟩
      obtain ⟨g4, hg4, pre106⟩ : ∃ (g4 : Int32), (g4 = (0 : Int32) ∨ g4 = (1 : Int32)) ∧ Goes p e below s₁ (entryFrame m #[(.int flags), (.int c1), (.int c2)] maxLocals) T96 (mkF m 50 #[.val (.int flags), .val (.int c1), .val (.int c2), .val (.ref sa96), .unset, .unset, .unset, .unset, .unset, .unset] [(.int g4), (.int g3)]) := by
        have pre107 : Goes p e below s₁ (entryFrame m #[(.int flags), (.int c1), (.int c2)] maxLocals) T96 (mkF m 42 #[.val (.int flags), .val (.int c1), .val (.int c2), .val (.ref sa96), .unset, .unset, .unset, .unset, .unset, .unset] [(.int (flags &&& (8 : Int32))), (.int g3)]) := fun t kt => pre100 t (by
            show Steps p.tables e below (T96.setTop (mkF m 38 #[.val (.int flags), .val (.int c1), .val (.int c2), .val (.ref sa96), .unset, .unset, .unset, .unset, .unset, .unset] [(.int g3)])) _
            refine XS.iloadN X96.here hx rfl (hb hby at_38) rfl ?_
            show Steps p.tables e below (T96.setTop (mkF m 39 #[.val (.int flags), .val (.int c1), .val (.int c2), .val (.ref sa96), .unset, .unset, .unset, .unset, .unset, .unset] [(.int flags), (.int g3)])) _
            refine XS.bipush X96.here hx rfl (hb hby at_39) ?_
            show Steps p.tables e below (T96.setTop (mkF m 41 #[.val (.int flags), .val (.int c1), .val (.int c2), .val (.ref sa96), .unset, .unset, .unset, .unset, .unset, .unset] [(.int (8 : Int32)), (.int flags), (.int g3)])) _
            refine XS.iand X96.here hx rfl (hb hby at_41) rfl ?_
            exact kt)
        by_cases hc42_108 : (flags &&& (8 : Int32)) = (0 : Int32)
        · -- yes at pc 42: 
          have pre109 : Goes p e below s₁ (entryFrame m #[(.int flags), (.int c1), (.int c2)] maxLocals) T96 (mkF m 50 #[.val (.int flags), .val (.int c1), .val (.int c2), .val (.ref sa96), .unset, .unset, .unset, .unset, .unset, .unset] [(.int (0 : Int32)), (.int g3)]) := fun t kt => pre107 t (by
              show Steps p.tables e below (T96.setTop (mkF m 42 #[.val (.int flags), .val (.int c1), .val (.int c2), .val (.ref sa96), .unset, .unset, .unset, .unset, .unset, .unset] [(.int (flags &&& (8 : Int32))), (.int g3)])) _
              refine XS.ifYes X96.here hx rfl (pc0 := 42) (pc' := 49) rfl (hb hby at_42) rfl ((if0 _ _).trans (teq hc42_108).1) (by decide) (by decide) ?_
              show Steps p.tables e below (T96.setTop (mkF m 49 #[.val (.int flags), .val (.int c1), .val (.int c2), .val (.ref sa96), .unset, .unset, .unset, .unset, .unset, .unset] [(.int g3)])) _
              refine XS.iconst X96.here hx rfl (hb hby at_49) ?_
              exact kt)
          exact ⟨(0 : Int32), (Or.inl rfl), pre109⟩
        · -- no at pc 42: 
          have pre110 : Goes p e below s₁ (entryFrame m #[(.int flags), (.int c1), (.int c2)] maxLocals) T96 (mkF m 50 #[.val (.int flags), .val (.int c1), .val (.int c2), .val (.ref sa96), .unset, .unset, .unset, .unset, .unset, .unset] [(.int (1 : Int32)), (.int g3)]) := fun t kt => pre107 t (by
              show Steps p.tables e below (T96.setTop (mkF m 42 #[.val (.int flags), .val (.int c1), .val (.int c2), .val (.ref sa96), .unset, .unset, .unset, .unset, .unset, .unset] [(.int (flags &&& (8 : Int32))), (.int g3)])) _
              refine XS.ifNo X96.here hx rfl (hb hby at_42) rfl ((if0 _ _).trans (feq hc42_108).1) ?_
              show Steps p.tables e below (T96.setTop (mkF m 45 #[.val (.int flags), .val (.int c1), .val (.int c2), .val (.ref sa96), .unset, .unset, .unset, .unset, .unset, .unset] [(.int g3)])) _
              refine XS.iconst X96.here hx rfl (hb hby at_45) ?_
              show Steps p.tables e below (T96.setTop (mkF m 46 #[.val (.int flags), .val (.int c1), .val (.int c2), .val (.ref sa96), .unset, .unset, .unset, .unset, .unset, .unset] [(.int (1 : Int32)), (.int g3)])) _
              refine XS.goto X96.here hx rfl (pc0 := 46) (pc' := 50) rfl (hb hby at_46) (by decide) (by decide) ?_
              exact kt)
          exact ⟨(1 : Int32), (Or.inr rfl), pre110⟩
      rcases hg3 with rfl | rfl
      · rcases hg4 with rfl | rfl
        · -- S
          have pre111 : Goes p e below s₁ (entryFrame m #[(.int flags), (.int c1), (.int c2)] maxLocals) T96 (mkF m 51 #[.val (.int flags), .val (.int c1), .val (.int c2), .val (.ref sa96), .unset, .unset, .unset, .unset, .unset, .unset] [(.int c2), (.int (0 : Int32)), (.int (0 : Int32))]) := fun t kt => pre106 t (by
              show Steps p.tables e below (T96.setTop (mkF m 50 #[.val (.int flags), .val (.int c1), .val (.int c2), .val (.ref sa96), .unset, .unset, .unset, .unset, .unset, .unset] [(.int (0 : Int32)), (.int (0 : Int32))])) _
              refine XS.iloadN X96.here hx rfl (hb hby at_50) rfl ?_
              exact kt)
          obtain ⟨_, _, ⟨T112, L112, k112, n112⟩, -, X112, ⟨Lc112, hQ112, l112, y112, z112⟩, st112⟩ := Jvm.LawKit.callS X96 hx (y := (⟨"com/example/tallygate/tallygate/KeyTypeCanKeyPinLaw", "make", "(ZZI)Ljava/lang/String;"⟩ : MethodName)) hown (mvT hZ (hw _ (List.mem_of_getElem? (i := 0) rfl))) (mvT hZ (hw _ (List.mem_of_getElem? (i := 1) rfl))) (mvT hZ (hw _ (List.mem_of_getElem? (i := 2) rfl))) (mvT hZ (hw _ (List.mem_of_getElem? (i := 3) rfl))) (by decide) (backOf (W := 0) (own_makeS l Z a0 hw [] c2 cs T96.heap n0 (Nat.le_trans Z0 K96q.1) (S_CS.ext (O0.keep K96q all0).2) hcs) hZ (hw _ (List.mem_of_getElem? (i := 3) rfl)) (hw _ (List.mem_of_getElem? (i := 2) rfl)) (by decide) (by decide)) (g := (mkF m 51 #[.val (.int flags), .val (.int c1), .val (.int c2), .val (.ref sa96), .unset, .unset, .unset, .unset, .unset, .unset] [(.int c2), (.int (0 : Int32)), (.int (0 : Int32))])) rfl (by rw [hml]; rfl) (argsL := [(.int (0 : Int32)), (.int (0 : Int32)), (.int c2)]) (rest := []) (lenOf own_pd6 rfl) rfl (by show 2 * 0 + _ ≤ _; exact Nat.le_of_eq rfl) (hb hby at_51) (fun _ _ => ⟨rfl, rfl, (by decide : 2 + 3 ≤ _), (by decide : 4 + 8 ≤ _)⟩)
          dsimp only [Pt.U, Pt.locs, Pt.cells, Pt.slots] at X112 l112 y112 z112 st112 hQ112
          subst l112 y112 z112
          obtain ⟨sa112, rfl, N112q, K112q⟩ := hQ112
          have N112 := Fr.app N96 N112q
          have KC112 : Keep h0 T112.heap [] := KC96.trans K112q all0
          have pre113 : Goes p e below s₁ (entryFrame m #[(.int flags), (.int c1), (.int c2)] maxLocals) T112 (mkF m 54 #[.val (.int flags), .val (.int c1), .val (.int c2), .val (.ref sa96), .unset, .unset, .unset, .unset, .unset, .unset] [(.ref sa112)]) := fun t kt => pre111 t (st112 t kt)
          have pre114 : Goes p e below s₁ (entryFrame m #[(.int flags), (.int c1), (.int c2)] maxLocals) T112 (mkF m 79 #[.val (.int flags), .val (.int c1), .val (.int c2), .val (.ref sa96), .val (.ref sa112), .val (.int (1 : Int32)), .val (.int (1 : Int32)), .unset, .unset, .unset] []) := fun t kt => pre113 t (by
              show Steps p.tables e below (T112.setTop (mkF m 54 #[.val (.int flags), .val (.int c1), .val (.int c2), .val (.ref sa96), .unset, .unset, .unset, .unset, .unset, .unset] [(.ref sa112)])) _
              refine XS.astore X112.here hx rfl (hb hby at_54) rfl rfl (l' := #[.val (.int flags), .val (.int c1), .val (.int c2), .val (.ref sa96), .val (.ref sa112), .unset, .unset, .unset, .unset, .unset]) rfl ?_
              show Steps p.tables e below (T112.setTop (mkF m 56 #[.val (.int flags), .val (.int c1), .val (.int c2), .val (.ref sa96), .val (.ref sa112), .unset, .unset, .unset, .unset, .unset] [])) _
              refine XS.aloadN X112.here hx rfl (hb hby at_56) rfl rfl ?_
              show Steps p.tables e below (T112.setTop (mkF m 57 #[.val (.int flags), .val (.int c1), .val (.int c2), .val (.ref sa96), .val (.ref sa112), .unset, .unset, .unset, .unset, .unset] [(.ref sa96)])) _
              refine XS.ifnullNo X112.here hx rfl (hb hby at_57) rfl ?_
              show Steps p.tables e below (T112.setTop (mkF m 60 #[.val (.int flags), .val (.int c1), .val (.int c2), .val (.ref sa96), .val (.ref sa112), .unset, .unset, .unset, .unset, .unset] [])) _
              refine XS.iconst X112.here hx rfl (hb hby at_60) ?_
              show Steps p.tables e below (T112.setTop (mkF m 61 #[.val (.int flags), .val (.int c1), .val (.int c2), .val (.ref sa96), .val (.ref sa112), .unset, .unset, .unset, .unset, .unset] [(.int (1 : Int32))])) _
              refine XS.goto X112.here hx rfl (pc0 := 61) (pc' := 65) rfl (hb hby at_61) (by decide) (by decide) ?_
              show Steps p.tables e below (T112.setTop (mkF m 65 #[.val (.int flags), .val (.int c1), .val (.int c2), .val (.ref sa96), .val (.ref sa112), .unset, .unset, .unset, .unset, .unset] [(.int (1 : Int32))])) _
              refine XS.istore X112.here hx rfl (hb hby at_65) rfl (l' := #[.val (.int flags), .val (.int c1), .val (.int c2), .val (.ref sa96), .val (.ref sa112), .val (.int (1 : Int32)), .unset, .unset, .unset, .unset]) rfl ?_
              show Steps p.tables e below (T112.setTop (mkF m 67 #[.val (.int flags), .val (.int c1), .val (.int c2), .val (.ref sa96), .val (.ref sa112), .val (.int (1 : Int32)), .unset, .unset, .unset, .unset] [])) _
              refine XS.aload X112.here hx rfl (hb hby at_67) rfl rfl ?_
              show Steps p.tables e below (T112.setTop (mkF m 69 #[.val (.int flags), .val (.int c1), .val (.int c2), .val (.ref sa96), .val (.ref sa112), .val (.int (1 : Int32)), .unset, .unset, .unset, .unset] [(.ref sa112)])) _
              refine XS.ifnullNo X112.here hx rfl (hb hby at_69) rfl ?_
              show Steps p.tables e below (T112.setTop (mkF m 72 #[.val (.int flags), .val (.int c1), .val (.int c2), .val (.ref sa96), .val (.ref sa112), .val (.int (1 : Int32)), .unset, .unset, .unset, .unset] [])) _
              refine XS.iconst X112.here hx rfl (hb hby at_72) ?_
              show Steps p.tables e below (T112.setTop (mkF m 73 #[.val (.int flags), .val (.int c1), .val (.int c2), .val (.ref sa96), .val (.ref sa112), .val (.int (1 : Int32)), .unset, .unset, .unset, .unset] [(.int (1 : Int32))])) _
              refine XS.goto X112.here hx rfl (pc0 := 73) (pc' := 77) rfl (hb hby at_73) (by decide) (by decide) ?_
              show Steps p.tables e below (T112.setTop (mkF m 77 #[.val (.int flags), .val (.int c1), .val (.int c2), .val (.ref sa96), .val (.ref sa112), .val (.int (1 : Int32)), .unset, .unset, .unset, .unset] [(.int (1 : Int32))])) _
              refine XS.istore X112.here hx rfl (hb hby at_77) rfl (l' := #[.val (.int flags), .val (.int c1), .val (.int c2), .val (.ref sa96), .val (.ref sa112), .val (.int (1 : Int32)), .val (.int (1 : Int32)), .unset, .unset, .unset]) rfl ?_
              exact kt)
          obtain ⟨T115, X115, e115, st115⟩ := getS2 X112 hx hZ hown (host := "") (Or.inl (hw _ (List.mem_of_getElem? (i := 34) rfl))) Via.refl rfl (S_ACCOUNT.ext ((O0.keep K96q all0).keep K112q all0).2) (g := (mkF m 79 #[.val (.int flags), .val (.int c1), .val (.int c2), .val (.ref sa96), .val (.ref sa112), .val (.int (1 : Int32)), .val (.int (1 : Int32)), .unset, .unset, .unset] [])) rfl (hb hby at_79)
          have pre116 : Goes p e below s₁ (entryFrame m #[(.int flags), (.int c1), (.int c2)] maxLocals) T115 (mkF m 82 #[.val (.int flags), .val (.int c1), .val (.int c2), .val (.ref sa96), .val (.ref sa112), .val (.int (1 : Int32)), .val (.int (1 : Int32)), .unset, .unset, .unset] [(.ref aACCOUNT)]) := fun t kt => pre114 t (st115 t kt)
          have pre117 : Goes p e below s₁ (entryFrame m #[(.int flags), (.int c1), (.int c2)] maxLocals) T115 (mkF m 85 #[.val (.int flags), .val (.int c1), .val (.int c2), .val (.ref sa96), .val (.ref sa112), .val (.int (1 : Int32)), .val (.int (1 : Int32)), .unset, .unset, .unset] [(.ref sa112), (.ref sa96), (.ref aACCOUNT)]) := fun t kt => pre116 t (by
              show Steps p.tables e below (T115.setTop (mkF m 82 #[.val (.int flags), .val (.int c1), .val (.int c2), .val (.ref sa96), .val (.ref sa112), .val (.int (1 : Int32)), .val (.int (1 : Int32)), .unset, .unset, .unset] [(.ref aACCOUNT)])) _
              refine XS.aloadN X115.here hx rfl (hb hby at_82) rfl rfl ?_
              show Steps p.tables e below (T115.setTop (mkF m 83 #[.val (.int flags), .val (.int c1), .val (.int c2), .val (.ref sa96), .val (.ref sa112), .val (.int (1 : Int32)), .val (.int (1 : Int32)), .unset, .unset, .unset] [(.ref sa96), (.ref aACCOUNT)])) _
              refine XS.aload X115.here hx rfl (hb hby at_83) rfl rfl ?_
              exact kt)
          obtain ⟨cq118, kq118, q118a, q118b, q118c⟩ := isOf hZ e115 ((E_ACCOUNT.keep K96q).keep K112q)
          obtain ⟨_, _, ⟨T118, L118, k118, n118⟩, -, X118, ⟨Lc118, hQ118, l118, y118, z118⟩, st118⟩ := X115.virtualBack hx (y := (⟨"com/example/tallygate/tallygate/KeyType", "canKey", "(Ljava/lang/String;Ljava/lang/String;)Z"⟩ : MethodName)) (z := (⟨"com/example/tallygate/tallygate/KeyType", "canKey", "(Ljava/lang/String;Ljava/lang/String;)Z"⟩ : MethodName)) hown (mvT hZ (hw _ (List.mem_of_getElem? (i := 37) rfl))) (mvT hZ (hw _ (List.mem_of_getElem? (i := 38) rfl))) (notFace_of_selects (args := #[]) (mvT hZ (hw _ (List.mem_of_getElem? (i := 40) rfl)))) (mvT hZ (hw _ (List.mem_of_getElem? (i := 40) rfl))) (mvT hZ (hw _ (List.mem_of_getElem? (i := 39) rfl))) (by decide) (backOf (W := 0) (own_canKey011 l Z a0 hw [] aACCOUNT sa96 sa112 T112.heap n0 (Nat.le_trans (Nat.le_trans Z0 K96q.1) K112q.1) ((E_ACCOUNT.keep K96q).keep K112q) ((O_ACCOUNT.keep K96q nin0).keep K112q nin0)) hZ (hw _ (List.mem_of_getElem? (i := 41) rfl)) (hw _ (List.mem_of_getElem? (i := 35) rfl)) (by decide) (by decide)) q118a q118c (g := (mkF m 85 #[.val (.int flags), .val (.int c1), .val (.int c2), .val (.ref sa96), .val (.ref sa112), .val (.int (1 : Int32)), .val (.int (1 : Int32)), .unset, .unset, .unset] [(.ref sa112), (.ref sa96), (.ref aACCOUNT)])) rfl (by rw [hml]; rfl) (Steps.refl _) (argsL := [(.ref sa96), (.ref sa112)]) (rest := []) (lenOf own_pd7 rfl) rfl (by show 2 * 0 + _ ≤ _; exact Nat.le_of_eq rfl) (hb hby at_85) (fun _ _ => ⟨rfl, e115, (by decide : 5 + 0 ≤ _), (by decide : 12 + 0 ≤ _)⟩)
          dsimp only [Pt.U, Pt.locs, Pt.cells, Pt.slots] at X118 l118 y118 z118 st118 hQ118
          subst l118 y118 z118
          obtain ⟨rfl, N118q, e118⟩ := hQ118
          have N118 := Fr.app N112 N118q
          have pre119 : Goes p e below s₁ (entryFrame m #[(.int flags), (.int c1), (.int c2)] maxLocals) T118 (mkF m 88 #[.val (.int flags), .val (.int c1), .val (.int c2), .val (.ref sa96), .val (.ref sa112), .val (.int (1 : Int32)), .val (.int (1 : Int32)), .unset, .unset, .unset] [(.int (1 : Int32))]) := fun t kt => pre117 t (st118.trans kt)
          have pre120 : Goes p e below s₁ (entryFrame m #[(.int flags), (.int c1), (.int c2)] maxLocals) T118 (mkF m 90 #[.val (.int flags), .val (.int c1), .val (.int c2), .val (.ref sa96), .val (.ref sa112), .val (.int (1 : Int32)), .val (.int (1 : Int32)), .val (.int (1 : Int32)), .unset, .unset] []) := fun t kt => pre119 t (by
              show Steps p.tables e below (T118.setTop (mkF m 88 #[.val (.int flags), .val (.int c1), .val (.int c2), .val (.ref sa96), .val (.ref sa112), .val (.int (1 : Int32)), .val (.int (1 : Int32)), .unset, .unset, .unset] [(.int (1 : Int32))])) _
              refine XS.istore X118.here hx rfl (hb hby at_88) rfl (l' := #[.val (.int flags), .val (.int c1), .val (.int c2), .val (.ref sa96), .val (.ref sa112), .val (.int (1 : Int32)), .val (.int (1 : Int32)), .val (.int (1 : Int32)), .unset, .unset]) rfl ?_
              exact kt)
          obtain ⟨T121, X121, e121, st121⟩ := getS2 X118 hx hZ hown (host := "") (Or.inl (hw _ (List.mem_of_getElem? (i := 51) rfl))) Via.refl e118 (S_ADDRESS.ext ((O0.keep K96q all0).keep K112q all0).2) (g := (mkF m 90 #[.val (.int flags), .val (.int c1), .val (.int c2), .val (.ref sa96), .val (.ref sa112), .val (.int (1 : Int32)), .val (.int (1 : Int32)), .val (.int (1 : Int32)), .unset, .unset] [])) rfl (hb hby at_90)
          have pre122 : Goes p e below s₁ (entryFrame m #[(.int flags), (.int c1), (.int c2)] maxLocals) T121 (mkF m 93 #[.val (.int flags), .val (.int c1), .val (.int c2), .val (.ref sa96), .val (.ref sa112), .val (.int (1 : Int32)), .val (.int (1 : Int32)), .val (.int (1 : Int32)), .unset, .unset] [(.ref aADDRESS)]) := fun t kt => pre120 t (st121 t kt)
          have pre123 : Goes p e below s₁ (entryFrame m #[(.int flags), (.int c1), (.int c2)] maxLocals) T121 (mkF m 96 #[.val (.int flags), .val (.int c1), .val (.int c2), .val (.ref sa96), .val (.ref sa112), .val (.int (1 : Int32)), .val (.int (1 : Int32)), .val (.int (1 : Int32)), .unset, .unset] [(.ref sa112), (.ref sa96), (.ref aADDRESS)]) := fun t kt => pre122 t (by
              show Steps p.tables e below (T121.setTop (mkF m 93 #[.val (.int flags), .val (.int c1), .val (.int c2), .val (.ref sa96), .val (.ref sa112), .val (.int (1 : Int32)), .val (.int (1 : Int32)), .val (.int (1 : Int32)), .unset, .unset] [(.ref aADDRESS)])) _
              refine XS.aloadN X121.here hx rfl (hb hby at_93) rfl rfl ?_
              show Steps p.tables e below (T121.setTop (mkF m 94 #[.val (.int flags), .val (.int c1), .val (.int c2), .val (.ref sa96), .val (.ref sa112), .val (.int (1 : Int32)), .val (.int (1 : Int32)), .val (.int (1 : Int32)), .unset, .unset] [(.ref sa96), (.ref aADDRESS)])) _
              refine XS.aload X121.here hx rfl (hb hby at_94) rfl rfl ?_
              exact kt)
          obtain ⟨cq124, kq124, q124a, q124b, q124c⟩ := isOf hZ e121 ((E_ADDRESS.keep K96q).keep K112q)
          obtain ⟨_, _, ⟨T124, L124, k124, n124⟩, -, X124, ⟨Lc124, hQ124, l124, y124, z124⟩, st124⟩ := X121.virtualBack hx (y := (⟨"com/example/tallygate/tallygate/KeyType", "canKey", "(Ljava/lang/String;Ljava/lang/String;)Z"⟩ : MethodName)) (z := (⟨"com/example/tallygate/tallygate/KeyType", "canKey", "(Ljava/lang/String;Ljava/lang/String;)Z"⟩ : MethodName)) hown (mvT hZ (hw _ (List.mem_of_getElem? (i := 37) rfl))) (mvT hZ (hw _ (List.mem_of_getElem? (i := 38) rfl))) (notFace_of_selects (args := #[]) (mvT hZ (hw _ (List.mem_of_getElem? (i := 40) rfl)))) (mvT hZ (hw _ (List.mem_of_getElem? (i := 40) rfl))) (mvT hZ (hw _ (List.mem_of_getElem? (i := 39) rfl))) (by decide) (backOf (W := 0) (own_canKey111 l Z a0 hw [] aADDRESS sa96 sa112 T112.heap n0 (Nat.le_trans (Nat.le_trans Z0 K96q.1) K112q.1) ((E_ADDRESS.keep K96q).keep K112q) ((O_ADDRESS.keep K96q nin0).keep K112q nin0)) hZ (hw _ (List.mem_of_getElem? (i := 41) rfl)) (hw _ (List.mem_of_getElem? (i := 35) rfl)) (by decide) (by decide)) q124a q124c (g := (mkF m 96 #[.val (.int flags), .val (.int c1), .val (.int c2), .val (.ref sa96), .val (.ref sa112), .val (.int (1 : Int32)), .val (.int (1 : Int32)), .val (.int (1 : Int32)), .unset, .unset] [(.ref sa112), (.ref sa96), (.ref aADDRESS)])) rfl (by rw [hml]; rfl) (Steps.refl _) (argsL := [(.ref sa96), (.ref sa112)]) (rest := []) (lenOf own_pd7 rfl) rfl (by show 2 * 0 + _ ≤ _; exact Nat.le_of_eq rfl) (hb hby at_96) (fun _ _ => ⟨rfl, e121, (by decide : 5 + 0 ≤ _), (by decide : 12 + 0 ≤ _)⟩)
          dsimp only [Pt.U, Pt.locs, Pt.cells, Pt.slots] at X124 l124 y124 z124 st124 hQ124
          subst l124 y124 z124
          obtain ⟨rfl, N124q, e124⟩ := hQ124
          have N124 := Fr.app N118 N124q
          have pre125 : Goes p e below s₁ (entryFrame m #[(.int flags), (.int c1), (.int c2)] maxLocals) T124 (mkF m 99 #[.val (.int flags), .val (.int c1), .val (.int c2), .val (.ref sa96), .val (.ref sa112), .val (.int (1 : Int32)), .val (.int (1 : Int32)), .val (.int (1 : Int32)), .unset, .unset] [(.int (1 : Int32))]) := fun t kt => pre123 t (st124.trans kt)
          have pre126 : Goes p e below s₁ (entryFrame m #[(.int flags), (.int c1), (.int c2)] maxLocals) T124 (mkF m 101 #[.val (.int flags), .val (.int c1), .val (.int c2), .val (.ref sa96), .val (.ref sa112), .val (.int (1 : Int32)), .val (.int (1 : Int32)), .val (.int (1 : Int32)), .val (.int (1 : Int32)), .unset] []) := fun t kt => pre125 t (by
              show Steps p.tables e below (T124.setTop (mkF m 99 #[.val (.int flags), .val (.int c1), .val (.int c2), .val (.ref sa96), .val (.ref sa112), .val (.int (1 : Int32)), .val (.int (1 : Int32)), .val (.int (1 : Int32)), .unset, .unset] [(.int (1 : Int32))])) _
              refine XS.istore X124.here hx rfl (hb hby at_99) rfl (l' := #[.val (.int flags), .val (.int c1), .val (.int c2), .val (.ref sa96), .val (.ref sa112), .val (.int (1 : Int32)), .val (.int (1 : Int32)), .val (.int (1 : Int32)), .val (.int (1 : Int32)), .unset]) rfl ?_
              exact kt)
          obtain ⟨T127, X127, e127, st127⟩ := getS2 X124 hx hZ hown (host := "") (Or.inl (hw _ (List.mem_of_getElem? (i := 53) rfl))) Via.refl e124 (S_PAIR.ext ((O0.keep K96q all0).keep K112q all0).2) (g := (mkF m 101 #[.val (.int flags), .val (.int c1), .val (.int c2), .val (.ref sa96), .val (.ref sa112), .val (.int (1 : Int32)), .val (.int (1 : Int32)), .val (.int (1 : Int32)), .val (.int (1 : Int32)), .unset] [])) rfl (hb hby at_101)
          have pre128 : Goes p e below s₁ (entryFrame m #[(.int flags), (.int c1), (.int c2)] maxLocals) T127 (mkF m 104 #[.val (.int flags), .val (.int c1), .val (.int c2), .val (.ref sa96), .val (.ref sa112), .val (.int (1 : Int32)), .val (.int (1 : Int32)), .val (.int (1 : Int32)), .val (.int (1 : Int32)), .unset] [(.ref aPAIR)]) := fun t kt => pre126 t (st127 t kt)
          have pre129 : Goes p e below s₁ (entryFrame m #[(.int flags), (.int c1), (.int c2)] maxLocals) T127 (mkF m 107 #[.val (.int flags), .val (.int c1), .val (.int c2), .val (.ref sa96), .val (.ref sa112), .val (.int (1 : Int32)), .val (.int (1 : Int32)), .val (.int (1 : Int32)), .val (.int (1 : Int32)), .unset] [(.ref sa112), (.ref sa96), (.ref aPAIR)]) := fun t kt => pre128 t (by
              show Steps p.tables e below (T127.setTop (mkF m 104 #[.val (.int flags), .val (.int c1), .val (.int c2), .val (.ref sa96), .val (.ref sa112), .val (.int (1 : Int32)), .val (.int (1 : Int32)), .val (.int (1 : Int32)), .val (.int (1 : Int32)), .unset] [(.ref aPAIR)])) _
              refine XS.aloadN X127.here hx rfl (hb hby at_104) rfl rfl ?_
              show Steps p.tables e below (T127.setTop (mkF m 105 #[.val (.int flags), .val (.int c1), .val (.int c2), .val (.ref sa96), .val (.ref sa112), .val (.int (1 : Int32)), .val (.int (1 : Int32)), .val (.int (1 : Int32)), .val (.int (1 : Int32)), .unset] [(.ref sa96), (.ref aPAIR)])) _
              refine XS.aload X127.here hx rfl (hb hby at_105) rfl rfl ?_
              exact kt)
          obtain ⟨cq130, kq130, q130a, q130b, q130c⟩ := isOf hZ e127 ((E_PAIR.keep K96q).keep K112q)
          obtain ⟨_, _, ⟨T130, L130, k130, n130⟩, -, X130, ⟨Lc130, hQ130, l130, y130, z130⟩, st130⟩ := X127.virtualBack hx (y := (⟨"com/example/tallygate/tallygate/KeyType", "canKey", "(Ljava/lang/String;Ljava/lang/String;)Z"⟩ : MethodName)) (z := (⟨"com/example/tallygate/tallygate/KeyType", "canKey", "(Ljava/lang/String;Ljava/lang/String;)Z"⟩ : MethodName)) hown (mvT hZ (hw _ (List.mem_of_getElem? (i := 37) rfl))) (mvT hZ (hw _ (List.mem_of_getElem? (i := 38) rfl))) (notFace_of_selects (args := #[]) (mvT hZ (hw _ (List.mem_of_getElem? (i := 40) rfl)))) (mvT hZ (hw _ (List.mem_of_getElem? (i := 40) rfl))) (mvT hZ (hw _ (List.mem_of_getElem? (i := 39) rfl))) (by decide) (backOf (W := 0) (own_canKey211 l Z a0 hw [] aPAIR sa96 sa112 T112.heap n0 (Nat.le_trans (Nat.le_trans Z0 K96q.1) K112q.1) ((E_PAIR.keep K96q).keep K112q) ((O_PAIR.keep K96q nin0).keep K112q nin0)) hZ (hw _ (List.mem_of_getElem? (i := 41) rfl)) (hw _ (List.mem_of_getElem? (i := 35) rfl)) (by decide) (by decide)) q130a q130c (g := (mkF m 107 #[.val (.int flags), .val (.int c1), .val (.int c2), .val (.ref sa96), .val (.ref sa112), .val (.int (1 : Int32)), .val (.int (1 : Int32)), .val (.int (1 : Int32)), .val (.int (1 : Int32)), .unset] [(.ref sa112), (.ref sa96), (.ref aPAIR)])) rfl (by rw [hml]; rfl) (Steps.refl _) (argsL := [(.ref sa96), (.ref sa112)]) (rest := []) (lenOf own_pd7 rfl) rfl (by show 2 * 0 + _ ≤ _; exact Nat.le_of_eq rfl) (hb hby at_107) (fun _ _ => ⟨rfl, e127, (by decide : 5 + 0 ≤ _), (by decide : 12 + 0 ≤ _)⟩)
          dsimp only [Pt.U, Pt.locs, Pt.cells, Pt.slots] at X130 l130 y130 z130 st130 hQ130
          subst l130 y130 z130
          obtain ⟨rfl, N130q, e130⟩ := hQ130
          have N130 := Fr.app N124 N130q
          have pre131 : Goes p e below s₁ (entryFrame m #[(.int flags), (.int c1), (.int c2)] maxLocals) T130 (mkF m 110 #[.val (.int flags), .val (.int c1), .val (.int c2), .val (.ref sa96), .val (.ref sa112), .val (.int (1 : Int32)), .val (.int (1 : Int32)), .val (.int (1 : Int32)), .val (.int (1 : Int32)), .unset] [(.int (1 : Int32))]) := fun t kt => pre129 t (st130.trans kt)
          have pre132 : Goes p e below s₁ (entryFrame m #[(.int flags), (.int c1), (.int c2)] maxLocals) T130 (mkF m 151 #[.val (.int flags), .val (.int c1), .val (.int c2), .val (.ref sa96), .val (.ref sa112), .val (.int (1 : Int32)), .val (.int (1 : Int32)), .val (.int (1 : Int32)), .val (.int (1 : Int32)), .val (.int (1 : Int32))] [(.int (1 : Int32))]) := fun t kt => pre131 t (by
              show Steps p.tables e below (T130.setTop (mkF m 110 #[.val (.int flags), .val (.int c1), .val (.int c2), .val (.ref sa96), .val (.ref sa112), .val (.int (1 : Int32)), .val (.int (1 : Int32)), .val (.int (1 : Int32)), .val (.int (1 : Int32)), .unset] [(.int (1 : Int32))])) _
              refine XS.istore X130.here hx rfl (hb hby at_110) rfl (l' := #[.val (.int flags), .val (.int c1), .val (.int c2), .val (.ref sa96), .val (.ref sa112), .val (.int (1 : Int32)), .val (.int (1 : Int32)), .val (.int (1 : Int32)), .val (.int (1 : Int32)), .val (.int (1 : Int32))]) rfl ?_
              show Steps p.tables e below (T130.setTop (mkF m 112 #[.val (.int flags), .val (.int c1), .val (.int c2), .val (.ref sa96), .val (.ref sa112), .val (.int (1 : Int32)), .val (.int (1 : Int32)), .val (.int (1 : Int32)), .val (.int (1 : Int32)), .val (.int (1 : Int32))] [])) _
              refine XS.iload X130.here hx rfl (hb hby at_112) rfl ?_
              show Steps p.tables e below (T130.setTop (mkF m 114 #[.val (.int flags), .val (.int c1), .val (.int c2), .val (.ref sa96), .val (.ref sa112), .val (.int (1 : Int32)), .val (.int (1 : Int32)), .val (.int (1 : Int32)), .val (.int (1 : Int32)), .val (.int (1 : Int32))] [(.int (1 : Int32))])) _
              refine XS.iload X130.here hx rfl (hb hby at_114) rfl ?_
              show Steps p.tables e below (T130.setTop (mkF m 116 #[.val (.int flags), .val (.int c1), .val (.int c2), .val (.ref sa96), .val (.ref sa112), .val (.int (1 : Int32)), .val (.int (1 : Int32)), .val (.int (1 : Int32)), .val (.int (1 : Int32)), .val (.int (1 : Int32))] [(.int (1 : Int32)), (.int (1 : Int32))])) _
              refine XS.icmpNo X130.here hx rfl (hb hby at_116) rfl (teq (by decide : (1 : Int32) = (1 : Int32))).2 ?_
              show Steps p.tables e below (T130.setTop (mkF m 119 #[.val (.int flags), .val (.int c1), .val (.int c2), .val (.ref sa96), .val (.ref sa112), .val (.int (1 : Int32)), .val (.int (1 : Int32)), .val (.int (1 : Int32)), .val (.int (1 : Int32)), .val (.int (1 : Int32))] [])) _
              refine XS.iload X130.here hx rfl (hb hby at_119) rfl ?_
              show Steps p.tables e below (T130.setTop (mkF m 121 #[.val (.int flags), .val (.int c1), .val (.int c2), .val (.ref sa96), .val (.ref sa112), .val (.int (1 : Int32)), .val (.int (1 : Int32)), .val (.int (1 : Int32)), .val (.int (1 : Int32)), .val (.int (1 : Int32))] [(.int (1 : Int32))])) _
              refine XS.iload X130.here hx rfl (hb hby at_121) rfl ?_
              show Steps p.tables e below (T130.setTop (mkF m 123 #[.val (.int flags), .val (.int c1), .val (.int c2), .val (.ref sa96), .val (.ref sa112), .val (.int (1 : Int32)), .val (.int (1 : Int32)), .val (.int (1 : Int32)), .val (.int (1 : Int32)), .val (.int (1 : Int32))] [(.int (1 : Int32)), (.int (1 : Int32))])) _
              refine XS.icmpNo X130.here hx rfl (hb hby at_123) rfl (teq (by decide : (1 : Int32) = (1 : Int32))).2 ?_
              show Steps p.tables e below (T130.setTop (mkF m 126 #[.val (.int flags), .val (.int c1), .val (.int c2), .val (.ref sa96), .val (.ref sa112), .val (.int (1 : Int32)), .val (.int (1 : Int32)), .val (.int (1 : Int32)), .val (.int (1 : Int32)), .val (.int (1 : Int32))] [])) _
              refine XS.iload X130.here hx rfl (hb hby at_126) rfl ?_
              show Steps p.tables e below (T130.setTop (mkF m 128 #[.val (.int flags), .val (.int c1), .val (.int c2), .val (.ref sa96), .val (.ref sa112), .val (.int (1 : Int32)), .val (.int (1 : Int32)), .val (.int (1 : Int32)), .val (.int (1 : Int32)), .val (.int (1 : Int32))] [(.int (1 : Int32))])) _
              refine XS.iload X130.here hx rfl (hb hby at_128) rfl ?_
              show Steps p.tables e below (T130.setTop (mkF m 130 #[.val (.int flags), .val (.int c1), .val (.int c2), .val (.ref sa96), .val (.ref sa112), .val (.int (1 : Int32)), .val (.int (1 : Int32)), .val (.int (1 : Int32)), .val (.int (1 : Int32)), .val (.int (1 : Int32))] [(.int (1 : Int32)), (.int (1 : Int32))])) _
              refine XS.ifNo X130.here hx rfl (hb hby at_130) rfl ((if0 _ _).trans (feq (by decide : ¬ ((1 : Int32) = (0 : Int32)))).1) ?_
              show Steps p.tables e below (T130.setTop (mkF m 133 #[.val (.int flags), .val (.int c1), .val (.int c2), .val (.ref sa96), .val (.ref sa112), .val (.int (1 : Int32)), .val (.int (1 : Int32)), .val (.int (1 : Int32)), .val (.int (1 : Int32)), .val (.int (1 : Int32))] [(.int (1 : Int32))])) _
              refine XS.iload X130.here hx rfl (hb hby at_133) rfl ?_
              show Steps p.tables e below (T130.setTop (mkF m 135 #[.val (.int flags), .val (.int c1), .val (.int c2), .val (.ref sa96), .val (.ref sa112), .val (.int (1 : Int32)), .val (.int (1 : Int32)), .val (.int (1 : Int32)), .val (.int (1 : Int32)), .val (.int (1 : Int32))] [(.int (1 : Int32)), (.int (1 : Int32))])) _
              refine XS.ifNo X130.here hx rfl (hb hby at_135) rfl ((if0 _ _).trans (feq (by decide : ¬ ((1 : Int32) = (0 : Int32)))).1) ?_
              show Steps p.tables e below (T130.setTop (mkF m 138 #[.val (.int flags), .val (.int c1), .val (.int c2), .val (.ref sa96), .val (.ref sa112), .val (.int (1 : Int32)), .val (.int (1 : Int32)), .val (.int (1 : Int32)), .val (.int (1 : Int32)), .val (.int (1 : Int32))] [(.int (1 : Int32))])) _
              refine XS.iconst X130.here hx rfl (hb hby at_138) ?_
              show Steps p.tables e below (T130.setTop (mkF m 139 #[.val (.int flags), .val (.int c1), .val (.int c2), .val (.ref sa96), .val (.ref sa112), .val (.int (1 : Int32)), .val (.int (1 : Int32)), .val (.int (1 : Int32)), .val (.int (1 : Int32)), .val (.int (1 : Int32))] [(.int (1 : Int32)), (.int (1 : Int32))])) _
              refine XS.goto X130.here hx rfl (pc0 := 139) (pc' := 143) rfl (hb hby at_139) (by decide) (by decide) ?_
              show Steps p.tables e below (T130.setTop (mkF m 143 #[.val (.int flags), .val (.int c1), .val (.int c2), .val (.ref sa96), .val (.ref sa112), .val (.int (1 : Int32)), .val (.int (1 : Int32)), .val (.int (1 : Int32)), .val (.int (1 : Int32)), .val (.int (1 : Int32))] [(.int (1 : Int32)), (.int (1 : Int32))])) _
              refine XS.icmpNo X130.here hx rfl (hb hby at_143) rfl (teq (by decide : (1 : Int32) = (1 : Int32))).2 ?_
              show Steps p.tables e below (T130.setTop (mkF m 146 #[.val (.int flags), .val (.int c1), .val (.int c2), .val (.ref sa96), .val (.ref sa112), .val (.int (1 : Int32)), .val (.int (1 : Int32)), .val (.int (1 : Int32)), .val (.int (1 : Int32)), .val (.int (1 : Int32))] [])) _
              refine XS.iconst X130.here hx rfl (hb hby at_146) ?_
              show Steps p.tables e below (T130.setTop (mkF m 147 #[.val (.int flags), .val (.int c1), .val (.int c2), .val (.ref sa96), .val (.ref sa112), .val (.int (1 : Int32)), .val (.int (1 : Int32)), .val (.int (1 : Int32)), .val (.int (1 : Int32)), .val (.int (1 : Int32))] [(.int (1 : Int32))])) _
              refine XS.goto X130.here hx rfl (pc0 := 147) (pc' := 151) rfl (hb hby at_147) (by decide) (by decide) ?_
              exact kt)
          obtain ⟨fs, hr, hrun, hended, hEnd⟩ := X130.leaveW hS96 (by rw [e130]; exact (Nat.le_trans (Nat.le_refl _) K112q.1)) (v := some (.int (1 : Int32))) (fun h => by rw [Bd.returns] at h; cases h)
          refine ⟨_, _, pre132 _ ?_, hrun, hended, _, _, rfl, ?_, hEnd.1, hEnd.2.1, hEnd.2.2.1, hEnd.2.2.2.mono (by decide) (by decide)⟩
          · show Steps p.tables e below (T130.setTop (mkF m 151 #[.val (.int flags), .val (.int c1), .val (.int c2), .val (.ref sa96), .val (.ref sa112), .val (.int (1 : Int32)), .val (.int (1 : Int32)), .val (.int (1 : Int32)), .val (.int (1 : Int32)), .val (.int (1 : Int32))] [(.int (1 : Int32))])) _
            exact retN X130 hx (t := .boolean) Bd.returns (by simp) (hb hby at_151) hr
          · show Q_own_rm0 Z flags c1 c2 cs aACCOUNT aADDRESS aPAIR h0 n0 _ T130.heap _
            rw [e130]
            exact ⟨rfl, N130⟩
        · -- E
          have pre133 : Goes p e below s₁ (entryFrame m #[(.int flags), (.int c1), (.int c2)] maxLocals) T96 (mkF m 51 #[.val (.int flags), .val (.int c1), .val (.int c2), .val (.ref sa96), .unset, .unset, .unset, .unset, .unset, .unset] [(.int c2), (.int (1 : Int32)), (.int (0 : Int32))]) := fun t kt => pre106 t (by
              show Steps p.tables e below (T96.setTop (mkF m 50 #[.val (.int flags), .val (.int c1), .val (.int c2), .val (.ref sa96), .unset, .unset, .unset, .unset, .unset, .unset] [(.int (1 : Int32)), (.int (0 : Int32))])) _
              refine XS.iloadN X96.here hx rfl (hb hby at_50) rfl ?_
              exact kt)
          obtain ⟨_, _, ⟨T134, L134, k134, n134⟩, -, XX134, hSS134, hGG134, ⟨Lc134, hQ134, l134, y134, z134⟩, st134⟩ := Jvm.RoadKit.callSS X96 hx (y := (⟨"com/example/tallygate/tallygate/KeyTypeCanKeyPinLaw", "make", "(ZZI)Ljava/lang/String;"⟩ : MethodName)) hown (mvT hZ (hw _ (List.mem_of_getElem? (i := 0) rfl))) (mvT hZ (hw _ (List.mem_of_getElem? (i := 1) rfl))) (mvT hZ (hw _ (List.mem_of_getElem? (i := 2) rfl))) (mvT hZ (hw _ (List.mem_of_getElem? (i := 3) rfl))) (by decide) (backOfS (W := 0) (own_makeE l Z a0 hw [] c2 T96.heap n0 (Nat.le_trans Z0 K96q.1) ) hZ (hw _ (List.mem_of_getElem? (i := 3) rfl)) (hw _ (List.mem_of_getElem? (i := 2) rfl)) (by decide) (by decide)) (g := (mkF m 51 #[.val (.int flags), .val (.int c1), .val (.int c2), .val (.ref sa96), .unset, .unset, .unset, .unset, .unset, .unset] [(.int c2), (.int (1 : Int32)), (.int (0 : Int32))])) rfl (by rw [hml]; rfl) (argsL := [(.int (0 : Int32)), (.int (1 : Int32)), (.int c2)]) (rest := []) (lenOf own_pd6 rfl) rfl (by show 2 * 0 + _ ≤ _; exact Nat.le_of_eq rfl) (hb hby at_51) (fun _ _ => ⟨rfl, rfl, (by decide : 2 + 2 ≤ _), (by decide : 4 + 4 ≤ _)⟩)
          dsimp only [Pt.U, Pt.locs, Pt.cells, Pt.slots] at hSS134 hGG134 XX134 l134 y134 z134 st134 hQ134
          subst l134 y134 z134
          obtain ⟨sa134, rfl, N134q, K134q⟩ := hQ134
          have N134 := Fr.app N96 N134q
          obtain ⟨X134, hS134, hZ, hown⟩ := rebS (s := s) (vm0 := T96.vm) hS96 (Nat.le_refl _) XX134 hSS134 hGG134 hZ hown
          have KC134 : Keep h0 T134.heap [] := KC96.trans K134q all0
          have pre135 : Goes p e below s₁ (entryFrame m #[(.int flags), (.int c1), (.int c2)] maxLocals) T134 (mkF m 54 #[.val (.int flags), .val (.int c1), .val (.int c2), .val (.ref sa96), .unset, .unset, .unset, .unset, .unset, .unset] [(.ref sa134)]) := fun t kt => pre133 t (st134.trans kt)
          have pre136 : Goes p e below s₁ (entryFrame m #[(.int flags), (.int c1), (.int c2)] maxLocals) T134 (mkF m 79 #[.val (.int flags), .val (.int c1), .val (.int c2), .val (.ref sa96), .val (.ref sa134), .val (.int (1 : Int32)), .val (.int (1 : Int32)), .unset, .unset, .unset] []) := fun t kt => pre135 t (by
              show Steps p.tables e below (T134.setTop (mkF m 54 #[.val (.int flags), .val (.int c1), .val (.int c2), .val (.ref sa96), .unset, .unset, .unset, .unset, .unset, .unset] [(.ref sa134)])) _
              refine XS.astore X134.here hx rfl (hb hby at_54) rfl rfl (l' := #[.val (.int flags), .val (.int c1), .val (.int c2), .val (.ref sa96), .val (.ref sa134), .unset, .unset, .unset, .unset, .unset]) rfl ?_
              show Steps p.tables e below (T134.setTop (mkF m 56 #[.val (.int flags), .val (.int c1), .val (.int c2), .val (.ref sa96), .val (.ref sa134), .unset, .unset, .unset, .unset, .unset] [])) _
              refine XS.aloadN X134.here hx rfl (hb hby at_56) rfl rfl ?_
              show Steps p.tables e below (T134.setTop (mkF m 57 #[.val (.int flags), .val (.int c1), .val (.int c2), .val (.ref sa96), .val (.ref sa134), .unset, .unset, .unset, .unset, .unset] [(.ref sa96)])) _
              refine XS.ifnullNo X134.here hx rfl (hb hby at_57) rfl ?_
              show Steps p.tables e below (T134.setTop (mkF m 60 #[.val (.int flags), .val (.int c1), .val (.int c2), .val (.ref sa96), .val (.ref sa134), .unset, .unset, .unset, .unset, .unset] [])) _
              refine XS.iconst X134.here hx rfl (hb hby at_60) ?_
              show Steps p.tables e below (T134.setTop (mkF m 61 #[.val (.int flags), .val (.int c1), .val (.int c2), .val (.ref sa96), .val (.ref sa134), .unset, .unset, .unset, .unset, .unset] [(.int (1 : Int32))])) _
              refine XS.goto X134.here hx rfl (pc0 := 61) (pc' := 65) rfl (hb hby at_61) (by decide) (by decide) ?_
              show Steps p.tables e below (T134.setTop (mkF m 65 #[.val (.int flags), .val (.int c1), .val (.int c2), .val (.ref sa96), .val (.ref sa134), .unset, .unset, .unset, .unset, .unset] [(.int (1 : Int32))])) _
              refine XS.istore X134.here hx rfl (hb hby at_65) rfl (l' := #[.val (.int flags), .val (.int c1), .val (.int c2), .val (.ref sa96), .val (.ref sa134), .val (.int (1 : Int32)), .unset, .unset, .unset, .unset]) rfl ?_
              show Steps p.tables e below (T134.setTop (mkF m 67 #[.val (.int flags), .val (.int c1), .val (.int c2), .val (.ref sa96), .val (.ref sa134), .val (.int (1 : Int32)), .unset, .unset, .unset, .unset] [])) _
              refine XS.aload X134.here hx rfl (hb hby at_67) rfl rfl ?_
              show Steps p.tables e below (T134.setTop (mkF m 69 #[.val (.int flags), .val (.int c1), .val (.int c2), .val (.ref sa96), .val (.ref sa134), .val (.int (1 : Int32)), .unset, .unset, .unset, .unset] [(.ref sa134)])) _
              refine XS.ifnullNo X134.here hx rfl (hb hby at_69) rfl ?_
              show Steps p.tables e below (T134.setTop (mkF m 72 #[.val (.int flags), .val (.int c1), .val (.int c2), .val (.ref sa96), .val (.ref sa134), .val (.int (1 : Int32)), .unset, .unset, .unset, .unset] [])) _
              refine XS.iconst X134.here hx rfl (hb hby at_72) ?_
              show Steps p.tables e below (T134.setTop (mkF m 73 #[.val (.int flags), .val (.int c1), .val (.int c2), .val (.ref sa96), .val (.ref sa134), .val (.int (1 : Int32)), .unset, .unset, .unset, .unset] [(.int (1 : Int32))])) _
              refine XS.goto X134.here hx rfl (pc0 := 73) (pc' := 77) rfl (hb hby at_73) (by decide) (by decide) ?_
              show Steps p.tables e below (T134.setTop (mkF m 77 #[.val (.int flags), .val (.int c1), .val (.int c2), .val (.ref sa96), .val (.ref sa134), .val (.int (1 : Int32)), .unset, .unset, .unset, .unset] [(.int (1 : Int32))])) _
              refine XS.istore X134.here hx rfl (hb hby at_77) rfl (l' := #[.val (.int flags), .val (.int c1), .val (.int c2), .val (.ref sa96), .val (.ref sa134), .val (.int (1 : Int32)), .val (.int (1 : Int32)), .unset, .unset, .unset]) rfl ?_
              exact kt)
          obtain ⟨T137, X137, e137, st137⟩ := getS2 X134 hx hZ hown (host := "") (Or.inl (hw _ (List.mem_of_getElem? (i := 34) rfl))) Via.refl rfl (S_ACCOUNT.ext ((O0.keep K96q all0).keep K134q all0).2) (g := (mkF m 79 #[.val (.int flags), .val (.int c1), .val (.int c2), .val (.ref sa96), .val (.ref sa134), .val (.int (1 : Int32)), .val (.int (1 : Int32)), .unset, .unset, .unset] [])) rfl (hb hby at_79)
          have pre138 : Goes p e below s₁ (entryFrame m #[(.int flags), (.int c1), (.int c2)] maxLocals) T137 (mkF m 82 #[.val (.int flags), .val (.int c1), .val (.int c2), .val (.ref sa96), .val (.ref sa134), .val (.int (1 : Int32)), .val (.int (1 : Int32)), .unset, .unset, .unset] [(.ref aACCOUNT)]) := fun t kt => pre136 t (st137 t kt)
          have pre139 : Goes p e below s₁ (entryFrame m #[(.int flags), (.int c1), (.int c2)] maxLocals) T137 (mkF m 85 #[.val (.int flags), .val (.int c1), .val (.int c2), .val (.ref sa96), .val (.ref sa134), .val (.int (1 : Int32)), .val (.int (1 : Int32)), .unset, .unset, .unset] [(.ref sa134), (.ref sa96), (.ref aACCOUNT)]) := fun t kt => pre138 t (by
              show Steps p.tables e below (T137.setTop (mkF m 82 #[.val (.int flags), .val (.int c1), .val (.int c2), .val (.ref sa96), .val (.ref sa134), .val (.int (1 : Int32)), .val (.int (1 : Int32)), .unset, .unset, .unset] [(.ref aACCOUNT)])) _
              refine XS.aloadN X137.here hx rfl (hb hby at_82) rfl rfl ?_
              show Steps p.tables e below (T137.setTop (mkF m 83 #[.val (.int flags), .val (.int c1), .val (.int c2), .val (.ref sa96), .val (.ref sa134), .val (.int (1 : Int32)), .val (.int (1 : Int32)), .unset, .unset, .unset] [(.ref sa96), (.ref aACCOUNT)])) _
              refine XS.aload X137.here hx rfl (hb hby at_83) rfl rfl ?_
              exact kt)
          obtain ⟨cq140, kq140, q140a, q140b, q140c⟩ := isOf hZ e137 ((E_ACCOUNT.keep K96q).keep K134q)
          obtain ⟨_, _, ⟨T140, L140, k140, n140⟩, -, X140, ⟨Lc140, hQ140, l140, y140, z140⟩, st140⟩ := X137.virtualBack hx (y := (⟨"com/example/tallygate/tallygate/KeyType", "canKey", "(Ljava/lang/String;Ljava/lang/String;)Z"⟩ : MethodName)) (z := (⟨"com/example/tallygate/tallygate/KeyType", "canKey", "(Ljava/lang/String;Ljava/lang/String;)Z"⟩ : MethodName)) hown (mvT hZ (hw _ (List.mem_of_getElem? (i := 37) rfl))) (mvT hZ (hw _ (List.mem_of_getElem? (i := 38) rfl))) (notFace_of_selects (args := #[]) (mvT hZ (hw _ (List.mem_of_getElem? (i := 40) rfl)))) (mvT hZ (hw _ (List.mem_of_getElem? (i := 40) rfl))) (mvT hZ (hw _ (List.mem_of_getElem? (i := 39) rfl))) (by decide) (backOf (W := 0) (own_canKey011 l Z a0 hw [] aACCOUNT sa96 sa134 T134.heap n0 (Nat.le_trans (Nat.le_trans Z0 K96q.1) K134q.1) ((E_ACCOUNT.keep K96q).keep K134q) ((O_ACCOUNT.keep K96q nin0).keep K134q nin0)) hZ (hw _ (List.mem_of_getElem? (i := 41) rfl)) (hw _ (List.mem_of_getElem? (i := 35) rfl)) (by decide) (by decide)) q140a q140c (g := (mkF m 85 #[.val (.int flags), .val (.int c1), .val (.int c2), .val (.ref sa96), .val (.ref sa134), .val (.int (1 : Int32)), .val (.int (1 : Int32)), .unset, .unset, .unset] [(.ref sa134), (.ref sa96), (.ref aACCOUNT)])) rfl (by rw [hml]; rfl) (Steps.refl _) (argsL := [(.ref sa96), (.ref sa134)]) (rest := []) (lenOf own_pd7 rfl) rfl (by show 2 * 0 + _ ≤ _; exact Nat.le_of_eq rfl) (hb hby at_85) (fun _ _ => ⟨rfl, e137, (by decide : 4 + 0 ≤ _), (by decide : 8 + 0 ≤ _)⟩)
          dsimp only [Pt.U, Pt.locs, Pt.cells, Pt.slots] at X140 l140 y140 z140 st140 hQ140
          subst l140 y140 z140
          obtain ⟨rfl, N140q, e140⟩ := hQ140
          have N140 := Fr.app N134 N140q
          have pre141 : Goes p e below s₁ (entryFrame m #[(.int flags), (.int c1), (.int c2)] maxLocals) T140 (mkF m 88 #[.val (.int flags), .val (.int c1), .val (.int c2), .val (.ref sa96), .val (.ref sa134), .val (.int (1 : Int32)), .val (.int (1 : Int32)), .unset, .unset, .unset] [(.int (1 : Int32))]) := fun t kt => pre139 t (st140.trans kt)
          have pre142 : Goes p e below s₁ (entryFrame m #[(.int flags), (.int c1), (.int c2)] maxLocals) T140 (mkF m 90 #[.val (.int flags), .val (.int c1), .val (.int c2), .val (.ref sa96), .val (.ref sa134), .val (.int (1 : Int32)), .val (.int (1 : Int32)), .val (.int (1 : Int32)), .unset, .unset] []) := fun t kt => pre141 t (by
              show Steps p.tables e below (T140.setTop (mkF m 88 #[.val (.int flags), .val (.int c1), .val (.int c2), .val (.ref sa96), .val (.ref sa134), .val (.int (1 : Int32)), .val (.int (1 : Int32)), .unset, .unset, .unset] [(.int (1 : Int32))])) _
              refine XS.istore X140.here hx rfl (hb hby at_88) rfl (l' := #[.val (.int flags), .val (.int c1), .val (.int c2), .val (.ref sa96), .val (.ref sa134), .val (.int (1 : Int32)), .val (.int (1 : Int32)), .val (.int (1 : Int32)), .unset, .unset]) rfl ?_
              exact kt)
          obtain ⟨T143, X143, e143, st143⟩ := getS2 X140 hx hZ hown (host := "") (Or.inl (hw _ (List.mem_of_getElem? (i := 51) rfl))) Via.refl e140 (S_ADDRESS.ext ((O0.keep K96q all0).keep K134q all0).2) (g := (mkF m 90 #[.val (.int flags), .val (.int c1), .val (.int c2), .val (.ref sa96), .val (.ref sa134), .val (.int (1 : Int32)), .val (.int (1 : Int32)), .val (.int (1 : Int32)), .unset, .unset] [])) rfl (hb hby at_90)
          have pre144 : Goes p e below s₁ (entryFrame m #[(.int flags), (.int c1), (.int c2)] maxLocals) T143 (mkF m 93 #[.val (.int flags), .val (.int c1), .val (.int c2), .val (.ref sa96), .val (.ref sa134), .val (.int (1 : Int32)), .val (.int (1 : Int32)), .val (.int (1 : Int32)), .unset, .unset] [(.ref aADDRESS)]) := fun t kt => pre142 t (st143 t kt)
          have pre145 : Goes p e below s₁ (entryFrame m #[(.int flags), (.int c1), (.int c2)] maxLocals) T143 (mkF m 96 #[.val (.int flags), .val (.int c1), .val (.int c2), .val (.ref sa96), .val (.ref sa134), .val (.int (1 : Int32)), .val (.int (1 : Int32)), .val (.int (1 : Int32)), .unset, .unset] [(.ref sa134), (.ref sa96), (.ref aADDRESS)]) := fun t kt => pre144 t (by
              show Steps p.tables e below (T143.setTop (mkF m 93 #[.val (.int flags), .val (.int c1), .val (.int c2), .val (.ref sa96), .val (.ref sa134), .val (.int (1 : Int32)), .val (.int (1 : Int32)), .val (.int (1 : Int32)), .unset, .unset] [(.ref aADDRESS)])) _
              refine XS.aloadN X143.here hx rfl (hb hby at_93) rfl rfl ?_
              show Steps p.tables e below (T143.setTop (mkF m 94 #[.val (.int flags), .val (.int c1), .val (.int c2), .val (.ref sa96), .val (.ref sa134), .val (.int (1 : Int32)), .val (.int (1 : Int32)), .val (.int (1 : Int32)), .unset, .unset] [(.ref sa96), (.ref aADDRESS)])) _
              refine XS.aload X143.here hx rfl (hb hby at_94) rfl rfl ?_
              exact kt)
          obtain ⟨cq146, kq146, q146a, q146b, q146c⟩ := isOf hZ e143 ((E_ADDRESS.keep K96q).keep K134q)
          obtain ⟨_, _, ⟨T146, L146, k146, n146⟩, -, X146, ⟨Lc146, hQ146, l146, y146, z146⟩, st146⟩ := X143.virtualBack hx (y := (⟨"com/example/tallygate/tallygate/KeyType", "canKey", "(Ljava/lang/String;Ljava/lang/String;)Z"⟩ : MethodName)) (z := (⟨"com/example/tallygate/tallygate/KeyType", "canKey", "(Ljava/lang/String;Ljava/lang/String;)Z"⟩ : MethodName)) hown (mvT hZ (hw _ (List.mem_of_getElem? (i := 37) rfl))) (mvT hZ (hw _ (List.mem_of_getElem? (i := 38) rfl))) (notFace_of_selects (args := #[]) (mvT hZ (hw _ (List.mem_of_getElem? (i := 40) rfl)))) (mvT hZ (hw _ (List.mem_of_getElem? (i := 40) rfl))) (mvT hZ (hw _ (List.mem_of_getElem? (i := 39) rfl))) (by decide) (backOf (W := 0) (own_canKey111 l Z a0 hw [] aADDRESS sa96 sa134 T134.heap n0 (Nat.le_trans (Nat.le_trans Z0 K96q.1) K134q.1) ((E_ADDRESS.keep K96q).keep K134q) ((O_ADDRESS.keep K96q nin0).keep K134q nin0)) hZ (hw _ (List.mem_of_getElem? (i := 41) rfl)) (hw _ (List.mem_of_getElem? (i := 35) rfl)) (by decide) (by decide)) q146a q146c (g := (mkF m 96 #[.val (.int flags), .val (.int c1), .val (.int c2), .val (.ref sa96), .val (.ref sa134), .val (.int (1 : Int32)), .val (.int (1 : Int32)), .val (.int (1 : Int32)), .unset, .unset] [(.ref sa134), (.ref sa96), (.ref aADDRESS)])) rfl (by rw [hml]; rfl) (Steps.refl _) (argsL := [(.ref sa96), (.ref sa134)]) (rest := []) (lenOf own_pd7 rfl) rfl (by show 2 * 0 + _ ≤ _; exact Nat.le_of_eq rfl) (hb hby at_96) (fun _ _ => ⟨rfl, e143, (by decide : 4 + 0 ≤ _), (by decide : 8 + 0 ≤ _)⟩)
          dsimp only [Pt.U, Pt.locs, Pt.cells, Pt.slots] at X146 l146 y146 z146 st146 hQ146
          subst l146 y146 z146
          obtain ⟨rfl, N146q, e146⟩ := hQ146
          have N146 := Fr.app N140 N146q
          have pre147 : Goes p e below s₁ (entryFrame m #[(.int flags), (.int c1), (.int c2)] maxLocals) T146 (mkF m 99 #[.val (.int flags), .val (.int c1), .val (.int c2), .val (.ref sa96), .val (.ref sa134), .val (.int (1 : Int32)), .val (.int (1 : Int32)), .val (.int (1 : Int32)), .unset, .unset] [(.int (1 : Int32))]) := fun t kt => pre145 t (st146.trans kt)
          have pre148 : Goes p e below s₁ (entryFrame m #[(.int flags), (.int c1), (.int c2)] maxLocals) T146 (mkF m 101 #[.val (.int flags), .val (.int c1), .val (.int c2), .val (.ref sa96), .val (.ref sa134), .val (.int (1 : Int32)), .val (.int (1 : Int32)), .val (.int (1 : Int32)), .val (.int (1 : Int32)), .unset] []) := fun t kt => pre147 t (by
              show Steps p.tables e below (T146.setTop (mkF m 99 #[.val (.int flags), .val (.int c1), .val (.int c2), .val (.ref sa96), .val (.ref sa134), .val (.int (1 : Int32)), .val (.int (1 : Int32)), .val (.int (1 : Int32)), .unset, .unset] [(.int (1 : Int32))])) _
              refine XS.istore X146.here hx rfl (hb hby at_99) rfl (l' := #[.val (.int flags), .val (.int c1), .val (.int c2), .val (.ref sa96), .val (.ref sa134), .val (.int (1 : Int32)), .val (.int (1 : Int32)), .val (.int (1 : Int32)), .val (.int (1 : Int32)), .unset]) rfl ?_
              exact kt)
          obtain ⟨T149, X149, e149, st149⟩ := getS2 X146 hx hZ hown (host := "") (Or.inl (hw _ (List.mem_of_getElem? (i := 53) rfl))) Via.refl e146 (S_PAIR.ext ((O0.keep K96q all0).keep K134q all0).2) (g := (mkF m 101 #[.val (.int flags), .val (.int c1), .val (.int c2), .val (.ref sa96), .val (.ref sa134), .val (.int (1 : Int32)), .val (.int (1 : Int32)), .val (.int (1 : Int32)), .val (.int (1 : Int32)), .unset] [])) rfl (hb hby at_101)
          have pre150 : Goes p e below s₁ (entryFrame m #[(.int flags), (.int c1), (.int c2)] maxLocals) T149 (mkF m 104 #[.val (.int flags), .val (.int c1), .val (.int c2), .val (.ref sa96), .val (.ref sa134), .val (.int (1 : Int32)), .val (.int (1 : Int32)), .val (.int (1 : Int32)), .val (.int (1 : Int32)), .unset] [(.ref aPAIR)]) := fun t kt => pre148 t (st149 t kt)
          have pre151 : Goes p e below s₁ (entryFrame m #[(.int flags), (.int c1), (.int c2)] maxLocals) T149 (mkF m 107 #[.val (.int flags), .val (.int c1), .val (.int c2), .val (.ref sa96), .val (.ref sa134), .val (.int (1 : Int32)), .val (.int (1 : Int32)), .val (.int (1 : Int32)), .val (.int (1 : Int32)), .unset] [(.ref sa134), (.ref sa96), (.ref aPAIR)]) := fun t kt => pre150 t (by
              show Steps p.tables e below (T149.setTop (mkF m 104 #[.val (.int flags), .val (.int c1), .val (.int c2), .val (.ref sa96), .val (.ref sa134), .val (.int (1 : Int32)), .val (.int (1 : Int32)), .val (.int (1 : Int32)), .val (.int (1 : Int32)), .unset] [(.ref aPAIR)])) _
              refine XS.aloadN X149.here hx rfl (hb hby at_104) rfl rfl ?_
              show Steps p.tables e below (T149.setTop (mkF m 105 #[.val (.int flags), .val (.int c1), .val (.int c2), .val (.ref sa96), .val (.ref sa134), .val (.int (1 : Int32)), .val (.int (1 : Int32)), .val (.int (1 : Int32)), .val (.int (1 : Int32)), .unset] [(.ref sa96), (.ref aPAIR)])) _
              refine XS.aload X149.here hx rfl (hb hby at_105) rfl rfl ?_
              exact kt)
          obtain ⟨cq152, kq152, q152a, q152b, q152c⟩ := isOf hZ e149 ((E_PAIR.keep K96q).keep K134q)
          obtain ⟨_, _, ⟨T152, L152, k152, n152⟩, -, X152, ⟨Lc152, hQ152, l152, y152, z152⟩, st152⟩ := X149.virtualBack hx (y := (⟨"com/example/tallygate/tallygate/KeyType", "canKey", "(Ljava/lang/String;Ljava/lang/String;)Z"⟩ : MethodName)) (z := (⟨"com/example/tallygate/tallygate/KeyType", "canKey", "(Ljava/lang/String;Ljava/lang/String;)Z"⟩ : MethodName)) hown (mvT hZ (hw _ (List.mem_of_getElem? (i := 37) rfl))) (mvT hZ (hw _ (List.mem_of_getElem? (i := 38) rfl))) (notFace_of_selects (args := #[]) (mvT hZ (hw _ (List.mem_of_getElem? (i := 40) rfl)))) (mvT hZ (hw _ (List.mem_of_getElem? (i := 40) rfl))) (mvT hZ (hw _ (List.mem_of_getElem? (i := 39) rfl))) (by decide) (backOf (W := 0) (own_canKey211 l Z a0 hw [] aPAIR sa96 sa134 T134.heap n0 (Nat.le_trans (Nat.le_trans Z0 K96q.1) K134q.1) ((E_PAIR.keep K96q).keep K134q) ((O_PAIR.keep K96q nin0).keep K134q nin0)) hZ (hw _ (List.mem_of_getElem? (i := 41) rfl)) (hw _ (List.mem_of_getElem? (i := 35) rfl)) (by decide) (by decide)) q152a q152c (g := (mkF m 107 #[.val (.int flags), .val (.int c1), .val (.int c2), .val (.ref sa96), .val (.ref sa134), .val (.int (1 : Int32)), .val (.int (1 : Int32)), .val (.int (1 : Int32)), .val (.int (1 : Int32)), .unset] [(.ref sa134), (.ref sa96), (.ref aPAIR)])) rfl (by rw [hml]; rfl) (Steps.refl _) (argsL := [(.ref sa96), (.ref sa134)]) (rest := []) (lenOf own_pd7 rfl) rfl (by show 2 * 0 + _ ≤ _; exact Nat.le_of_eq rfl) (hb hby at_107) (fun _ _ => ⟨rfl, e149, (by decide : 4 + 0 ≤ _), (by decide : 8 + 0 ≤ _)⟩)
          dsimp only [Pt.U, Pt.locs, Pt.cells, Pt.slots] at X152 l152 y152 z152 st152 hQ152
          subst l152 y152 z152
          obtain ⟨rfl, N152q, e152⟩ := hQ152
          have N152 := Fr.app N146 N152q
          have pre153 : Goes p e below s₁ (entryFrame m #[(.int flags), (.int c1), (.int c2)] maxLocals) T152 (mkF m 110 #[.val (.int flags), .val (.int c1), .val (.int c2), .val (.ref sa96), .val (.ref sa134), .val (.int (1 : Int32)), .val (.int (1 : Int32)), .val (.int (1 : Int32)), .val (.int (1 : Int32)), .unset] [(.int (1 : Int32))]) := fun t kt => pre151 t (st152.trans kt)
          have pre154 : Goes p e below s₁ (entryFrame m #[(.int flags), (.int c1), (.int c2)] maxLocals) T152 (mkF m 151 #[.val (.int flags), .val (.int c1), .val (.int c2), .val (.ref sa96), .val (.ref sa134), .val (.int (1 : Int32)), .val (.int (1 : Int32)), .val (.int (1 : Int32)), .val (.int (1 : Int32)), .val (.int (1 : Int32))] [(.int (1 : Int32))]) := fun t kt => pre153 t (by
              show Steps p.tables e below (T152.setTop (mkF m 110 #[.val (.int flags), .val (.int c1), .val (.int c2), .val (.ref sa96), .val (.ref sa134), .val (.int (1 : Int32)), .val (.int (1 : Int32)), .val (.int (1 : Int32)), .val (.int (1 : Int32)), .unset] [(.int (1 : Int32))])) _
              refine XS.istore X152.here hx rfl (hb hby at_110) rfl (l' := #[.val (.int flags), .val (.int c1), .val (.int c2), .val (.ref sa96), .val (.ref sa134), .val (.int (1 : Int32)), .val (.int (1 : Int32)), .val (.int (1 : Int32)), .val (.int (1 : Int32)), .val (.int (1 : Int32))]) rfl ?_
              show Steps p.tables e below (T152.setTop (mkF m 112 #[.val (.int flags), .val (.int c1), .val (.int c2), .val (.ref sa96), .val (.ref sa134), .val (.int (1 : Int32)), .val (.int (1 : Int32)), .val (.int (1 : Int32)), .val (.int (1 : Int32)), .val (.int (1 : Int32))] [])) _
              refine XS.iload X152.here hx rfl (hb hby at_112) rfl ?_
              show Steps p.tables e below (T152.setTop (mkF m 114 #[.val (.int flags), .val (.int c1), .val (.int c2), .val (.ref sa96), .val (.ref sa134), .val (.int (1 : Int32)), .val (.int (1 : Int32)), .val (.int (1 : Int32)), .val (.int (1 : Int32)), .val (.int (1 : Int32))] [(.int (1 : Int32))])) _
              refine XS.iload X152.here hx rfl (hb hby at_114) rfl ?_
              show Steps p.tables e below (T152.setTop (mkF m 116 #[.val (.int flags), .val (.int c1), .val (.int c2), .val (.ref sa96), .val (.ref sa134), .val (.int (1 : Int32)), .val (.int (1 : Int32)), .val (.int (1 : Int32)), .val (.int (1 : Int32)), .val (.int (1 : Int32))] [(.int (1 : Int32)), (.int (1 : Int32))])) _
              refine XS.icmpNo X152.here hx rfl (hb hby at_116) rfl (teq (by decide : (1 : Int32) = (1 : Int32))).2 ?_
              show Steps p.tables e below (T152.setTop (mkF m 119 #[.val (.int flags), .val (.int c1), .val (.int c2), .val (.ref sa96), .val (.ref sa134), .val (.int (1 : Int32)), .val (.int (1 : Int32)), .val (.int (1 : Int32)), .val (.int (1 : Int32)), .val (.int (1 : Int32))] [])) _
              refine XS.iload X152.here hx rfl (hb hby at_119) rfl ?_
              show Steps p.tables e below (T152.setTop (mkF m 121 #[.val (.int flags), .val (.int c1), .val (.int c2), .val (.ref sa96), .val (.ref sa134), .val (.int (1 : Int32)), .val (.int (1 : Int32)), .val (.int (1 : Int32)), .val (.int (1 : Int32)), .val (.int (1 : Int32))] [(.int (1 : Int32))])) _
              refine XS.iload X152.here hx rfl (hb hby at_121) rfl ?_
              show Steps p.tables e below (T152.setTop (mkF m 123 #[.val (.int flags), .val (.int c1), .val (.int c2), .val (.ref sa96), .val (.ref sa134), .val (.int (1 : Int32)), .val (.int (1 : Int32)), .val (.int (1 : Int32)), .val (.int (1 : Int32)), .val (.int (1 : Int32))] [(.int (1 : Int32)), (.int (1 : Int32))])) _
              refine XS.icmpNo X152.here hx rfl (hb hby at_123) rfl (teq (by decide : (1 : Int32) = (1 : Int32))).2 ?_
              show Steps p.tables e below (T152.setTop (mkF m 126 #[.val (.int flags), .val (.int c1), .val (.int c2), .val (.ref sa96), .val (.ref sa134), .val (.int (1 : Int32)), .val (.int (1 : Int32)), .val (.int (1 : Int32)), .val (.int (1 : Int32)), .val (.int (1 : Int32))] [])) _
              refine XS.iload X152.here hx rfl (hb hby at_126) rfl ?_
              show Steps p.tables e below (T152.setTop (mkF m 128 #[.val (.int flags), .val (.int c1), .val (.int c2), .val (.ref sa96), .val (.ref sa134), .val (.int (1 : Int32)), .val (.int (1 : Int32)), .val (.int (1 : Int32)), .val (.int (1 : Int32)), .val (.int (1 : Int32))] [(.int (1 : Int32))])) _
              refine XS.iload X152.here hx rfl (hb hby at_128) rfl ?_
              show Steps p.tables e below (T152.setTop (mkF m 130 #[.val (.int flags), .val (.int c1), .val (.int c2), .val (.ref sa96), .val (.ref sa134), .val (.int (1 : Int32)), .val (.int (1 : Int32)), .val (.int (1 : Int32)), .val (.int (1 : Int32)), .val (.int (1 : Int32))] [(.int (1 : Int32)), (.int (1 : Int32))])) _
              refine XS.ifNo X152.here hx rfl (hb hby at_130) rfl ((if0 _ _).trans (feq (by decide : ¬ ((1 : Int32) = (0 : Int32)))).1) ?_
              show Steps p.tables e below (T152.setTop (mkF m 133 #[.val (.int flags), .val (.int c1), .val (.int c2), .val (.ref sa96), .val (.ref sa134), .val (.int (1 : Int32)), .val (.int (1 : Int32)), .val (.int (1 : Int32)), .val (.int (1 : Int32)), .val (.int (1 : Int32))] [(.int (1 : Int32))])) _
              refine XS.iload X152.here hx rfl (hb hby at_133) rfl ?_
              show Steps p.tables e below (T152.setTop (mkF m 135 #[.val (.int flags), .val (.int c1), .val (.int c2), .val (.ref sa96), .val (.ref sa134), .val (.int (1 : Int32)), .val (.int (1 : Int32)), .val (.int (1 : Int32)), .val (.int (1 : Int32)), .val (.int (1 : Int32))] [(.int (1 : Int32)), (.int (1 : Int32))])) _
              refine XS.ifNo X152.here hx rfl (hb hby at_135) rfl ((if0 _ _).trans (feq (by decide : ¬ ((1 : Int32) = (0 : Int32)))).1) ?_
              show Steps p.tables e below (T152.setTop (mkF m 138 #[.val (.int flags), .val (.int c1), .val (.int c2), .val (.ref sa96), .val (.ref sa134), .val (.int (1 : Int32)), .val (.int (1 : Int32)), .val (.int (1 : Int32)), .val (.int (1 : Int32)), .val (.int (1 : Int32))] [(.int (1 : Int32))])) _
              refine XS.iconst X152.here hx rfl (hb hby at_138) ?_
              show Steps p.tables e below (T152.setTop (mkF m 139 #[.val (.int flags), .val (.int c1), .val (.int c2), .val (.ref sa96), .val (.ref sa134), .val (.int (1 : Int32)), .val (.int (1 : Int32)), .val (.int (1 : Int32)), .val (.int (1 : Int32)), .val (.int (1 : Int32))] [(.int (1 : Int32)), (.int (1 : Int32))])) _
              refine XS.goto X152.here hx rfl (pc0 := 139) (pc' := 143) rfl (hb hby at_139) (by decide) (by decide) ?_
              show Steps p.tables e below (T152.setTop (mkF m 143 #[.val (.int flags), .val (.int c1), .val (.int c2), .val (.ref sa96), .val (.ref sa134), .val (.int (1 : Int32)), .val (.int (1 : Int32)), .val (.int (1 : Int32)), .val (.int (1 : Int32)), .val (.int (1 : Int32))] [(.int (1 : Int32)), (.int (1 : Int32))])) _
              refine XS.icmpNo X152.here hx rfl (hb hby at_143) rfl (teq (by decide : (1 : Int32) = (1 : Int32))).2 ?_
              show Steps p.tables e below (T152.setTop (mkF m 146 #[.val (.int flags), .val (.int c1), .val (.int c2), .val (.ref sa96), .val (.ref sa134), .val (.int (1 : Int32)), .val (.int (1 : Int32)), .val (.int (1 : Int32)), .val (.int (1 : Int32)), .val (.int (1 : Int32))] [])) _
              refine XS.iconst X152.here hx rfl (hb hby at_146) ?_
              show Steps p.tables e below (T152.setTop (mkF m 147 #[.val (.int flags), .val (.int c1), .val (.int c2), .val (.ref sa96), .val (.ref sa134), .val (.int (1 : Int32)), .val (.int (1 : Int32)), .val (.int (1 : Int32)), .val (.int (1 : Int32)), .val (.int (1 : Int32))] [(.int (1 : Int32))])) _
              refine XS.goto X152.here hx rfl (pc0 := 147) (pc' := 151) rfl (hb hby at_147) (by decide) (by decide) ?_
              exact kt)
          obtain ⟨fs, hr, hrun, hended, hEnd⟩ := X152.leaveW hS134 (by rw [e152]; exact (Nat.le_refl _)) (v := some (.int (1 : Int32))) (fun h => by rw [Bd.returns] at h; cases h)
          refine ⟨_, _, pre154 _ ?_, hrun, hended, _, _, rfl, ?_, hEnd.1, hEnd.2.1, hEnd.2.2.1, hEnd.2.2.2.mono (by decide) (by decide)⟩
          · show Steps p.tables e below (T152.setTop (mkF m 151 #[.val (.int flags), .val (.int c1), .val (.int c2), .val (.ref sa96), .val (.ref sa134), .val (.int (1 : Int32)), .val (.int (1 : Int32)), .val (.int (1 : Int32)), .val (.int (1 : Int32)), .val (.int (1 : Int32))] [(.int (1 : Int32))])) _
            exact retN X152 hx (t := .boolean) Bd.returns (by simp) (hb hby at_151) hr
          · show Q_own_rm0 Z flags c1 c2 cs aACCOUNT aADDRESS aPAIR h0 n0 _ T152.heap _
            rw [e152]
            exact ⟨rfl, N152⟩
      · -- null
        have pre155 : Goes p e below s₁ (entryFrame m #[(.int flags), (.int c1), (.int c2)] maxLocals) T96 (mkF m 51 #[.val (.int flags), .val (.int c1), .val (.int c2), .val (.ref sa96), .unset, .unset, .unset, .unset, .unset, .unset] [(.int c2), (.int g4), (.int (1 : Int32))]) := fun t kt => pre106 t (by
            show Steps p.tables e below (T96.setTop (mkF m 50 #[.val (.int flags), .val (.int c1), .val (.int c2), .val (.ref sa96), .unset, .unset, .unset, .unset, .unset, .unset] [(.int g4), (.int (1 : Int32))])) _
            refine XS.iloadN X96.here hx rfl (hb hby at_50) rfl ?_
            exact kt)
        obtain ⟨_, _, ⟨T156, L156, k156, n156⟩, -, X156, ⟨Lc156, hQ156, l156, y156, z156⟩, st156⟩ := Jvm.LawKit.callS X96 hx (y := (⟨"com/example/tallygate/tallygate/KeyTypeCanKeyPinLaw", "make", "(ZZI)Ljava/lang/String;"⟩ : MethodName)) hown (mvT hZ (hw _ (List.mem_of_getElem? (i := 0) rfl))) (mvT hZ (hw _ (List.mem_of_getElem? (i := 1) rfl))) (mvT hZ (hw _ (List.mem_of_getElem? (i := 2) rfl))) (mvT hZ (hw _ (List.mem_of_getElem? (i := 3) rfl))) (by decide) (backOf (W := 0) (own_makeN l Z a0 hw [] g4 c2 T96.heap n0 (Nat.le_trans Z0 K96q.1) ) hZ (hw _ (List.mem_of_getElem? (i := 3) rfl)) (hw _ (List.mem_of_getElem? (i := 2) rfl)) (by decide) (by decide)) (g := (mkF m 51 #[.val (.int flags), .val (.int c1), .val (.int c2), .val (.ref sa96), .unset, .unset, .unset, .unset, .unset, .unset] [(.int c2), (.int g4), (.int (1 : Int32))])) rfl (by rw [hml]; rfl) (argsL := [(.int (1 : Int32)), (.int g4), (.int c2)]) (rest := []) (lenOf own_pd6 rfl) rfl (by show 2 * 0 + _ ≤ _; exact Nat.le_of_eq rfl) (hb hby at_51) (fun _ _ => ⟨rfl, rfl, (by decide : 2 + 0 ≤ _), (by decide : 4 + 0 ≤ _)⟩)
        dsimp only [Pt.U, Pt.locs, Pt.cells, Pt.slots] at X156 l156 y156 z156 st156 hQ156
        subst l156 y156 z156
        obtain ⟨rfl, N156q, e156⟩ := hQ156
        have N156 := Fr.app N96 N156q
        have pre157 : Goes p e below s₁ (entryFrame m #[(.int flags), (.int c1), (.int c2)] maxLocals) T156 (mkF m 54 #[.val (.int flags), .val (.int c1), .val (.int c2), .val (.ref sa96), .unset, .unset, .unset, .unset, .unset, .unset] [.null]) := fun t kt => pre155 t (st156 t kt)
        have pre158 : Goes p e below s₁ (entryFrame m #[(.int flags), (.int c1), (.int c2)] maxLocals) T156 (mkF m 79 #[.val (.int flags), .val (.int c1), .val (.int c2), .val (.ref sa96), .val .null, .val (.int (1 : Int32)), .val (.int (0 : Int32)), .unset, .unset, .unset] []) := fun t kt => pre157 t (by
            show Steps p.tables e below (T156.setTop (mkF m 54 #[.val (.int flags), .val (.int c1), .val (.int c2), .val (.ref sa96), .unset, .unset, .unset, .unset, .unset, .unset] [.null])) _
            refine XS.astore X156.here hx rfl (hb hby at_54) rfl rfl (l' := #[.val (.int flags), .val (.int c1), .val (.int c2), .val (.ref sa96), .val .null, .unset, .unset, .unset, .unset, .unset]) rfl ?_
            show Steps p.tables e below (T156.setTop (mkF m 56 #[.val (.int flags), .val (.int c1), .val (.int c2), .val (.ref sa96), .val .null, .unset, .unset, .unset, .unset, .unset] [])) _
            refine XS.aloadN X156.here hx rfl (hb hby at_56) rfl rfl ?_
            show Steps p.tables e below (T156.setTop (mkF m 57 #[.val (.int flags), .val (.int c1), .val (.int c2), .val (.ref sa96), .val .null, .unset, .unset, .unset, .unset, .unset] [(.ref sa96)])) _
            refine XS.ifnullNo X156.here hx rfl (hb hby at_57) rfl ?_
            show Steps p.tables e below (T156.setTop (mkF m 60 #[.val (.int flags), .val (.int c1), .val (.int c2), .val (.ref sa96), .val .null, .unset, .unset, .unset, .unset, .unset] [])) _
            refine XS.iconst X156.here hx rfl (hb hby at_60) ?_
            show Steps p.tables e below (T156.setTop (mkF m 61 #[.val (.int flags), .val (.int c1), .val (.int c2), .val (.ref sa96), .val .null, .unset, .unset, .unset, .unset, .unset] [(.int (1 : Int32))])) _
            refine XS.goto X156.here hx rfl (pc0 := 61) (pc' := 65) rfl (hb hby at_61) (by decide) (by decide) ?_
            show Steps p.tables e below (T156.setTop (mkF m 65 #[.val (.int flags), .val (.int c1), .val (.int c2), .val (.ref sa96), .val .null, .unset, .unset, .unset, .unset, .unset] [(.int (1 : Int32))])) _
            refine XS.istore X156.here hx rfl (hb hby at_65) rfl (l' := #[.val (.int flags), .val (.int c1), .val (.int c2), .val (.ref sa96), .val .null, .val (.int (1 : Int32)), .unset, .unset, .unset, .unset]) rfl ?_
            show Steps p.tables e below (T156.setTop (mkF m 67 #[.val (.int flags), .val (.int c1), .val (.int c2), .val (.ref sa96), .val .null, .val (.int (1 : Int32)), .unset, .unset, .unset, .unset] [])) _
            refine XS.aload X156.here hx rfl (hb hby at_67) rfl rfl ?_
            show Steps p.tables e below (T156.setTop (mkF m 69 #[.val (.int flags), .val (.int c1), .val (.int c2), .val (.ref sa96), .val .null, .val (.int (1 : Int32)), .unset, .unset, .unset, .unset] [.null])) _
            refine XS.ifnullYes X156.here hx rfl (pc0 := 69) (pc' := 76) rfl (hb hby at_69) rfl (by decide) (by decide) ?_
            show Steps p.tables e below (T156.setTop (mkF m 76 #[.val (.int flags), .val (.int c1), .val (.int c2), .val (.ref sa96), .val .null, .val (.int (1 : Int32)), .unset, .unset, .unset, .unset] [])) _
            refine XS.iconst X156.here hx rfl (hb hby at_76) ?_
            show Steps p.tables e below (T156.setTop (mkF m 77 #[.val (.int flags), .val (.int c1), .val (.int c2), .val (.ref sa96), .val .null, .val (.int (1 : Int32)), .unset, .unset, .unset, .unset] [(.int (0 : Int32))])) _
            refine XS.istore X156.here hx rfl (hb hby at_77) rfl (l' := #[.val (.int flags), .val (.int c1), .val (.int c2), .val (.ref sa96), .val .null, .val (.int (1 : Int32)), .val (.int (0 : Int32)), .unset, .unset, .unset]) rfl ?_
            exact kt)
        obtain ⟨T159, X159, e159, st159⟩ := getS2 X156 hx hZ hown (host := "") (Or.inl (hw _ (List.mem_of_getElem? (i := 34) rfl))) Via.refl e156 (S_ACCOUNT.ext (O0.keep K96q all0).2) (g := (mkF m 79 #[.val (.int flags), .val (.int c1), .val (.int c2), .val (.ref sa96), .val .null, .val (.int (1 : Int32)), .val (.int (0 : Int32)), .unset, .unset, .unset] [])) rfl (hb hby at_79)
        have pre160 : Goes p e below s₁ (entryFrame m #[(.int flags), (.int c1), (.int c2)] maxLocals) T159 (mkF m 82 #[.val (.int flags), .val (.int c1), .val (.int c2), .val (.ref sa96), .val .null, .val (.int (1 : Int32)), .val (.int (0 : Int32)), .unset, .unset, .unset] [(.ref aACCOUNT)]) := fun t kt => pre158 t (st159 t kt)
        have pre161 : Goes p e below s₁ (entryFrame m #[(.int flags), (.int c1), (.int c2)] maxLocals) T159 (mkF m 85 #[.val (.int flags), .val (.int c1), .val (.int c2), .val (.ref sa96), .val .null, .val (.int (1 : Int32)), .val (.int (0 : Int32)), .unset, .unset, .unset] [.null, (.ref sa96), (.ref aACCOUNT)]) := fun t kt => pre160 t (by
            show Steps p.tables e below (T159.setTop (mkF m 82 #[.val (.int flags), .val (.int c1), .val (.int c2), .val (.ref sa96), .val .null, .val (.int (1 : Int32)), .val (.int (0 : Int32)), .unset, .unset, .unset] [(.ref aACCOUNT)])) _
            refine XS.aloadN X159.here hx rfl (hb hby at_82) rfl rfl ?_
            show Steps p.tables e below (T159.setTop (mkF m 83 #[.val (.int flags), .val (.int c1), .val (.int c2), .val (.ref sa96), .val .null, .val (.int (1 : Int32)), .val (.int (0 : Int32)), .unset, .unset, .unset] [(.ref sa96), (.ref aACCOUNT)])) _
            refine XS.aload X159.here hx rfl (hb hby at_83) rfl rfl ?_
            exact kt)
        obtain ⟨cq162, kq162, q162a, q162b, q162c⟩ := isOf hZ e159 (E_ACCOUNT.keep K96q)
        obtain ⟨_, _, ⟨T162, L162, k162, n162⟩, -, X162, ⟨Lc162, hQ162, l162, y162, z162⟩, st162⟩ := X159.virtualBack hx (y := (⟨"com/example/tallygate/tallygate/KeyType", "canKey", "(Ljava/lang/String;Ljava/lang/String;)Z"⟩ : MethodName)) (z := (⟨"com/example/tallygate/tallygate/KeyType", "canKey", "(Ljava/lang/String;Ljava/lang/String;)Z"⟩ : MethodName)) hown (mvT hZ (hw _ (List.mem_of_getElem? (i := 37) rfl))) (mvT hZ (hw _ (List.mem_of_getElem? (i := 38) rfl))) (notFace_of_selects (args := #[]) (mvT hZ (hw _ (List.mem_of_getElem? (i := 40) rfl)))) (mvT hZ (hw _ (List.mem_of_getElem? (i := 40) rfl))) (mvT hZ (hw _ (List.mem_of_getElem? (i := 39) rfl))) (by decide) (backOf (W := 0) (own_canKey010 l Z a0 hw [] aACCOUNT sa96 T96.heap n0 (Nat.le_trans Z0 K96q.1) (E_ACCOUNT.keep K96q) (O_ACCOUNT.keep K96q nin0)) hZ (hw _ (List.mem_of_getElem? (i := 41) rfl)) (hw _ (List.mem_of_getElem? (i := 35) rfl)) (by decide) (by decide)) q162a q162c (g := (mkF m 85 #[.val (.int flags), .val (.int c1), .val (.int c2), .val (.ref sa96), .val .null, .val (.int (1 : Int32)), .val (.int (0 : Int32)), .unset, .unset, .unset] [.null, (.ref sa96), (.ref aACCOUNT)])) rfl (by rw [hml]; rfl) (Steps.refl _) (argsL := [(.ref sa96), .null]) (rest := []) (lenOf own_pd7 rfl) rfl (by show 2 * 0 + _ ≤ _; exact Nat.le_of_eq rfl) (hb hby at_85) (fun _ _ => ⟨rfl, e159, (by decide : 2 + 0 ≤ _), (by decide : 4 + 0 ≤ _)⟩)
        dsimp only [Pt.U, Pt.locs, Pt.cells, Pt.slots] at X162 l162 y162 z162 st162 hQ162
        subst l162 y162 z162
        obtain ⟨rfl, N162q, e162⟩ := hQ162
        have N162 := Fr.app N156 N162q
        have pre163 : Goes p e below s₁ (entryFrame m #[(.int flags), (.int c1), (.int c2)] maxLocals) T162 (mkF m 88 #[.val (.int flags), .val (.int c1), .val (.int c2), .val (.ref sa96), .val .null, .val (.int (1 : Int32)), .val (.int (0 : Int32)), .unset, .unset, .unset] [(.int (1 : Int32))]) := fun t kt => pre161 t (st162.trans kt)
        have pre164 : Goes p e below s₁ (entryFrame m #[(.int flags), (.int c1), (.int c2)] maxLocals) T162 (mkF m 90 #[.val (.int flags), .val (.int c1), .val (.int c2), .val (.ref sa96), .val .null, .val (.int (1 : Int32)), .val (.int (0 : Int32)), .val (.int (1 : Int32)), .unset, .unset] []) := fun t kt => pre163 t (by
            show Steps p.tables e below (T162.setTop (mkF m 88 #[.val (.int flags), .val (.int c1), .val (.int c2), .val (.ref sa96), .val .null, .val (.int (1 : Int32)), .val (.int (0 : Int32)), .unset, .unset, .unset] [(.int (1 : Int32))])) _
            refine XS.istore X162.here hx rfl (hb hby at_88) rfl (l' := #[.val (.int flags), .val (.int c1), .val (.int c2), .val (.ref sa96), .val .null, .val (.int (1 : Int32)), .val (.int (0 : Int32)), .val (.int (1 : Int32)), .unset, .unset]) rfl ?_
            exact kt)
        obtain ⟨T165, X165, e165, st165⟩ := getS2 X162 hx hZ hown (host := "") (Or.inl (hw _ (List.mem_of_getElem? (i := 51) rfl))) Via.refl e162 (S_ADDRESS.ext (O0.keep K96q all0).2) (g := (mkF m 90 #[.val (.int flags), .val (.int c1), .val (.int c2), .val (.ref sa96), .val .null, .val (.int (1 : Int32)), .val (.int (0 : Int32)), .val (.int (1 : Int32)), .unset, .unset] [])) rfl (hb hby at_90)
        have pre166 : Goes p e below s₁ (entryFrame m #[(.int flags), (.int c1), (.int c2)] maxLocals) T165 (mkF m 93 #[.val (.int flags), .val (.int c1), .val (.int c2), .val (.ref sa96), .val .null, .val (.int (1 : Int32)), .val (.int (0 : Int32)), .val (.int (1 : Int32)), .unset, .unset] [(.ref aADDRESS)]) := fun t kt => pre164 t (st165 t kt)
        have pre167 : Goes p e below s₁ (entryFrame m #[(.int flags), (.int c1), (.int c2)] maxLocals) T165 (mkF m 96 #[.val (.int flags), .val (.int c1), .val (.int c2), .val (.ref sa96), .val .null, .val (.int (1 : Int32)), .val (.int (0 : Int32)), .val (.int (1 : Int32)), .unset, .unset] [.null, (.ref sa96), (.ref aADDRESS)]) := fun t kt => pre166 t (by
            show Steps p.tables e below (T165.setTop (mkF m 93 #[.val (.int flags), .val (.int c1), .val (.int c2), .val (.ref sa96), .val .null, .val (.int (1 : Int32)), .val (.int (0 : Int32)), .val (.int (1 : Int32)), .unset, .unset] [(.ref aADDRESS)])) _
            refine XS.aloadN X165.here hx rfl (hb hby at_93) rfl rfl ?_
            show Steps p.tables e below (T165.setTop (mkF m 94 #[.val (.int flags), .val (.int c1), .val (.int c2), .val (.ref sa96), .val .null, .val (.int (1 : Int32)), .val (.int (0 : Int32)), .val (.int (1 : Int32)), .unset, .unset] [(.ref sa96), (.ref aADDRESS)])) _
            refine XS.aload X165.here hx rfl (hb hby at_94) rfl rfl ?_
            exact kt)
        obtain ⟨cq168, kq168, q168a, q168b, q168c⟩ := isOf hZ e165 (E_ADDRESS.keep K96q)
        obtain ⟨_, _, ⟨T168, L168, k168, n168⟩, -, X168, ⟨Lc168, hQ168, l168, y168, z168⟩, st168⟩ := X165.virtualBack hx (y := (⟨"com/example/tallygate/tallygate/KeyType", "canKey", "(Ljava/lang/String;Ljava/lang/String;)Z"⟩ : MethodName)) (z := (⟨"com/example/tallygate/tallygate/KeyType", "canKey", "(Ljava/lang/String;Ljava/lang/String;)Z"⟩ : MethodName)) hown (mvT hZ (hw _ (List.mem_of_getElem? (i := 37) rfl))) (mvT hZ (hw _ (List.mem_of_getElem? (i := 38) rfl))) (notFace_of_selects (args := #[]) (mvT hZ (hw _ (List.mem_of_getElem? (i := 40) rfl)))) (mvT hZ (hw _ (List.mem_of_getElem? (i := 40) rfl))) (mvT hZ (hw _ (List.mem_of_getElem? (i := 39) rfl))) (by decide) (backOf (W := 0) (own_canKey110 l Z a0 hw [] aADDRESS sa96 T96.heap n0 (Nat.le_trans Z0 K96q.1) (E_ADDRESS.keep K96q) (O_ADDRESS.keep K96q nin0)) hZ (hw _ (List.mem_of_getElem? (i := 41) rfl)) (hw _ (List.mem_of_getElem? (i := 35) rfl)) (by decide) (by decide)) q168a q168c (g := (mkF m 96 #[.val (.int flags), .val (.int c1), .val (.int c2), .val (.ref sa96), .val .null, .val (.int (1 : Int32)), .val (.int (0 : Int32)), .val (.int (1 : Int32)), .unset, .unset] [.null, (.ref sa96), (.ref aADDRESS)])) rfl (by rw [hml]; rfl) (Steps.refl _) (argsL := [(.ref sa96), .null]) (rest := []) (lenOf own_pd7 rfl) rfl (by show 2 * 0 + _ ≤ _; exact Nat.le_of_eq rfl) (hb hby at_96) (fun _ _ => ⟨rfl, e165, (by decide : 2 + 0 ≤ _), (by decide : 4 + 0 ≤ _)⟩)
        dsimp only [Pt.U, Pt.locs, Pt.cells, Pt.slots] at X168 l168 y168 z168 st168 hQ168
        subst l168 y168 z168
        obtain ⟨rfl, N168q, e168⟩ := hQ168
        have N168 := Fr.app N162 N168q
        have pre169 : Goes p e below s₁ (entryFrame m #[(.int flags), (.int c1), (.int c2)] maxLocals) T168 (mkF m 99 #[.val (.int flags), .val (.int c1), .val (.int c2), .val (.ref sa96), .val .null, .val (.int (1 : Int32)), .val (.int (0 : Int32)), .val (.int (1 : Int32)), .unset, .unset] [(.int (0 : Int32))]) := fun t kt => pre167 t (st168.trans kt)
        have pre170 : Goes p e below s₁ (entryFrame m #[(.int flags), (.int c1), (.int c2)] maxLocals) T168 (mkF m 101 #[.val (.int flags), .val (.int c1), .val (.int c2), .val (.ref sa96), .val .null, .val (.int (1 : Int32)), .val (.int (0 : Int32)), .val (.int (1 : Int32)), .val (.int (0 : Int32)), .unset] []) := fun t kt => pre169 t (by
            show Steps p.tables e below (T168.setTop (mkF m 99 #[.val (.int flags), .val (.int c1), .val (.int c2), .val (.ref sa96), .val .null, .val (.int (1 : Int32)), .val (.int (0 : Int32)), .val (.int (1 : Int32)), .unset, .unset] [(.int (0 : Int32))])) _
            refine XS.istore X168.here hx rfl (hb hby at_99) rfl (l' := #[.val (.int flags), .val (.int c1), .val (.int c2), .val (.ref sa96), .val .null, .val (.int (1 : Int32)), .val (.int (0 : Int32)), .val (.int (1 : Int32)), .val (.int (0 : Int32)), .unset]) rfl ?_
            exact kt)
        obtain ⟨T171, X171, e171, st171⟩ := getS2 X168 hx hZ hown (host := "") (Or.inl (hw _ (List.mem_of_getElem? (i := 53) rfl))) Via.refl e168 (S_PAIR.ext (O0.keep K96q all0).2) (g := (mkF m 101 #[.val (.int flags), .val (.int c1), .val (.int c2), .val (.ref sa96), .val .null, .val (.int (1 : Int32)), .val (.int (0 : Int32)), .val (.int (1 : Int32)), .val (.int (0 : Int32)), .unset] [])) rfl (hb hby at_101)
        have pre172 : Goes p e below s₁ (entryFrame m #[(.int flags), (.int c1), (.int c2)] maxLocals) T171 (mkF m 104 #[.val (.int flags), .val (.int c1), .val (.int c2), .val (.ref sa96), .val .null, .val (.int (1 : Int32)), .val (.int (0 : Int32)), .val (.int (1 : Int32)), .val (.int (0 : Int32)), .unset] [(.ref aPAIR)]) := fun t kt => pre170 t (st171 t kt)
        have pre173 : Goes p e below s₁ (entryFrame m #[(.int flags), (.int c1), (.int c2)] maxLocals) T171 (mkF m 107 #[.val (.int flags), .val (.int c1), .val (.int c2), .val (.ref sa96), .val .null, .val (.int (1 : Int32)), .val (.int (0 : Int32)), .val (.int (1 : Int32)), .val (.int (0 : Int32)), .unset] [.null, (.ref sa96), (.ref aPAIR)]) := fun t kt => pre172 t (by
            show Steps p.tables e below (T171.setTop (mkF m 104 #[.val (.int flags), .val (.int c1), .val (.int c2), .val (.ref sa96), .val .null, .val (.int (1 : Int32)), .val (.int (0 : Int32)), .val (.int (1 : Int32)), .val (.int (0 : Int32)), .unset] [(.ref aPAIR)])) _
            refine XS.aloadN X171.here hx rfl (hb hby at_104) rfl rfl ?_
            show Steps p.tables e below (T171.setTop (mkF m 105 #[.val (.int flags), .val (.int c1), .val (.int c2), .val (.ref sa96), .val .null, .val (.int (1 : Int32)), .val (.int (0 : Int32)), .val (.int (1 : Int32)), .val (.int (0 : Int32)), .unset] [(.ref sa96), (.ref aPAIR)])) _
            refine XS.aload X171.here hx rfl (hb hby at_105) rfl rfl ?_
            exact kt)
        obtain ⟨cq174, kq174, q174a, q174b, q174c⟩ := isOf hZ e171 (E_PAIR.keep K96q)
        obtain ⟨_, _, ⟨T174, L174, k174, n174⟩, -, X174, ⟨Lc174, hQ174, l174, y174, z174⟩, st174⟩ := X171.virtualBack hx (y := (⟨"com/example/tallygate/tallygate/KeyType", "canKey", "(Ljava/lang/String;Ljava/lang/String;)Z"⟩ : MethodName)) (z := (⟨"com/example/tallygate/tallygate/KeyType", "canKey", "(Ljava/lang/String;Ljava/lang/String;)Z"⟩ : MethodName)) hown (mvT hZ (hw _ (List.mem_of_getElem? (i := 37) rfl))) (mvT hZ (hw _ (List.mem_of_getElem? (i := 38) rfl))) (notFace_of_selects (args := #[]) (mvT hZ (hw _ (List.mem_of_getElem? (i := 40) rfl)))) (mvT hZ (hw _ (List.mem_of_getElem? (i := 40) rfl))) (mvT hZ (hw _ (List.mem_of_getElem? (i := 39) rfl))) (by decide) (backOf (W := 0) (own_canKey210 l Z a0 hw [] aPAIR sa96 T96.heap n0 (Nat.le_trans Z0 K96q.1) (E_PAIR.keep K96q) (O_PAIR.keep K96q nin0)) hZ (hw _ (List.mem_of_getElem? (i := 41) rfl)) (hw _ (List.mem_of_getElem? (i := 35) rfl)) (by decide) (by decide)) q174a q174c (g := (mkF m 107 #[.val (.int flags), .val (.int c1), .val (.int c2), .val (.ref sa96), .val .null, .val (.int (1 : Int32)), .val (.int (0 : Int32)), .val (.int (1 : Int32)), .val (.int (0 : Int32)), .unset] [.null, (.ref sa96), (.ref aPAIR)])) rfl (by rw [hml]; rfl) (Steps.refl _) (argsL := [(.ref sa96), .null]) (rest := []) (lenOf own_pd7 rfl) rfl (by show 2 * 0 + _ ≤ _; exact Nat.le_of_eq rfl) (hb hby at_107) (fun _ _ => ⟨rfl, e171, (by decide : 2 + 0 ≤ _), (by decide : 4 + 0 ≤ _)⟩)
        dsimp only [Pt.U, Pt.locs, Pt.cells, Pt.slots] at X174 l174 y174 z174 st174 hQ174
        subst l174 y174 z174
        obtain ⟨rfl, N174q, e174⟩ := hQ174
        have N174 := Fr.app N168 N174q
        have pre175 : Goes p e below s₁ (entryFrame m #[(.int flags), (.int c1), (.int c2)] maxLocals) T174 (mkF m 110 #[.val (.int flags), .val (.int c1), .val (.int c2), .val (.ref sa96), .val .null, .val (.int (1 : Int32)), .val (.int (0 : Int32)), .val (.int (1 : Int32)), .val (.int (0 : Int32)), .unset] [(.int (0 : Int32))]) := fun t kt => pre173 t (st174.trans kt)
        have pre176 : Goes p e below s₁ (entryFrame m #[(.int flags), (.int c1), (.int c2)] maxLocals) T174 (mkF m 151 #[.val (.int flags), .val (.int c1), .val (.int c2), .val (.ref sa96), .val .null, .val (.int (1 : Int32)), .val (.int (0 : Int32)), .val (.int (1 : Int32)), .val (.int (0 : Int32)), .val (.int (0 : Int32))] [(.int (1 : Int32))]) := fun t kt => pre175 t (by
            show Steps p.tables e below (T174.setTop (mkF m 110 #[.val (.int flags), .val (.int c1), .val (.int c2), .val (.ref sa96), .val .null, .val (.int (1 : Int32)), .val (.int (0 : Int32)), .val (.int (1 : Int32)), .val (.int (0 : Int32)), .unset] [(.int (0 : Int32))])) _
            refine XS.istore X174.here hx rfl (hb hby at_110) rfl (l' := #[.val (.int flags), .val (.int c1), .val (.int c2), .val (.ref sa96), .val .null, .val (.int (1 : Int32)), .val (.int (0 : Int32)), .val (.int (1 : Int32)), .val (.int (0 : Int32)), .val (.int (0 : Int32))]) rfl ?_
            show Steps p.tables e below (T174.setTop (mkF m 112 #[.val (.int flags), .val (.int c1), .val (.int c2), .val (.ref sa96), .val .null, .val (.int (1 : Int32)), .val (.int (0 : Int32)), .val (.int (1 : Int32)), .val (.int (0 : Int32)), .val (.int (0 : Int32))] [])) _
            refine XS.iload X174.here hx rfl (hb hby at_112) rfl ?_
            show Steps p.tables e below (T174.setTop (mkF m 114 #[.val (.int flags), .val (.int c1), .val (.int c2), .val (.ref sa96), .val .null, .val (.int (1 : Int32)), .val (.int (0 : Int32)), .val (.int (1 : Int32)), .val (.int (0 : Int32)), .val (.int (0 : Int32))] [(.int (1 : Int32))])) _
            refine XS.iload X174.here hx rfl (hb hby at_114) rfl ?_
            show Steps p.tables e below (T174.setTop (mkF m 116 #[.val (.int flags), .val (.int c1), .val (.int c2), .val (.ref sa96), .val .null, .val (.int (1 : Int32)), .val (.int (0 : Int32)), .val (.int (1 : Int32)), .val (.int (0 : Int32)), .val (.int (0 : Int32))] [(.int (1 : Int32)), (.int (1 : Int32))])) _
            refine XS.icmpNo X174.here hx rfl (hb hby at_116) rfl (teq (by decide : (1 : Int32) = (1 : Int32))).2 ?_
            show Steps p.tables e below (T174.setTop (mkF m 119 #[.val (.int flags), .val (.int c1), .val (.int c2), .val (.ref sa96), .val .null, .val (.int (1 : Int32)), .val (.int (0 : Int32)), .val (.int (1 : Int32)), .val (.int (0 : Int32)), .val (.int (0 : Int32))] [])) _
            refine XS.iload X174.here hx rfl (hb hby at_119) rfl ?_
            show Steps p.tables e below (T174.setTop (mkF m 121 #[.val (.int flags), .val (.int c1), .val (.int c2), .val (.ref sa96), .val .null, .val (.int (1 : Int32)), .val (.int (0 : Int32)), .val (.int (1 : Int32)), .val (.int (0 : Int32)), .val (.int (0 : Int32))] [(.int (0 : Int32))])) _
            refine XS.iload X174.here hx rfl (hb hby at_121) rfl ?_
            show Steps p.tables e below (T174.setTop (mkF m 123 #[.val (.int flags), .val (.int c1), .val (.int c2), .val (.ref sa96), .val .null, .val (.int (1 : Int32)), .val (.int (0 : Int32)), .val (.int (1 : Int32)), .val (.int (0 : Int32)), .val (.int (0 : Int32))] [(.int (0 : Int32)), (.int (0 : Int32))])) _
            refine XS.icmpNo X174.here hx rfl (hb hby at_123) rfl (teq (by decide : (0 : Int32) = (0 : Int32))).2 ?_
            show Steps p.tables e below (T174.setTop (mkF m 126 #[.val (.int flags), .val (.int c1), .val (.int c2), .val (.ref sa96), .val .null, .val (.int (1 : Int32)), .val (.int (0 : Int32)), .val (.int (1 : Int32)), .val (.int (0 : Int32)), .val (.int (0 : Int32))] [])) _
            refine XS.iload X174.here hx rfl (hb hby at_126) rfl ?_
            show Steps p.tables e below (T174.setTop (mkF m 128 #[.val (.int flags), .val (.int c1), .val (.int c2), .val (.ref sa96), .val .null, .val (.int (1 : Int32)), .val (.int (0 : Int32)), .val (.int (1 : Int32)), .val (.int (0 : Int32)), .val (.int (0 : Int32))] [(.int (0 : Int32))])) _
            refine XS.iload X174.here hx rfl (hb hby at_128) rfl ?_
            show Steps p.tables e below (T174.setTop (mkF m 130 #[.val (.int flags), .val (.int c1), .val (.int c2), .val (.ref sa96), .val .null, .val (.int (1 : Int32)), .val (.int (0 : Int32)), .val (.int (1 : Int32)), .val (.int (0 : Int32)), .val (.int (0 : Int32))] [(.int (1 : Int32)), (.int (0 : Int32))])) _
            refine XS.ifNo X174.here hx rfl (hb hby at_130) rfl ((if0 _ _).trans (feq (by decide : ¬ ((1 : Int32) = (0 : Int32)))).1) ?_
            show Steps p.tables e below (T174.setTop (mkF m 133 #[.val (.int flags), .val (.int c1), .val (.int c2), .val (.ref sa96), .val .null, .val (.int (1 : Int32)), .val (.int (0 : Int32)), .val (.int (1 : Int32)), .val (.int (0 : Int32)), .val (.int (0 : Int32))] [(.int (0 : Int32))])) _
            refine XS.iload X174.here hx rfl (hb hby at_133) rfl ?_
            show Steps p.tables e below (T174.setTop (mkF m 135 #[.val (.int flags), .val (.int c1), .val (.int c2), .val (.ref sa96), .val .null, .val (.int (1 : Int32)), .val (.int (0 : Int32)), .val (.int (1 : Int32)), .val (.int (0 : Int32)), .val (.int (0 : Int32))] [(.int (0 : Int32)), (.int (0 : Int32))])) _
            refine XS.ifYes X174.here hx rfl (pc0 := 135) (pc' := 142) rfl (hb hby at_135) rfl ((if0 _ _).trans (teq (by decide : (0 : Int32) = (0 : Int32))).1) (by decide) (by decide) ?_
            show Steps p.tables e below (T174.setTop (mkF m 142 #[.val (.int flags), .val (.int c1), .val (.int c2), .val (.ref sa96), .val .null, .val (.int (1 : Int32)), .val (.int (0 : Int32)), .val (.int (1 : Int32)), .val (.int (0 : Int32)), .val (.int (0 : Int32))] [(.int (0 : Int32))])) _
            refine XS.iconst X174.here hx rfl (hb hby at_142) ?_
            show Steps p.tables e below (T174.setTop (mkF m 143 #[.val (.int flags), .val (.int c1), .val (.int c2), .val (.ref sa96), .val .null, .val (.int (1 : Int32)), .val (.int (0 : Int32)), .val (.int (1 : Int32)), .val (.int (0 : Int32)), .val (.int (0 : Int32))] [(.int (0 : Int32)), (.int (0 : Int32))])) _
            refine XS.icmpNo X174.here hx rfl (hb hby at_143) rfl (teq (by decide : (0 : Int32) = (0 : Int32))).2 ?_
            show Steps p.tables e below (T174.setTop (mkF m 146 #[.val (.int flags), .val (.int c1), .val (.int c2), .val (.ref sa96), .val .null, .val (.int (1 : Int32)), .val (.int (0 : Int32)), .val (.int (1 : Int32)), .val (.int (0 : Int32)), .val (.int (0 : Int32))] [])) _
            refine XS.iconst X174.here hx rfl (hb hby at_146) ?_
            show Steps p.tables e below (T174.setTop (mkF m 147 #[.val (.int flags), .val (.int c1), .val (.int c2), .val (.ref sa96), .val .null, .val (.int (1 : Int32)), .val (.int (0 : Int32)), .val (.int (1 : Int32)), .val (.int (0 : Int32)), .val (.int (0 : Int32))] [(.int (1 : Int32))])) _
            refine XS.goto X174.here hx rfl (pc0 := 147) (pc' := 151) rfl (hb hby at_147) (by decide) (by decide) ?_
            exact kt)
        obtain ⟨fs, hr, hrun, hended, hEnd⟩ := X174.leaveW hS96 (by rw [e174]; exact (Nat.le_refl _)) (v := some (.int (1 : Int32))) (fun h => by rw [Bd.returns] at h; cases h)
        refine ⟨_, _, pre176 _ ?_, hrun, hended, _, _, rfl, ?_, hEnd.1, hEnd.2.1, hEnd.2.2.1, hEnd.2.2.2.mono (by decide) (by decide)⟩
        · show Steps p.tables e below (T174.setTop (mkF m 151 #[.val (.int flags), .val (.int c1), .val (.int c2), .val (.ref sa96), .val .null, .val (.int (1 : Int32)), .val (.int (0 : Int32)), .val (.int (1 : Int32)), .val (.int (0 : Int32)), .val (.int (0 : Int32))] [(.int (1 : Int32))])) _
          exact retN X174 hx (t := .boolean) Bd.returns (by simp) (hb hby at_151) hr
        · show Q_own_rm0 Z flags c1 c2 cs aACCOUNT aADDRESS aPAIR h0 n0 _ T174.heap _
          rw [e174]
          exact ⟨rfl, N174⟩
  · -- null
    have pre177 : Goes p e below s₁ (entryFrame m #[(.int flags), (.int c1), (.int c2)] maxLocals) s₁ (mkF m 23 #[.val (.int flags), .val (.int c1), .val (.int c2), .unset, .unset, .unset, .unset, .unset, .unset, .unset] [(.int c1), (.int g2), (.int (1 : Int32))]) := fun t kt => pre8 t (by
        show Steps p.tables e below (s₁.setTop (mkF m 22 #[.val (.int flags), .val (.int c1), .val (.int c2), .unset, .unset, .unset, .unset, .unset, .unset, .unset] [(.int g2), (.int (1 : Int32))])) _
        refine XS.iloadN X0.here hx rfl (hb hby at_22) rfl ?_
        exact kt)
    obtain ⟨_, _, ⟨T178, L178, k178, n178⟩, -, X178, ⟨Lc178, hQ178, l178, y178, z178⟩, st178⟩ := Jvm.LawKit.callS X0 hx (y := (⟨"com/example/tallygate/tallygate/KeyTypeCanKeyPinLaw", "make", "(ZZI)Ljava/lang/String;"⟩ : MethodName)) hown (mvT hZ (hw _ (List.mem_of_getElem? (i := 0) rfl))) (mvT hZ (hw _ (List.mem_of_getElem? (i := 1) rfl))) (mvT hZ (hw _ (List.mem_of_getElem? (i := 2) rfl))) (mvT hZ (hw _ (List.mem_of_getElem? (i := 3) rfl))) (by decide) (backOf (W := 0) (own_makeN l Z a0 hw [] g2 c1 h0 n0 Z0 ) hZ (hw _ (List.mem_of_getElem? (i := 3) rfl)) (hw _ (List.mem_of_getElem? (i := 2) rfl)) (by decide) (by decide)) (g := (mkF m 23 #[.val (.int flags), .val (.int c1), .val (.int c2), .unset, .unset, .unset, .unset, .unset, .unset, .unset] [(.int c1), (.int g2), (.int (1 : Int32))])) rfl (by rw [hml]; rfl) (argsL := [(.int (1 : Int32)), (.int g2), (.int c1)]) (rest := []) (lenOf own_pd6 rfl) rfl (by show 2 * 0 + _ ≤ _; exact Nat.le_of_eq rfl) (hb hby at_23) (fun _ _ => ⟨rfl, e0, (by decide : 0 + 0 ≤ _), (by decide : 0 + 0 ≤ _)⟩)
    dsimp only [Pt.U, Pt.locs, Pt.cells, Pt.slots] at X178 l178 y178 z178 st178 hQ178
    subst l178 y178 z178
    obtain ⟨rfl, N178q, e178⟩ := hQ178
    have N178 := Fr.app N0 N178q
    have pre179 : Goes p e below s₁ (entryFrame m #[(.int flags), (.int c1), (.int c2)] maxLocals) T178 (mkF m 26 #[.val (.int flags), .val (.int c1), .val (.int c2), .unset, .unset, .unset, .unset, .unset, .unset, .unset] [.null]) := fun t kt => pre177 t (st178 t kt)
    have pre180 : Goes p e below s₁ (entryFrame m #[(.int flags), (.int c1), (.int c2)] maxLocals) T178 (mkF m 27 #[.val (.int flags), .val (.int c1), .val (.int c2), .val .null, .unset, .unset, .unset, .unset, .unset, .unset] []) := fun t kt => pre179 t (by
        show Steps p.tables e below (T178.setTop (mkF m 26 #[.val (.int flags), .val (.int c1), .val (.int c2), .unset, .unset, .unset, .unset, .unset, .unset, .unset] [.null])) _
        refine XS.astoreN X178.here hx rfl (hb hby at_26) rfl rfl (l' := #[.val (.int flags), .val (.int c1), .val (.int c2), .val .null, .unset, .unset, .unset, .unset, .unset, .unset]) rfl ?_
        exact kt)
    obtain ⟨g3, hg3, pre182⟩ : ∃ (g3 : Int32), (g3 = (0 : Int32) ∨ g3 = (1 : Int32)) ∧ Goes p e below s₁ (entryFrame m #[(.int flags), (.int c1), (.int c2)] maxLocals) T178 (mkF m 38 #[.val (.int flags), .val (.int c1), .val (.int c2), .val .null, .unset, .unset, .unset, .unset, .unset, .unset] [(.int g3)]) := by
      have pre183 : Goes p e below s₁ (entryFrame m #[(.int flags), (.int c1), (.int c2)] maxLocals) T178 (mkF m 30 #[.val (.int flags), .val (.int c1), .val (.int c2), .val .null, .unset, .unset, .unset, .unset, .unset, .unset] [(.int (flags &&& (4 : Int32)))]) := fun t kt => pre180 t (by
          show Steps p.tables e below (T178.setTop (mkF m 27 #[.val (.int flags), .val (.int c1), .val (.int c2), .val .null, .unset, .unset, .unset, .unset, .unset, .unset] [])) _
          refine XS.iloadN X178.here hx rfl (hb hby at_27) rfl ?_
          show Steps p.tables e below (T178.setTop (mkF m 28 #[.val (.int flags), .val (.int c1), .val (.int c2), .val .null, .unset, .unset, .unset, .unset, .unset, .unset] [(.int flags)])) _
          refine XS.iconst X178.here hx rfl (hb hby at_28) ?_
          show Steps p.tables e below (T178.setTop (mkF m 29 #[.val (.int flags), .val (.int c1), .val (.int c2), .val .null, .unset, .unset, .unset, .unset, .unset, .unset] [(.int (4 : Int32)), (.int flags)])) _
          refine XS.iand X178.here hx rfl (hb hby at_29) rfl ?_
          exact kt)
      by_cases hc30_184 : (flags &&& (4 : Int32)) = (0 : Int32)
      · -- yes at pc 30: 
        have pre185 : Goes p e below s₁ (entryFrame m #[(.int flags), (.int c1), (.int c2)] maxLocals) T178 (mkF m 38 #[.val (.int flags), .val (.int c1), .val (.int c2), .val .null, .unset, .unset, .unset, .unset, .unset, .unset] [(.int (0 : Int32))]) := fun t kt => pre183 t (by
            show Steps p.tables e below (T178.setTop (mkF m 30 #[.val (.int flags), .val (.int c1), .val (.int c2), .val .null, .unset, .unset, .unset, .unset, .unset, .unset] [(.int (flags &&& (4 : Int32)))])) _
            refine XS.ifYes X178.here hx rfl (pc0 := 30) (pc' := 37) rfl (hb hby at_30) rfl ((if0 _ _).trans (teq hc30_184).1) (by decide) (by decide) ?_
            show Steps p.tables e below (T178.setTop (mkF m 37 #[.val (.int flags), .val (.int c1), .val (.int c2), .val .null, .unset, .unset, .unset, .unset, .unset, .unset] [])) _
            refine XS.iconst X178.here hx rfl (hb hby at_37) ?_
            exact kt)
        exact ⟨(0 : Int32), (Or.inl rfl), pre185⟩
      · -- no at pc 30: 
        have pre186 : Goes p e below s₁ (entryFrame m #[(.int flags), (.int c1), (.int c2)] maxLocals) T178 (mkF m 38 #[.val (.int flags), .val (.int c1), .val (.int c2), .val .null, .unset, .unset, .unset, .unset, .unset, .unset] [(.int (1 : Int32))]) := fun t kt => pre183 t (by
            show Steps p.tables e below (T178.setTop (mkF m 30 #[.val (.int flags), .val (.int c1), .val (.int c2), .val .null, .unset, .unset, .unset, .unset, .unset, .unset] [(.int (flags &&& (4 : Int32)))])) _
            refine XS.ifNo X178.here hx rfl (hb hby at_30) rfl ((if0 _ _).trans (feq hc30_184).1) ?_
            show Steps p.tables e below (T178.setTop (mkF m 33 #[.val (.int flags), .val (.int c1), .val (.int c2), .val .null, .unset, .unset, .unset, .unset, .unset, .unset] [])) _
            refine XS.iconst X178.here hx rfl (hb hby at_33) ?_
            show Steps p.tables e below (T178.setTop (mkF m 34 #[.val (.int flags), .val (.int c1), .val (.int c2), .val .null, .unset, .unset, .unset, .unset, .unset, .unset] [(.int (1 : Int32))])) _
            refine XS.goto X178.here hx rfl (pc0 := 34) (pc' := 38) rfl (hb hby at_34) (by decide) (by decide) ?_
            exact kt)
        exact ⟨(1 : Int32), (Or.inr rfl), pre186⟩
    obtain ⟨g4, hg4, pre188⟩ : ∃ (g4 : Int32), (g4 = (0 : Int32) ∨ g4 = (1 : Int32)) ∧ Goes p e below s₁ (entryFrame m #[(.int flags), (.int c1), (.int c2)] maxLocals) T178 (mkF m 50 #[.val (.int flags), .val (.int c1), .val (.int c2), .val .null, .unset, .unset, .unset, .unset, .unset, .unset] [(.int g4), (.int g3)]) := by
      have pre189 : Goes p e below s₁ (entryFrame m #[(.int flags), (.int c1), (.int c2)] maxLocals) T178 (mkF m 42 #[.val (.int flags), .val (.int c1), .val (.int c2), .val .null, .unset, .unset, .unset, .unset, .unset, .unset] [(.int (flags &&& (8 : Int32))), (.int g3)]) := fun t kt => pre182 t (by
          show Steps p.tables e below (T178.setTop (mkF m 38 #[.val (.int flags), .val (.int c1), .val (.int c2), .val .null, .unset, .unset, .unset, .unset, .unset, .unset] [(.int g3)])) _
          refine XS.iloadN X178.here hx rfl (hb hby at_38) rfl ?_
          show Steps p.tables e below (T178.setTop (mkF m 39 #[.val (.int flags), .val (.int c1), .val (.int c2), .val .null, .unset, .unset, .unset, .unset, .unset, .unset] [(.int flags), (.int g3)])) _
          refine XS.bipush X178.here hx rfl (hb hby at_39) ?_
          show Steps p.tables e below (T178.setTop (mkF m 41 #[.val (.int flags), .val (.int c1), .val (.int c2), .val .null, .unset, .unset, .unset, .unset, .unset, .unset] [(.int (8 : Int32)), (.int flags), (.int g3)])) _
          refine XS.iand X178.here hx rfl (hb hby at_41) rfl ?_
          exact kt)
      by_cases hc42_190 : (flags &&& (8 : Int32)) = (0 : Int32)
      · -- yes at pc 42: 
        have pre191 : Goes p e below s₁ (entryFrame m #[(.int flags), (.int c1), (.int c2)] maxLocals) T178 (mkF m 50 #[.val (.int flags), .val (.int c1), .val (.int c2), .val .null, .unset, .unset, .unset, .unset, .unset, .unset] [(.int (0 : Int32)), (.int g3)]) := fun t kt => pre189 t (by
            show Steps p.tables e below (T178.setTop (mkF m 42 #[.val (.int flags), .val (.int c1), .val (.int c2), .val .null, .unset, .unset, .unset, .unset, .unset, .unset] [(.int (flags &&& (8 : Int32))), (.int g3)])) _
            refine XS.ifYes X178.here hx rfl (pc0 := 42) (pc' := 49) rfl (hb hby at_42) rfl ((if0 _ _).trans (teq hc42_190).1) (by decide) (by decide) ?_
            show Steps p.tables e below (T178.setTop (mkF m 49 #[.val (.int flags), .val (.int c1), .val (.int c2), .val .null, .unset, .unset, .unset, .unset, .unset, .unset] [(.int g3)])) _
            refine XS.iconst X178.here hx rfl (hb hby at_49) ?_
            exact kt)
        exact ⟨(0 : Int32), (Or.inl rfl), pre191⟩
      · -- no at pc 42: 
        have pre192 : Goes p e below s₁ (entryFrame m #[(.int flags), (.int c1), (.int c2)] maxLocals) T178 (mkF m 50 #[.val (.int flags), .val (.int c1), .val (.int c2), .val .null, .unset, .unset, .unset, .unset, .unset, .unset] [(.int (1 : Int32)), (.int g3)]) := fun t kt => pre189 t (by
            show Steps p.tables e below (T178.setTop (mkF m 42 #[.val (.int flags), .val (.int c1), .val (.int c2), .val .null, .unset, .unset, .unset, .unset, .unset, .unset] [(.int (flags &&& (8 : Int32))), (.int g3)])) _
            refine XS.ifNo X178.here hx rfl (hb hby at_42) rfl ((if0 _ _).trans (feq hc42_190).1) ?_
            show Steps p.tables e below (T178.setTop (mkF m 45 #[.val (.int flags), .val (.int c1), .val (.int c2), .val .null, .unset, .unset, .unset, .unset, .unset, .unset] [(.int g3)])) _
            refine XS.iconst X178.here hx rfl (hb hby at_45) ?_
            show Steps p.tables e below (T178.setTop (mkF m 46 #[.val (.int flags), .val (.int c1), .val (.int c2), .val .null, .unset, .unset, .unset, .unset, .unset, .unset] [(.int (1 : Int32)), (.int g3)])) _
            refine XS.goto X178.here hx rfl (pc0 := 46) (pc' := 50) rfl (hb hby at_46) (by decide) (by decide) ?_
            exact kt)
        exact ⟨(1 : Int32), (Or.inr rfl), pre192⟩
    rcases hg3 with rfl | rfl
    · rcases hg4 with rfl | rfl
      · -- S
        have pre193 : Goes p e below s₁ (entryFrame m #[(.int flags), (.int c1), (.int c2)] maxLocals) T178 (mkF m 51 #[.val (.int flags), .val (.int c1), .val (.int c2), .val .null, .unset, .unset, .unset, .unset, .unset, .unset] [(.int c2), (.int (0 : Int32)), (.int (0 : Int32))]) := fun t kt => pre188 t (by
            show Steps p.tables e below (T178.setTop (mkF m 50 #[.val (.int flags), .val (.int c1), .val (.int c2), .val .null, .unset, .unset, .unset, .unset, .unset, .unset] [(.int (0 : Int32)), (.int (0 : Int32))])) _
            refine XS.iloadN X178.here hx rfl (hb hby at_50) rfl ?_
            exact kt)
        obtain ⟨_, _, ⟨T194, L194, k194, n194⟩, -, X194, ⟨Lc194, hQ194, l194, y194, z194⟩, st194⟩ := Jvm.LawKit.callS X178 hx (y := (⟨"com/example/tallygate/tallygate/KeyTypeCanKeyPinLaw", "make", "(ZZI)Ljava/lang/String;"⟩ : MethodName)) hown (mvT hZ (hw _ (List.mem_of_getElem? (i := 0) rfl))) (mvT hZ (hw _ (List.mem_of_getElem? (i := 1) rfl))) (mvT hZ (hw _ (List.mem_of_getElem? (i := 2) rfl))) (mvT hZ (hw _ (List.mem_of_getElem? (i := 3) rfl))) (by decide) (backOf (W := 0) (own_makeS l Z a0 hw [] c2 cs h0 n0 Z0 (S_CS.ext O0.2) hcs) hZ (hw _ (List.mem_of_getElem? (i := 3) rfl)) (hw _ (List.mem_of_getElem? (i := 2) rfl)) (by decide) (by decide)) (g := (mkF m 51 #[.val (.int flags), .val (.int c1), .val (.int c2), .val .null, .unset, .unset, .unset, .unset, .unset, .unset] [(.int c2), (.int (0 : Int32)), (.int (0 : Int32))])) rfl (by rw [hml]; rfl) (argsL := [(.int (0 : Int32)), (.int (0 : Int32)), (.int c2)]) (rest := []) (lenOf own_pd6 rfl) rfl (by show 2 * 0 + _ ≤ _; exact Nat.le_of_eq rfl) (hb hby at_51) (fun _ _ => ⟨rfl, e178, (by decide : 0 + 3 ≤ _), (by decide : 0 + 8 ≤ _)⟩)
        dsimp only [Pt.U, Pt.locs, Pt.cells, Pt.slots] at X194 l194 y194 z194 st194 hQ194
        subst l194 y194 z194
        obtain ⟨sa194, rfl, N194q, K194q⟩ := hQ194
        have N194 := Fr.app N178 N194q
        have KC194 : Keep h0 T194.heap [] := (Keep.refl h0 []).trans K194q all0
        have pre195 : Goes p e below s₁ (entryFrame m #[(.int flags), (.int c1), (.int c2)] maxLocals) T194 (mkF m 54 #[.val (.int flags), .val (.int c1), .val (.int c2), .val .null, .unset, .unset, .unset, .unset, .unset, .unset] [(.ref sa194)]) := fun t kt => pre193 t (st194 t kt)
        have pre196 : Goes p e below s₁ (entryFrame m #[(.int flags), (.int c1), (.int c2)] maxLocals) T194 (mkF m 79 #[.val (.int flags), .val (.int c1), .val (.int c2), .val .null, .val (.ref sa194), .val (.int (0 : Int32)), .val (.int (1 : Int32)), .unset, .unset, .unset] []) := fun t kt => pre195 t (by
            show Steps p.tables e below (T194.setTop (mkF m 54 #[.val (.int flags), .val (.int c1), .val (.int c2), .val .null, .unset, .unset, .unset, .unset, .unset, .unset] [(.ref sa194)])) _
            refine XS.astore X194.here hx rfl (hb hby at_54) rfl rfl (l' := #[.val (.int flags), .val (.int c1), .val (.int c2), .val .null, .val (.ref sa194), .unset, .unset, .unset, .unset, .unset]) rfl ?_
            show Steps p.tables e below (T194.setTop (mkF m 56 #[.val (.int flags), .val (.int c1), .val (.int c2), .val .null, .val (.ref sa194), .unset, .unset, .unset, .unset, .unset] [])) _
            refine XS.aloadN X194.here hx rfl (hb hby at_56) rfl rfl ?_
            show Steps p.tables e below (T194.setTop (mkF m 57 #[.val (.int flags), .val (.int c1), .val (.int c2), .val .null, .val (.ref sa194), .unset, .unset, .unset, .unset, .unset] [.null])) _
            refine XS.ifnullYes X194.here hx rfl (pc0 := 57) (pc' := 64) rfl (hb hby at_57) rfl (by decide) (by decide) ?_
            show Steps p.tables e below (T194.setTop (mkF m 64 #[.val (.int flags), .val (.int c1), .val (.int c2), .val .null, .val (.ref sa194), .unset, .unset, .unset, .unset, .unset] [])) _
            refine XS.iconst X194.here hx rfl (hb hby at_64) ?_
            show Steps p.tables e below (T194.setTop (mkF m 65 #[.val (.int flags), .val (.int c1), .val (.int c2), .val .null, .val (.ref sa194), .unset, .unset, .unset, .unset, .unset] [(.int (0 : Int32))])) _
            refine XS.istore X194.here hx rfl (hb hby at_65) rfl (l' := #[.val (.int flags), .val (.int c1), .val (.int c2), .val .null, .val (.ref sa194), .val (.int (0 : Int32)), .unset, .unset, .unset, .unset]) rfl ?_
            show Steps p.tables e below (T194.setTop (mkF m 67 #[.val (.int flags), .val (.int c1), .val (.int c2), .val .null, .val (.ref sa194), .val (.int (0 : Int32)), .unset, .unset, .unset, .unset] [])) _
            refine XS.aload X194.here hx rfl (hb hby at_67) rfl rfl ?_
            show Steps p.tables e below (T194.setTop (mkF m 69 #[.val (.int flags), .val (.int c1), .val (.int c2), .val .null, .val (.ref sa194), .val (.int (0 : Int32)), .unset, .unset, .unset, .unset] [(.ref sa194)])) _
            refine XS.ifnullNo X194.here hx rfl (hb hby at_69) rfl ?_
            show Steps p.tables e below (T194.setTop (mkF m 72 #[.val (.int flags), .val (.int c1), .val (.int c2), .val .null, .val (.ref sa194), .val (.int (0 : Int32)), .unset, .unset, .unset, .unset] [])) _
            refine XS.iconst X194.here hx rfl (hb hby at_72) ?_
            show Steps p.tables e below (T194.setTop (mkF m 73 #[.val (.int flags), .val (.int c1), .val (.int c2), .val .null, .val (.ref sa194), .val (.int (0 : Int32)), .unset, .unset, .unset, .unset] [(.int (1 : Int32))])) _
            refine XS.goto X194.here hx rfl (pc0 := 73) (pc' := 77) rfl (hb hby at_73) (by decide) (by decide) ?_
            show Steps p.tables e below (T194.setTop (mkF m 77 #[.val (.int flags), .val (.int c1), .val (.int c2), .val .null, .val (.ref sa194), .val (.int (0 : Int32)), .unset, .unset, .unset, .unset] [(.int (1 : Int32))])) _
            refine XS.istore X194.here hx rfl (hb hby at_77) rfl (l' := #[.val (.int flags), .val (.int c1), .val (.int c2), .val .null, .val (.ref sa194), .val (.int (0 : Int32)), .val (.int (1 : Int32)), .unset, .unset, .unset]) rfl ?_
            exact kt)
        obtain ⟨T197, X197, e197, st197⟩ := getS2 X194 hx hZ hown (host := "") (Or.inl (hw _ (List.mem_of_getElem? (i := 34) rfl))) Via.refl rfl (S_ACCOUNT.ext (O0.keep K194q all0).2) (g := (mkF m 79 #[.val (.int flags), .val (.int c1), .val (.int c2), .val .null, .val (.ref sa194), .val (.int (0 : Int32)), .val (.int (1 : Int32)), .unset, .unset, .unset] [])) rfl (hb hby at_79)
        have pre198 : Goes p e below s₁ (entryFrame m #[(.int flags), (.int c1), (.int c2)] maxLocals) T197 (mkF m 82 #[.val (.int flags), .val (.int c1), .val (.int c2), .val .null, .val (.ref sa194), .val (.int (0 : Int32)), .val (.int (1 : Int32)), .unset, .unset, .unset] [(.ref aACCOUNT)]) := fun t kt => pre196 t (st197 t kt)
        have pre199 : Goes p e below s₁ (entryFrame m #[(.int flags), (.int c1), (.int c2)] maxLocals) T197 (mkF m 85 #[.val (.int flags), .val (.int c1), .val (.int c2), .val .null, .val (.ref sa194), .val (.int (0 : Int32)), .val (.int (1 : Int32)), .unset, .unset, .unset] [(.ref sa194), .null, (.ref aACCOUNT)]) := fun t kt => pre198 t (by
            show Steps p.tables e below (T197.setTop (mkF m 82 #[.val (.int flags), .val (.int c1), .val (.int c2), .val .null, .val (.ref sa194), .val (.int (0 : Int32)), .val (.int (1 : Int32)), .unset, .unset, .unset] [(.ref aACCOUNT)])) _
            refine XS.aloadN X197.here hx rfl (hb hby at_82) rfl rfl ?_
            show Steps p.tables e below (T197.setTop (mkF m 83 #[.val (.int flags), .val (.int c1), .val (.int c2), .val .null, .val (.ref sa194), .val (.int (0 : Int32)), .val (.int (1 : Int32)), .unset, .unset, .unset] [.null, (.ref aACCOUNT)])) _
            refine XS.aload X197.here hx rfl (hb hby at_83) rfl rfl ?_
            exact kt)
        obtain ⟨cq200, kq200, q200a, q200b, q200c⟩ := isOf hZ e197 (E_ACCOUNT.keep K194q)
        obtain ⟨_, _, ⟨T200, L200, k200, n200⟩, -, X200, ⟨Lc200, hQ200, l200, y200, z200⟩, st200⟩ := X197.virtualBack hx (y := (⟨"com/example/tallygate/tallygate/KeyType", "canKey", "(Ljava/lang/String;Ljava/lang/String;)Z"⟩ : MethodName)) (z := (⟨"com/example/tallygate/tallygate/KeyType", "canKey", "(Ljava/lang/String;Ljava/lang/String;)Z"⟩ : MethodName)) hown (mvT hZ (hw _ (List.mem_of_getElem? (i := 37) rfl))) (mvT hZ (hw _ (List.mem_of_getElem? (i := 38) rfl))) (notFace_of_selects (args := #[]) (mvT hZ (hw _ (List.mem_of_getElem? (i := 40) rfl)))) (mvT hZ (hw _ (List.mem_of_getElem? (i := 40) rfl))) (mvT hZ (hw _ (List.mem_of_getElem? (i := 39) rfl))) (by decide) (backOf (W := 0) (own_canKey001 l Z a0 hw [] aACCOUNT sa194 T194.heap n0 (Nat.le_trans Z0 K194q.1) (E_ACCOUNT.keep K194q) (O_ACCOUNT.keep K194q nin0)) hZ (hw _ (List.mem_of_getElem? (i := 41) rfl)) (hw _ (List.mem_of_getElem? (i := 35) rfl)) (by decide) (by decide)) q200a q200c (g := (mkF m 85 #[.val (.int flags), .val (.int c1), .val (.int c2), .val .null, .val (.ref sa194), .val (.int (0 : Int32)), .val (.int (1 : Int32)), .unset, .unset, .unset] [(.ref sa194), .null, (.ref aACCOUNT)])) rfl (by rw [hml]; rfl) (Steps.refl _) (argsL := [.null, (.ref sa194)]) (rest := []) (lenOf own_pd7 rfl) rfl (by show 2 * 0 + _ ≤ _; exact Nat.le_of_eq rfl) (hb hby at_85) (fun _ _ => ⟨rfl, e197, (by decide : 3 + 0 ≤ _), (by decide : 8 + 0 ≤ _)⟩)
        dsimp only [Pt.U, Pt.locs, Pt.cells, Pt.slots] at X200 l200 y200 z200 st200 hQ200
        subst l200 y200 z200
        obtain ⟨rfl, N200q, e200⟩ := hQ200
        have N200 := Fr.app N194 N200q
        have pre201 : Goes p e below s₁ (entryFrame m #[(.int flags), (.int c1), (.int c2)] maxLocals) T200 (mkF m 88 #[.val (.int flags), .val (.int c1), .val (.int c2), .val .null, .val (.ref sa194), .val (.int (0 : Int32)), .val (.int (1 : Int32)), .unset, .unset, .unset] [(.int (0 : Int32))]) := fun t kt => pre199 t (st200.trans kt)
        have pre202 : Goes p e below s₁ (entryFrame m #[(.int flags), (.int c1), (.int c2)] maxLocals) T200 (mkF m 90 #[.val (.int flags), .val (.int c1), .val (.int c2), .val .null, .val (.ref sa194), .val (.int (0 : Int32)), .val (.int (1 : Int32)), .val (.int (0 : Int32)), .unset, .unset] []) := fun t kt => pre201 t (by
            show Steps p.tables e below (T200.setTop (mkF m 88 #[.val (.int flags), .val (.int c1), .val (.int c2), .val .null, .val (.ref sa194), .val (.int (0 : Int32)), .val (.int (1 : Int32)), .unset, .unset, .unset] [(.int (0 : Int32))])) _
            refine XS.istore X200.here hx rfl (hb hby at_88) rfl (l' := #[.val (.int flags), .val (.int c1), .val (.int c2), .val .null, .val (.ref sa194), .val (.int (0 : Int32)), .val (.int (1 : Int32)), .val (.int (0 : Int32)), .unset, .unset]) rfl ?_
            exact kt)
        obtain ⟨T203, X203, e203, st203⟩ := getS2 X200 hx hZ hown (host := "") (Or.inl (hw _ (List.mem_of_getElem? (i := 51) rfl))) Via.refl e200 (S_ADDRESS.ext (O0.keep K194q all0).2) (g := (mkF m 90 #[.val (.int flags), .val (.int c1), .val (.int c2), .val .null, .val (.ref sa194), .val (.int (0 : Int32)), .val (.int (1 : Int32)), .val (.int (0 : Int32)), .unset, .unset] [])) rfl (hb hby at_90)
        have pre204 : Goes p e below s₁ (entryFrame m #[(.int flags), (.int c1), (.int c2)] maxLocals) T203 (mkF m 93 #[.val (.int flags), .val (.int c1), .val (.int c2), .val .null, .val (.ref sa194), .val (.int (0 : Int32)), .val (.int (1 : Int32)), .val (.int (0 : Int32)), .unset, .unset] [(.ref aADDRESS)]) := fun t kt => pre202 t (st203 t kt)
        have pre205 : Goes p e below s₁ (entryFrame m #[(.int flags), (.int c1), (.int c2)] maxLocals) T203 (mkF m 96 #[.val (.int flags), .val (.int c1), .val (.int c2), .val .null, .val (.ref sa194), .val (.int (0 : Int32)), .val (.int (1 : Int32)), .val (.int (0 : Int32)), .unset, .unset] [(.ref sa194), .null, (.ref aADDRESS)]) := fun t kt => pre204 t (by
            show Steps p.tables e below (T203.setTop (mkF m 93 #[.val (.int flags), .val (.int c1), .val (.int c2), .val .null, .val (.ref sa194), .val (.int (0 : Int32)), .val (.int (1 : Int32)), .val (.int (0 : Int32)), .unset, .unset] [(.ref aADDRESS)])) _
            refine XS.aloadN X203.here hx rfl (hb hby at_93) rfl rfl ?_
            show Steps p.tables e below (T203.setTop (mkF m 94 #[.val (.int flags), .val (.int c1), .val (.int c2), .val .null, .val (.ref sa194), .val (.int (0 : Int32)), .val (.int (1 : Int32)), .val (.int (0 : Int32)), .unset, .unset] [.null, (.ref aADDRESS)])) _
            refine XS.aload X203.here hx rfl (hb hby at_94) rfl rfl ?_
            exact kt)
        obtain ⟨cq206, kq206, q206a, q206b, q206c⟩ := isOf hZ e203 (E_ADDRESS.keep K194q)
        obtain ⟨_, _, ⟨T206, L206, k206, n206⟩, -, X206, ⟨Lc206, hQ206, l206, y206, z206⟩, st206⟩ := X203.virtualBack hx (y := (⟨"com/example/tallygate/tallygate/KeyType", "canKey", "(Ljava/lang/String;Ljava/lang/String;)Z"⟩ : MethodName)) (z := (⟨"com/example/tallygate/tallygate/KeyType", "canKey", "(Ljava/lang/String;Ljava/lang/String;)Z"⟩ : MethodName)) hown (mvT hZ (hw _ (List.mem_of_getElem? (i := 37) rfl))) (mvT hZ (hw _ (List.mem_of_getElem? (i := 38) rfl))) (notFace_of_selects (args := #[]) (mvT hZ (hw _ (List.mem_of_getElem? (i := 40) rfl)))) (mvT hZ (hw _ (List.mem_of_getElem? (i := 40) rfl))) (mvT hZ (hw _ (List.mem_of_getElem? (i := 39) rfl))) (by decide) (backOf (W := 0) (own_canKey101 l Z a0 hw [] aADDRESS sa194 T194.heap n0 (Nat.le_trans Z0 K194q.1) (E_ADDRESS.keep K194q) (O_ADDRESS.keep K194q nin0)) hZ (hw _ (List.mem_of_getElem? (i := 41) rfl)) (hw _ (List.mem_of_getElem? (i := 35) rfl)) (by decide) (by decide)) q206a q206c (g := (mkF m 96 #[.val (.int flags), .val (.int c1), .val (.int c2), .val .null, .val (.ref sa194), .val (.int (0 : Int32)), .val (.int (1 : Int32)), .val (.int (0 : Int32)), .unset, .unset] [(.ref sa194), .null, (.ref aADDRESS)])) rfl (by rw [hml]; rfl) (Steps.refl _) (argsL := [.null, (.ref sa194)]) (rest := []) (lenOf own_pd7 rfl) rfl (by show 2 * 0 + _ ≤ _; exact Nat.le_of_eq rfl) (hb hby at_96) (fun _ _ => ⟨rfl, e203, (by decide : 3 + 0 ≤ _), (by decide : 8 + 0 ≤ _)⟩)
        dsimp only [Pt.U, Pt.locs, Pt.cells, Pt.slots] at X206 l206 y206 z206 st206 hQ206
        subst l206 y206 z206
        obtain ⟨rfl, N206q, e206⟩ := hQ206
        have N206 := Fr.app N200 N206q
        have pre207 : Goes p e below s₁ (entryFrame m #[(.int flags), (.int c1), (.int c2)] maxLocals) T206 (mkF m 99 #[.val (.int flags), .val (.int c1), .val (.int c2), .val .null, .val (.ref sa194), .val (.int (0 : Int32)), .val (.int (1 : Int32)), .val (.int (0 : Int32)), .unset, .unset] [(.int (1 : Int32))]) := fun t kt => pre205 t (st206.trans kt)
        have pre208 : Goes p e below s₁ (entryFrame m #[(.int flags), (.int c1), (.int c2)] maxLocals) T206 (mkF m 101 #[.val (.int flags), .val (.int c1), .val (.int c2), .val .null, .val (.ref sa194), .val (.int (0 : Int32)), .val (.int (1 : Int32)), .val (.int (0 : Int32)), .val (.int (1 : Int32)), .unset] []) := fun t kt => pre207 t (by
            show Steps p.tables e below (T206.setTop (mkF m 99 #[.val (.int flags), .val (.int c1), .val (.int c2), .val .null, .val (.ref sa194), .val (.int (0 : Int32)), .val (.int (1 : Int32)), .val (.int (0 : Int32)), .unset, .unset] [(.int (1 : Int32))])) _
            refine XS.istore X206.here hx rfl (hb hby at_99) rfl (l' := #[.val (.int flags), .val (.int c1), .val (.int c2), .val .null, .val (.ref sa194), .val (.int (0 : Int32)), .val (.int (1 : Int32)), .val (.int (0 : Int32)), .val (.int (1 : Int32)), .unset]) rfl ?_
            exact kt)
        obtain ⟨T209, X209, e209, st209⟩ := getS2 X206 hx hZ hown (host := "") (Or.inl (hw _ (List.mem_of_getElem? (i := 53) rfl))) Via.refl e206 (S_PAIR.ext (O0.keep K194q all0).2) (g := (mkF m 101 #[.val (.int flags), .val (.int c1), .val (.int c2), .val .null, .val (.ref sa194), .val (.int (0 : Int32)), .val (.int (1 : Int32)), .val (.int (0 : Int32)), .val (.int (1 : Int32)), .unset] [])) rfl (hb hby at_101)
        have pre210 : Goes p e below s₁ (entryFrame m #[(.int flags), (.int c1), (.int c2)] maxLocals) T209 (mkF m 104 #[.val (.int flags), .val (.int c1), .val (.int c2), .val .null, .val (.ref sa194), .val (.int (0 : Int32)), .val (.int (1 : Int32)), .val (.int (0 : Int32)), .val (.int (1 : Int32)), .unset] [(.ref aPAIR)]) := fun t kt => pre208 t (st209 t kt)
        have pre211 : Goes p e below s₁ (entryFrame m #[(.int flags), (.int c1), (.int c2)] maxLocals) T209 (mkF m 107 #[.val (.int flags), .val (.int c1), .val (.int c2), .val .null, .val (.ref sa194), .val (.int (0 : Int32)), .val (.int (1 : Int32)), .val (.int (0 : Int32)), .val (.int (1 : Int32)), .unset] [(.ref sa194), .null, (.ref aPAIR)]) := fun t kt => pre210 t (by
            show Steps p.tables e below (T209.setTop (mkF m 104 #[.val (.int flags), .val (.int c1), .val (.int c2), .val .null, .val (.ref sa194), .val (.int (0 : Int32)), .val (.int (1 : Int32)), .val (.int (0 : Int32)), .val (.int (1 : Int32)), .unset] [(.ref aPAIR)])) _
            refine XS.aloadN X209.here hx rfl (hb hby at_104) rfl rfl ?_
            show Steps p.tables e below (T209.setTop (mkF m 105 #[.val (.int flags), .val (.int c1), .val (.int c2), .val .null, .val (.ref sa194), .val (.int (0 : Int32)), .val (.int (1 : Int32)), .val (.int (0 : Int32)), .val (.int (1 : Int32)), .unset] [.null, (.ref aPAIR)])) _
            refine XS.aload X209.here hx rfl (hb hby at_105) rfl rfl ?_
            exact kt)
        obtain ⟨cq212, kq212, q212a, q212b, q212c⟩ := isOf hZ e209 (E_PAIR.keep K194q)
        obtain ⟨_, _, ⟨T212, L212, k212, n212⟩, -, X212, ⟨Lc212, hQ212, l212, y212, z212⟩, st212⟩ := X209.virtualBack hx (y := (⟨"com/example/tallygate/tallygate/KeyType", "canKey", "(Ljava/lang/String;Ljava/lang/String;)Z"⟩ : MethodName)) (z := (⟨"com/example/tallygate/tallygate/KeyType", "canKey", "(Ljava/lang/String;Ljava/lang/String;)Z"⟩ : MethodName)) hown (mvT hZ (hw _ (List.mem_of_getElem? (i := 37) rfl))) (mvT hZ (hw _ (List.mem_of_getElem? (i := 38) rfl))) (notFace_of_selects (args := #[]) (mvT hZ (hw _ (List.mem_of_getElem? (i := 40) rfl)))) (mvT hZ (hw _ (List.mem_of_getElem? (i := 40) rfl))) (mvT hZ (hw _ (List.mem_of_getElem? (i := 39) rfl))) (by decide) (backOf (W := 0) (own_canKey201 l Z a0 hw [] aPAIR sa194 T194.heap n0 (Nat.le_trans Z0 K194q.1) (E_PAIR.keep K194q) (O_PAIR.keep K194q nin0)) hZ (hw _ (List.mem_of_getElem? (i := 41) rfl)) (hw _ (List.mem_of_getElem? (i := 35) rfl)) (by decide) (by decide)) q212a q212c (g := (mkF m 107 #[.val (.int flags), .val (.int c1), .val (.int c2), .val .null, .val (.ref sa194), .val (.int (0 : Int32)), .val (.int (1 : Int32)), .val (.int (0 : Int32)), .val (.int (1 : Int32)), .unset] [(.ref sa194), .null, (.ref aPAIR)])) rfl (by rw [hml]; rfl) (Steps.refl _) (argsL := [.null, (.ref sa194)]) (rest := []) (lenOf own_pd7 rfl) rfl (by show 2 * 0 + _ ≤ _; exact Nat.le_of_eq rfl) (hb hby at_107) (fun _ _ => ⟨rfl, e209, (by decide : 3 + 0 ≤ _), (by decide : 8 + 0 ≤ _)⟩)
        dsimp only [Pt.U, Pt.locs, Pt.cells, Pt.slots] at X212 l212 y212 z212 st212 hQ212
        subst l212 y212 z212
        obtain ⟨rfl, N212q, e212⟩ := hQ212
        have N212 := Fr.app N206 N212q
        have pre213 : Goes p e below s₁ (entryFrame m #[(.int flags), (.int c1), (.int c2)] maxLocals) T212 (mkF m 110 #[.val (.int flags), .val (.int c1), .val (.int c2), .val .null, .val (.ref sa194), .val (.int (0 : Int32)), .val (.int (1 : Int32)), .val (.int (0 : Int32)), .val (.int (1 : Int32)), .unset] [(.int (0 : Int32))]) := fun t kt => pre211 t (st212.trans kt)
        have pre214 : Goes p e below s₁ (entryFrame m #[(.int flags), (.int c1), (.int c2)] maxLocals) T212 (mkF m 151 #[.val (.int flags), .val (.int c1), .val (.int c2), .val .null, .val (.ref sa194), .val (.int (0 : Int32)), .val (.int (1 : Int32)), .val (.int (0 : Int32)), .val (.int (1 : Int32)), .val (.int (0 : Int32))] [(.int (1 : Int32))]) := fun t kt => pre213 t (by
            show Steps p.tables e below (T212.setTop (mkF m 110 #[.val (.int flags), .val (.int c1), .val (.int c2), .val .null, .val (.ref sa194), .val (.int (0 : Int32)), .val (.int (1 : Int32)), .val (.int (0 : Int32)), .val (.int (1 : Int32)), .unset] [(.int (0 : Int32))])) _
            refine XS.istore X212.here hx rfl (hb hby at_110) rfl (l' := #[.val (.int flags), .val (.int c1), .val (.int c2), .val .null, .val (.ref sa194), .val (.int (0 : Int32)), .val (.int (1 : Int32)), .val (.int (0 : Int32)), .val (.int (1 : Int32)), .val (.int (0 : Int32))]) rfl ?_
            show Steps p.tables e below (T212.setTop (mkF m 112 #[.val (.int flags), .val (.int c1), .val (.int c2), .val .null, .val (.ref sa194), .val (.int (0 : Int32)), .val (.int (1 : Int32)), .val (.int (0 : Int32)), .val (.int (1 : Int32)), .val (.int (0 : Int32))] [])) _
            refine XS.iload X212.here hx rfl (hb hby at_112) rfl ?_
            show Steps p.tables e below (T212.setTop (mkF m 114 #[.val (.int flags), .val (.int c1), .val (.int c2), .val .null, .val (.ref sa194), .val (.int (0 : Int32)), .val (.int (1 : Int32)), .val (.int (0 : Int32)), .val (.int (1 : Int32)), .val (.int (0 : Int32))] [(.int (0 : Int32))])) _
            refine XS.iload X212.here hx rfl (hb hby at_114) rfl ?_
            show Steps p.tables e below (T212.setTop (mkF m 116 #[.val (.int flags), .val (.int c1), .val (.int c2), .val .null, .val (.ref sa194), .val (.int (0 : Int32)), .val (.int (1 : Int32)), .val (.int (0 : Int32)), .val (.int (1 : Int32)), .val (.int (0 : Int32))] [(.int (0 : Int32)), (.int (0 : Int32))])) _
            refine XS.icmpNo X212.here hx rfl (hb hby at_116) rfl (teq (by decide : (0 : Int32) = (0 : Int32))).2 ?_
            show Steps p.tables e below (T212.setTop (mkF m 119 #[.val (.int flags), .val (.int c1), .val (.int c2), .val .null, .val (.ref sa194), .val (.int (0 : Int32)), .val (.int (1 : Int32)), .val (.int (0 : Int32)), .val (.int (1 : Int32)), .val (.int (0 : Int32))] [])) _
            refine XS.iload X212.here hx rfl (hb hby at_119) rfl ?_
            show Steps p.tables e below (T212.setTop (mkF m 121 #[.val (.int flags), .val (.int c1), .val (.int c2), .val .null, .val (.ref sa194), .val (.int (0 : Int32)), .val (.int (1 : Int32)), .val (.int (0 : Int32)), .val (.int (1 : Int32)), .val (.int (0 : Int32))] [(.int (1 : Int32))])) _
            refine XS.iload X212.here hx rfl (hb hby at_121) rfl ?_
            show Steps p.tables e below (T212.setTop (mkF m 123 #[.val (.int flags), .val (.int c1), .val (.int c2), .val .null, .val (.ref sa194), .val (.int (0 : Int32)), .val (.int (1 : Int32)), .val (.int (0 : Int32)), .val (.int (1 : Int32)), .val (.int (0 : Int32))] [(.int (1 : Int32)), (.int (1 : Int32))])) _
            refine XS.icmpNo X212.here hx rfl (hb hby at_123) rfl (teq (by decide : (1 : Int32) = (1 : Int32))).2 ?_
            show Steps p.tables e below (T212.setTop (mkF m 126 #[.val (.int flags), .val (.int c1), .val (.int c2), .val .null, .val (.ref sa194), .val (.int (0 : Int32)), .val (.int (1 : Int32)), .val (.int (0 : Int32)), .val (.int (1 : Int32)), .val (.int (0 : Int32))] [])) _
            refine XS.iload X212.here hx rfl (hb hby at_126) rfl ?_
            show Steps p.tables e below (T212.setTop (mkF m 128 #[.val (.int flags), .val (.int c1), .val (.int c2), .val .null, .val (.ref sa194), .val (.int (0 : Int32)), .val (.int (1 : Int32)), .val (.int (0 : Int32)), .val (.int (1 : Int32)), .val (.int (0 : Int32))] [(.int (0 : Int32))])) _
            refine XS.iload X212.here hx rfl (hb hby at_128) rfl ?_
            show Steps p.tables e below (T212.setTop (mkF m 130 #[.val (.int flags), .val (.int c1), .val (.int c2), .val .null, .val (.ref sa194), .val (.int (0 : Int32)), .val (.int (1 : Int32)), .val (.int (0 : Int32)), .val (.int (1 : Int32)), .val (.int (0 : Int32))] [(.int (0 : Int32)), (.int (0 : Int32))])) _
            refine XS.ifYes X212.here hx rfl (pc0 := 130) (pc' := 142) rfl (hb hby at_130) rfl ((if0 _ _).trans (teq (by decide : (0 : Int32) = (0 : Int32))).1) (by decide) (by decide) ?_
            show Steps p.tables e below (T212.setTop (mkF m 142 #[.val (.int flags), .val (.int c1), .val (.int c2), .val .null, .val (.ref sa194), .val (.int (0 : Int32)), .val (.int (1 : Int32)), .val (.int (0 : Int32)), .val (.int (1 : Int32)), .val (.int (0 : Int32))] [(.int (0 : Int32))])) _
            refine XS.iconst X212.here hx rfl (hb hby at_142) ?_
            show Steps p.tables e below (T212.setTop (mkF m 143 #[.val (.int flags), .val (.int c1), .val (.int c2), .val .null, .val (.ref sa194), .val (.int (0 : Int32)), .val (.int (1 : Int32)), .val (.int (0 : Int32)), .val (.int (1 : Int32)), .val (.int (0 : Int32))] [(.int (0 : Int32)), (.int (0 : Int32))])) _
            refine XS.icmpNo X212.here hx rfl (hb hby at_143) rfl (teq (by decide : (0 : Int32) = (0 : Int32))).2 ?_
            show Steps p.tables e below (T212.setTop (mkF m 146 #[.val (.int flags), .val (.int c1), .val (.int c2), .val .null, .val (.ref sa194), .val (.int (0 : Int32)), .val (.int (1 : Int32)), .val (.int (0 : Int32)), .val (.int (1 : Int32)), .val (.int (0 : Int32))] [])) _
            refine XS.iconst X212.here hx rfl (hb hby at_146) ?_
            show Steps p.tables e below (T212.setTop (mkF m 147 #[.val (.int flags), .val (.int c1), .val (.int c2), .val .null, .val (.ref sa194), .val (.int (0 : Int32)), .val (.int (1 : Int32)), .val (.int (0 : Int32)), .val (.int (1 : Int32)), .val (.int (0 : Int32))] [(.int (1 : Int32))])) _
            refine XS.goto X212.here hx rfl (pc0 := 147) (pc' := 151) rfl (hb hby at_147) (by decide) (by decide) ?_
            exact kt)
        obtain ⟨fs, hr, hrun, hended, hW, hsame⟩ := X212.leave (v := some (.int (1 : Int32))) (fun h => by rw [Bd.returns] at h; cases h)
        have hEnd := ReturnedEndW.of_narrow (o := .returned (some (.int (1 : Int32)))) ⟨_, rfl⟩ hW hsame
        refine ⟨_, _, pre214 _ ?_, hrun, hended, _, _, rfl, ?_, hEnd.1, hEnd.2.1, hEnd.2.2.1, hEnd.2.2.2.mono (by decide) (by decide)⟩
        · show Steps p.tables e below (T212.setTop (mkF m 151 #[.val (.int flags), .val (.int c1), .val (.int c2), .val .null, .val (.ref sa194), .val (.int (0 : Int32)), .val (.int (1 : Int32)), .val (.int (0 : Int32)), .val (.int (1 : Int32)), .val (.int (0 : Int32))] [(.int (1 : Int32))])) _
          exact retN X212 hx (t := .boolean) Bd.returns (by simp) (hb hby at_151) hr
        · show Q_own_rm0 Z flags c1 c2 cs aACCOUNT aADDRESS aPAIR h0 n0 _ T212.heap _
          rw [e212]
          exact ⟨rfl, N212⟩
      · -- E
        have pre215 : Goes p e below s₁ (entryFrame m #[(.int flags), (.int c1), (.int c2)] maxLocals) T178 (mkF m 51 #[.val (.int flags), .val (.int c1), .val (.int c2), .val .null, .unset, .unset, .unset, .unset, .unset, .unset] [(.int c2), (.int (1 : Int32)), (.int (0 : Int32))]) := fun t kt => pre188 t (by
            show Steps p.tables e below (T178.setTop (mkF m 50 #[.val (.int flags), .val (.int c1), .val (.int c2), .val .null, .unset, .unset, .unset, .unset, .unset, .unset] [(.int (1 : Int32)), (.int (0 : Int32))])) _
            refine XS.iloadN X178.here hx rfl (hb hby at_50) rfl ?_
            exact kt)
        obtain ⟨_, _, ⟨T216, L216, k216, n216⟩, -, XX216, hSS216, hGG216, ⟨Lc216, hQ216, l216, y216, z216⟩, st216⟩ := Jvm.RoadKit.callSS X178 hx (y := (⟨"com/example/tallygate/tallygate/KeyTypeCanKeyPinLaw", "make", "(ZZI)Ljava/lang/String;"⟩ : MethodName)) hown (mvT hZ (hw _ (List.mem_of_getElem? (i := 0) rfl))) (mvT hZ (hw _ (List.mem_of_getElem? (i := 1) rfl))) (mvT hZ (hw _ (List.mem_of_getElem? (i := 2) rfl))) (mvT hZ (hw _ (List.mem_of_getElem? (i := 3) rfl))) (by decide) (backOfS (W := 0) (own_makeE l Z a0 hw [] c2 h0 n0 Z0 ) hZ (hw _ (List.mem_of_getElem? (i := 3) rfl)) (hw _ (List.mem_of_getElem? (i := 2) rfl)) (by decide) (by decide)) (g := (mkF m 51 #[.val (.int flags), .val (.int c1), .val (.int c2), .val .null, .unset, .unset, .unset, .unset, .unset, .unset] [(.int c2), (.int (1 : Int32)), (.int (0 : Int32))])) rfl (by rw [hml]; rfl) (argsL := [(.int (0 : Int32)), (.int (1 : Int32)), (.int c2)]) (rest := []) (lenOf own_pd6 rfl) rfl (by show 2 * 0 + _ ≤ _; exact Nat.le_of_eq rfl) (hb hby at_51) (fun _ _ => ⟨rfl, e178, (by decide : 0 + 2 ≤ _), (by decide : 0 + 4 ≤ _)⟩)
        dsimp only [Pt.U, Pt.locs, Pt.cells, Pt.slots] at hSS216 hGG216 XX216 l216 y216 z216 st216 hQ216
        subst l216 y216 z216
        obtain ⟨sa216, rfl, N216q, K216q⟩ := hQ216
        have N216 := Fr.app N178 N216q
        obtain ⟨X216, hS216, hZ, hown⟩ := rebS (s := s) (vm0 := s.vm) (State.WarmedH.since (State.WarmedH.refl s) 0) (by rw [e178]; exact (Nat.zero_le _)) XX216 hSS216 hGG216 hZ hown
        have KC216 : Keep h0 T216.heap [] := (Keep.refl h0 []).trans K216q all0
        have pre217 : Goes p e below s₁ (entryFrame m #[(.int flags), (.int c1), (.int c2)] maxLocals) T216 (mkF m 54 #[.val (.int flags), .val (.int c1), .val (.int c2), .val .null, .unset, .unset, .unset, .unset, .unset, .unset] [(.ref sa216)]) := fun t kt => pre215 t (st216.trans kt)
        have pre218 : Goes p e below s₁ (entryFrame m #[(.int flags), (.int c1), (.int c2)] maxLocals) T216 (mkF m 79 #[.val (.int flags), .val (.int c1), .val (.int c2), .val .null, .val (.ref sa216), .val (.int (0 : Int32)), .val (.int (1 : Int32)), .unset, .unset, .unset] []) := fun t kt => pre217 t (by
            show Steps p.tables e below (T216.setTop (mkF m 54 #[.val (.int flags), .val (.int c1), .val (.int c2), .val .null, .unset, .unset, .unset, .unset, .unset, .unset] [(.ref sa216)])) _
            refine XS.astore X216.here hx rfl (hb hby at_54) rfl rfl (l' := #[.val (.int flags), .val (.int c1), .val (.int c2), .val .null, .val (.ref sa216), .unset, .unset, .unset, .unset, .unset]) rfl ?_
            show Steps p.tables e below (T216.setTop (mkF m 56 #[.val (.int flags), .val (.int c1), .val (.int c2), .val .null, .val (.ref sa216), .unset, .unset, .unset, .unset, .unset] [])) _
            refine XS.aloadN X216.here hx rfl (hb hby at_56) rfl rfl ?_
            show Steps p.tables e below (T216.setTop (mkF m 57 #[.val (.int flags), .val (.int c1), .val (.int c2), .val .null, .val (.ref sa216), .unset, .unset, .unset, .unset, .unset] [.null])) _
            refine XS.ifnullYes X216.here hx rfl (pc0 := 57) (pc' := 64) rfl (hb hby at_57) rfl (by decide) (by decide) ?_
            show Steps p.tables e below (T216.setTop (mkF m 64 #[.val (.int flags), .val (.int c1), .val (.int c2), .val .null, .val (.ref sa216), .unset, .unset, .unset, .unset, .unset] [])) _
            refine XS.iconst X216.here hx rfl (hb hby at_64) ?_
            show Steps p.tables e below (T216.setTop (mkF m 65 #[.val (.int flags), .val (.int c1), .val (.int c2), .val .null, .val (.ref sa216), .unset, .unset, .unset, .unset, .unset] [(.int (0 : Int32))])) _
            refine XS.istore X216.here hx rfl (hb hby at_65) rfl (l' := #[.val (.int flags), .val (.int c1), .val (.int c2), .val .null, .val (.ref sa216), .val (.int (0 : Int32)), .unset, .unset, .unset, .unset]) rfl ?_
            show Steps p.tables e below (T216.setTop (mkF m 67 #[.val (.int flags), .val (.int c1), .val (.int c2), .val .null, .val (.ref sa216), .val (.int (0 : Int32)), .unset, .unset, .unset, .unset] [])) _
            refine XS.aload X216.here hx rfl (hb hby at_67) rfl rfl ?_
            show Steps p.tables e below (T216.setTop (mkF m 69 #[.val (.int flags), .val (.int c1), .val (.int c2), .val .null, .val (.ref sa216), .val (.int (0 : Int32)), .unset, .unset, .unset, .unset] [(.ref sa216)])) _
            refine XS.ifnullNo X216.here hx rfl (hb hby at_69) rfl ?_
            show Steps p.tables e below (T216.setTop (mkF m 72 #[.val (.int flags), .val (.int c1), .val (.int c2), .val .null, .val (.ref sa216), .val (.int (0 : Int32)), .unset, .unset, .unset, .unset] [])) _
            refine XS.iconst X216.here hx rfl (hb hby at_72) ?_
            show Steps p.tables e below (T216.setTop (mkF m 73 #[.val (.int flags), .val (.int c1), .val (.int c2), .val .null, .val (.ref sa216), .val (.int (0 : Int32)), .unset, .unset, .unset, .unset] [(.int (1 : Int32))])) _
            refine XS.goto X216.here hx rfl (pc0 := 73) (pc' := 77) rfl (hb hby at_73) (by decide) (by decide) ?_
            show Steps p.tables e below (T216.setTop (mkF m 77 #[.val (.int flags), .val (.int c1), .val (.int c2), .val .null, .val (.ref sa216), .val (.int (0 : Int32)), .unset, .unset, .unset, .unset] [(.int (1 : Int32))])) _
            refine XS.istore X216.here hx rfl (hb hby at_77) rfl (l' := #[.val (.int flags), .val (.int c1), .val (.int c2), .val .null, .val (.ref sa216), .val (.int (0 : Int32)), .val (.int (1 : Int32)), .unset, .unset, .unset]) rfl ?_
            exact kt)
        obtain ⟨T219, X219, e219, st219⟩ := getS2 X216 hx hZ hown (host := "") (Or.inl (hw _ (List.mem_of_getElem? (i := 34) rfl))) Via.refl rfl (S_ACCOUNT.ext (O0.keep K216q all0).2) (g := (mkF m 79 #[.val (.int flags), .val (.int c1), .val (.int c2), .val .null, .val (.ref sa216), .val (.int (0 : Int32)), .val (.int (1 : Int32)), .unset, .unset, .unset] [])) rfl (hb hby at_79)
        have pre220 : Goes p e below s₁ (entryFrame m #[(.int flags), (.int c1), (.int c2)] maxLocals) T219 (mkF m 82 #[.val (.int flags), .val (.int c1), .val (.int c2), .val .null, .val (.ref sa216), .val (.int (0 : Int32)), .val (.int (1 : Int32)), .unset, .unset, .unset] [(.ref aACCOUNT)]) := fun t kt => pre218 t (st219 t kt)
        have pre221 : Goes p e below s₁ (entryFrame m #[(.int flags), (.int c1), (.int c2)] maxLocals) T219 (mkF m 85 #[.val (.int flags), .val (.int c1), .val (.int c2), .val .null, .val (.ref sa216), .val (.int (0 : Int32)), .val (.int (1 : Int32)), .unset, .unset, .unset] [(.ref sa216), .null, (.ref aACCOUNT)]) := fun t kt => pre220 t (by
            show Steps p.tables e below (T219.setTop (mkF m 82 #[.val (.int flags), .val (.int c1), .val (.int c2), .val .null, .val (.ref sa216), .val (.int (0 : Int32)), .val (.int (1 : Int32)), .unset, .unset, .unset] [(.ref aACCOUNT)])) _
            refine XS.aloadN X219.here hx rfl (hb hby at_82) rfl rfl ?_
            show Steps p.tables e below (T219.setTop (mkF m 83 #[.val (.int flags), .val (.int c1), .val (.int c2), .val .null, .val (.ref sa216), .val (.int (0 : Int32)), .val (.int (1 : Int32)), .unset, .unset, .unset] [.null, (.ref aACCOUNT)])) _
            refine XS.aload X219.here hx rfl (hb hby at_83) rfl rfl ?_
            exact kt)
        obtain ⟨cq222, kq222, q222a, q222b, q222c⟩ := isOf hZ e219 (E_ACCOUNT.keep K216q)
        obtain ⟨_, _, ⟨T222, L222, k222, n222⟩, -, X222, ⟨Lc222, hQ222, l222, y222, z222⟩, st222⟩ := X219.virtualBack hx (y := (⟨"com/example/tallygate/tallygate/KeyType", "canKey", "(Ljava/lang/String;Ljava/lang/String;)Z"⟩ : MethodName)) (z := (⟨"com/example/tallygate/tallygate/KeyType", "canKey", "(Ljava/lang/String;Ljava/lang/String;)Z"⟩ : MethodName)) hown (mvT hZ (hw _ (List.mem_of_getElem? (i := 37) rfl))) (mvT hZ (hw _ (List.mem_of_getElem? (i := 38) rfl))) (notFace_of_selects (args := #[]) (mvT hZ (hw _ (List.mem_of_getElem? (i := 40) rfl)))) (mvT hZ (hw _ (List.mem_of_getElem? (i := 40) rfl))) (mvT hZ (hw _ (List.mem_of_getElem? (i := 39) rfl))) (by decide) (backOf (W := 0) (own_canKey001 l Z a0 hw [] aACCOUNT sa216 T216.heap n0 (Nat.le_trans Z0 K216q.1) (E_ACCOUNT.keep K216q) (O_ACCOUNT.keep K216q nin0)) hZ (hw _ (List.mem_of_getElem? (i := 41) rfl)) (hw _ (List.mem_of_getElem? (i := 35) rfl)) (by decide) (by decide)) q222a q222c (g := (mkF m 85 #[.val (.int flags), .val (.int c1), .val (.int c2), .val .null, .val (.ref sa216), .val (.int (0 : Int32)), .val (.int (1 : Int32)), .unset, .unset, .unset] [(.ref sa216), .null, (.ref aACCOUNT)])) rfl (by rw [hml]; rfl) (Steps.refl _) (argsL := [.null, (.ref sa216)]) (rest := []) (lenOf own_pd7 rfl) rfl (by show 2 * 0 + _ ≤ _; exact Nat.le_of_eq rfl) (hb hby at_85) (fun _ _ => ⟨rfl, e219, (by decide : 2 + 0 ≤ _), (by decide : 4 + 0 ≤ _)⟩)
        dsimp only [Pt.U, Pt.locs, Pt.cells, Pt.slots] at X222 l222 y222 z222 st222 hQ222
        subst l222 y222 z222
        obtain ⟨rfl, N222q, e222⟩ := hQ222
        have N222 := Fr.app N216 N222q
        have pre223 : Goes p e below s₁ (entryFrame m #[(.int flags), (.int c1), (.int c2)] maxLocals) T222 (mkF m 88 #[.val (.int flags), .val (.int c1), .val (.int c2), .val .null, .val (.ref sa216), .val (.int (0 : Int32)), .val (.int (1 : Int32)), .unset, .unset, .unset] [(.int (0 : Int32))]) := fun t kt => pre221 t (st222.trans kt)
        have pre224 : Goes p e below s₁ (entryFrame m #[(.int flags), (.int c1), (.int c2)] maxLocals) T222 (mkF m 90 #[.val (.int flags), .val (.int c1), .val (.int c2), .val .null, .val (.ref sa216), .val (.int (0 : Int32)), .val (.int (1 : Int32)), .val (.int (0 : Int32)), .unset, .unset] []) := fun t kt => pre223 t (by
            show Steps p.tables e below (T222.setTop (mkF m 88 #[.val (.int flags), .val (.int c1), .val (.int c2), .val .null, .val (.ref sa216), .val (.int (0 : Int32)), .val (.int (1 : Int32)), .unset, .unset, .unset] [(.int (0 : Int32))])) _
            refine XS.istore X222.here hx rfl (hb hby at_88) rfl (l' := #[.val (.int flags), .val (.int c1), .val (.int c2), .val .null, .val (.ref sa216), .val (.int (0 : Int32)), .val (.int (1 : Int32)), .val (.int (0 : Int32)), .unset, .unset]) rfl ?_
            exact kt)
        obtain ⟨T225, X225, e225, st225⟩ := getS2 X222 hx hZ hown (host := "") (Or.inl (hw _ (List.mem_of_getElem? (i := 51) rfl))) Via.refl e222 (S_ADDRESS.ext (O0.keep K216q all0).2) (g := (mkF m 90 #[.val (.int flags), .val (.int c1), .val (.int c2), .val .null, .val (.ref sa216), .val (.int (0 : Int32)), .val (.int (1 : Int32)), .val (.int (0 : Int32)), .unset, .unset] [])) rfl (hb hby at_90)
        have pre226 : Goes p e below s₁ (entryFrame m #[(.int flags), (.int c1), (.int c2)] maxLocals) T225 (mkF m 93 #[.val (.int flags), .val (.int c1), .val (.int c2), .val .null, .val (.ref sa216), .val (.int (0 : Int32)), .val (.int (1 : Int32)), .val (.int (0 : Int32)), .unset, .unset] [(.ref aADDRESS)]) := fun t kt => pre224 t (st225 t kt)
        have pre227 : Goes p e below s₁ (entryFrame m #[(.int flags), (.int c1), (.int c2)] maxLocals) T225 (mkF m 96 #[.val (.int flags), .val (.int c1), .val (.int c2), .val .null, .val (.ref sa216), .val (.int (0 : Int32)), .val (.int (1 : Int32)), .val (.int (0 : Int32)), .unset, .unset] [(.ref sa216), .null, (.ref aADDRESS)]) := fun t kt => pre226 t (by
            show Steps p.tables e below (T225.setTop (mkF m 93 #[.val (.int flags), .val (.int c1), .val (.int c2), .val .null, .val (.ref sa216), .val (.int (0 : Int32)), .val (.int (1 : Int32)), .val (.int (0 : Int32)), .unset, .unset] [(.ref aADDRESS)])) _
            refine XS.aloadN X225.here hx rfl (hb hby at_93) rfl rfl ?_
            show Steps p.tables e below (T225.setTop (mkF m 94 #[.val (.int flags), .val (.int c1), .val (.int c2), .val .null, .val (.ref sa216), .val (.int (0 : Int32)), .val (.int (1 : Int32)), .val (.int (0 : Int32)), .unset, .unset] [.null, (.ref aADDRESS)])) _
            refine XS.aload X225.here hx rfl (hb hby at_94) rfl rfl ?_
            exact kt)
        obtain ⟨cq228, kq228, q228a, q228b, q228c⟩ := isOf hZ e225 (E_ADDRESS.keep K216q)
        obtain ⟨_, _, ⟨T228, L228, k228, n228⟩, -, X228, ⟨Lc228, hQ228, l228, y228, z228⟩, st228⟩ := X225.virtualBack hx (y := (⟨"com/example/tallygate/tallygate/KeyType", "canKey", "(Ljava/lang/String;Ljava/lang/String;)Z"⟩ : MethodName)) (z := (⟨"com/example/tallygate/tallygate/KeyType", "canKey", "(Ljava/lang/String;Ljava/lang/String;)Z"⟩ : MethodName)) hown (mvT hZ (hw _ (List.mem_of_getElem? (i := 37) rfl))) (mvT hZ (hw _ (List.mem_of_getElem? (i := 38) rfl))) (notFace_of_selects (args := #[]) (mvT hZ (hw _ (List.mem_of_getElem? (i := 40) rfl)))) (mvT hZ (hw _ (List.mem_of_getElem? (i := 40) rfl))) (mvT hZ (hw _ (List.mem_of_getElem? (i := 39) rfl))) (by decide) (backOf (W := 0) (own_canKey101 l Z a0 hw [] aADDRESS sa216 T216.heap n0 (Nat.le_trans Z0 K216q.1) (E_ADDRESS.keep K216q) (O_ADDRESS.keep K216q nin0)) hZ (hw _ (List.mem_of_getElem? (i := 41) rfl)) (hw _ (List.mem_of_getElem? (i := 35) rfl)) (by decide) (by decide)) q228a q228c (g := (mkF m 96 #[.val (.int flags), .val (.int c1), .val (.int c2), .val .null, .val (.ref sa216), .val (.int (0 : Int32)), .val (.int (1 : Int32)), .val (.int (0 : Int32)), .unset, .unset] [(.ref sa216), .null, (.ref aADDRESS)])) rfl (by rw [hml]; rfl) (Steps.refl _) (argsL := [.null, (.ref sa216)]) (rest := []) (lenOf own_pd7 rfl) rfl (by show 2 * 0 + _ ≤ _; exact Nat.le_of_eq rfl) (hb hby at_96) (fun _ _ => ⟨rfl, e225, (by decide : 2 + 0 ≤ _), (by decide : 4 + 0 ≤ _)⟩)
        dsimp only [Pt.U, Pt.locs, Pt.cells, Pt.slots] at X228 l228 y228 z228 st228 hQ228
        subst l228 y228 z228
        obtain ⟨rfl, N228q, e228⟩ := hQ228
        have N228 := Fr.app N222 N228q
        have pre229 : Goes p e below s₁ (entryFrame m #[(.int flags), (.int c1), (.int c2)] maxLocals) T228 (mkF m 99 #[.val (.int flags), .val (.int c1), .val (.int c2), .val .null, .val (.ref sa216), .val (.int (0 : Int32)), .val (.int (1 : Int32)), .val (.int (0 : Int32)), .unset, .unset] [(.int (1 : Int32))]) := fun t kt => pre227 t (st228.trans kt)
        have pre230 : Goes p e below s₁ (entryFrame m #[(.int flags), (.int c1), (.int c2)] maxLocals) T228 (mkF m 101 #[.val (.int flags), .val (.int c1), .val (.int c2), .val .null, .val (.ref sa216), .val (.int (0 : Int32)), .val (.int (1 : Int32)), .val (.int (0 : Int32)), .val (.int (1 : Int32)), .unset] []) := fun t kt => pre229 t (by
            show Steps p.tables e below (T228.setTop (mkF m 99 #[.val (.int flags), .val (.int c1), .val (.int c2), .val .null, .val (.ref sa216), .val (.int (0 : Int32)), .val (.int (1 : Int32)), .val (.int (0 : Int32)), .unset, .unset] [(.int (1 : Int32))])) _
            refine XS.istore X228.here hx rfl (hb hby at_99) rfl (l' := #[.val (.int flags), .val (.int c1), .val (.int c2), .val .null, .val (.ref sa216), .val (.int (0 : Int32)), .val (.int (1 : Int32)), .val (.int (0 : Int32)), .val (.int (1 : Int32)), .unset]) rfl ?_
            exact kt)
        obtain ⟨T231, X231, e231, st231⟩ := getS2 X228 hx hZ hown (host := "") (Or.inl (hw _ (List.mem_of_getElem? (i := 53) rfl))) Via.refl e228 (S_PAIR.ext (O0.keep K216q all0).2) (g := (mkF m 101 #[.val (.int flags), .val (.int c1), .val (.int c2), .val .null, .val (.ref sa216), .val (.int (0 : Int32)), .val (.int (1 : Int32)), .val (.int (0 : Int32)), .val (.int (1 : Int32)), .unset] [])) rfl (hb hby at_101)
        have pre232 : Goes p e below s₁ (entryFrame m #[(.int flags), (.int c1), (.int c2)] maxLocals) T231 (mkF m 104 #[.val (.int flags), .val (.int c1), .val (.int c2), .val .null, .val (.ref sa216), .val (.int (0 : Int32)), .val (.int (1 : Int32)), .val (.int (0 : Int32)), .val (.int (1 : Int32)), .unset] [(.ref aPAIR)]) := fun t kt => pre230 t (st231 t kt)
        have pre233 : Goes p e below s₁ (entryFrame m #[(.int flags), (.int c1), (.int c2)] maxLocals) T231 (mkF m 107 #[.val (.int flags), .val (.int c1), .val (.int c2), .val .null, .val (.ref sa216), .val (.int (0 : Int32)), .val (.int (1 : Int32)), .val (.int (0 : Int32)), .val (.int (1 : Int32)), .unset] [(.ref sa216), .null, (.ref aPAIR)]) := fun t kt => pre232 t (by
            show Steps p.tables e below (T231.setTop (mkF m 104 #[.val (.int flags), .val (.int c1), .val (.int c2), .val .null, .val (.ref sa216), .val (.int (0 : Int32)), .val (.int (1 : Int32)), .val (.int (0 : Int32)), .val (.int (1 : Int32)), .unset] [(.ref aPAIR)])) _
            refine XS.aloadN X231.here hx rfl (hb hby at_104) rfl rfl ?_
            show Steps p.tables e below (T231.setTop (mkF m 105 #[.val (.int flags), .val (.int c1), .val (.int c2), .val .null, .val (.ref sa216), .val (.int (0 : Int32)), .val (.int (1 : Int32)), .val (.int (0 : Int32)), .val (.int (1 : Int32)), .unset] [.null, (.ref aPAIR)])) _
            refine XS.aload X231.here hx rfl (hb hby at_105) rfl rfl ?_
            exact kt)
        obtain ⟨cq234, kq234, q234a, q234b, q234c⟩ := isOf hZ e231 (E_PAIR.keep K216q)
        obtain ⟨_, _, ⟨T234, L234, k234, n234⟩, -, X234, ⟨Lc234, hQ234, l234, y234, z234⟩, st234⟩ := X231.virtualBack hx (y := (⟨"com/example/tallygate/tallygate/KeyType", "canKey", "(Ljava/lang/String;Ljava/lang/String;)Z"⟩ : MethodName)) (z := (⟨"com/example/tallygate/tallygate/KeyType", "canKey", "(Ljava/lang/String;Ljava/lang/String;)Z"⟩ : MethodName)) hown (mvT hZ (hw _ (List.mem_of_getElem? (i := 37) rfl))) (mvT hZ (hw _ (List.mem_of_getElem? (i := 38) rfl))) (notFace_of_selects (args := #[]) (mvT hZ (hw _ (List.mem_of_getElem? (i := 40) rfl)))) (mvT hZ (hw _ (List.mem_of_getElem? (i := 40) rfl))) (mvT hZ (hw _ (List.mem_of_getElem? (i := 39) rfl))) (by decide) (backOf (W := 0) (own_canKey201 l Z a0 hw [] aPAIR sa216 T216.heap n0 (Nat.le_trans Z0 K216q.1) (E_PAIR.keep K216q) (O_PAIR.keep K216q nin0)) hZ (hw _ (List.mem_of_getElem? (i := 41) rfl)) (hw _ (List.mem_of_getElem? (i := 35) rfl)) (by decide) (by decide)) q234a q234c (g := (mkF m 107 #[.val (.int flags), .val (.int c1), .val (.int c2), .val .null, .val (.ref sa216), .val (.int (0 : Int32)), .val (.int (1 : Int32)), .val (.int (0 : Int32)), .val (.int (1 : Int32)), .unset] [(.ref sa216), .null, (.ref aPAIR)])) rfl (by rw [hml]; rfl) (Steps.refl _) (argsL := [.null, (.ref sa216)]) (rest := []) (lenOf own_pd7 rfl) rfl (by show 2 * 0 + _ ≤ _; exact Nat.le_of_eq rfl) (hb hby at_107) (fun _ _ => ⟨rfl, e231, (by decide : 2 + 0 ≤ _), (by decide : 4 + 0 ≤ _)⟩)
        dsimp only [Pt.U, Pt.locs, Pt.cells, Pt.slots] at X234 l234 y234 z234 st234 hQ234
        subst l234 y234 z234
        obtain ⟨rfl, N234q, e234⟩ := hQ234
        have N234 := Fr.app N228 N234q
        have pre235 : Goes p e below s₁ (entryFrame m #[(.int flags), (.int c1), (.int c2)] maxLocals) T234 (mkF m 110 #[.val (.int flags), .val (.int c1), .val (.int c2), .val .null, .val (.ref sa216), .val (.int (0 : Int32)), .val (.int (1 : Int32)), .val (.int (0 : Int32)), .val (.int (1 : Int32)), .unset] [(.int (0 : Int32))]) := fun t kt => pre233 t (st234.trans kt)
        have pre236 : Goes p e below s₁ (entryFrame m #[(.int flags), (.int c1), (.int c2)] maxLocals) T234 (mkF m 151 #[.val (.int flags), .val (.int c1), .val (.int c2), .val .null, .val (.ref sa216), .val (.int (0 : Int32)), .val (.int (1 : Int32)), .val (.int (0 : Int32)), .val (.int (1 : Int32)), .val (.int (0 : Int32))] [(.int (1 : Int32))]) := fun t kt => pre235 t (by
            show Steps p.tables e below (T234.setTop (mkF m 110 #[.val (.int flags), .val (.int c1), .val (.int c2), .val .null, .val (.ref sa216), .val (.int (0 : Int32)), .val (.int (1 : Int32)), .val (.int (0 : Int32)), .val (.int (1 : Int32)), .unset] [(.int (0 : Int32))])) _
            refine XS.istore X234.here hx rfl (hb hby at_110) rfl (l' := #[.val (.int flags), .val (.int c1), .val (.int c2), .val .null, .val (.ref sa216), .val (.int (0 : Int32)), .val (.int (1 : Int32)), .val (.int (0 : Int32)), .val (.int (1 : Int32)), .val (.int (0 : Int32))]) rfl ?_
            show Steps p.tables e below (T234.setTop (mkF m 112 #[.val (.int flags), .val (.int c1), .val (.int c2), .val .null, .val (.ref sa216), .val (.int (0 : Int32)), .val (.int (1 : Int32)), .val (.int (0 : Int32)), .val (.int (1 : Int32)), .val (.int (0 : Int32))] [])) _
            refine XS.iload X234.here hx rfl (hb hby at_112) rfl ?_
            show Steps p.tables e below (T234.setTop (mkF m 114 #[.val (.int flags), .val (.int c1), .val (.int c2), .val .null, .val (.ref sa216), .val (.int (0 : Int32)), .val (.int (1 : Int32)), .val (.int (0 : Int32)), .val (.int (1 : Int32)), .val (.int (0 : Int32))] [(.int (0 : Int32))])) _
            refine XS.iload X234.here hx rfl (hb hby at_114) rfl ?_
            show Steps p.tables e below (T234.setTop (mkF m 116 #[.val (.int flags), .val (.int c1), .val (.int c2), .val .null, .val (.ref sa216), .val (.int (0 : Int32)), .val (.int (1 : Int32)), .val (.int (0 : Int32)), .val (.int (1 : Int32)), .val (.int (0 : Int32))] [(.int (0 : Int32)), (.int (0 : Int32))])) _
            refine XS.icmpNo X234.here hx rfl (hb hby at_116) rfl (teq (by decide : (0 : Int32) = (0 : Int32))).2 ?_
            show Steps p.tables e below (T234.setTop (mkF m 119 #[.val (.int flags), .val (.int c1), .val (.int c2), .val .null, .val (.ref sa216), .val (.int (0 : Int32)), .val (.int (1 : Int32)), .val (.int (0 : Int32)), .val (.int (1 : Int32)), .val (.int (0 : Int32))] [])) _
            refine XS.iload X234.here hx rfl (hb hby at_119) rfl ?_
            show Steps p.tables e below (T234.setTop (mkF m 121 #[.val (.int flags), .val (.int c1), .val (.int c2), .val .null, .val (.ref sa216), .val (.int (0 : Int32)), .val (.int (1 : Int32)), .val (.int (0 : Int32)), .val (.int (1 : Int32)), .val (.int (0 : Int32))] [(.int (1 : Int32))])) _
            refine XS.iload X234.here hx rfl (hb hby at_121) rfl ?_
            show Steps p.tables e below (T234.setTop (mkF m 123 #[.val (.int flags), .val (.int c1), .val (.int c2), .val .null, .val (.ref sa216), .val (.int (0 : Int32)), .val (.int (1 : Int32)), .val (.int (0 : Int32)), .val (.int (1 : Int32)), .val (.int (0 : Int32))] [(.int (1 : Int32)), (.int (1 : Int32))])) _
            refine XS.icmpNo X234.here hx rfl (hb hby at_123) rfl (teq (by decide : (1 : Int32) = (1 : Int32))).2 ?_
            show Steps p.tables e below (T234.setTop (mkF m 126 #[.val (.int flags), .val (.int c1), .val (.int c2), .val .null, .val (.ref sa216), .val (.int (0 : Int32)), .val (.int (1 : Int32)), .val (.int (0 : Int32)), .val (.int (1 : Int32)), .val (.int (0 : Int32))] [])) _
            refine XS.iload X234.here hx rfl (hb hby at_126) rfl ?_
            show Steps p.tables e below (T234.setTop (mkF m 128 #[.val (.int flags), .val (.int c1), .val (.int c2), .val .null, .val (.ref sa216), .val (.int (0 : Int32)), .val (.int (1 : Int32)), .val (.int (0 : Int32)), .val (.int (1 : Int32)), .val (.int (0 : Int32))] [(.int (0 : Int32))])) _
            refine XS.iload X234.here hx rfl (hb hby at_128) rfl ?_
            show Steps p.tables e below (T234.setTop (mkF m 130 #[.val (.int flags), .val (.int c1), .val (.int c2), .val .null, .val (.ref sa216), .val (.int (0 : Int32)), .val (.int (1 : Int32)), .val (.int (0 : Int32)), .val (.int (1 : Int32)), .val (.int (0 : Int32))] [(.int (0 : Int32)), (.int (0 : Int32))])) _
            refine XS.ifYes X234.here hx rfl (pc0 := 130) (pc' := 142) rfl (hb hby at_130) rfl ((if0 _ _).trans (teq (by decide : (0 : Int32) = (0 : Int32))).1) (by decide) (by decide) ?_
            show Steps p.tables e below (T234.setTop (mkF m 142 #[.val (.int flags), .val (.int c1), .val (.int c2), .val .null, .val (.ref sa216), .val (.int (0 : Int32)), .val (.int (1 : Int32)), .val (.int (0 : Int32)), .val (.int (1 : Int32)), .val (.int (0 : Int32))] [(.int (0 : Int32))])) _
            refine XS.iconst X234.here hx rfl (hb hby at_142) ?_
            show Steps p.tables e below (T234.setTop (mkF m 143 #[.val (.int flags), .val (.int c1), .val (.int c2), .val .null, .val (.ref sa216), .val (.int (0 : Int32)), .val (.int (1 : Int32)), .val (.int (0 : Int32)), .val (.int (1 : Int32)), .val (.int (0 : Int32))] [(.int (0 : Int32)), (.int (0 : Int32))])) _
            refine XS.icmpNo X234.here hx rfl (hb hby at_143) rfl (teq (by decide : (0 : Int32) = (0 : Int32))).2 ?_
            show Steps p.tables e below (T234.setTop (mkF m 146 #[.val (.int flags), .val (.int c1), .val (.int c2), .val .null, .val (.ref sa216), .val (.int (0 : Int32)), .val (.int (1 : Int32)), .val (.int (0 : Int32)), .val (.int (1 : Int32)), .val (.int (0 : Int32))] [])) _
            refine XS.iconst X234.here hx rfl (hb hby at_146) ?_
            show Steps p.tables e below (T234.setTop (mkF m 147 #[.val (.int flags), .val (.int c1), .val (.int c2), .val .null, .val (.ref sa216), .val (.int (0 : Int32)), .val (.int (1 : Int32)), .val (.int (0 : Int32)), .val (.int (1 : Int32)), .val (.int (0 : Int32))] [(.int (1 : Int32))])) _
            refine XS.goto X234.here hx rfl (pc0 := 147) (pc' := 151) rfl (hb hby at_147) (by decide) (by decide) ?_
            exact kt)
        obtain ⟨fs, hr, hrun, hended, hEnd⟩ := X234.leaveW hS216 (by rw [e234]; exact (Nat.le_refl _)) (v := some (.int (1 : Int32))) (fun h => by rw [Bd.returns] at h; cases h)
        refine ⟨_, _, pre236 _ ?_, hrun, hended, _, _, rfl, ?_, hEnd.1, hEnd.2.1, hEnd.2.2.1, hEnd.2.2.2.mono (by decide) (by decide)⟩
        · show Steps p.tables e below (T234.setTop (mkF m 151 #[.val (.int flags), .val (.int c1), .val (.int c2), .val .null, .val (.ref sa216), .val (.int (0 : Int32)), .val (.int (1 : Int32)), .val (.int (0 : Int32)), .val (.int (1 : Int32)), .val (.int (0 : Int32))] [(.int (1 : Int32))])) _
          exact retN X234 hx (t := .boolean) Bd.returns (by simp) (hb hby at_151) hr
        · show Q_own_rm0 Z flags c1 c2 cs aACCOUNT aADDRESS aPAIR h0 n0 _ T234.heap _
          rw [e234]
          exact ⟨rfl, N234⟩
    · -- null
      have pre237 : Goes p e below s₁ (entryFrame m #[(.int flags), (.int c1), (.int c2)] maxLocals) T178 (mkF m 51 #[.val (.int flags), .val (.int c1), .val (.int c2), .val .null, .unset, .unset, .unset, .unset, .unset, .unset] [(.int c2), (.int g4), (.int (1 : Int32))]) := fun t kt => pre188 t (by
          show Steps p.tables e below (T178.setTop (mkF m 50 #[.val (.int flags), .val (.int c1), .val (.int c2), .val .null, .unset, .unset, .unset, .unset, .unset, .unset] [(.int g4), (.int (1 : Int32))])) _
          refine XS.iloadN X178.here hx rfl (hb hby at_50) rfl ?_
          exact kt)
      obtain ⟨_, _, ⟨T238, L238, k238, n238⟩, -, X238, ⟨Lc238, hQ238, l238, y238, z238⟩, st238⟩ := Jvm.LawKit.callS X178 hx (y := (⟨"com/example/tallygate/tallygate/KeyTypeCanKeyPinLaw", "make", "(ZZI)Ljava/lang/String;"⟩ : MethodName)) hown (mvT hZ (hw _ (List.mem_of_getElem? (i := 0) rfl))) (mvT hZ (hw _ (List.mem_of_getElem? (i := 1) rfl))) (mvT hZ (hw _ (List.mem_of_getElem? (i := 2) rfl))) (mvT hZ (hw _ (List.mem_of_getElem? (i := 3) rfl))) (by decide) (backOf (W := 0) (own_makeN l Z a0 hw [] g4 c2 h0 n0 Z0 ) hZ (hw _ (List.mem_of_getElem? (i := 3) rfl)) (hw _ (List.mem_of_getElem? (i := 2) rfl)) (by decide) (by decide)) (g := (mkF m 51 #[.val (.int flags), .val (.int c1), .val (.int c2), .val .null, .unset, .unset, .unset, .unset, .unset, .unset] [(.int c2), (.int g4), (.int (1 : Int32))])) rfl (by rw [hml]; rfl) (argsL := [(.int (1 : Int32)), (.int g4), (.int c2)]) (rest := []) (lenOf own_pd6 rfl) rfl (by show 2 * 0 + _ ≤ _; exact Nat.le_of_eq rfl) (hb hby at_51) (fun _ _ => ⟨rfl, e178, (by decide : 0 + 0 ≤ _), (by decide : 0 + 0 ≤ _)⟩)
      dsimp only [Pt.U, Pt.locs, Pt.cells, Pt.slots] at X238 l238 y238 z238 st238 hQ238
      subst l238 y238 z238
      obtain ⟨rfl, N238q, e238⟩ := hQ238
      have N238 := Fr.app N178 N238q
      have pre239 : Goes p e below s₁ (entryFrame m #[(.int flags), (.int c1), (.int c2)] maxLocals) T238 (mkF m 54 #[.val (.int flags), .val (.int c1), .val (.int c2), .val .null, .unset, .unset, .unset, .unset, .unset, .unset] [.null]) := fun t kt => pre237 t (st238 t kt)
      have pre240 : Goes p e below s₁ (entryFrame m #[(.int flags), (.int c1), (.int c2)] maxLocals) T238 (mkF m 79 #[.val (.int flags), .val (.int c1), .val (.int c2), .val .null, .val .null, .val (.int (0 : Int32)), .val (.int (0 : Int32)), .unset, .unset, .unset] []) := fun t kt => pre239 t (by
          show Steps p.tables e below (T238.setTop (mkF m 54 #[.val (.int flags), .val (.int c1), .val (.int c2), .val .null, .unset, .unset, .unset, .unset, .unset, .unset] [.null])) _
          refine XS.astore X238.here hx rfl (hb hby at_54) rfl rfl (l' := #[.val (.int flags), .val (.int c1), .val (.int c2), .val .null, .val .null, .unset, .unset, .unset, .unset, .unset]) rfl ?_
          show Steps p.tables e below (T238.setTop (mkF m 56 #[.val (.int flags), .val (.int c1), .val (.int c2), .val .null, .val .null, .unset, .unset, .unset, .unset, .unset] [])) _
          refine XS.aloadN X238.here hx rfl (hb hby at_56) rfl rfl ?_
          show Steps p.tables e below (T238.setTop (mkF m 57 #[.val (.int flags), .val (.int c1), .val (.int c2), .val .null, .val .null, .unset, .unset, .unset, .unset, .unset] [.null])) _
          refine XS.ifnullYes X238.here hx rfl (pc0 := 57) (pc' := 64) rfl (hb hby at_57) rfl (by decide) (by decide) ?_
          show Steps p.tables e below (T238.setTop (mkF m 64 #[.val (.int flags), .val (.int c1), .val (.int c2), .val .null, .val .null, .unset, .unset, .unset, .unset, .unset] [])) _
          refine XS.iconst X238.here hx rfl (hb hby at_64) ?_
          show Steps p.tables e below (T238.setTop (mkF m 65 #[.val (.int flags), .val (.int c1), .val (.int c2), .val .null, .val .null, .unset, .unset, .unset, .unset, .unset] [(.int (0 : Int32))])) _
          refine XS.istore X238.here hx rfl (hb hby at_65) rfl (l' := #[.val (.int flags), .val (.int c1), .val (.int c2), .val .null, .val .null, .val (.int (0 : Int32)), .unset, .unset, .unset, .unset]) rfl ?_
          show Steps p.tables e below (T238.setTop (mkF m 67 #[.val (.int flags), .val (.int c1), .val (.int c2), .val .null, .val .null, .val (.int (0 : Int32)), .unset, .unset, .unset, .unset] [])) _
          refine XS.aload X238.here hx rfl (hb hby at_67) rfl rfl ?_
          show Steps p.tables e below (T238.setTop (mkF m 69 #[.val (.int flags), .val (.int c1), .val (.int c2), .val .null, .val .null, .val (.int (0 : Int32)), .unset, .unset, .unset, .unset] [.null])) _
          refine XS.ifnullYes X238.here hx rfl (pc0 := 69) (pc' := 76) rfl (hb hby at_69) rfl (by decide) (by decide) ?_
          show Steps p.tables e below (T238.setTop (mkF m 76 #[.val (.int flags), .val (.int c1), .val (.int c2), .val .null, .val .null, .val (.int (0 : Int32)), .unset, .unset, .unset, .unset] [])) _
          refine XS.iconst X238.here hx rfl (hb hby at_76) ?_
          show Steps p.tables e below (T238.setTop (mkF m 77 #[.val (.int flags), .val (.int c1), .val (.int c2), .val .null, .val .null, .val (.int (0 : Int32)), .unset, .unset, .unset, .unset] [(.int (0 : Int32))])) _
          refine XS.istore X238.here hx rfl (hb hby at_77) rfl (l' := #[.val (.int flags), .val (.int c1), .val (.int c2), .val .null, .val .null, .val (.int (0 : Int32)), .val (.int (0 : Int32)), .unset, .unset, .unset]) rfl ?_
          exact kt)
      obtain ⟨T241, X241, e241, st241⟩ := getS2 X238 hx hZ hown (host := "") (Or.inl (hw _ (List.mem_of_getElem? (i := 34) rfl))) Via.refl e238 (S_ACCOUNT.ext O0.2) (g := (mkF m 79 #[.val (.int flags), .val (.int c1), .val (.int c2), .val .null, .val .null, .val (.int (0 : Int32)), .val (.int (0 : Int32)), .unset, .unset, .unset] [])) rfl (hb hby at_79)
      have pre242 : Goes p e below s₁ (entryFrame m #[(.int flags), (.int c1), (.int c2)] maxLocals) T241 (mkF m 82 #[.val (.int flags), .val (.int c1), .val (.int c2), .val .null, .val .null, .val (.int (0 : Int32)), .val (.int (0 : Int32)), .unset, .unset, .unset] [(.ref aACCOUNT)]) := fun t kt => pre240 t (st241 t kt)
      have pre243 : Goes p e below s₁ (entryFrame m #[(.int flags), (.int c1), (.int c2)] maxLocals) T241 (mkF m 85 #[.val (.int flags), .val (.int c1), .val (.int c2), .val .null, .val .null, .val (.int (0 : Int32)), .val (.int (0 : Int32)), .unset, .unset, .unset] [.null, .null, (.ref aACCOUNT)]) := fun t kt => pre242 t (by
          show Steps p.tables e below (T241.setTop (mkF m 82 #[.val (.int flags), .val (.int c1), .val (.int c2), .val .null, .val .null, .val (.int (0 : Int32)), .val (.int (0 : Int32)), .unset, .unset, .unset] [(.ref aACCOUNT)])) _
          refine XS.aloadN X241.here hx rfl (hb hby at_82) rfl rfl ?_
          show Steps p.tables e below (T241.setTop (mkF m 83 #[.val (.int flags), .val (.int c1), .val (.int c2), .val .null, .val .null, .val (.int (0 : Int32)), .val (.int (0 : Int32)), .unset, .unset, .unset] [.null, (.ref aACCOUNT)])) _
          refine XS.aload X241.here hx rfl (hb hby at_83) rfl rfl ?_
          exact kt)
      obtain ⟨cq244, kq244, q244a, q244b, q244c⟩ := isOf hZ e241 E_ACCOUNT
      obtain ⟨_, _, ⟨T244, L244, k244, n244⟩, -, X244, ⟨Lc244, hQ244, l244, y244, z244⟩, st244⟩ := X241.virtualBack hx (y := (⟨"com/example/tallygate/tallygate/KeyType", "canKey", "(Ljava/lang/String;Ljava/lang/String;)Z"⟩ : MethodName)) (z := (⟨"com/example/tallygate/tallygate/KeyType", "canKey", "(Ljava/lang/String;Ljava/lang/String;)Z"⟩ : MethodName)) hown (mvT hZ (hw _ (List.mem_of_getElem? (i := 37) rfl))) (mvT hZ (hw _ (List.mem_of_getElem? (i := 38) rfl))) (notFace_of_selects (args := #[]) (mvT hZ (hw _ (List.mem_of_getElem? (i := 40) rfl)))) (mvT hZ (hw _ (List.mem_of_getElem? (i := 40) rfl))) (mvT hZ (hw _ (List.mem_of_getElem? (i := 39) rfl))) (by decide) (backOf (W := 0) (own_canKey000 l Z a0 hw [] aACCOUNT h0 n0 Z0 E_ACCOUNT O_ACCOUNT) hZ (hw _ (List.mem_of_getElem? (i := 41) rfl)) (hw _ (List.mem_of_getElem? (i := 35) rfl)) (by decide) (by decide)) q244a q244c (g := (mkF m 85 #[.val (.int flags), .val (.int c1), .val (.int c2), .val .null, .val .null, .val (.int (0 : Int32)), .val (.int (0 : Int32)), .unset, .unset, .unset] [.null, .null, (.ref aACCOUNT)])) rfl (by rw [hml]; rfl) (Steps.refl _) (argsL := [.null, .null]) (rest := []) (lenOf own_pd7 rfl) rfl (by show 2 * 0 + _ ≤ _; exact Nat.le_of_eq rfl) (hb hby at_85) (fun _ _ => ⟨rfl, e241, (by decide : 0 + 0 ≤ _), (by decide : 0 + 0 ≤ _)⟩)
      dsimp only [Pt.U, Pt.locs, Pt.cells, Pt.slots] at X244 l244 y244 z244 st244 hQ244
      subst l244 y244 z244
      obtain ⟨rfl, N244q, e244⟩ := hQ244
      have N244 := Fr.app N238 N244q
      have pre245 : Goes p e below s₁ (entryFrame m #[(.int flags), (.int c1), (.int c2)] maxLocals) T244 (mkF m 88 #[.val (.int flags), .val (.int c1), .val (.int c2), .val .null, .val .null, .val (.int (0 : Int32)), .val (.int (0 : Int32)), .unset, .unset, .unset] [(.int (0 : Int32))]) := fun t kt => pre243 t (st244.trans kt)
      have pre246 : Goes p e below s₁ (entryFrame m #[(.int flags), (.int c1), (.int c2)] maxLocals) T244 (mkF m 90 #[.val (.int flags), .val (.int c1), .val (.int c2), .val .null, .val .null, .val (.int (0 : Int32)), .val (.int (0 : Int32)), .val (.int (0 : Int32)), .unset, .unset] []) := fun t kt => pre245 t (by
          show Steps p.tables e below (T244.setTop (mkF m 88 #[.val (.int flags), .val (.int c1), .val (.int c2), .val .null, .val .null, .val (.int (0 : Int32)), .val (.int (0 : Int32)), .unset, .unset, .unset] [(.int (0 : Int32))])) _
          refine XS.istore X244.here hx rfl (hb hby at_88) rfl (l' := #[.val (.int flags), .val (.int c1), .val (.int c2), .val .null, .val .null, .val (.int (0 : Int32)), .val (.int (0 : Int32)), .val (.int (0 : Int32)), .unset, .unset]) rfl ?_
          exact kt)
      obtain ⟨T247, X247, e247, st247⟩ := getS2 X244 hx hZ hown (host := "") (Or.inl (hw _ (List.mem_of_getElem? (i := 51) rfl))) Via.refl e244 (S_ADDRESS.ext O0.2) (g := (mkF m 90 #[.val (.int flags), .val (.int c1), .val (.int c2), .val .null, .val .null, .val (.int (0 : Int32)), .val (.int (0 : Int32)), .val (.int (0 : Int32)), .unset, .unset] [])) rfl (hb hby at_90)
      have pre248 : Goes p e below s₁ (entryFrame m #[(.int flags), (.int c1), (.int c2)] maxLocals) T247 (mkF m 93 #[.val (.int flags), .val (.int c1), .val (.int c2), .val .null, .val .null, .val (.int (0 : Int32)), .val (.int (0 : Int32)), .val (.int (0 : Int32)), .unset, .unset] [(.ref aADDRESS)]) := fun t kt => pre246 t (st247 t kt)
      have pre249 : Goes p e below s₁ (entryFrame m #[(.int flags), (.int c1), (.int c2)] maxLocals) T247 (mkF m 96 #[.val (.int flags), .val (.int c1), .val (.int c2), .val .null, .val .null, .val (.int (0 : Int32)), .val (.int (0 : Int32)), .val (.int (0 : Int32)), .unset, .unset] [.null, .null, (.ref aADDRESS)]) := fun t kt => pre248 t (by
          show Steps p.tables e below (T247.setTop (mkF m 93 #[.val (.int flags), .val (.int c1), .val (.int c2), .val .null, .val .null, .val (.int (0 : Int32)), .val (.int (0 : Int32)), .val (.int (0 : Int32)), .unset, .unset] [(.ref aADDRESS)])) _
          refine XS.aloadN X247.here hx rfl (hb hby at_93) rfl rfl ?_
          show Steps p.tables e below (T247.setTop (mkF m 94 #[.val (.int flags), .val (.int c1), .val (.int c2), .val .null, .val .null, .val (.int (0 : Int32)), .val (.int (0 : Int32)), .val (.int (0 : Int32)), .unset, .unset] [.null, (.ref aADDRESS)])) _
          refine XS.aload X247.here hx rfl (hb hby at_94) rfl rfl ?_
          exact kt)
      obtain ⟨cq250, kq250, q250a, q250b, q250c⟩ := isOf hZ e247 E_ADDRESS
      obtain ⟨_, _, ⟨T250, L250, k250, n250⟩, -, X250, ⟨Lc250, hQ250, l250, y250, z250⟩, st250⟩ := X247.virtualBack hx (y := (⟨"com/example/tallygate/tallygate/KeyType", "canKey", "(Ljava/lang/String;Ljava/lang/String;)Z"⟩ : MethodName)) (z := (⟨"com/example/tallygate/tallygate/KeyType", "canKey", "(Ljava/lang/String;Ljava/lang/String;)Z"⟩ : MethodName)) hown (mvT hZ (hw _ (List.mem_of_getElem? (i := 37) rfl))) (mvT hZ (hw _ (List.mem_of_getElem? (i := 38) rfl))) (notFace_of_selects (args := #[]) (mvT hZ (hw _ (List.mem_of_getElem? (i := 40) rfl)))) (mvT hZ (hw _ (List.mem_of_getElem? (i := 40) rfl))) (mvT hZ (hw _ (List.mem_of_getElem? (i := 39) rfl))) (by decide) (backOf (W := 0) (own_canKey100 l Z a0 hw [] aADDRESS h0 n0 Z0 E_ADDRESS O_ADDRESS) hZ (hw _ (List.mem_of_getElem? (i := 41) rfl)) (hw _ (List.mem_of_getElem? (i := 35) rfl)) (by decide) (by decide)) q250a q250c (g := (mkF m 96 #[.val (.int flags), .val (.int c1), .val (.int c2), .val .null, .val .null, .val (.int (0 : Int32)), .val (.int (0 : Int32)), .val (.int (0 : Int32)), .unset, .unset] [.null, .null, (.ref aADDRESS)])) rfl (by rw [hml]; rfl) (Steps.refl _) (argsL := [.null, .null]) (rest := []) (lenOf own_pd7 rfl) rfl (by show 2 * 0 + _ ≤ _; exact Nat.le_of_eq rfl) (hb hby at_96) (fun _ _ => ⟨rfl, e247, (by decide : 0 + 0 ≤ _), (by decide : 0 + 0 ≤ _)⟩)
      dsimp only [Pt.U, Pt.locs, Pt.cells, Pt.slots] at X250 l250 y250 z250 st250 hQ250
      subst l250 y250 z250
      obtain ⟨rfl, N250q, e250⟩ := hQ250
      have N250 := Fr.app N244 N250q
      have pre251 : Goes p e below s₁ (entryFrame m #[(.int flags), (.int c1), (.int c2)] maxLocals) T250 (mkF m 99 #[.val (.int flags), .val (.int c1), .val (.int c2), .val .null, .val .null, .val (.int (0 : Int32)), .val (.int (0 : Int32)), .val (.int (0 : Int32)), .unset, .unset] [(.int (0 : Int32))]) := fun t kt => pre249 t (st250.trans kt)
      have pre252 : Goes p e below s₁ (entryFrame m #[(.int flags), (.int c1), (.int c2)] maxLocals) T250 (mkF m 101 #[.val (.int flags), .val (.int c1), .val (.int c2), .val .null, .val .null, .val (.int (0 : Int32)), .val (.int (0 : Int32)), .val (.int (0 : Int32)), .val (.int (0 : Int32)), .unset] []) := fun t kt => pre251 t (by
          show Steps p.tables e below (T250.setTop (mkF m 99 #[.val (.int flags), .val (.int c1), .val (.int c2), .val .null, .val .null, .val (.int (0 : Int32)), .val (.int (0 : Int32)), .val (.int (0 : Int32)), .unset, .unset] [(.int (0 : Int32))])) _
          refine XS.istore X250.here hx rfl (hb hby at_99) rfl (l' := #[.val (.int flags), .val (.int c1), .val (.int c2), .val .null, .val .null, .val (.int (0 : Int32)), .val (.int (0 : Int32)), .val (.int (0 : Int32)), .val (.int (0 : Int32)), .unset]) rfl ?_
          exact kt)
      obtain ⟨T253, X253, e253, st253⟩ := getS2 X250 hx hZ hown (host := "") (Or.inl (hw _ (List.mem_of_getElem? (i := 53) rfl))) Via.refl e250 (S_PAIR.ext O0.2) (g := (mkF m 101 #[.val (.int flags), .val (.int c1), .val (.int c2), .val .null, .val .null, .val (.int (0 : Int32)), .val (.int (0 : Int32)), .val (.int (0 : Int32)), .val (.int (0 : Int32)), .unset] [])) rfl (hb hby at_101)
      have pre254 : Goes p e below s₁ (entryFrame m #[(.int flags), (.int c1), (.int c2)] maxLocals) T253 (mkF m 104 #[.val (.int flags), .val (.int c1), .val (.int c2), .val .null, .val .null, .val (.int (0 : Int32)), .val (.int (0 : Int32)), .val (.int (0 : Int32)), .val (.int (0 : Int32)), .unset] [(.ref aPAIR)]) := fun t kt => pre252 t (st253 t kt)
      have pre255 : Goes p e below s₁ (entryFrame m #[(.int flags), (.int c1), (.int c2)] maxLocals) T253 (mkF m 107 #[.val (.int flags), .val (.int c1), .val (.int c2), .val .null, .val .null, .val (.int (0 : Int32)), .val (.int (0 : Int32)), .val (.int (0 : Int32)), .val (.int (0 : Int32)), .unset] [.null, .null, (.ref aPAIR)]) := fun t kt => pre254 t (by
          show Steps p.tables e below (T253.setTop (mkF m 104 #[.val (.int flags), .val (.int c1), .val (.int c2), .val .null, .val .null, .val (.int (0 : Int32)), .val (.int (0 : Int32)), .val (.int (0 : Int32)), .val (.int (0 : Int32)), .unset] [(.ref aPAIR)])) _
          refine XS.aloadN X253.here hx rfl (hb hby at_104) rfl rfl ?_
          show Steps p.tables e below (T253.setTop (mkF m 105 #[.val (.int flags), .val (.int c1), .val (.int c2), .val .null, .val .null, .val (.int (0 : Int32)), .val (.int (0 : Int32)), .val (.int (0 : Int32)), .val (.int (0 : Int32)), .unset] [.null, (.ref aPAIR)])) _
          refine XS.aload X253.here hx rfl (hb hby at_105) rfl rfl ?_
          exact kt)
      obtain ⟨cq256, kq256, q256a, q256b, q256c⟩ := isOf hZ e253 E_PAIR
      obtain ⟨_, _, ⟨T256, L256, k256, n256⟩, -, X256, ⟨Lc256, hQ256, l256, y256, z256⟩, st256⟩ := X253.virtualBack hx (y := (⟨"com/example/tallygate/tallygate/KeyType", "canKey", "(Ljava/lang/String;Ljava/lang/String;)Z"⟩ : MethodName)) (z := (⟨"com/example/tallygate/tallygate/KeyType", "canKey", "(Ljava/lang/String;Ljava/lang/String;)Z"⟩ : MethodName)) hown (mvT hZ (hw _ (List.mem_of_getElem? (i := 37) rfl))) (mvT hZ (hw _ (List.mem_of_getElem? (i := 38) rfl))) (notFace_of_selects (args := #[]) (mvT hZ (hw _ (List.mem_of_getElem? (i := 40) rfl)))) (mvT hZ (hw _ (List.mem_of_getElem? (i := 40) rfl))) (mvT hZ (hw _ (List.mem_of_getElem? (i := 39) rfl))) (by decide) (backOf (W := 0) (own_canKey200 l Z a0 hw [] aPAIR h0 n0 Z0 E_PAIR O_PAIR) hZ (hw _ (List.mem_of_getElem? (i := 41) rfl)) (hw _ (List.mem_of_getElem? (i := 35) rfl)) (by decide) (by decide)) q256a q256c (g := (mkF m 107 #[.val (.int flags), .val (.int c1), .val (.int c2), .val .null, .val .null, .val (.int (0 : Int32)), .val (.int (0 : Int32)), .val (.int (0 : Int32)), .val (.int (0 : Int32)), .unset] [.null, .null, (.ref aPAIR)])) rfl (by rw [hml]; rfl) (Steps.refl _) (argsL := [.null, .null]) (rest := []) (lenOf own_pd7 rfl) rfl (by show 2 * 0 + _ ≤ _; exact Nat.le_of_eq rfl) (hb hby at_107) (fun _ _ => ⟨rfl, e253, (by decide : 0 + 0 ≤ _), (by decide : 0 + 0 ≤ _)⟩)
      dsimp only [Pt.U, Pt.locs, Pt.cells, Pt.slots] at X256 l256 y256 z256 st256 hQ256
      subst l256 y256 z256
      obtain ⟨rfl, N256q, e256⟩ := hQ256
      have N256 := Fr.app N250 N256q
      have pre257 : Goes p e below s₁ (entryFrame m #[(.int flags), (.int c1), (.int c2)] maxLocals) T256 (mkF m 110 #[.val (.int flags), .val (.int c1), .val (.int c2), .val .null, .val .null, .val (.int (0 : Int32)), .val (.int (0 : Int32)), .val (.int (0 : Int32)), .val (.int (0 : Int32)), .unset] [(.int (0 : Int32))]) := fun t kt => pre255 t (st256.trans kt)
      have pre258 : Goes p e below s₁ (entryFrame m #[(.int flags), (.int c1), (.int c2)] maxLocals) T256 (mkF m 151 #[.val (.int flags), .val (.int c1), .val (.int c2), .val .null, .val .null, .val (.int (0 : Int32)), .val (.int (0 : Int32)), .val (.int (0 : Int32)), .val (.int (0 : Int32)), .val (.int (0 : Int32))] [(.int (1 : Int32))]) := fun t kt => pre257 t (by
          show Steps p.tables e below (T256.setTop (mkF m 110 #[.val (.int flags), .val (.int c1), .val (.int c2), .val .null, .val .null, .val (.int (0 : Int32)), .val (.int (0 : Int32)), .val (.int (0 : Int32)), .val (.int (0 : Int32)), .unset] [(.int (0 : Int32))])) _
          refine XS.istore X256.here hx rfl (hb hby at_110) rfl (l' := #[.val (.int flags), .val (.int c1), .val (.int c2), .val .null, .val .null, .val (.int (0 : Int32)), .val (.int (0 : Int32)), .val (.int (0 : Int32)), .val (.int (0 : Int32)), .val (.int (0 : Int32))]) rfl ?_
          show Steps p.tables e below (T256.setTop (mkF m 112 #[.val (.int flags), .val (.int c1), .val (.int c2), .val .null, .val .null, .val (.int (0 : Int32)), .val (.int (0 : Int32)), .val (.int (0 : Int32)), .val (.int (0 : Int32)), .val (.int (0 : Int32))] [])) _
          refine XS.iload X256.here hx rfl (hb hby at_112) rfl ?_
          show Steps p.tables e below (T256.setTop (mkF m 114 #[.val (.int flags), .val (.int c1), .val (.int c2), .val .null, .val .null, .val (.int (0 : Int32)), .val (.int (0 : Int32)), .val (.int (0 : Int32)), .val (.int (0 : Int32)), .val (.int (0 : Int32))] [(.int (0 : Int32))])) _
          refine XS.iload X256.here hx rfl (hb hby at_114) rfl ?_
          show Steps p.tables e below (T256.setTop (mkF m 116 #[.val (.int flags), .val (.int c1), .val (.int c2), .val .null, .val .null, .val (.int (0 : Int32)), .val (.int (0 : Int32)), .val (.int (0 : Int32)), .val (.int (0 : Int32)), .val (.int (0 : Int32))] [(.int (0 : Int32)), (.int (0 : Int32))])) _
          refine XS.icmpNo X256.here hx rfl (hb hby at_116) rfl (teq (by decide : (0 : Int32) = (0 : Int32))).2 ?_
          show Steps p.tables e below (T256.setTop (mkF m 119 #[.val (.int flags), .val (.int c1), .val (.int c2), .val .null, .val .null, .val (.int (0 : Int32)), .val (.int (0 : Int32)), .val (.int (0 : Int32)), .val (.int (0 : Int32)), .val (.int (0 : Int32))] [])) _
          refine XS.iload X256.here hx rfl (hb hby at_119) rfl ?_
          show Steps p.tables e below (T256.setTop (mkF m 121 #[.val (.int flags), .val (.int c1), .val (.int c2), .val .null, .val .null, .val (.int (0 : Int32)), .val (.int (0 : Int32)), .val (.int (0 : Int32)), .val (.int (0 : Int32)), .val (.int (0 : Int32))] [(.int (0 : Int32))])) _
          refine XS.iload X256.here hx rfl (hb hby at_121) rfl ?_
          show Steps p.tables e below (T256.setTop (mkF m 123 #[.val (.int flags), .val (.int c1), .val (.int c2), .val .null, .val .null, .val (.int (0 : Int32)), .val (.int (0 : Int32)), .val (.int (0 : Int32)), .val (.int (0 : Int32)), .val (.int (0 : Int32))] [(.int (0 : Int32)), (.int (0 : Int32))])) _
          refine XS.icmpNo X256.here hx rfl (hb hby at_123) rfl (teq (by decide : (0 : Int32) = (0 : Int32))).2 ?_
          show Steps p.tables e below (T256.setTop (mkF m 126 #[.val (.int flags), .val (.int c1), .val (.int c2), .val .null, .val .null, .val (.int (0 : Int32)), .val (.int (0 : Int32)), .val (.int (0 : Int32)), .val (.int (0 : Int32)), .val (.int (0 : Int32))] [])) _
          refine XS.iload X256.here hx rfl (hb hby at_126) rfl ?_
          show Steps p.tables e below (T256.setTop (mkF m 128 #[.val (.int flags), .val (.int c1), .val (.int c2), .val .null, .val .null, .val (.int (0 : Int32)), .val (.int (0 : Int32)), .val (.int (0 : Int32)), .val (.int (0 : Int32)), .val (.int (0 : Int32))] [(.int (0 : Int32))])) _
          refine XS.iload X256.here hx rfl (hb hby at_128) rfl ?_
          show Steps p.tables e below (T256.setTop (mkF m 130 #[.val (.int flags), .val (.int c1), .val (.int c2), .val .null, .val .null, .val (.int (0 : Int32)), .val (.int (0 : Int32)), .val (.int (0 : Int32)), .val (.int (0 : Int32)), .val (.int (0 : Int32))] [(.int (0 : Int32)), (.int (0 : Int32))])) _
          refine XS.ifYes X256.here hx rfl (pc0 := 130) (pc' := 142) rfl (hb hby at_130) rfl ((if0 _ _).trans (teq (by decide : (0 : Int32) = (0 : Int32))).1) (by decide) (by decide) ?_
          show Steps p.tables e below (T256.setTop (mkF m 142 #[.val (.int flags), .val (.int c1), .val (.int c2), .val .null, .val .null, .val (.int (0 : Int32)), .val (.int (0 : Int32)), .val (.int (0 : Int32)), .val (.int (0 : Int32)), .val (.int (0 : Int32))] [(.int (0 : Int32))])) _
          refine XS.iconst X256.here hx rfl (hb hby at_142) ?_
          show Steps p.tables e below (T256.setTop (mkF m 143 #[.val (.int flags), .val (.int c1), .val (.int c2), .val .null, .val .null, .val (.int (0 : Int32)), .val (.int (0 : Int32)), .val (.int (0 : Int32)), .val (.int (0 : Int32)), .val (.int (0 : Int32))] [(.int (0 : Int32)), (.int (0 : Int32))])) _
          refine XS.icmpNo X256.here hx rfl (hb hby at_143) rfl (teq (by decide : (0 : Int32) = (0 : Int32))).2 ?_
          show Steps p.tables e below (T256.setTop (mkF m 146 #[.val (.int flags), .val (.int c1), .val (.int c2), .val .null, .val .null, .val (.int (0 : Int32)), .val (.int (0 : Int32)), .val (.int (0 : Int32)), .val (.int (0 : Int32)), .val (.int (0 : Int32))] [])) _
          refine XS.iconst X256.here hx rfl (hb hby at_146) ?_
          show Steps p.tables e below (T256.setTop (mkF m 147 #[.val (.int flags), .val (.int c1), .val (.int c2), .val .null, .val .null, .val (.int (0 : Int32)), .val (.int (0 : Int32)), .val (.int (0 : Int32)), .val (.int (0 : Int32)), .val (.int (0 : Int32))] [(.int (1 : Int32))])) _
          refine XS.goto X256.here hx rfl (pc0 := 147) (pc' := 151) rfl (hb hby at_147) (by decide) (by decide) ?_
          exact kt)
      obtain ⟨fs, hr, hrun, hended, hW, hsame⟩ := X256.leave (v := some (.int (1 : Int32))) (fun h => by rw [Bd.returns] at h; cases h)
      have hEnd := ReturnedEndW.of_narrow (o := .returned (some (.int (1 : Int32)))) ⟨_, rfl⟩ hW hsame
      refine ⟨_, _, pre258 _ ?_, hrun, hended, _, _, rfl, ?_, hEnd.1, hEnd.2.1, hEnd.2.2.1, hEnd.2.2.2.mono (by decide) (by decide)⟩
      · show Steps p.tables e below (T256.setTop (mkF m 151 #[.val (.int flags), .val (.int c1), .val (.int c2), .val .null, .val .null, .val (.int (0 : Int32)), .val (.int (0 : Int32)), .val (.int (0 : Int32)), .val (.int (0 : Int32)), .val (.int (0 : Int32))] [(.int (1 : Int32))])) _
        exact retN X256 hx (t := .boolean) Bd.returns (by simp) (hb hby at_151) hr
      · show Q_own_rm0 Z flags c1 c2 cs aACCOUNT aADDRESS aPAIR h0 n0 _ T256.heap _
        rw [e256]
        exact ⟨rfl, N256⟩
set_option maxRecDepth 65536 in
set_option maxHeartbeats 40000000 in
theorem comes_1 {Post : Tables → Env → Array Value → State → Outcome → State → Prop} (hpost : ∀ tb e args s v u, (limb_1_1.after args s (.returned v) u = true ∧ limb_1_2.after args s (.returned v) u = true ∧ True) → ReturnedEndW s (.returned v) u (Jvm.fieldLocs frame_1_writes args s ++ Jvm.arrayLocs frame_1_arrays args s ++ Jvm.staticLocs frame_1_statics s) 24 1152 → Post tb e args s (.returned v) u) :
    ArmFor flags0 classFile x code maxLocals ret World_1 tables_1 room_1 Calls_1 rest_1 Pre_1 Post := by
  intro l hfl _ _ p e ha hc hk s m args below hf hA hF happ hP
  obtain ⟨hcalls, hrest, hpre⟩ := hP
  obtain ⟨-, -, -, hnamed, -, -, -, hat⟩ := (Spec.applies_iff hf).mp happ
  obtain ⟨hg, hn⟩ := and_e (Cond.before_iff.mp (show (Jvm.Cond.and given_1 narrow_1).before args s = true from hpre))
  obtain ⟨g5, g6⟩ := and_e hg
  obtain ⟨g7, g8⟩ := and_e g6
  obtain ⟨g9, g10⟩ := and_e g8
  obtain ⟨w0, w1, w2, rfl⟩ : ∃ w0 w1 w2 : Value, args = #[w0, w1, w2] := by
    have hs : args.size = 3 := by simpa [Cond.value, given_1] using g5
    obtain ⟨L⟩ := args
    match L, hs with
    | [w0, w1, w2], _ => exact ⟨w0, w1, w2, rfl⟩
  have hw := fun d (hd : d ∈ tables_1) => atoms_spec (ws := Jvm.Cond.code x code maxLocals ret :: tables_1) hat d (List.mem_cons_of_mem _ hd)
  have hfit : Fit s := fun {y c} hc i hi => by
    obtain ⟨ha, rfl⟩ := Array.getElem?_eq_some_iff.mp hc
    have q := List.all_eq_true.mp ((Array.all_eq_true_iff_forall_mem.mp hF) _ (Array.getElem_mem ha)) i (List.mem_range.mpr hi)
    simpa [Array.getElem?_eq_getElem hi] using q
  obtain ⟨hsets, hown0⟩ := atoms_of _ (rest_1_c_eq ▸ (show rest_1_c.before _ s = true from hrest))
  have hr0 := Cond.before_iff.mp hown0
  obtain ⟨i0, ei0⟩ := is_v g7
  obtain rfl : w0 = (.int i0) := Option.some.inj ei0
  obtain ⟨i1, ei1⟩ := is_v g9
  obtain rfl : w1 = (.int i1) := Option.some.inj ei1
  obtain ⟨i2, ei2⟩ := is_v g10
  obtain rfl : w2 = (.int i2) := Option.some.inj ei2
  have n5 := not_v (Cond.before_iff.mp (hsets _ (List.mem_of_getElem? (i := 2) rfl)))
  obtain ⟨ics, ecs⟩ := is_v (Cond.before_iff.mp (hsets _ (List.mem_of_getElem? (i := 1) rfl)))
  have S_CS : Sta s s.heap "java/lang/String" "COMPACT_STRINGS" "Z" (.int ics) := Sta.start ecs (Or.inl (hsets _ (List.mem_of_getElem? (i := 0) rfl)))
  have hcs : ¬ (ics = (0 : Int32)) := gotF (Cond.eq_ints ecs (Term.int_eval (0))) n5
  obtain ⟨q0, r0⟩ := and_e hn
  obtain ⟨q1, r1⟩ := and_e r0
  obtain ⟨q2, r2⟩ := and_e r1
  obtain ⟨q3, r3⟩ := and_e r2
  obtain ⟨q4, r4⟩ := and_e r3
  obtain ⟨aACCOUNT, evACCOUNT⟩ := exa_v q0
  have E_ACCOUNT := Exa.start evACCOUNT q0
  have S_ACCOUNT := Sta.start evACCOUNT (Or.inr ⟨(hw _ (List.mem_of_getElem? (i := 35) rfl)), (hw _ (List.mem_of_getElem? (i := 36) rfl))⟩)
  obtain ⟨aADDRESS, evADDRESS⟩ := exa_v q2
  have E_ADDRESS := Exa.start evADDRESS q2
  have S_ADDRESS := Sta.start evADDRESS (Or.inr ⟨(hw _ (List.mem_of_getElem? (i := 35) rfl)), (hw _ (List.mem_of_getElem? (i := 52) rfl))⟩)
  obtain ⟨aPAIR, evPAIR⟩ := exa_v q4
  have E_PAIR := Exa.start evPAIR q4
  have S_PAIR := Sta.start evPAIR (Or.inr ⟨(hw _ (List.mem_of_getElem? (i := 35) rfl)), (hw _ (List.mem_of_getElem? (i := 54) rfl))⟩)
  have O_ACCOUNT := Fld.start (own_ord evACCOUNT q1)
  have O_ADDRESS := Fld.start (own_ord evADDRESS q3)
  have O_PAIR := Fld.start (own_ord evPAIR r4)
  obtain ⟨n, o, h1, h2, h3, _, L, rfl, ⟨rfl, N⟩, hq⟩ := own_rm0 l s _ hw tables_1 i0 i1 i2 ics aACCOUNT aADDRESS aPAIR s.heap s.heap.size (Nat.le_refl _) S_CS hcs (Old.start s) S_ACCOUNT S_ADDRESS S_PAIR E_ACCOUNT E_ADDRESS E_PAIR O_ACCOUNT O_ADDRESS O_PAIR p e ha hc hk s m _ below hf ((Spec.applies_iff_loose hf).mp happ).1 ⟨rfl, State.Warmed39.refl s, rfl⟩ trivial
  refine ⟨n, _, h1, h2, h3, hpost _ _ _ _ _ _ ⟨Cond.after_iff.mpr rfl, Cond.after_iff.mpr (eq_i res_at (Term.int_eval (1)) rfl), trivial⟩ ⟨hq.1, hq.2.1, hq.2.2.1, (hq.2.2.2.sift fun y hy => Or.inr (N y hy)).mono (by decide) (by decide)⟩⟩
theorem main_1_1 : Claimed_1_1 := comes_1 fun _ _ _ _ _ _ h hF => ⟨h.1, hF⟩
theorem main_1_2 : Claimed_1_2 := comes_1 fun _ _ _ _ _ _ h hF => ⟨h.2.1, hF⟩
end Jvm.Pilot.@@N@@
namespace Jvm.Pilot.@@N@@
open Jvm Jvm.ClassFile Sem Op Lib Jvm.Free Jvm.Stand Jvm.Pilot.@@N@@.Jvm.D
/-! MADE BY PROGRAM (witnessworld.py) out of the Statement's table words and the real class files: 21 classes; the members and pool entries that the words name. The judged class is class 1, her method 1. -/
namespace start1
open Jvm.ClassFile
def u (s : String) : CpInfo := .utf8 (stringToUtf16 s)
/-- a pool by its gaps: so many unusable entries, then the entry; so many at the end -/
def gap : Nat → List CpInfo → List CpInfo
  | 0, r => r
  | n + 1, r => .unusable :: gap n r
def poolList (es : List (Nat × CpInfo)) (last : Nat) : List CpInfo := es.foldr (fun e r => gap e.1 (e.2 :: r)) (gap last [])
def pool (es : List (Nat × CpInfo)) (last : Nat) : Array CpInfo := ⟨poolList es last⟩
def fileOf (pool : Array CpInfo) (this : Nat) (attrs : Array Attribute := #[]) (ms : Array MethodInfo := #[]) (fl : Nat := 33) (sup : Nat := 0) (ifs : Array Nat := #[]) (fds : Array FieldInfo := #[]) : ClassFile where
  minorVersion := 0
  majorVersion := 65
  constantPool := pool
  accessFlags := fl
  thisClass := this
  superClass := sup
  interfaces := ifs
  fields := fds
  methods := ms
  attributes := attrs
def plain (name : String) (sup : Option ClassId) : Class where
  name := name
  kind := .ordinary
  loader := none
  accessFlags := 33
  super := sup
  interfaces := #[]
  cf := none
  fields := #[]
  methods := #[]
  instanceTypes := #[]
  staticTypes := #[]
  resolved := #[]
  callSites := []
  init := .initialized
  statics := none
  mirror := none

def pool0 : Array CpInfo := pool [(5, u "<init>"), (0, u "()V"), (1, .class_ 10), (1, u "java/lang/Object")] 113

def k0c0 : Code := { maxStack := 0, maxLocals := 1, code := object_method_1_code, exceptionTable := #[], attributes := #[] }
def k0m0 : Method := { name := "<init>", desc := "()V", sig := { parameters := [], returnType := none }, accessFlags := 1, code := some k0c0 }
/-- java/lang/Object -/
def k0 : Class := { plain "java/lang/Object" none with
  accessFlags := 33
  interfaces := #[]
  cf := some (fileOf pool0 8 #[] #[{ accessFlags := 1, nameIndex := 5, descriptorIndex := 6, attributes := #[] }] 33 0 #[] #[])
  fields := #[]
  methods := #[k0m0]
  instanceTypes := #[]
  staticTypes := #[]
  resolved := Array.replicate 124 none
  statics := none }

def pool1 : Array CpInfo := pool [(2, .class_ 4), (1, u "java/lang/Object"), (0, u "<init>"), (0, u "()V"), (0, .methodref 8 9), (0, .class_ 10), (0, .nameAndType 11 12), (0, u "com/example/tallygate/tallygate/KeyTypeCanKeyPinLaw"), (0, u "make"), (0, u "(ZZI)Ljava/lang/String;"), (0, .fieldref 14 15), (0, .class_ 16), (0, .nameAndType 17 18), (0, u "com/example/tallygate/tallygate/KeyType"), (0, u "ACCOUNT"), (0, u "Lcom/example/tallygate/tallygate/KeyType;"), (0, .methodref 14 20), (0, .nameAndType 21 22), (0, u "canKey"), (0, u "(Ljava/lang/String;Ljava/lang/String;)Z"), (0, .fieldref 14 24), (0, .nameAndType 25 18), (0, u "ADDRESS"), (0, .fieldref 14 27), (0, .nameAndType 28 18), (0, u "PAIR"), (0, .string 30), (0, u ""), (0, .class_ 32), (0, u "java/lang/String"), (0, .methodref 31 34), (0, .nameAndType 5 35), (0, u "([C)V"), (2, u "law"), (0, u "(III)Z")] 3

def k1m0 : Method := { name := "<init>", desc := "()V", sig := { parameters := [], returnType := none }, accessFlags := 1, code := none }
def k1c1 : Code := { maxStack := 3, maxLocals := 10, code := code, exceptionTable := #[], attributes := #[] }
def k1m1 : Method := { name := "law", desc := "(III)Z", sig := { parameters := [.int, .int, .int], returnType := some .boolean }, accessFlags := 9, code := some k1c1 }
def k1c2 : Code := { maxStack := 4, maxLocals := 4, code := method_3_code, exceptionTable := #[], attributes := #[] }
def k1m2 : Method := { name := "make", desc := "(ZZI)Ljava/lang/String;", sig := { parameters := [.boolean, .boolean, .int], returnType := some (.object "java/lang/String") }, accessFlags := 10, code := some k1c2 }
/-- com/example/tallygate/tallygate/KeyTypeCanKeyPinLaw -/
def k1 : Class := { plain "com/example/tallygate/tallygate/KeyTypeCanKeyPinLaw" (some 0) with
  accessFlags := 49
  interfaces := #[]
  cf := some (fileOf pool1 8 #[] #[{ accessFlags := 1, nameIndex := 5, descriptorIndex := 6, attributes := #[] }, { accessFlags := 9, nameIndex := 38, descriptorIndex := 39, attributes := #[] }, { accessFlags := 10, nameIndex := 11, descriptorIndex := 12, attributes := #[] }] 49 2 #[] #[])
  fields := #[]
  methods := #[k1m0, k1m1, k1m2]
  instanceTypes := #[]
  staticTypes := #[]
  resolved := Array.replicate 43 none
  statics := none }

def pool2 : Array CpInfo := pool [(1, .class_ 2), (0, u "java/io/Serializable"), (0, .class_ 4), (0, u "java/lang/Object")] 2

/-- java/io/Serializable -/
def k2 : Class := { plain "java/io/Serializable" (some 0) with
  accessFlags := 1537
  interfaces := #[]
  cf := some (fileOf pool2 1 #[] #[] 1537 3 #[] #[])
  fields := #[]
  methods := #[]
  instanceTypes := #[]
  staticTypes := #[]
  resolved := Array.replicate 7 none
  statics := none }

def pool3 : Array CpInfo := pool [(1, .class_ 2), (0, u "java/lang/Comparable"), (0, .class_ 4), (0, u "java/lang/Object")] 7

/-- java/lang/Comparable -/
def k3 : Class := { plain "java/lang/Comparable" (some 0) with
  accessFlags := 1537
  interfaces := #[]
  cf := some (fileOf pool3 1 #[] #[] 1537 3 #[] #[])
  fields := #[]
  methods := #[]
  instanceTypes := #[]
  staticTypes := #[]
  resolved := Array.replicate 12 none
  statics := none }

def pool4 : Array CpInfo := pool [(2, .class_ 4), (1, u "java/lang/CharSequence"), (42, .class_ 48), (0, u "java/lang/CharSequence$1CodePointIterator"), (10, .class_ 60), (0, u "java/lang/CharSequence$1CharIterator"), (5, .class_ 67), (0, u "java/lang/Object")] 63

/-- java/lang/CharSequence -/
def k4 : Class := { plain "java/lang/CharSequence" (some 0) with
  accessFlags := 1537
  interfaces := #[]
  cf := some (fileOf pool4 2 #[.nestMembers #[47, 59]] #[] 1537 66 #[] #[])
  fields := #[]
  methods := #[]
  instanceTypes := #[]
  staticTypes := #[]
  resolved := Array.replicate 131 none
  statics := none }

def pool5 : Array CpInfo := pool [(1, .class_ 2), (0, u "java/lang/constant/Constable"), (0, .class_ 4), (0, u "java/lang/Object")] 6

/-- java/lang/constant/Constable -/
def k5 : Class := { plain "java/lang/constant/Constable" (some 0) with
  accessFlags := 1537
  interfaces := #[]
  cf := some (fileOf pool5 1 #[] #[] 1537 3 #[] #[])
  fields := #[]
  methods := #[]
  instanceTypes := #[]
  staticTypes := #[]
  resolved := Array.replicate 11 none
  statics := none }

def pool6 : Array CpInfo := pool [(1, .class_ 2), (0, u "java/lang/constant/ConstantDesc"), (0, .class_ 4), (0, u "java/lang/Object")] 32

/-- java/lang/constant/ConstantDesc -/
def k6 : Class := { plain "java/lang/constant/ConstantDesc" (some 0) with
  accessFlags := 1537
  interfaces := #[]
  cf := some (fileOf pool6 1 #[] #[] 1537 3 #[] #[])
  fields := #[]
  methods := #[]
  instanceTypes := #[]
  staticTypes := #[]
  resolved := Array.replicate 37 none
  statics := none }

def pool7 : Array CpInfo := pool [(1, .methodref 2 3), (0, .class_ 4), (0, .nameAndType 5 6), (0, u "java/lang/Object"), (0, u "<init>"), (0, u "()V"), (2, .fieldref 10 11), (0, .class_ 12), (0, .nameAndType 13 14), (0, u "java/lang/String"), (0, u "value"), (0, u "[B"), (0, .fieldref 10 16), (0, .nameAndType 17 18), (0, u "coder"), (0, u "B"), (2, u "hash"), (0, u "I"), (2, u "hashIsZero"), (0, u "Z"), (0, .methodref 10 28), (0, .nameAndType 5 29), (0, u "([CIILjava/lang/Void;)V"), (8, .fieldref 10 39), (0, .nameAndType 40 26), (0, u "COMPACT_STRINGS"), (1, .class_ 44), (1, u "java/lang/StringUTF16"), (0, u "compress"), (1, .methodref 42 48), (0, .nameAndType 49 50), (0, u "coderFromArrayLen"), (0, u "([BI)B"), (126, .methodref 42 178), (0, .nameAndType 45 179), (0, u "([CII)[B"), (395, .class_ 576), (0, u "java/lang/CharSequence"), (22, u "CASE_INSENSITIVE_ORDER"), (0, u "Ljava/util/Comparator;"), (409, u "([C)V"), (90, u "serialPersistentFields"), (0, u "[Ljava/io/ObjectStreamField;"), (0, .class_ 1104), (0, u "java/lang/String$CaseInsensitiveComparator"), (1, .class_ 1107), (0, u "java/io/Serializable"), (0, .class_ 1109), (0, u "java/lang/Comparable"), (0, .class_ 1111), (0, u "java/lang/constant/Constable"), (0, .class_ 1113), (0, u "java/lang/constant/ConstantDesc"), (2, u "serialVersionUID"), (0, u "J"), (3, u "REPL"), (0, u "C"), (2, u "LATIN1"), (1, u "UTF16")] 323

def k7m0 : Method := { name := "<init>", desc := "()V", sig := { parameters := [], returnType := none }, accessFlags := 1, code := none }
def k7c1 : Code := { maxStack := 5, maxLocals := 2, code := jdk_42_method_3_code, exceptionTable := #[], attributes := #[] }
def k7m1 : Method := { name := "<init>", desc := "([C)V", sig := { parameters := [(.array .char)], returnType := none }, accessFlags := 1, code := some k7c1 }
def k7c2 : Code := { maxStack := 4, maxLocals := 6, code := jdk_42_method_149_code, exceptionTable := #[], attributes := #[] }
def k7m2 : Method := { name := "<init>", desc := "([CIILjava/lang/Void;)V", sig := { parameters := [(.array .char), .int, .int, (.object "java/lang/Void")], returnType := none }, accessFlags := 2, code := some k7c2 }
/-- java/lang/String -/
def k7 : Class := { plain "java/lang/String" (some 0) with
  accessFlags := 49
  interfaces := #[2, 3, 4, 5, 6]
  cf := some (fileOf pool7 10 #[.nestMembers #[1103]] #[{ accessFlags := 1, nameIndex := 5, descriptorIndex := 6, attributes := #[] }, { accessFlags := 1, nameIndex := 5, descriptorIndex := 1010, attributes := #[] }, { accessFlags := 2, nameIndex := 5, descriptorIndex := 29, attributes := #[] }] 49 2 #[1106, 1108, 575, 1110, 1112] #[{ accessFlags := 18, nameIndex := 13, descriptorIndex := 14, attributes := #[] }, { accessFlags := 18, nameIndex := 17, descriptorIndex := 18, attributes := #[] }, { accessFlags := 2, nameIndex := 21, descriptorIndex := 22, attributes := #[] }, { accessFlags := 2, nameIndex := 25, descriptorIndex := 26, attributes := #[] }, { accessFlags := 26, nameIndex := 1116, descriptorIndex := 1117, attributes := #[] }, { accessFlags := 24, nameIndex := 40, descriptorIndex := 26, attributes := #[] }, { accessFlags := 26, nameIndex := 1101, descriptorIndex := 1102, attributes := #[] }, { accessFlags := 26, nameIndex := 1121, descriptorIndex := 1122, attributes := #[] }, { accessFlags := 25, nameIndex := 599, descriptorIndex := 600, attributes := #[] }, { accessFlags := 24, nameIndex := 1125, descriptorIndex := 18, attributes := #[] }, { accessFlags := 24, nameIndex := 1127, descriptorIndex := 18, attributes := #[] }])
  fields := #[{ name := "value", type := (.array .byte), accessFlags := 18, slot := 0, constantValue := 0 }, { name := "coder", type := .byte, accessFlags := 18, slot := 1, constantValue := 0 }, { name := "hash", type := .int, accessFlags := 2, slot := 2, constantValue := 0 }, { name := "hashIsZero", type := .boolean, accessFlags := 2, slot := 3, constantValue := 0 }, { name := "serialVersionUID", type := .long, accessFlags := 26, slot := 0, constantValue := 0 }, { name := "COMPACT_STRINGS", type := .boolean, accessFlags := 24, slot := 1, constantValue := 0 }, { name := "serialPersistentFields", type := (.array (.object "java/io/ObjectStreamField")), accessFlags := 26, slot := 2, constantValue := 0 }, { name := "REPL", type := .char, accessFlags := 26, slot := 3, constantValue := 0 }, { name := "CASE_INSENSITIVE_ORDER", type := (.object "java/util/Comparator"), accessFlags := 25, slot := 4, constantValue := 0 }, { name := "LATIN1", type := .byte, accessFlags := 24, slot := 5, constantValue := 0 }, { name := "UTF16", type := .byte, accessFlags := 24, slot := 6, constantValue := 0 }]
  methods := #[k7m0, k7m1, k7m2]
  instanceTypes := #[(.array .byte), .byte, .int, .boolean]
  staticTypes := #[.long, .boolean, (.array (.object "java/io/ObjectStreamField")), .char, (.object "java/util/Comparator"), .byte, .byte]
  resolved := Array.replicate 1451 none
  statics := some 0 }

def pool8 : Array CpInfo := pool [(6, .class_ 8), (1, u "java/lang/Object"), (0, u "<init>"), (0, u "()V"), (1, .class_ 14), (1, u "java/lang/StringUTF16"), (31, u "$assertionsDisabled"), (0, u "Z"), (13, u "HI_BYTE_SHIFT"), (0, u "I"), (2, u "LO_BYTE_SHIFT"), (49, .methodref 12 116), (0, .nameAndType 117 118), (0, u "compress"), (0, u "([CI[BII)I"), (3, u "([CII)[B"), (138, u "coderFromArrayLen"), (0, u "([BI)B"), (106, .class_ 371), (1, u "java/lang/StringUTF16$LinesSpliterator"), (58, u "MAX_LENGTH"), (196, .class_ 628), (0, u "java/lang/StringUTF16$CodePointsSpliterator"), (0, .class_ 630), (0, u "java/lang/StringUTF16$CharsSpliterator")] 4

def k8m0 : Method := { name := "<init>", desc := "()V", sig := { parameters := [], returnType := none }, accessFlags := 0, code := none }
def k8c1 : Code := { maxStack := 2, maxLocals := 2, code := jdk_52_method_15_code, exceptionTable := #[], attributes := #[] }
def k8m1 : Method := { name := "coderFromArrayLen", desc := "([BI)B", sig := { parameters := [(.array .byte), .int], returnType := some .byte }, accessFlags := 8, code := some k8c1 }
def k8c2 : Code := { maxStack := 5, maxLocals := 6, code := jdk_52_method_16_code, exceptionTable := #[], attributes := #[] }
def k8m2 : Method := { name := "compress", desc := "([CII)[B", sig := { parameters := [(.array .char), .int, .int], returnType := some (.array .byte) }, accessFlags := 9, code := some k8c2 }
def k8c3 : Code := { maxStack := 3, maxLocals := 7, code := jdk_52_method_21_code, exceptionTable := #[], attributes := #[] }
def k8m3 : Method := { name := "compress", desc := "([CI[BII)I", sig := { parameters := [(.array .char), .int, (.array .byte), .int, .int], returnType := some .int }, accessFlags := 9, code := some k8c3 }
/-- java/lang/StringUTF16 -/
def k8 : Class := { plain "java/lang/StringUTF16" (some 0) with
  accessFlags := 48
  interfaces := #[]
  cf := some (fileOf pool8 12 #[.nestMembers #[627, 629, 369]] #[{ accessFlags := 0, nameIndex := 9, descriptorIndex := 10, attributes := #[] }, { accessFlags := 8, nameIndex := 261, descriptorIndex := 262, attributes := #[] }, { accessFlags := 9, nameIndex := 117, descriptorIndex := 122, attributes := #[] }, { accessFlags := 9, nameIndex := 117, descriptorIndex := 118, attributes := #[] }] 48 6 #[] #[{ accessFlags := 26, nameIndex := 61, descriptorIndex := 62, attributes := #[] }, { accessFlags := 26, nameIndex := 65, descriptorIndex := 62, attributes := #[] }, { accessFlags := 24, nameIndex := 430, descriptorIndex := 62, attributes := #[] }, { accessFlags := 4120, nameIndex := 46, descriptorIndex := 47, attributes := #[] }])
  fields := #[{ name := "HI_BYTE_SHIFT", type := .int, accessFlags := 26, slot := 0, constantValue := 0 }, { name := "LO_BYTE_SHIFT", type := .int, accessFlags := 26, slot := 1, constantValue := 0 }, { name := "MAX_LENGTH", type := .int, accessFlags := 24, slot := 2, constantValue := 0 }, { name := "$assertionsDisabled", type := .boolean, accessFlags := 4120, slot := 3, constantValue := 0 }]
  methods := #[k8m0, k8m1, k8m2, k8m3]
  instanceTypes := #[]
  staticTypes := #[.int, .int, .int, .boolean]
  resolved := Array.replicate 635 none
  statics := none }

def pool9 : Array CpInfo := pool [(2, .class_ 4), (1, u "java/lang/Enum"), (0, u "name"), (0, u "Ljava/lang/String;"), (0, .fieldref 2 8), (0, .nameAndType 9 10), (0, u "ordinal"), (0, u "I"), (1, .class_ 14), (1, u "java/lang/Object"), (4, u "hash"), (86, .class_ 108), (1, u "java/lang/Enum$EnumDesc"), (2, .class_ 112), (0, u "java/lang/constant/Constable"), (0, .class_ 114), (0, u "java/lang/Comparable"), (0, .class_ 116), (0, u "java/io/Serializable"), (9, u "()I")] 77

def k9c0 : Code := { maxStack := 1, maxLocals := 1, code := jdk_37_method_2_code, exceptionTable := #[], attributes := #[] }
def k9m0 : Method := { name := "ordinal", desc := "()I", sig := { parameters := [], returnType := some .int }, accessFlags := 17, code := some k9c0 }
/-- java/lang/Enum -/
def k9 : Class := { plain "java/lang/Enum" (some 0) with
  accessFlags := 1057
  interfaces := #[5, 3, 2]
  cf := some (fileOf pool9 2 #[.nestMembers #[106]] #[{ accessFlags := 17, nameIndex := 9, descriptorIndex := 126, attributes := #[] }] 1057 12 #[111, 113, 115] #[{ accessFlags := 18, nameIndex := 5, descriptorIndex := 6, attributes := #[] }, { accessFlags := 18, nameIndex := 9, descriptorIndex := 10, attributes := #[] }, { accessFlags := 2, nameIndex := 19, descriptorIndex := 10, attributes := #[] }])
  fields := #[{ name := "name", type := (.object "java/lang/String"), accessFlags := 18, slot := 0, constantValue := 0 }, { name := "ordinal", type := .int, accessFlags := 18, slot := 1, constantValue := 0 }, { name := "hash", type := .int, accessFlags := 2, slot := 2, constantValue := 0 }]
  methods := #[k9m0]
  instanceTypes := #[(.object "java/lang/String"), .int, .int]
  staticTypes := #[]
  resolved := Array.replicate 204 none
  statics := none }

def pool10 : Array CpInfo := pool [(1, .class_ 2), (0, u "com/example/tallygate/tallygate/KeyType"), (2, u "ACCOUNT"), (0, u "Lcom/example/tallygate/tallygate/KeyType;"), (2, u "ADDRESS"), (2, u "PAIR"), (2, u "$VALUES"), (0, u "[Lcom/example/tallygate/tallygate/KeyType;"), (6, .class_ 25), (1, u "java/lang/Enum"), (22, .methodref 1 49), (0, .nameAndType 50 51), (0, u "ordinal"), (0, u "()I"), (7, u "canKey"), (0, u "(Ljava/lang/String;Ljava/lang/String;)Z"), (95, u "DIGEST_LENGTH"), (0, u "I"), (2, u "DIGEST_CHUNK")] 35

def k10c0 : Code := { maxStack := 4, maxLocals := 3, code := prog_10_method_7_code, exceptionTable := #[], attributes := #[] }
def k10m0 : Method := { name := "canKey", desc := "(Ljava/lang/String;Ljava/lang/String;)Z", sig := { parameters := [(.object "java/lang/String"), (.object "java/lang/String")], returnType := some .boolean }, accessFlags := 1, code := some k10c0 }
/-- com/example/tallygate/tallygate/KeyType -/
def k10 : Class := { plain "com/example/tallygate/tallygate/KeyType" (some 9) with
  accessFlags := 16433
  interfaces := #[]
  cf := some (fileOf pool10 1 #[] #[{ accessFlags := 1, nameIndex := 59, descriptorIndex := 60, attributes := #[] }] 16433 23 #[] #[{ accessFlags := 16409, nameIndex := 5, descriptorIndex := 6, attributes := #[] }, { accessFlags := 16409, nameIndex := 9, descriptorIndex := 6, attributes := #[] }, { accessFlags := 16409, nameIndex := 12, descriptorIndex := 6, attributes := #[] }, { accessFlags := 26, nameIndex := 156, descriptorIndex := 157, attributes := #[] }, { accessFlags := 26, nameIndex := 160, descriptorIndex := 157, attributes := #[] }, { accessFlags := 4122, nameIndex := 15, descriptorIndex := 16, attributes := #[] }])
  fields := #[{ name := "ACCOUNT", type := (.object "com/example/tallygate/tallygate/KeyType"), accessFlags := 16409, slot := 0, constantValue := 0 }, { name := "ADDRESS", type := (.object "com/example/tallygate/tallygate/KeyType"), accessFlags := 16409, slot := 1, constantValue := 0 }, { name := "PAIR", type := (.object "com/example/tallygate/tallygate/KeyType"), accessFlags := 16409, slot := 2, constantValue := 0 }, { name := "DIGEST_LENGTH", type := .int, accessFlags := 26, slot := 3, constantValue := 0 }, { name := "DIGEST_CHUNK", type := .int, accessFlags := 26, slot := 4, constantValue := 0 }, { name := "$VALUES", type := (.array (.object "com/example/tallygate/tallygate/KeyType")), accessFlags := 4122, slot := 5, constantValue := 0 }]
  methods := #[k10m0]
  instanceTypes := #[(.object "java/lang/String"), .int, .int]
  staticTypes := #[(.object "com/example/tallygate/tallygate/KeyType"), (.object "com/example/tallygate/tallygate/KeyType"), (.object "com/example/tallygate/tallygate/KeyType"), .int, .int, (.array (.object "com/example/tallygate/tallygate/KeyType"))]
  resolved := Array.replicate 196 none
  statics := some 1 }

def pool11 : Array CpInfo := pool [(4, .class_ 6), (1, u "java/lang/Object"), (0, u "<init>"), (0, u "()V"), (5, .class_ 16), (1, u "java/lang/StringLatin1"), (104, u "$assertionsDisabled"), (0, u "Z"), (98, .class_ 223), (1, u "java/lang/StringLatin1$LinesSpliterator"), (166, .class_ 391), (0, u "java/lang/StringLatin1$CharsSpliterator")] 3

def k11m0 : Method := { name := "<init>", desc := "()V", sig := { parameters := [], returnType := none }, accessFlags := 0, code := none }
/-- java/lang/StringLatin1 -/
def k11 : Class := { plain "java/lang/StringLatin1" (some 0) with
  accessFlags := 48
  interfaces := #[]
  cf := some (fileOf pool11 14 #[.nestMembers #[390, 221]] #[{ accessFlags := 0, nameIndex := 7, descriptorIndex := 8, attributes := #[] }] 48 4 #[] #[{ accessFlags := 4120, nameIndex := 121, descriptorIndex := 122, attributes := #[] }])
  fields := #[{ name := "$assertionsDisabled", type := .boolean, accessFlags := 4120, slot := 0, constantValue := 0 }]
  methods := #[k11m0]
  instanceTypes := #[]
  staticTypes := #[.boolean]
  resolved := Array.replicate 395 none
  statics := none }

def pool12 : Array CpInfo := pool [(2, .class_ 4), (1, u "java/lang/Object"), (0, u "<init>"), (0, u "()V"), (17, .class_ 26), (1, u "jdk/internal/util/Preconditions"), (28, .class_ 56), (0, u "jdk/internal/util/Preconditions$4"), (57, .class_ 115), (0, u "jdk/internal/util/Preconditions$1"), (7, u "SIOOBE_FORMATTER"), (0, u "Ljava/util/function/BiFunction;"), (0, .class_ 126), (0, u "jdk/internal/util/Preconditions$2"), (3, u "AIOOBE_FORMATTER"), (0, .class_ 132), (0, u "jdk/internal/util/Preconditions$3"), (3, u "IOOBE_FORMATTER")] 57

def k12m0 : Method := { name := "<init>", desc := "()V", sig := { parameters := [], returnType := none }, accessFlags := 1, code := none }
/-- jdk/internal/util/Preconditions -/
def k12 : Class := { plain "jdk/internal/util/Preconditions" (some 0) with
  accessFlags := 33
  interfaces := #[]
  cf := some (fileOf pool12 24 #[.nestMembers #[55, 131, 125, 114]] #[{ accessFlags := 1, nameIndex := 5, descriptorIndex := 6, attributes := #[] }] 33 2 #[] #[{ accessFlags := 25, nameIndex := 123, descriptorIndex := 124, attributes := #[] }, { accessFlags := 25, nameIndex := 130, descriptorIndex := 124, attributes := #[] }, { accessFlags := 25, nameIndex := 136, descriptorIndex := 124, attributes := #[] }])
  fields := #[{ name := "SIOOBE_FORMATTER", type := (.object "java/util/function/BiFunction"), accessFlags := 25, slot := 0, constantValue := 0 }, { name := "AIOOBE_FORMATTER", type := (.object "java/util/function/BiFunction"), accessFlags := 25, slot := 1, constantValue := 0 }, { name := "IOOBE_FORMATTER", type := (.object "java/util/function/BiFunction"), accessFlags := 25, slot := 2, constantValue := 0 }]
  methods := #[k12m0]
  instanceTypes := #[]
  staticTypes := #[(.object "java/util/function/BiFunction"), (.object "java/util/function/BiFunction"), (.object "java/util/function/BiFunction")]
  resolved := Array.replicate 194 none
  statics := some 2 }

def pool13 : Array CpInfo := pool [(9, u "<init>"), (6, .class_ 18), (1, u "java/lang/Object"), (0, u "()V"), (1, .class_ 23), (1, u "jdk/internal/util/ArraysSupport"), (0, u "LOG2_ARRAY_LONG_INDEX_SCALE"), (0, u "I"), (2, u "U"), (0, u "Ljdk/internal/misc/Unsafe;"), (8, u "BIG_ENDIAN"), (0, u "Z"), (8, u "LOG2_BYTE_BIT_SIZE"), (4, u "LOG2_ARRAY_INT_INDEX_SCALE"), (54, u "JLA"), (0, u "Ljdk/internal/access/JavaLangAccess;"), (11, u "LOG2_ARRAY_BOOLEAN_INDEX_SCALE"), (9, u "LOG2_ARRAY_BYTE_INDEX_SCALE"), (5, u "LOG2_ARRAY_CHAR_INDEX_SCALE"), (5, u "LOG2_ARRAY_SHORT_INDEX_SCALE"), (18, u "LOG2_ARRAY_FLOAT_INDEX_SCALE"), (24, u "LOG2_ARRAY_DOUBLE_INDEX_SCALE"), (89, u "T_BOOLEAN"), (2, u "T_CHAR"), (1, u "T_FLOAT"), (1, u "T_DOUBLE"), (1, u "T_BYTE"), (1, u "T_SHORT"), (1, u "T_INT"), (1, u "T_LONG"), (1, u "SOFT_MAX_ARRAY_LENGTH")] 83

def k13m0 : Method := { name := "<init>", desc := "()V", sig := { parameters := [], returnType := none }, accessFlags := 2, code := none }
/-- jdk/internal/util/ArraysSupport -/
def k13 : Class := { plain "jdk/internal/util/ArraysSupport" (some 0) with
  accessFlags := 33
  interfaces := #[]
  cf := some (fileOf pool13 21 #[] #[{ accessFlags := 2, nameIndex := 9, descriptorIndex := 19, attributes := #[] }] 33 16 #[] #[{ accessFlags := 24, nameIndex := 28, descriptorIndex := 29, attributes := #[] }, { accessFlags := 26, nameIndex := 38, descriptorIndex := 39, attributes := #[] }, { accessFlags := 25, nameIndex := 121, descriptorIndex := 25, attributes := #[] }, { accessFlags := 25, nameIndex := 131, descriptorIndex := 25, attributes := #[] }, { accessFlags := 25, nameIndex := 137, descriptorIndex := 25, attributes := #[] }, { accessFlags := 25, nameIndex := 143, descriptorIndex := 25, attributes := #[] }, { accessFlags := 25, nameIndex := 53, descriptorIndex := 25, attributes := #[] }, { accessFlags := 25, nameIndex := 24, descriptorIndex := 25, attributes := #[] }, { accessFlags := 25, nameIndex := 162, descriptorIndex := 25, attributes := #[] }, { accessFlags := 25, nameIndex := 187, descriptorIndex := 25, attributes := #[] }, { accessFlags := 26, nameIndex := 48, descriptorIndex := 25, attributes := #[] }, { accessFlags := 25, nameIndex := 277, descriptorIndex := 25, attributes := #[] }, { accessFlags := 25, nameIndex := 280, descriptorIndex := 25, attributes := #[] }, { accessFlags := 25, nameIndex := 282, descriptorIndex := 25, attributes := #[] }, { accessFlags := 25, nameIndex := 284, descriptorIndex := 25, attributes := #[] }, { accessFlags := 25, nameIndex := 286, descriptorIndex := 25, attributes := #[] }, { accessFlags := 25, nameIndex := 288, descriptorIndex := 25, attributes := #[] }, { accessFlags := 25, nameIndex := 290, descriptorIndex := 25, attributes := #[] }, { accessFlags := 25, nameIndex := 292, descriptorIndex := 25, attributes := #[] }, { accessFlags := 26, nameIndex := 108, descriptorIndex := 109, attributes := #[] }, { accessFlags := 25, nameIndex := 294, descriptorIndex := 25, attributes := #[] }])
  fields := #[{ name := "U", type := (.object "jdk/internal/misc/Unsafe"), accessFlags := 24, slot := 0, constantValue := 0 }, { name := "BIG_ENDIAN", type := .boolean, accessFlags := 26, slot := 1, constantValue := 0 }, { name := "LOG2_ARRAY_BOOLEAN_INDEX_SCALE", type := .int, accessFlags := 25, slot := 2, constantValue := 0 }, { name := "LOG2_ARRAY_BYTE_INDEX_SCALE", type := .int, accessFlags := 25, slot := 3, constantValue := 0 }, { name := "LOG2_ARRAY_CHAR_INDEX_SCALE", type := .int, accessFlags := 25, slot := 4, constantValue := 0 }, { name := "LOG2_ARRAY_SHORT_INDEX_SCALE", type := .int, accessFlags := 25, slot := 5, constantValue := 0 }, { name := "LOG2_ARRAY_INT_INDEX_SCALE", type := .int, accessFlags := 25, slot := 6, constantValue := 0 }, { name := "LOG2_ARRAY_LONG_INDEX_SCALE", type := .int, accessFlags := 25, slot := 7, constantValue := 0 }, { name := "LOG2_ARRAY_FLOAT_INDEX_SCALE", type := .int, accessFlags := 25, slot := 8, constantValue := 0 }, { name := "LOG2_ARRAY_DOUBLE_INDEX_SCALE", type := .int, accessFlags := 25, slot := 9, constantValue := 0 }, { name := "LOG2_BYTE_BIT_SIZE", type := .int, accessFlags := 26, slot := 10, constantValue := 0 }, { name := "T_BOOLEAN", type := .int, accessFlags := 25, slot := 11, constantValue := 0 }, { name := "T_CHAR", type := .int, accessFlags := 25, slot := 12, constantValue := 0 }, { name := "T_FLOAT", type := .int, accessFlags := 25, slot := 13, constantValue := 0 }, { name := "T_DOUBLE", type := .int, accessFlags := 25, slot := 14, constantValue := 0 }, { name := "T_BYTE", type := .int, accessFlags := 25, slot := 15, constantValue := 0 }, { name := "T_SHORT", type := .int, accessFlags := 25, slot := 16, constantValue := 0 }, { name := "T_INT", type := .int, accessFlags := 25, slot := 17, constantValue := 0 }, { name := "T_LONG", type := .int, accessFlags := 25, slot := 18, constantValue := 0 }, { name := "JLA", type := (.object "jdk/internal/access/JavaLangAccess"), accessFlags := 26, slot := 19, constantValue := 0 }, { name := "SOFT_MAX_ARRAY_LENGTH", type := .int, accessFlags := 25, slot := 20, constantValue := 0 }]
  methods := #[k13m0]
  instanceTypes := #[]
  staticTypes := #[(.object "jdk/internal/misc/Unsafe"), .boolean, .int, .int, .int, .int, .int, .int, .int, .int, .int, .int, .int, .int, .int, .int, .int, .int, .int, (.object "jdk/internal/access/JavaLangAccess"), .int]
  resolved := Array.replicate 378 none
  statics := none }

def pool14 : Array CpInfo := pool [(1, u "java/lang/Cloneable"), (0, .class_ 1), (0, u "java/lang/Object"), (0, .class_ 3)] 3

/-- java/lang/Cloneable -/
def k14 : Class := { plain "java/lang/Cloneable" (some 0) with
  accessFlags := 1537
  interfaces := #[]
  cf := some (fileOf pool14 2 #[] #[] 1537 4 #[] #[])
  fields := #[]
  methods := #[]
  instanceTypes := #[]
  staticTypes := #[]
  resolved := Array.replicate 8 none
  statics := none }

/-- the primitive byte -/
def k15 : Class := { plain "byte" none with kind := .primitive 'B', accessFlags := 0x411 }
/-- [B -/
def k16 : Class := { plain "[B" (some 0) with kind := .array 15 .byte, interfaces := #[14, 2], accessFlags := 1041 }

/-- the primitive char -/
def k17 : Class := { plain "char" none with kind := .primitive 'C', accessFlags := 0x411 }
/-- [C -/
def k18 : Class := { plain "[C" (some 0) with kind := .array 17 .char, interfaces := #[14, 2], accessFlags := 1041 }

/-- the primitive int -/
def k19 : Class := { plain "int" none with kind := .primitive 'I', accessFlags := 0x411 }
/-- [I -/
def k20 : Class := { plain "[I" (some 0) with kind := .array 19 .int, interfaces := #[14, 2], accessFlags := 1041 }

def heap : Heap := #[{ cls := 7, slots := #[.long 0, .int 1, .null, .int 0, .null, .int 0, .int 0], vm := .statics 7 },
  { cls := 10, slots := #[.ref 3, .ref 4, .ref 5, .int 0, .int 0, .null], vm := .statics 10 },
  { cls := 12, slots := #[.null, .null, .null], vm := .statics 12 },
  { cls := 10, slots := #[.null, .int 0, .int 0], vm := .none },
  { cls := 10, slots := #[.null, .int 1, .int 0], vm := .none },
  { cls := 10, slots := #[.null, .int 2, .int 0], vm := .none }]
def classes : Array Class := #[k0, k1, k2, k3, k4, k5, k6, k7, k8, k9, k10, k11, k12, k13, k14, k15, k16, k17, k18, k19, k20]
def interned : List (Array UInt16 × Addr) := []
def slotsUsed : Nat := 25
def theMethod : MethodId := ⟨1, 1⟩
def args0 : Array Value := #[.int 5, .int 7, .int 9]
def aboutOver (below : List Frame) : State where
  vm := { classes := classes, interned := interned.toArray }
  heap := heap
  slotsUsed := slotsUsed
  threads := #[{ frames := .invoking theMethod args0 :: below }]
def below0 : List Frame := [.native { method := ⟨0, 0⟩, args := #[] }]
def about1 : State := aboutOver below0
def p0 : Program := .bare "" "" ""
def e0 : Env := launch0.env 0 0 0
theorem w_frames : about1.frames = Frame.invoking theMethod args0 :: below0 := rfl
set_option maxRecDepth 65536 in
theorem w_args : argsFit about1.vm theMethod args0 = true := by decide +kernel
set_option maxRecDepth 65536 in
theorem w_heap : heapFits about1 = true := by decide +kernel
set_option maxRecDepth 65536 in
theorem w_runnable : about1.curStatus? = some .runnable := by decide +kernel
set_option maxRecDepth 65536 in
theorem w_alone : about1.alone = true := by decide +kernel
set_option maxRecDepth 65536 in
theorem w_named : about1.methodNamed? x = some theMethod := by decide +kernel
set_option maxRecDepth 65536 in
theorem w_hears : about1.hears theMethod below0 = true := by decide +kernel
set_option maxRecDepth 65536 in
theorem w_ripe : about1.ripe theMethod args0 below0 = true := by decide +kernel
theorem w_running : about1.status = .running := rfl
set_option maxRecDepth 65536 in
theorem w_room : about1.hasRoom e0.platform room_1 = true :=
  launch0.hasRoom_least _ room_1 (by decide +kernel) (by decide +kernel) (by decide +kernel) (by decide +kernel) (by decide +kernel) (by decide +kernel)
theorem allAtoms_all (ts : List Jvm.Cond) (a : Array Jvm.Value) (st : Jvm.State) : (allAtoms ts).before a st = ts.all (fun c => c.before a st) := by
  induction ts with
  | nil => rfl
  | cons c t ih =>
    show (Jvm.Cond.and c (allAtoms t)).before a st = _
    rw [Jvm.Cond.before_and, ih, List.all_cons]
def words1 : List Jvm.Cond := Jvm.Cond.code x code maxLocals ret :: tables_1
/-- a 'code' word, met by the world's own term for the bytes: nothing is compared byte by byte -/
theorem code_word {y : MethodName} {bytes : ByteArray} {mx : Nat} {rt : Option FieldType} {a : Array Value} {s : State} {m : MethodId} {meth : Method} {c : Code} (h1 : s.methodNamed? y = some m) (h2 : s.vm.method? m = some meth) (h3 : meth.code = some c) (h4 : c.code = bytes)
    (h5 : (c.maxLocals == mx && c.exceptionTable.isEmpty && decide (c.maxStack ≤ mostOperands) && decide (meth.sig.returnType = rt) && !meth.locks && decide (parseMethodDescriptor y.desc = some meth.sig)) = true) : (Jvm.Cond.code y bytes mx rt).before a s = true := by
  simp only [Bool.and_eq_true, beq_iff_eq, Bool.not_eq_true', decide_eq_true_eq] at h5
  obtain ⟨⟨⟨⟨⟨g1, g2⟩, g3⟩, g4⟩, g5⟩, g6⟩ := h5
  simp [Cond.before, Cond.holds, Cond.value, h1, h2, h3, h4, g1, g2, g3, g4, g5, g6]
def isCode : Jvm.Cond → Bool
  | .code _ _ _ _ => true
  | _ => false
theorem all_split {L : List Jvm.Cond} {P : Jvm.Cond → Bool} (h1 : L.all (fun c => isCode c || P c) = true) (h2 : ∀ c ∈ L.filter isCode, P c = true) : L.all P = true := by
  refine List.all_eq_true.mpr fun c hc => ?_
  have h := List.all_eq_true.mp h1 c hc
  rcases Bool.eq_false_or_eq_true (isCode c) with hi | hi
  · exact h2 c (List.mem_filter.mpr ⟨hc, hi⟩)
  · simpa [hi] using h
set_option maxRecDepth 65536 in
theorem w_c0 : (Jvm.Cond.code x code maxLocals ret).before args0 about1 = true := code_word (m := ⟨1, 1⟩) (meth := k1m1) (c := k1c1) (by decide +kernel) rfl rfl rfl (by decide +kernel)
set_option maxRecDepth 65536 in
theorem w_c1 : (Jvm.Cond.code ({ cls := "com/example/tallygate/tallygate/KeyTypeCanKeyPinLaw", name := "make", desc := "(ZZI)Ljava/lang/String;" } : Jvm.MethodName) method_3_code (4 : Nat) (Option.some (Jvm.ClassFile.FieldType.object "java/lang/String"))).before args0 about1 = true := code_word (m := ⟨1, 2⟩) (meth := k1m2) (c := k1c2) (by decide +kernel) rfl rfl rfl (by decide +kernel)
set_option maxRecDepth 65536 in
theorem w_c2 : (Jvm.Cond.code ({ cls := "java/lang/String", name := "<init>", desc := "([C)V" } : Jvm.MethodName) jdk_42_method_3_code (2 : Nat) (Option.none : Option Jvm.ClassFile.FieldType)).before args0 about1 = true := code_word (m := ⟨7, 1⟩) (meth := k7m1) (c := k7c1) (by decide +kernel) rfl rfl rfl (by decide +kernel)
set_option maxRecDepth 65536 in
theorem w_c3 : (Jvm.Cond.code ({ cls := "java/lang/String", name := "<init>", desc := "([CIILjava/lang/Void;)V" } : Jvm.MethodName) jdk_42_method_149_code (6 : Nat) (Option.none : Option Jvm.ClassFile.FieldType)).before args0 about1 = true := code_word (m := ⟨7, 2⟩) (meth := k7m2) (c := k7c2) (by decide +kernel) rfl rfl rfl (by decide +kernel)
set_option maxRecDepth 65536 in
theorem w_c4 : (Jvm.Cond.code ({ cls := "java/lang/Object", name := "<init>", desc := "()V" } : Jvm.MethodName) object_method_1_code (1 : Nat) (Option.none : Option Jvm.ClassFile.FieldType)).before args0 about1 = true := code_word (m := ⟨0, 0⟩) (meth := k0m0) (c := k0c0) (by decide +kernel) rfl rfl rfl (by decide +kernel)
set_option maxRecDepth 65536 in
theorem w_c5 : (Jvm.Cond.code ({ cls := "java/lang/StringUTF16", name := "compress", desc := "([CII)[B" } : Jvm.MethodName) jdk_52_method_16_code (6 : Nat) (Option.some (Jvm.ClassFile.FieldType.array Jvm.ClassFile.FieldType.byte))).before args0 about1 = true := code_word (m := ⟨8, 2⟩) (meth := k8m2) (c := k8c2) (by decide +kernel) rfl rfl rfl (by decide +kernel)
set_option maxRecDepth 65536 in
theorem w_c6 : (Jvm.Cond.code ({ cls := "java/lang/StringUTF16", name := "compress", desc := "([CI[BII)I" } : Jvm.MethodName) jdk_52_method_21_code (7 : Nat) (Option.some Jvm.ClassFile.FieldType.int)).before args0 about1 = true := code_word (m := ⟨8, 3⟩) (meth := k8m3) (c := k8c3) (by decide +kernel) rfl rfl rfl (by decide +kernel)
set_option maxRecDepth 65536 in
theorem w_c7 : (Jvm.Cond.code ({ cls := "java/lang/StringUTF16", name := "coderFromArrayLen", desc := "([BI)B" } : Jvm.MethodName) jdk_52_method_15_code (2 : Nat) (Option.some Jvm.ClassFile.FieldType.byte)).before args0 about1 = true := code_word (m := ⟨8, 1⟩) (meth := k8m1) (c := k8c1) (by decide +kernel) rfl rfl rfl (by decide +kernel)
set_option maxRecDepth 65536 in
theorem w_c8 : (Jvm.Cond.code ({ cls := "com/example/tallygate/tallygate/KeyType", name := "canKey", desc := "(Ljava/lang/String;Ljava/lang/String;)Z" } : Jvm.MethodName) prog_10_method_7_code (3 : Nat) (Option.some Jvm.ClassFile.FieldType.boolean)).before args0 about1 = true := code_word (m := ⟨10, 0⟩) (meth := k10m0) (c := k10c0) (by decide +kernel) rfl rfl rfl (by decide +kernel)
set_option maxRecDepth 65536 in
theorem w_c9 : (Jvm.Cond.code ({ cls := "java/lang/Enum", name := "ordinal", desc := "()I" } : Jvm.MethodName) jdk_37_method_2_code (1 : Nat) (Option.some Jvm.ClassFile.FieldType.int)).before args0 about1 = true := code_word (m := ⟨9, 0⟩) (meth := k9m0) (c := k9c0) (by decide +kernel) rfl rfl rfl (by decide +kernel)
def codes1 : List Jvm.Cond := [Jvm.Cond.code x code maxLocals ret, Jvm.Cond.code ({ cls := "com/example/tallygate/tallygate/KeyTypeCanKeyPinLaw", name := "make", desc := "(ZZI)Ljava/lang/String;" } : Jvm.MethodName) method_3_code (4 : Nat) (Option.some (Jvm.ClassFile.FieldType.object "java/lang/String")), Jvm.Cond.code ({ cls := "java/lang/String", name := "<init>", desc := "([C)V" } : Jvm.MethodName) jdk_42_method_3_code (2 : Nat) (Option.none : Option Jvm.ClassFile.FieldType), Jvm.Cond.code ({ cls := "java/lang/String", name := "<init>", desc := "([CIILjava/lang/Void;)V" } : Jvm.MethodName) jdk_42_method_149_code (6 : Nat) (Option.none : Option Jvm.ClassFile.FieldType), Jvm.Cond.code ({ cls := "java/lang/Object", name := "<init>", desc := "()V" } : Jvm.MethodName) object_method_1_code (1 : Nat) (Option.none : Option Jvm.ClassFile.FieldType), Jvm.Cond.code ({ cls := "java/lang/StringUTF16", name := "compress", desc := "([CII)[B" } : Jvm.MethodName) jdk_52_method_16_code (6 : Nat) (Option.some (Jvm.ClassFile.FieldType.array Jvm.ClassFile.FieldType.byte)), Jvm.Cond.code ({ cls := "java/lang/StringUTF16", name := "compress", desc := "([CI[BII)I" } : Jvm.MethodName) jdk_52_method_21_code (7 : Nat) (Option.some Jvm.ClassFile.FieldType.int), Jvm.Cond.code ({ cls := "java/lang/StringUTF16", name := "coderFromArrayLen", desc := "([BI)B" } : Jvm.MethodName) jdk_52_method_15_code (2 : Nat) (Option.some Jvm.ClassFile.FieldType.byte), Jvm.Cond.code ({ cls := "com/example/tallygate/tallygate/KeyType", name := "canKey", desc := "(Ljava/lang/String;Ljava/lang/String;)Z" } : Jvm.MethodName) prog_10_method_7_code (3 : Nat) (Option.some Jvm.ClassFile.FieldType.boolean), Jvm.Cond.code ({ cls := "java/lang/Enum", name := "ordinal", desc := "()I" } : Jvm.MethodName) jdk_37_method_2_code (1 : Nat) (Option.some Jvm.ClassFile.FieldType.int)]
set_option maxRecDepth 65536 in
theorem codes_eq : words1.filter isCode = codes1 := rfl
theorem w_codes : ∀ c ∈ words1.filter isCode, c.before args0 about1 = true := by
  rw [codes_eq]
  intro c hc
  simp only [codes1, List.mem_cons, List.not_mem_nil, or_false] at hc
  rcases hc with rfl | rfl | rfl | rfl | rfl | rfl | rfl | rfl | rfl | rfl
  · exact w_c0
  · exact w_c1
  · exact w_c2
  · exact w_c3
  · exact w_c4
  · exact w_c5
  · exact w_c6
  · exact w_c7
  · exact w_c8
  · exact w_c9
set_option maxRecDepth 65536 in
theorem w_t1 : (words1.take 24).all (fun c => isCode c || c.before args0 about1) = true := by decide +kernel
set_option maxRecDepth 65536 in
theorem w_t2 : ((words1.drop 24).take 24).all (fun c => isCode c || c.before args0 about1) = true := by decide +kernel
set_option maxRecDepth 65536 in
theorem w_t3 : ((words1.drop 24).drop 24).all (fun c => isCode c || c.before args0 about1) = true := by decide +kernel
theorem w_tables : (allAtoms (Jvm.Cond.code x code maxLocals ret :: tables_1)).before args0 about1 = true := by
  rw [allAtoms_all]
  show words1.all (fun c => c.before args0 about1) = true
  refine all_split ?_ w_codes
  rw [← List.take_append_drop 24 words1, List.all_append, w_t1, ← List.take_append_drop 24 (words1.drop 24), List.all_append, w_t2, w_t3]
  rfl
set_option maxRecDepth 65536 in
theorem w_rest : rest_1_c.before args0 about1 = true := by decide +kernel
set_option maxRecDepth 65536 in
theorem w_case : (Jvm.Cond.and given_1 narrow_1).before args0 about1 = true := by decide +kernel
theorem w_applies : (headSpec (Jvm.Cond.code x code maxLocals ret :: tables_1) room_1).applies x e0.platform about1 = true :=
  (Spec.applies_iff w_frames).mpr ⟨w_running, w_runnable, w_alone, w_named, w_hears, w_ripe, w_room, w_tables⟩
theorem atStart : AtStart classFile x code maxLocals ret World_1 tables_1 room_1 Calls_1 rest_1 Pre_1 launch0 p0 e0 about1 theMethod args0 below0 :=
  ⟨lists_1, trivial, launch0.admits_env _ _ _, launch0.least_env, fairChoices_fair.cas, fairChoices_fair.clock, w_frames, w_args, w_heap, w_applies, trivial, w_rest, w_case⟩
end start1
theorem witness_1 : WitnessClaimed_1 := ⟨start1.p0, start1.e0, start1.about1, start1.theMethod, start1.args0, start1.below0, start1.atStart⟩
end Jvm.Pilot.@@N@@
