import JvmDerived
import JvmDerived.Pilot.@@N@@Statement
import JvmDerived.Pilot.@@N@@Code
set_option linter.unusedVariables false
set_option linter.unusedSimpArgs false
namespace Jvm.RoadKit
open Sem ClassFile Op Lib Jvm.Stand Jvm.Free Jvm.LawKit
section New
variable {p : Program} {l : Launch} {e : Env} {R : Room} {s : State} {m : MethodId} {args : Array Value} {below : List Frame} {meth : Method} {c : Code} {T : State} {locs : List Loc} {cells slots : Nat}
theorem retI (X : Stand p l e R s m args below meth c T locs cells slots) (hx : p.tables.exec = Jvm.exec) {pc : Nat} {Ls : Array Slot} {z : Int32} {rest : List Value} (hret : meth.sig.returnType = some .int) (hd : decode c.code pc = .ok (.ireturn, 1)) {fs : List Frame}
    (hl : ∀ (f : JFrame) (acts : List Action), f.method = m → f.locked = none → f.entered = [] → (doReturn e (T.setTop f) acts (some (.int z))).1 = T.setFrames fs) : Steps p.tables e below (T.setTop (mkF m pc Ls (.int z :: rest))) (T.setFrames fs) := by
  have hm' : T.vm.method? m = some meth := X.method'
  have hn : narrow .int (.int z) = .int z := rfl
  show Steps p.tables e below (T.setTop { method := m, pc := pc, locals := Ls, stack := _ :: rest, locked := none }) _
  jvm_step X.here [X.here.top, hx, hd, hm', hret, hn]
  first | (intro acts; rw [hl _ acts rfl rfl rfl]) | rw [hl _ _ rfl rfl rfl]
  exact Steps.refl _
end New
end Jvm.RoadKit
namespace Jvm.Pilot.@@N@@
open Jvm Jvm.ClassFile Sem Op Lib Jvm.Free Jvm.Stand Jvm.LawKit Jvm.RoadKit Bundle Jvm.Pilot.@@N@@.Jvm.D
theorem own_ord {s : State} {args : Array Value} {t : Term} {x : Addr} {C n d : String} {k : Int32} (ht : t.eval args s none [] s = some (.ref x)) (h : (Jvm.Cond.eq (Jvm.Term.field t C n d) (Jvm.Term.int k)).value args s none s [] = some true) : s.fieldOf? x C n d = some (.int k) := by
  obtain ⟨a, b, ha, hb, -, hk⟩ := cmp_v (Or.inl h)
  have eb : b = .int k := (Option.some.inj ((Term.int_eval k).symm.trans hb)).symm
  subst eb
  obtain ⟨z, rfl⟩ := hk
  simp only [Cond.value, ha, hb] at h
  have e : z = k := by simpa using h
  rw [← e, ← ha, fld_at ht]
theorem own_pd0 : parseMethodDescriptor "(C)Z" = some ⟨[.char], some .boolean⟩ := by decide +kernel
theorem own_pd1 : parseMethodDescriptor "(C)[B" = some ⟨[.char], some (.array .byte)⟩ := by decide +kernel
theorem own_pd2 : parseMethodDescriptor "([BB)V" = some ⟨[(.array .byte), .byte], none⟩ := by decide +kernel
theorem own_pd3 : parseMethodDescriptor "()I" = some ⟨[], some .int⟩ := by decide +kernel
theorem own_pd4 : parseMethodDescriptor "(C)Ljava/lang/String;" = some ⟨[.char], some (.object "java/lang/String")⟩ := by decide +kernel
theorem own_pd5 : parseMethodDescriptor "()Z" = some ⟨[], some .boolean⟩ := by decide +kernel
theorem own_pd6 : parseMethodDescriptor "(Ljava/lang/String;Ljava/lang/String;)Z" = some ⟨[(.object "java/lang/String"), (.object "java/lang/String")], some .boolean⟩ := by decide +kernel
theorem own_n1 (qc : Int32) (qk : Int32) (a0 : ((qk &&& (2147483647 : Int32)) % (3 : Int32)) = (0 : Int32)) : ¬ ((255 : Int32) < ((qc &&& (255 : Int32)).toUInt32.toUInt16.toUInt32.toInt32)) := by
  simp only [Int32.lt_iff_toInt_lt]
  have c0 : ((qk &&& (2147483647 : Int32)) % (3 : Int32)).toInt = (0 : Int32).toInt := congrArg Int32.toInt a0
  have nf1 := rng32 qc
  have nf2 : (255 : Int32).toInt = 255 := by decide
  have nf3 := c_mask qc (255 : Int32) 8 (by decide) (by decide)
  have nr4 := rng32 ((qc &&& (255 : Int32)).toUInt32.toUInt16.toUInt32.toInt32)
  have nf4 := c_i2c (qc &&& (255 : Int32))
  have nf5 := rng32 qk
  have nf6 : (2147483647 : Int32).toInt = 2147483647 := by decide
  have nf7 := c_mask qk (2147483647 : Int32) 31 (by decide) (by decide)
  have nf8 : (3 : Int32).toInt = 3 := by decide
  have nf9 := c_irem (qk &&& (2147483647 : Int32)) (3 : Int32) (3) (by decide)
  have nf10 : (0 : Int32).toInt = 0 := by decide
  omega
theorem own_n2 (qc : Int32) (qk : Int32) (a0 : ¬ (((qk &&& (2147483647 : Int32)) % (3 : Int32)) = (0 : Int32))) (a1 : ((qk &&& (2147483647 : Int32)) % (3 : Int32)) = (1 : Int32)) : ¬ ((255 : Int32) < ((qc &&& (255 : Int32)).toUInt32.toUInt16.toUInt32.toInt32)) := by
  simp only [Int32.lt_iff_toInt_lt]
  have c0 : ¬ (((qk &&& (2147483647 : Int32)) % (3 : Int32)).toInt = (0 : Int32).toInt) := fun q => a0 (Int32.toInt_inj.mp q)
  have c1 : ((qk &&& (2147483647 : Int32)) % (3 : Int32)).toInt = (1 : Int32).toInt := congrArg Int32.toInt a1
  have nf1 := rng32 qc
  have nf2 : (255 : Int32).toInt = 255 := by decide
  have nf3 := c_mask qc (255 : Int32) 8 (by decide) (by decide)
  have nr4 := rng32 ((qc &&& (255 : Int32)).toUInt32.toUInt16.toUInt32.toInt32)
  have nf4 := c_i2c (qc &&& (255 : Int32))
  have nf5 := rng32 qk
  have nf6 : (2147483647 : Int32).toInt = 2147483647 := by decide
  have nf7 := c_mask qk (2147483647 : Int32) 31 (by decide) (by decide)
  have nf8 : (3 : Int32).toInt = 3 := by decide
  have nf9 := c_irem (qk &&& (2147483647 : Int32)) (3 : Int32) (3) (by decide)
  have nf10 : (0 : Int32).toInt = 0 := by decide
  have nf11 : (1 : Int32).toInt = 1 := by decide
  omega
theorem own_n3 (qc : Int32) (qk : Int32) (a0 : ¬ (((qk &&& (2147483647 : Int32)) % (3 : Int32)) = (0 : Int32))) (a1 : ¬ (((qk &&& (2147483647 : Int32)) % (3 : Int32)) = (1 : Int32))) : ¬ ((255 : Int32) < ((qc &&& (255 : Int32)).toUInt32.toUInt16.toUInt32.toInt32)) := by
  simp only [Int32.lt_iff_toInt_lt]
  have c0 : ¬ (((qk &&& (2147483647 : Int32)) % (3 : Int32)).toInt = (0 : Int32).toInt) := fun q => a0 (Int32.toInt_inj.mp q)
  have c1 : ¬ (((qk &&& (2147483647 : Int32)) % (3 : Int32)).toInt = (1 : Int32).toInt) := fun q => a1 (Int32.toInt_inj.mp q)
  have nf1 := rng32 qc
  have nf2 : (255 : Int32).toInt = 255 := by decide
  have nf3 := c_mask qc (255 : Int32) 8 (by decide) (by decide)
  have nr4 := rng32 ((qc &&& (255 : Int32)).toUInt32.toUInt16.toUInt32.toInt32)
  have nf4 := c_i2c (qc &&& (255 : Int32))
  have nf5 := rng32 qk
  have nf6 : (2147483647 : Int32).toInt = 2147483647 := by decide
  have nf7 := c_mask qk (2147483647 : Int32) 31 (by decide) (by decide)
  have nf8 : (3 : Int32).toInt = 3 := by decide
  have nf9 := c_irem (qk &&& (2147483647 : Int32)) (3 : Int32) (3) (by decide)
  have nf10 : (0 : Int32).toInt = 0 := by decide
  have nf11 : (1 : Int32).toInt = 1 := by decide
  omega
theorem own_d2_0 : decode jdk_43_method_3_code 0 = .ok (.iload_n 0, 1) := by decide +kernel
theorem own_d2_1 : decode jdk_43_method_3_code 1 = .ok (.sipush 255, 3) := by decide +kernel
theorem own_d2_4 : decode jdk_43_method_3_code 4 = .ok (.if_icmp .gt 7, 3) := by decide +kernel
theorem own_d2_7 : decode jdk_43_method_3_code 7 = .ok (.iconst 1, 1) := by decide +kernel
theorem own_d2_8 : decode jdk_43_method_3_code 8 = .ok (.goto 4, 3) := by decide +kernel
theorem own_d2_12 : decode jdk_43_method_3_code 12 = .ok (.ireturn, 1) := by decide +kernel
theorem own_pn_own_canEnc : plainName "java/lang/StringLatin1" = true := by first | (simp [plainName, overriddenIn]; done) | decide +kernel
theorem own_ef_own_canEnc (m : MethodId) (x0 : Int32) : entryFrame m #[(.int x0)] 1 = mkF m 0 #[.val (.int x0)] [] := by first | (simp [entryFrame, mkF, argsToLocals, Value.category]; done) | rfl
def Q_own_canEnc (Z : State) (p1 : Int32) (h0 : Heap) (n0 : Nat) (v : Option Value) (h : Heap) (L : List Loc) : Prop := v = some (.int (1 : Int32)) ∧ Fr n0 L ∧ h = h0
set_option maxRecDepth 65536 in
set_option maxHeartbeats 40000000 in
theorem own_canEnc (l : Launch) (Z : State) (a0 : Array Value) (hw : ∀ d ∈ tables_1, d.before a0 Z = true) (ws : List Jvm.Cond) (p1 : Int32) (h0 : Heap) (n0 : Nat) (Z0 : n0 ≤ h0.size) (hp : ¬ ((255 : Int32) < p1)) :
    MetFree l (⟨"java/lang/StringLatin1", "canEncode", "(C)Z"⟩ : MethodName) (head1 (Jvm.Cond.code (⟨"java/lang/StringLatin1", "canEncode", "(C)Z"⟩ : MethodName) jdk_43_method_3_code 1 (some .boolean) :: ws) ({ frames := 0, cells := 0, slots := 0, locals := 0 } : Room)) (fun a U => a = #[(.int p1)] ∧ Z.Warmed39 U.vm ∧ U.heap = h0) (fun _ _ _ _ _ => True) (fun _ U o U' => ∃ v L, o = .returned v ∧ Q_own_canEnc Z p1 h0 n0 v U'.heap L ∧ FrameEnd U o U' L ({ frames := 0, cells := 0, slots := 0, locals := 0 } : Room).cells ({ frames := 0, cells := 0, slots := 0, locals := 0 } : Room).slots) := by
  refine MetFree.of_bodySF (plainFor_of_name own_pn_own_canEnc) hisR ?_
  intro p e s m args below meth c s₁ Bd hml0 hP hK
  obtain ⟨rfl, hZ, hh⟩ := hP
  have hx := Bd.exec
  have hby := Bd.bytes
  have hml : c.maxLocals = 1 := hml0
  have hown : s.vm.findClass "java/lang/StringLatin1" = some m.cls := findClass_of_methodNamed Bd.named
  have hnm := (name_of_methodNamed Bd.named Bd.method).1
  have X0 : Stand p l e ({ frames := 0, cells := 0, slots := 0, locals := 0 } : Room) s m #[(.int p1)] below meth c s₁ [] 0 0 := Stand.of_body Bd
  have e0 : s₁.heap = h0 := by rw [← hh, Bd.state]; rfl
  have N0 := Fr.nil n0
  have pre0 : Goes p e below s₁ (entryFrame m #[(.int p1)] 1) s₁ (mkF m 0 #[.val (.int p1)] []) := fun t k => castTop (own_ef_own_canEnc m p1) k
  have pre1 : Goes p e below s₁ (entryFrame m #[(.int p1)] 1) s₁ (mkF m 12 #[.val (.int p1)] [(.int (1 : Int32))]) := fun t kt => pre0 t (by
      show Steps p.tables e below (s₁.setTop (mkF m 0 #[.val (.int p1)] [])) _
      refine XS.iloadN X0.here hx rfl (hb hby own_d2_0) rfl ?_
      show Steps p.tables e below (s₁.setTop (mkF m 1 #[.val (.int p1)] [(.int p1)])) _
      refine XS.sipush X0.here hx rfl (hb hby own_d2_1) ?_
      show Steps p.tables e below (s₁.setTop (mkF m 4 #[.val (.int p1)] [(.int (255 : Int32)), (.int p1)])) _
      refine XS.icmpNo X0.here hx rfl (hb hby own_d2_4) rfl (flt hp).2.2.1 ?_
      show Steps p.tables e below (s₁.setTop (mkF m 7 #[.val (.int p1)] [])) _
      refine XS.iconst X0.here hx rfl (hb hby own_d2_7) ?_
      show Steps p.tables e below (s₁.setTop (mkF m 8 #[.val (.int p1)] [(.int (1 : Int32))])) _
      refine XS.goto X0.here hx rfl (pc0 := 8) (pc' := 12) rfl (hb hby own_d2_8) (by decide) (by decide) ?_
      exact kt)
  obtain ⟨fs, hr, hrun, hended, hW, hsame⟩ := X0.leave (v := some (.int (1 : Int32))) (fun h => by rw [Bd.returns] at h; cases h)
  refine ⟨_, _, pre1 _ ?_, hrun, hended, _, _, rfl, ?_, ⟨_, rfl⟩, hW, hsame.mono (by decide) (by decide)⟩
  · show Steps p.tables e below (s₁.setTop (mkF m 12 #[.val (.int p1)] [(.int (1 : Int32))])) _
    exact retN X0 hx (t := .boolean) Bd.returns (by simp) (hb hby own_d2_12) hr
  · show Q_own_canEnc Z p1 h0 n0 _ s₁.heap _
    rw [e0]
    exact ⟨rfl, N0, rfl⟩
theorem own_d3_0 : decode jdk_43_method_46_code 0 = .ok (.iconst 1, 1) := by decide +kernel
theorem own_d3_1 : decode jdk_43_method_46_code 1 = .ok (.newarray .byte, 2) := by decide +kernel
theorem own_d3_3 : decode jdk_43_method_46_code 3 = .ok (.dup, 1) := by decide +kernel
theorem own_d3_4 : decode jdk_43_method_46_code 4 = .ok (.iconst 0, 1) := by decide +kernel
theorem own_d3_5 : decode jdk_43_method_46_code 5 = .ok (.iload_n 0, 1) := by decide +kernel
theorem own_d3_6 : decode jdk_43_method_46_code 6 = .ok (.i2b, 1) := by decide +kernel
theorem own_d3_7 : decode jdk_43_method_46_code 7 = .ok (.bastore, 1) := by decide +kernel
theorem own_d3_8 : decode jdk_43_method_46_code 8 = .ok (.areturn, 1) := by decide +kernel
theorem own_pn_own_toBytes : plainName "java/lang/StringLatin1" = true := by first | (simp [plainName, overriddenIn]; done) | decide +kernel
theorem own_ef_own_toBytes (m : MethodId) (x0 : Int32) : entryFrame m #[(.int x0)] 1 = mkF m 0 #[.val (.int x0)] [] := by first | (simp [entryFrame, mkF, argsToLocals, Value.category]; done) | rfl
def Q_own_toBytes (Z : State) (p1 : Int32) (h0 : Heap) (n0 : Nat) (v : Option Value) (h : Heap) (L : List Loc) : Prop := ∃ b : Addr, v = some (.ref b) ∧ Fr n0 L ∧ Keep h0 h []
set_option maxRecDepth 65536 in
set_option maxHeartbeats 40000000 in
theorem own_toBytes (l : Launch) (Z : State) (a0 : Array Value) (hw : ∀ d ∈ tables_1, d.before a0 Z = true) (ws : List Jvm.Cond) (p1 : Int32) (h0 : Heap) (n0 : Nat) (Z0 : n0 ≤ h0.size) :
    MetFree l (⟨"java/lang/StringLatin1", "toBytes", "(C)[B"⟩ : MethodName) (head1 (Jvm.Cond.code (⟨"java/lang/StringLatin1", "toBytes", "(C)[B"⟩ : MethodName) jdk_43_method_46_code 1 (some (.array .byte)) :: ws) ({ frames := 0, cells := 1, slots := 1, locals := 0 } : Room)) (fun a U => a = #[(.int p1)] ∧ Z.Warmed39 U.vm ∧ U.heap = h0) (fun _ _ _ _ _ => True) (fun _ U o U' => ∃ v L, o = .returned v ∧ Q_own_toBytes Z p1 h0 n0 v U'.heap L ∧ FrameEnd U o U' L ({ frames := 0, cells := 1, slots := 1, locals := 0 } : Room).cells ({ frames := 0, cells := 1, slots := 1, locals := 0 } : Room).slots) := by
  refine MetFree.of_bodySF (plainFor_of_name own_pn_own_toBytes) hisR ?_
  intro p e s m args below meth c s₁ Bd hml0 hP hK
  obtain ⟨rfl, hZ, hh⟩ := hP
  have hx := Bd.exec
  have hby := Bd.bytes
  have hml : c.maxLocals = 1 := hml0
  have hown : s.vm.findClass "java/lang/StringLatin1" = some m.cls := findClass_of_methodNamed Bd.named
  have hnm := (name_of_methodNamed Bd.named Bd.method).1
  have X0 : Stand p l e ({ frames := 0, cells := 1, slots := 1, locals := 0 } : Room) s m #[(.int p1)] below meth c s₁ [] 0 0 := Stand.of_body Bd
  have e0 : s₁.heap = h0 := by rw [← hh, Bd.state]; rfl
  have N0 := Fr.nil n0
  have pre0 : Goes p e below s₁ (entryFrame m #[(.int p1)] 1) s₁ (mkF m 0 #[.val (.int p1)] []) := fun t k => castTop (own_ef_own_toBytes m p1) k
  have pre1 : Goes p e below s₁ (entryFrame m #[(.int p1)] 1) s₁ (mkF m 1 #[.val (.int p1)] [(.int (1 : Int32))]) := fun t kt => pre0 t (by
      show Steps p.tables e below (s₁.setTop (mkF m 0 #[.val (.int p1)] [])) _
      refine XS.iconst X0.here hx rfl (hb hby own_d3_0) ?_
      exact kt)
  obtain ⟨T2, h2, k2, X2, e2, E2, A2, st2⟩ := newP X0 hx hZ (hw _ (List.mem_of_getElem? (i := 18) rfl)) e0 (g := (mkF m 1 #[.val (.int p1)] [(.int (1 : Int32))])) rfl (hb hby own_d3_1) rfl (by decide) (cap := 1) (by decide) (by decide) (by decide) (by decide)
  obtain ⟨b2, g2⟩ : ∃ z, z = h0.size := ⟨_, rfl⟩
  rw [← g2] at A2 st2
  have V_b2 : Arv Z h2 b2 k2 .byte (1 : Int32) [(.int (0 : Int32))] (.int (0 : Int32)) := (Arv.new A2 (by decide)).pad (pad_rep [] (.int (0 : Int32)) 1)
  have g_b2 : n0 ≤ b2 := Nat.le_trans Z0 (Nat.le_of_eq g2.symm)
  have sz_b2 : h0.size ≤ b2 := (Nat.le_trans (Keep.refl h0 []).1 (Nat.le_of_eq g2.symm))
  have K2 : Keep h0 h2 [] := (Keep.refl h0 []).ext E2
  have pre3 : Goes p e below s₁ (entryFrame m #[(.int p1)] 1) T2 (mkF m 3 #[.val (.int p1)] [(.ref b2)]) := fun t kt => pre1 t (st2 t kt)
  have pre4 : Goes p e below s₁ (entryFrame m #[(.int p1)] 1) T2 (mkF m 7 #[.val (.int p1)] [(.int (p1.toInt8.toInt32)), (.int (0 : Int32)), (.ref b2), (.ref b2)]) := fun t kt => pre3 t (by
      show Steps p.tables e below (T2.setTop (mkF m 3 #[.val (.int p1)] [(.ref b2)])) _
      refine XS.dup X2.here hx rfl (hb hby own_d3_3) rfl rfl ?_
      show Steps p.tables e below (T2.setTop (mkF m 4 #[.val (.int p1)] [(.ref b2), (.ref b2)])) _
      refine XS.iconst X2.here hx rfl (hb hby own_d3_4) ?_
      show Steps p.tables e below (T2.setTop (mkF m 5 #[.val (.int p1)] [(.int (0 : Int32)), (.ref b2), (.ref b2)])) _
      refine XS.iloadN X2.here hx rfl (hb hby own_d3_5) rfl ?_
      show Steps p.tables e below (T2.setTop (mkF m 6 #[.val (.int p1)] [(.int p1), (.int (0 : Int32)), (.ref b2), (.ref b2)])) _
      refine XS.i2b X2.here hx rfl (hb hby own_d3_6) rfl ?_
      exact kt)
  obtain ⟨cl5, Ar5, q5, S5, N_5, H5, G5⟩ := V_b2
  have hin5 : ¬ ((0 : Int32) < 0 ∨ cl5.slots.size ≤ ((0 : Int32)).toNatClampNeg) := inb_of S5 ⟨by decide, by decide⟩
  obtain ⟨T6, h6, X6, e6, W6, st6⟩ := stB X2 hx hZ e2 Ar5 (j := (0 : Int32)) hin5 (g := (mkF m 7 #[.val (.int p1)] [(.int (p1.toInt8.toInt32)), (.int (0 : Int32)), (.ref b2), (.ref b2)])) rfl rfl (hb hby own_d3_7)
  have V6 : Arv Z h6 b2 k2 .byte (1 : Int32) [(.int (nar .byte (p1.toInt8.toInt32)))] (.int (0 : Int32)) := Arv.set Ar5 q5 S5 N_5 H5 G5 (fits_nar_byte _) W6 0 rfl (Nat.le_of_ble_eq_true rfl)
  have K6 : Keep h0 h6 [] := K2.wr W6 (Or.inr sz_b2)
  have N6 := Fr.snoc X6 N0 g_b2
  have pre7 : Goes p e below s₁ (entryFrame m #[(.int p1)] 1) T6 (mkF m 8 #[.val (.int p1)] [(.ref b2)]) := fun t kt => pre4 t (st6 t kt)
  obtain ⟨fs, hr, hrun, hended, hW, hsame⟩ := X6.leave (v := some (.ref b2)) (fun h => by rw [Bd.returns] at h; cases h)
  refine ⟨_, _, pre7 _ ?_, hrun, hended, _, _, rfl, ?_, ⟨_, rfl⟩, hW, hsame.mono (by decide) (by decide)⟩
  · show Steps p.tables e below (T6.setTop (mkF m 8 #[.val (.int p1)] [(.ref b2)])) _
    jvm_step X6.here [X6.here.top, hx, (hb hby own_d3_8), X6.method', Bd.returns, Value.isRef, FieldType.isReference]
    first | (intro acts; rw [hr _ acts rfl rfl rfl]) | rw [hr _ _ rfl rfl rfl]
    exact Steps.refl _
  · show Q_own_toBytes Z p1 h0 n0 _ T6.heap _
    rw [e6]
    exact ⟨b2, rfl, N6, K6⟩
theorem own_d4_0 : decode jdk_42_method_151_code 0 = .ok (.aload_n 0, 1) := by decide +kernel
theorem own_d4_1 : decode jdk_42_method_151_code 1 = .ok (.invokespecial 1, 3) := by decide +kernel
theorem own_d4_4 : decode jdk_42_method_151_code 4 = .ok (.aload_n 0, 1) := by decide +kernel
theorem own_d4_5 : decode jdk_42_method_151_code 5 = .ok (.aload_n 1, 1) := by decide +kernel
theorem own_d4_6 : decode jdk_42_method_151_code 6 = .ok (.putfield 9, 3) := by decide +kernel
theorem own_d4_9 : decode jdk_42_method_151_code 9 = .ok (.aload_n 0, 1) := by decide +kernel
theorem own_d4_10 : decode jdk_42_method_151_code 10 = .ok (.iload_n 2, 1) := by decide +kernel
theorem own_d4_11 : decode jdk_42_method_151_code 11 = .ok (.putfield 15, 3) := by decide +kernel
theorem own_d4_14 : decode jdk_42_method_151_code 14 = .ok (.return_, 1) := by decide +kernel
theorem own_pn_own_strInit : plainName "java/lang/String" = true := by first | (simp [plainName, overriddenIn]; done) | decide +kernel
theorem own_ef_own_strInit (m : MethodId) (x0 : Addr) (x1 : Addr) (x2 : Int32) : entryFrame m #[(.ref x0), (.ref x1), (.int x2)] 3 = mkF m 0 #[.val (.ref x0), .val (.ref x1), .val (.int x2)] [] := by first | (simp [entryFrame, mkF, argsToLocals, Value.category]; done) | rfl
def Q_own_strInit (Z : State) (a1 : Addr) (a2 : Addr) (uv : Value) (uc : Value) (h0 : Heap) (n0 : Nat) (v : Option Value) (h : Heap) (L : List Loc) : Prop := v = none ∧ Fr n0 L ∧ Keep h0 h [a1]
set_option maxRecDepth 65536 in
set_option maxHeartbeats 40000000 in
theorem own_strInit (l : Launch) (Z : State) (a0 : Array Value) (hw : ∀ d ∈ tables_1, d.before a0 Z = true) (ws : List Jvm.Cond) (a1 : Addr) (a2 : Addr) (uv : Value) (uc : Value) (h0 : Heap) (n0 : Nat) (Z0 : n0 ≤ h0.size) (E_a1 : Exa Z h0 a1 "java/lang/String") (Fv : Fld Z h0 a1 "java/lang/String" "value" "[B" uv) (Fc : Fld Z h0 a1 "java/lang/String" "coder" "B" uc) (g_a1 : n0 ≤ a1) :
    MetFree l (⟨"java/lang/String", "<init>", "([BB)V"⟩ : MethodName) (head1 (Jvm.Cond.code (⟨"java/lang/String", "<init>", "([BB)V"⟩ : MethodName) jdk_42_method_151_code 3 none :: ws) ({ frames := 1, cells := 0, slots := 0, locals := 12 } : Room)) (fun a U => a = #[(.ref a1), (.ref a2), (.int (0 : Int32))] ∧ Z.Warmed39 U.vm ∧ U.heap = h0) (fun _ _ _ _ _ => True) (fun _ U o U' => ∃ v L, o = .returned v ∧ Q_own_strInit Z a1 a2 uv uc h0 n0 v U'.heap L ∧ FrameEnd U o U' L ({ frames := 1, cells := 0, slots := 0, locals := 12 } : Room).cells ({ frames := 1, cells := 0, slots := 0, locals := 12 } : Room).slots) := by
  refine MetFree.of_bodySF (plainFor_of_name own_pn_own_strInit) hisR ?_
  intro p e s m args below meth c s₁ Bd hml0 hP hK
  obtain ⟨rfl, hZ, hh⟩ := hP
  have hx := Bd.exec
  have hby := Bd.bytes
  have hml : c.maxLocals = 3 := hml0
  have hown : s.vm.findClass "java/lang/String" = some m.cls := findClass_of_methodNamed Bd.named
  have hnm := (name_of_methodNamed Bd.named Bd.method).1
  have X0 : Stand p l e ({ frames := 1, cells := 0, slots := 0, locals := 12 } : Room) s m #[(.ref a1), (.ref a2), (.int (0 : Int32))] below meth c s₁ [] 0 0 := Stand.of_body Bd
  have e0 : s₁.heap = h0 := by rw [← hh, Bd.state]; rfl
  have N0 := Fr.nil n0
  have pre0 : Goes p e below s₁ (entryFrame m #[(.ref a1), (.ref a2), (.int (0 : Int32))] 3) s₁ (mkF m 0 #[.val (.ref a1), .val (.ref a2), .val (.int (0 : Int32))] []) := fun t k => castTop (own_ef_own_strInit m a1 a2 (0 : Int32)) k
  have pre1 : Goes p e below s₁ (entryFrame m #[(.ref a1), (.ref a2), (.int (0 : Int32))] 3) s₁ (mkF m 1 #[.val (.ref a1), .val (.ref a2), .val (.int (0 : Int32))] [(.ref a1)]) := fun t kt => pre0 t (by
      show Steps p.tables e below (s₁.setTop (mkF m 0 #[.val (.ref a1), .val (.ref a2), .val (.int (0 : Int32))] [])) _
      refine XS.aloadN X0.here hx rfl (hb hby own_d4_0) rfl rfl ?_
      exact kt)
  obtain ⟨T2, X2, e2, st2⟩ := initO X0 hx hZ hown (hw _ (List.mem_of_getElem? (i := 23) rfl)) (hw _ (List.mem_of_getElem? (i := 24) rfl)) (hw _ (List.mem_of_getElem? (i := 25) rfl)) e0 (g := (mkF m 1 #[.val (.ref a1), .val (.ref a2), .val (.int (0 : Int32))] [(.ref a1)])) rfl (by rw [hml]; rfl) rfl (hb hby own_d4_1) (by decide) (W := 0) (by show 2 * 0 + _ ≤ _; exact Nat.le_of_eq rfl) (by decide)
  have pre3 : Goes p e below s₁ (entryFrame m #[(.ref a1), (.ref a2), (.int (0 : Int32))] 3) T2 (mkF m 4 #[.val (.ref a1), .val (.ref a2), .val (.int (0 : Int32))] []) := fun t kt => pre1 t (st2 t kt)
  have pre4 : Goes p e below s₁ (entryFrame m #[(.ref a1), (.ref a2), (.int (0 : Int32))] 3) T2 (mkF m 6 #[.val (.ref a1), .val (.ref a2), .val (.int (0 : Int32))] [(.ref a2), (.ref a1)]) := fun t kt => pre3 t (by
      show Steps p.tables e below (T2.setTop (mkF m 4 #[.val (.ref a1), .val (.ref a2), .val (.int (0 : Int32))] [])) _
      refine XS.aloadN X2.here hx rfl (hb hby own_d4_4) rfl rfl ?_
      show Steps p.tables e below (T2.setTop (mkF m 5 #[.val (.ref a1), .val (.ref a2), .val (.int (0 : Int32))] [(.ref a1)])) _
      refine XS.aloadN X2.here hx rfl (hb hby own_d4_5) rfl rfl ?_
      exact kt)
  obtain ⟨T5, h5, X5, e5, W5, st5⟩ := putF X2 hx hZ hown (host := "") (Or.inl (hw _ (List.mem_of_getElem? (i := 26) rfl))) Via.refl e2 Fv E_a1 (Or.inr ⟨(hw _ (List.mem_of_getElem? (i := 27) rfl)), rfl, hnm⟩) (hw _ (List.mem_of_getElem? (i := 14) rfl)) (ty := (.array .byte)) (by decide) rfl rfl (g := (mkF m 6 #[.val (.ref a1), .val (.ref a2), .val (.int (0 : Int32))] [(.ref a2), (.ref a1)])) rfl rfl (hb hby own_d4_6)
  have Fw5 := Fv.same W5
  have K5 : Keep h0 h5 [a1] := (Keep.refl h0 [a1]).wr W5 (Or.inl (List.mem_of_getElem? (i := 0) rfl))
  have N5 := Fr.snoc X5 N0 g_a1
  have pre6 : Goes p e below s₁ (entryFrame m #[(.ref a1), (.ref a2), (.int (0 : Int32))] 3) T5 (mkF m 9 #[.val (.ref a1), .val (.ref a2), .val (.int (0 : Int32))] []) := fun t kt => pre4 t (st5 t kt)
  have pre7 : Goes p e below s₁ (entryFrame m #[(.ref a1), (.ref a2), (.int (0 : Int32))] 3) T5 (mkF m 11 #[.val (.ref a1), .val (.ref a2), .val (.int (0 : Int32))] [(.int (0 : Int32)), (.ref a1)]) := fun t kt => pre6 t (by
      show Steps p.tables e below (T5.setTop (mkF m 9 #[.val (.ref a1), .val (.ref a2), .val (.int (0 : Int32))] [])) _
      refine XS.aloadN X5.here hx rfl (hb hby own_d4_9) rfl rfl ?_
      show Steps p.tables e below (T5.setTop (mkF m 10 #[.val (.ref a1), .val (.ref a2), .val (.int (0 : Int32))] [(.ref a1)])) _
      refine XS.iloadN X5.here hx rfl (hb hby own_d4_10) rfl ?_
      exact kt)
  obtain ⟨T8, h8, X8, e8, W8, st8⟩ := putFN X5 hx hZ hown (hw _ (List.mem_of_getElem? (i := 28) rfl)) Via.refl e5 (Fc.other W5 (Or.inr (slot_ne (Or.inr (hw _ (List.mem_of_getElem? (i := 29) rfl))) (Or.inr (hw _ (List.mem_of_getElem? (i := 27) rfl))) (by decide) (t := .byte) (t' := (.array .byte)) (by decide) (by decide)))) (E_a1.wr W5) (Or.inr ⟨(hw _ (List.mem_of_getElem? (i := 29) rfl)), rfl, hnm⟩) (hw _ (List.mem_of_getElem? (i := 14) rfl)) (ty := .byte) (v' := (.int (0 : Int32))) (by decide) rfl rfl (g := (mkF m 11 #[.val (.ref a1), .val (.ref a2), .val (.int (0 : Int32))] [(.int (0 : Int32)), (.ref a1)])) rfl rfl (hb hby own_d4_11)
  have Fw8 := (Fc.other W5 (Or.inr (slot_ne (Or.inr (hw _ (List.mem_of_getElem? (i := 29) rfl))) (Or.inr (hw _ (List.mem_of_getElem? (i := 27) rfl))) (by decide) (t := .byte) (t' := (.array .byte)) (by decide) (by decide)))).same W8
  have K8 : Keep h0 h8 [a1] := K5.wr W8 (Or.inl (List.mem_of_getElem? (i := 0) rfl))
  have N8 := Fr.snoc X8 N5 g_a1
  have pre9 : Goes p e below s₁ (entryFrame m #[(.ref a1), (.ref a2), (.int (0 : Int32))] 3) T8 (mkF m 14 #[.val (.ref a1), .val (.ref a2), .val (.int (0 : Int32))] []) := fun t kt => pre7 t (st8 t kt)
  obtain ⟨fs, hr, hrun, hended, hW, hsame⟩ := X8.leave (v := none) (fun _ => rfl)
  refine ⟨_, _, pre9 _ ?_, hrun, hended, _, _, rfl, ?_, ⟨_, rfl⟩, hW, hsame.mono (by decide) (by decide)⟩
  · show Steps p.tables e below (T8.setTop (mkF m 14 #[.val (.ref a1), .val (.ref a2), .val (.int (0 : Int32))] [])) _
    exact X8.returnOut hx Bd.returns (hb hby own_d4_14) hr
  · show Q_own_strInit Z a1 a2 uv uc h0 n0 _ T8.heap _
    rw [e8]
    exact ⟨rfl, N8, K8⟩
theorem own_d1_0 : decode jdk_42_method_139_code 0 = .ok (.getstatic 38, 3) := by decide +kernel
theorem own_d1_3 : decode jdk_42_method_139_code 3 = .ok (.ifCond .eq 23, 3) := by decide +kernel
theorem own_d1_6 : decode jdk_42_method_139_code 6 = .ok (.iload_n 0, 1) := by decide +kernel
theorem own_d1_7 : decode jdk_42_method_139_code 7 = .ok (.invokestatic 1015, 3) := by decide +kernel
theorem own_d1_10 : decode jdk_42_method_139_code 10 = .ok (.ifCond .eq 16, 3) := by decide +kernel
theorem own_d1_13 : decode jdk_42_method_139_code 13 = .ok (.new 10, 3) := by decide +kernel
theorem own_d1_16 : decode jdk_42_method_139_code 16 = .ok (.dup, 1) := by decide +kernel
theorem own_d1_17 : decode jdk_42_method_139_code 17 = .ok (.iload_n 0, 1) := by decide +kernel
theorem own_d1_18 : decode jdk_42_method_139_code 18 = .ok (.invokestatic 1018, 3) := by decide +kernel
theorem own_d1_21 : decode jdk_42_method_139_code 21 = .ok (.iconst 0, 1) := by decide +kernel
theorem own_d1_22 : decode jdk_42_method_139_code 22 = .ok (.invokespecial 209, 3) := by decide +kernel
theorem own_d1_25 : decode jdk_42_method_139_code 25 = .ok (.areturn, 1) := by decide +kernel
theorem own_pn_own_valueOf : plainName "java/lang/String" = true := by first | (simp [plainName, overriddenIn]; done) | decide +kernel
theorem own_ef_own_valueOf (m : MethodId) (x0 : Int32) : entryFrame m #[(.int x0)] 1 = mkF m 0 #[.val (.int x0)] [] := by first | (simp [entryFrame, mkF, argsToLocals, Value.category]; done) | rfl
def Q_own_valueOf (Z : State) (p1 : Int32) (cs : Int32) (h0 : Heap) (n0 : Nat) (v : Option Value) (h : Heap) (L : List Loc) : Prop := ∃ b : Addr, v = some (.ref b) ∧ Fr n0 L ∧ Keep h0 h []
set_option maxRecDepth 65536 in
set_option maxHeartbeats 40000000 in
theorem own_valueOf (l : Launch) (Z : State) (a0 : Array Value) (hw : ∀ d ∈ tables_1, d.before a0 Z = true) (ws : List Jvm.Cond) (p1 : Int32) (cs : Int32) (h0 : Heap) (n0 : Nat) (Z0 : n0 ≤ h0.size) (S_CS : Sta Z h0 "java/lang/String" "COMPACT_STRINGS" "Z" (.int cs)) (hcs : ¬ (cs = (0 : Int32))) (hp : ¬ ((255 : Int32) < p1)) :
    MetFree l (⟨"java/lang/String", "valueOf", "(C)Ljava/lang/String;"⟩ : MethodName) (head1 (Jvm.Cond.code (⟨"java/lang/String", "valueOf", "(C)Ljava/lang/String;"⟩ : MethodName) jdk_42_method_139_code 1 (some (.object "java/lang/String")) :: ws) ({ frames := 2, cells := 2, slots := 5, locals := 27 } : Room)) (fun a U => a = #[(.int p1)] ∧ Z.Warmed39 U.vm ∧ U.heap = h0) (fun _ _ _ _ _ => True) (fun _ U o U' => ∃ v L, o = .returned v ∧ Q_own_valueOf Z p1 cs h0 n0 v U'.heap L ∧ FrameEnd U o U' L ({ frames := 2, cells := 2, slots := 5, locals := 27 } : Room).cells ({ frames := 2, cells := 2, slots := 5, locals := 27 } : Room).slots) := by
  refine MetFree.of_bodySF (plainFor_of_name own_pn_own_valueOf) hisR ?_
  intro p e s m args below meth c s₁ Bd hml0 hP hK
  obtain ⟨rfl, hZ, hh⟩ := hP
  have hx := Bd.exec
  have hby := Bd.bytes
  have hml : c.maxLocals = 1 := hml0
  have hown : s.vm.findClass "java/lang/String" = some m.cls := findClass_of_methodNamed Bd.named
  have hnm := (name_of_methodNamed Bd.named Bd.method).1
  have X0 : Stand p l e ({ frames := 2, cells := 2, slots := 5, locals := 27 } : Room) s m #[(.int p1)] below meth c s₁ [] 0 0 := Stand.of_body Bd
  have e0 : s₁.heap = h0 := by rw [← hh, Bd.state]; rfl
  have N0 := Fr.nil n0
  have pre0 : Goes p e below s₁ (entryFrame m #[(.int p1)] 1) s₁ (mkF m 0 #[.val (.int p1)] []) := fun t k => castTop (own_ef_own_valueOf m p1) k
  obtain ⟨T1, X1, e1, st1⟩ := getS2 X0 hx hZ hown (host := "") (Or.inl (hw _ (List.mem_of_getElem? (i := 8) rfl))) Via.refl e0 S_CS (g := (mkF m 0 #[.val (.int p1)] [])) rfl (hb hby own_d1_0)
  have pre2 : Goes p e below s₁ (entryFrame m #[(.int p1)] 1) T1 (mkF m 3 #[.val (.int p1)] [(.int cs)]) := fun t kt => pre0 t (st1 t kt)
  have pre3 : Goes p e below s₁ (entryFrame m #[(.int p1)] 1) T1 (mkF m 7 #[.val (.int p1)] [(.int p1)]) := fun t kt => pre2 t (by
      show Steps p.tables e below (T1.setTop (mkF m 3 #[.val (.int p1)] [(.int cs)])) _
      refine XS.ifNo X1.here hx rfl (hb hby own_d1_3) rfl ((if0 _ _).trans (feq hcs).1) ?_
      show Steps p.tables e below (T1.setTop (mkF m 6 #[.val (.int p1)] [])) _
      refine XS.iloadN X1.here hx rfl (hb hby own_d1_6) rfl ?_
      exact kt)
  obtain ⟨_, _, ⟨T4, L4, k4, n4⟩, -, X4, ⟨Lc4, hQ4, l4, y4, z4⟩, st4⟩ := Jvm.LawKit.callS X1 hx (y := (⟨"java/lang/StringLatin1", "canEncode", "(C)Z"⟩ : MethodName)) hown (mvT hZ (hw _ (List.mem_of_getElem? (i := 9) rfl))) (mvT hZ (hw _ (List.mem_of_getElem? (i := 10) rfl))) (mvT hZ (hw _ (List.mem_of_getElem? (i := 11) rfl))) (mvT hZ (hw _ (List.mem_of_getElem? (i := 12) rfl))) (by decide) (backOf (W := 0) (own_canEnc l Z a0 hw [] p1 h0 n0 Z0 hp) hZ (hw _ (List.mem_of_getElem? (i := 12) rfl)) (hw _ (List.mem_of_getElem? (i := 11) rfl)) (by decide) (by decide)) (g := (mkF m 7 #[.val (.int p1)] [(.int p1)])) rfl (by rw [hml]; rfl) (argsL := [(.int p1)]) (rest := []) (lenOf own_pd0 rfl) rfl (by show 2 * 0 + _ ≤ _; exact Nat.le_of_eq rfl) (hb hby own_d1_7) (fun _ _ => ⟨rfl, e1, (by decide : 0 + 0 ≤ _), (by decide : 0 + 0 ≤ _)⟩)
  dsimp only [Pt.U, Pt.locs, Pt.cells, Pt.slots] at X4 l4 y4 z4 st4 hQ4
  subst l4 y4 z4
  obtain ⟨rfl, N4q, e4⟩ := hQ4
  have N4 := Fr.app N0 N4q
  have pre5 : Goes p e below s₁ (entryFrame m #[(.int p1)] 1) T4 (mkF m 10 #[.val (.int p1)] [(.int (1 : Int32))]) := fun t kt => pre3 t (st4 t kt)
  have pre6 : Goes p e below s₁ (entryFrame m #[(.int p1)] 1) T4 (mkF m 13 #[.val (.int p1)] []) := fun t kt => pre5 t (by
      show Steps p.tables e below (T4.setTop (mkF m 10 #[.val (.int p1)] [(.int (1 : Int32))])) _
      refine XS.ifNo X4.here hx rfl (hb hby own_d1_10) rfl ((if0 _ _).trans (feq (by decide : ¬ ((1 : Int32) = (0 : Int32)))).1) ?_
      exact kt)
  obtain ⟨T7, h7, X7, e7, E7, A7, DD7, -, st7⟩ := newO X4 hx hZ hown (hw _ (List.mem_of_getElem? (i := 13) rfl)) (hw _ (List.mem_of_getElem? (i := 14) rfl)) (hw _ (List.mem_of_getElem? (i := 6) rfl)) e4 (g := (mkF m 13 #[.val (.int p1)] [])) rfl (hb hby own_d1_13) (by decide) (by decide)
  obtain ⟨b7, g7⟩ : ∃ z, z = h0.size := ⟨_, rfl⟩
  rw [← g7] at A7 DD7 st7
  have F_value_b7 : Fld Z h7 b7 "java/lang/String" "value" "[B" .null := DD7 (Or.inr (hw _ (List.mem_of_getElem? (i := 27) rfl))) (ty := (.array .byte)) (by decide)
  have F_coder_b7 : Fld Z h7 b7 "java/lang/String" "coder" "B" (.int (0 : Int32)) := DD7 (Or.inr (hw _ (List.mem_of_getElem? (i := 29) rfl))) (ty := .byte) (by decide)
  have g_b7 : n0 ≤ b7 := Nat.le_trans Z0 (Nat.le_of_eq g7.symm)
  have sz_b7 : h0.size ≤ b7 := (Nat.le_trans (Keep.refl h0 []).1 (Nat.le_of_eq g7.symm))
  have K7 : Keep h0 h7 [] := (Keep.refl h0 []).ext E7
  have pre8 : Goes p e below s₁ (entryFrame m #[(.int p1)] 1) T7 (mkF m 16 #[.val (.int p1)] [(.ref b7)]) := fun t kt => pre6 t (st7 t kt)
  have pre9 : Goes p e below s₁ (entryFrame m #[(.int p1)] 1) T7 (mkF m 18 #[.val (.int p1)] [(.int p1), (.ref b7), (.ref b7)]) := fun t kt => pre8 t (by
      show Steps p.tables e below (T7.setTop (mkF m 16 #[.val (.int p1)] [(.ref b7)])) _
      refine XS.dup X7.here hx rfl (hb hby own_d1_16) rfl rfl ?_
      show Steps p.tables e below (T7.setTop (mkF m 17 #[.val (.int p1)] [(.ref b7), (.ref b7)])) _
      refine XS.iloadN X7.here hx rfl (hb hby own_d1_17) rfl ?_
      exact kt)
  obtain ⟨_, _, ⟨T10, L10, k10, n10⟩, -, X10, ⟨Lc10, hQ10, l10, y10, z10⟩, st10⟩ := Jvm.LawKit.callS X7 hx (y := (⟨"java/lang/StringLatin1", "toBytes", "(C)[B"⟩ : MethodName)) hown (mvT hZ (hw _ (List.mem_of_getElem? (i := 15) rfl))) (mvT hZ (hw _ (List.mem_of_getElem? (i := 16) rfl))) (mvT hZ (hw _ (List.mem_of_getElem? (i := 11) rfl))) (mvT hZ (hw _ (List.mem_of_getElem? (i := 17) rfl))) (by decide) (backOf (W := 2) (own_toBytes l Z a0 hw [] p1 h7 n0 (Nat.le_trans Z0 E7.1) ) hZ (hw _ (List.mem_of_getElem? (i := 17) rfl)) (hw _ (List.mem_of_getElem? (i := 11) rfl)) (by decide) (by decide)) (g := (mkF m 18 #[.val (.int p1)] [(.int p1), (.ref b7), (.ref b7)])) rfl (by rw [hml]; rfl) (argsL := [(.int p1)]) (rest := [(.ref b7), (.ref b7)]) (lenOf own_pd1 rfl) rfl (by show 2 * 0 + _ ≤ _; exact Nat.le_of_eq rfl) (hb hby own_d1_18) (fun _ _ => ⟨rfl, e7, (by decide : 1 + 1 ≤ _), (by decide : 4 + 1 ≤ _)⟩)
  dsimp only [Pt.U, Pt.locs, Pt.cells, Pt.slots] at X10 l10 y10 z10 st10 hQ10
  subst l10 y10 z10
  obtain ⟨bb10, rfl, N10q, K10q⟩ := hQ10
  have N10 := Fr.app N4 N10q
  have KC10 : Keep h0 T10.heap [] := K7.trans K10q all0
  have pre11 : Goes p e below s₁ (entryFrame m #[(.int p1)] 1) T10 (mkF m 21 #[.val (.int p1)] [(.ref bb10), (.ref b7), (.ref b7)]) := fun t kt => pre9 t (st10 t kt)
  have pre12 : Goes p e below s₁ (entryFrame m #[(.int p1)] 1) T10 (mkF m 22 #[.val (.int p1)] [(.int (0 : Int32)), (.ref bb10), (.ref b7), (.ref b7)]) := fun t kt => pre11 t (by
      show Steps p.tables e below (T10.setTop (mkF m 21 #[.val (.int p1)] [(.ref bb10), (.ref b7), (.ref b7)])) _
      refine XS.iconst X10.here hx rfl (hb hby own_d1_21) ?_
      exact kt)
  obtain ⟨_, _, ⟨T13, L13, k13, n13⟩, -, X13, ⟨Lc13, hQ13, l13, y13, z13⟩, st13⟩ := X10.specialBack hx (y := (⟨"java/lang/String", "<init>", "([BB)V"⟩ : MethodName)) rfl hown (mvT hZ (hw _ (List.mem_of_getElem? (i := 19) rfl))) (mvT hZ (hw _ (List.mem_of_getElem? (i := 20) rfl))) (mvT hZ (hw _ (List.mem_of_getElem? (i := 22) rfl))) (by decide) (backOf (W := 1) (own_strInit l Z a0 hw [] b7 bb10 _ _ T10.heap n0 (Nat.le_trans (Nat.le_trans Z0 E7.1) K10q.1) (A7.keep K10q) (F_value_b7.keep K10q nin0) (F_coder_b7.keep K10q nin0) g_b7) hZ (hw _ (List.mem_of_getElem? (i := 22) rfl)) (hw _ (List.mem_of_getElem? (i := 6) rfl)) (by decide) (by decide)) (g := (mkF m 22 #[.val (.int p1)] [(.int (0 : Int32)), (.ref bb10), (.ref b7), (.ref b7)])) rfl (by rw [hml]; rfl) (Steps.refl _) (a := b7) (argsL := [(.ref bb10), (.int (0 : Int32))]) (rest := [(.ref b7)]) (lenOf own_pd2 rfl) rfl (by show 2 * 0 + _ ≤ _; exact Nat.le_of_eq rfl) (hb hby own_d1_22) (fun _ _ => ⟨rfl, rfl, (by decide : 2 + 0 ≤ _), (by decide : 5 + 0 ≤ _)⟩)
  dsimp only [Pt.U, Pt.locs, Pt.cells, Pt.slots] at X13 l13 y13 z13 st13 hQ13
  subst l13 y13 z13
  obtain ⟨rfl, N13q, K13q⟩ := hQ13
  have N13 := Fr.app N10 N13q
  have KC13 : Keep h0 T13.heap [] := KC10.trans K13q (allS (Or.inr sz_b7) all0)
  have pre14 : Goes p e below s₁ (entryFrame m #[(.int p1)] 1) T13 (mkF m 25 #[.val (.int p1)] [(.ref b7)]) := fun t kt => pre12 t (st13.trans kt)
  obtain ⟨fs, hr, hrun, hended, hW, hsame⟩ := X13.leave (v := some (.ref b7)) (fun h => by rw [Bd.returns] at h; cases h)
  refine ⟨_, _, pre14 _ ?_, hrun, hended, _, _, rfl, ?_, ⟨_, rfl⟩, hW, hsame.mono (by decide) (by decide)⟩
  · show Steps p.tables e below (T13.setTop (mkF m 25 #[.val (.int p1)] [(.ref b7)])) _
    jvm_step X13.here [X13.here.top, hx, (hb hby own_d1_25), X13.method', Bd.returns, Value.isRef, FieldType.isReference]
    first | (intro acts; rw [hr _ acts rfl rfl rfl]) | rw [hr _ _ rfl rfl rfl]
    exact Steps.refl _
  · show Q_own_valueOf Z p1 cs h0 n0 _ T13.heap _
    exact ⟨b7, rfl, N13, KC13⟩
theorem own_d7_0 : decode jdk_37_method_2_code 0 = .ok (.aload_n 0, 1) := by decide +kernel
theorem own_d7_1 : decode jdk_37_method_2_code 1 = .ok (.getfield 7, 3) := by decide +kernel
theorem own_d7_4 : decode jdk_37_method_2_code 4 = .ok (.ireturn, 1) := by decide +kernel
theorem own_pn_own_ordinal : plainName "java/lang/Enum" = true := by first | (simp [plainName, overriddenIn]; done) | decide +kernel
theorem own_ef_own_ordinal (m : MethodId) (x0 : Addr) : entryFrame m #[(.ref x0)] 1 = mkF m 0 #[.val (.ref x0)] [] := by first | (simp [entryFrame, mkF, argsToLocals, Value.category]; done) | rfl
def Q_own_ordinal (Z : State) (a1 : Addr) (p1 : Int32) (h0 : Heap) (n0 : Nat) (v : Option Value) (h : Heap) (L : List Loc) : Prop := v = some (.int p1) ∧ Fr n0 L ∧ h = h0
set_option maxRecDepth 65536 in
set_option maxHeartbeats 40000000 in
theorem own_ordinal (l : Launch) (Z : State) (a0 : Array Value) (hw : ∀ d ∈ tables_1, d.before a0 Z = true) (ws : List Jvm.Cond) (a1 : Addr) (p1 : Int32) (h0 : Heap) (n0 : Nat) (Z0 : n0 ≤ h0.size) (O_a1 : Fld Z h0 a1 "java/lang/Enum" "ordinal" "I" (.int p1)) :
    MetFree l (⟨"java/lang/Enum", "ordinal", "()I"⟩ : MethodName) (head1 (Jvm.Cond.code (⟨"java/lang/Enum", "ordinal", "()I"⟩ : MethodName) jdk_37_method_2_code 1 (some .int) :: ws) ({ frames := 0, cells := 0, slots := 0, locals := 0 } : Room)) (fun a U => a = #[(.ref a1)] ∧ Z.Warmed39 U.vm ∧ U.heap = h0) (fun _ _ _ _ _ => True) (fun _ U o U' => ∃ v L, o = .returned v ∧ Q_own_ordinal Z a1 p1 h0 n0 v U'.heap L ∧ FrameEnd U o U' L ({ frames := 0, cells := 0, slots := 0, locals := 0 } : Room).cells ({ frames := 0, cells := 0, slots := 0, locals := 0 } : Room).slots) := by
  refine MetFree.of_bodySF (plainFor_of_name own_pn_own_ordinal) hisR ?_
  intro p e s m args below meth c s₁ Bd hml0 hP hK
  obtain ⟨rfl, hZ, hh⟩ := hP
  have hx := Bd.exec
  have hby := Bd.bytes
  have hml : c.maxLocals = 1 := hml0
  have hown : s.vm.findClass "java/lang/Enum" = some m.cls := findClass_of_methodNamed Bd.named
  have hnm := (name_of_methodNamed Bd.named Bd.method).1
  have X0 : Stand p l e ({ frames := 0, cells := 0, slots := 0, locals := 0 } : Room) s m #[(.ref a1)] below meth c s₁ [] 0 0 := Stand.of_body Bd
  have e0 : s₁.heap = h0 := by rw [← hh, Bd.state]; rfl
  have N0 := Fr.nil n0
  have pre0 : Goes p e below s₁ (entryFrame m #[(.ref a1)] 1) s₁ (mkF m 0 #[.val (.ref a1)] []) := fun t k => castTop (own_ef_own_ordinal m a1) k
  have pre1 : Goes p e below s₁ (entryFrame m #[(.ref a1)] 1) s₁ (mkF m 1 #[.val (.ref a1)] [(.ref a1)]) := fun t kt => pre0 t (by
      show Steps p.tables e below (s₁.setTop (mkF m 0 #[.val (.ref a1)] [])) _
      refine XS.aloadN X0.here hx rfl (hb hby own_d7_0) rfl rfl ?_
      exact kt)
  obtain ⟨T2, X2, e2, st2⟩ := getF X0 hx hZ hown (host := "") (Or.inl (hw _ (List.mem_of_getElem? (i := 42) rfl))) Via.refl e0 O_a1 (g := (mkF m 1 #[.val (.ref a1)] [(.ref a1)])) rfl rfl (hb hby own_d7_1)
  have pre3 : Goes p e below s₁ (entryFrame m #[(.ref a1)] 1) T2 (mkF m 4 #[.val (.ref a1)] [(.int p1)]) := fun t kt => pre1 t (st2 t kt)
  obtain ⟨fs, hr, hrun, hended, hW, hsame⟩ := X2.leave (v := some (.int p1)) (fun h => by rw [Bd.returns] at h; cases h)
  refine ⟨_, _, pre3 _ ?_, hrun, hended, _, _, rfl, ?_, ⟨_, rfl⟩, hW, hsame.mono (by decide) (by decide)⟩
  · show Steps p.tables e below (T2.setTop (mkF m 4 #[.val (.ref a1)] [(.int p1)])) _
    exact retI X2 hx Bd.returns (hb hby own_d7_4) hr
  · show Q_own_ordinal Z a1 p1 h0 n0 _ T2.heap _
    rw [e2]
    exact ⟨rfl, N0, rfl⟩
theorem own_d_own_proven0_0 : decode prog_10_method_5_code 0 = .ok (.aload_n 0, 1) := by decide +kernel
theorem own_d_own_proven0_1 : decode prog_10_method_5_code 1 = .ok (.invokevirtual 48, 3) := by decide +kernel
theorem own_d_own_proven0_4 : decode prog_10_method_5_code 4 = .ok (.tableswitch 28 0 2 #[38, 42, 38], 28) := by decide +kernel
theorem own_d_own_proven0_42 : decode prog_10_method_5_code 42 = .ok (.iconst 1, 1) := by decide +kernel
theorem own_d_own_proven0_43 : decode prog_10_method_5_code 43 = .ok (.goto 4, 3) := by decide +kernel
theorem own_d_own_proven0_47 : decode prog_10_method_5_code 47 = .ok (.ireturn, 1) := by decide +kernel
theorem own_pn_own_proven0 : plainName "com/example/tallygate/tallygate/KeyType" = true := by first | (simp [plainName, overriddenIn]; done) | decide +kernel
theorem own_ef_own_proven0 (m : MethodId) (x0 : Addr) : entryFrame m #[(.ref x0)] 1 = mkF m 0 #[.val (.ref x0)] [] := by first | (simp [entryFrame, mkF, argsToLocals, Value.category]; done) | rfl
def Q_own_proven0 (Z : State) (a1 : Addr) (h0 : Heap) (n0 : Nat) (v : Option Value) (h : Heap) (L : List Loc) : Prop := v = some (.int (1 : Int32)) ∧ Fr n0 L ∧ h = h0
set_option maxRecDepth 65536 in
set_option maxHeartbeats 40000000 in
theorem own_proven0 (l : Launch) (Z : State) (a0 : Array Value) (hw : ∀ d ∈ tables_1, d.before a0 Z = true) (ws : List Jvm.Cond) (a1 : Addr) (h0 : Heap) (n0 : Nat) (Z0 : n0 ≤ h0.size) (E_a1 : Exa Z h0 a1 "com/example/tallygate/tallygate/KeyType") (O_a1 : Fld Z h0 a1 "java/lang/Enum" "ordinal" "I" (.int (0 : Int32))) :
    MetFree l (⟨"com/example/tallygate/tallygate/KeyType", "isProvenBySuccess", "()Z"⟩ : MethodName) (head1 (Jvm.Cond.code (⟨"com/example/tallygate/tallygate/KeyType", "isProvenBySuccess", "()Z"⟩ : MethodName) prog_10_method_5_code 1 (some .boolean) :: ws) ({ frames := 1, cells := 0, slots := 0, locals := 12 } : Room)) (fun a U => a = #[(.ref a1)] ∧ Z.Warmed39 U.vm ∧ U.heap = h0) (fun _ _ _ _ _ => True) (fun _ U o U' => ∃ v L, o = .returned v ∧ Q_own_proven0 Z a1 h0 n0 v U'.heap L ∧ FrameEnd U o U' L ({ frames := 1, cells := 0, slots := 0, locals := 12 } : Room).cells ({ frames := 1, cells := 0, slots := 0, locals := 12 } : Room).slots) := by
  refine MetFree.of_bodySF (plainFor_of_name own_pn_own_proven0) hisR ?_
  intro p e s m args below meth c s₁ Bd hml0 hP hK
  obtain ⟨rfl, hZ, hh⟩ := hP
  have hx := Bd.exec
  have hby := Bd.bytes
  have hml : c.maxLocals = 1 := hml0
  have hown : s.vm.findClass "com/example/tallygate/tallygate/KeyType" = some m.cls := findClass_of_methodNamed Bd.named
  have hnm := (name_of_methodNamed Bd.named Bd.method).1
  have X0 : Stand p l e ({ frames := 1, cells := 0, slots := 0, locals := 12 } : Room) s m #[(.ref a1)] below meth c s₁ [] 0 0 := Stand.of_body Bd
  have e0 : s₁.heap = h0 := by rw [← hh, Bd.state]; rfl
  have N0 := Fr.nil n0
  have pre0 : Goes p e below s₁ (entryFrame m #[(.ref a1)] 1) s₁ (mkF m 0 #[.val (.ref a1)] []) := fun t k => castTop (own_ef_own_proven0 m a1) k
  have pre1 : Goes p e below s₁ (entryFrame m #[(.ref a1)] 1) s₁ (mkF m 1 #[.val (.ref a1)] [(.ref a1)]) := fun t kt => pre0 t (by
      show Steps p.tables e below (s₁.setTop (mkF m 0 #[.val (.ref a1)] [])) _
      refine XS.aloadN X0.here hx rfl (hb hby own_d_own_proven0_0) rfl rfl ?_
      exact kt)
  obtain ⟨cq2, kq2, q2a, q2b, q2c⟩ := isOf hZ e0 E_a1
  obtain ⟨_, _, ⟨T2, L2, k2, n2⟩, -, X2, ⟨Lc2, hQ2, l2, y2, z2⟩, st2⟩ := X0.virtualBackUp hx (x := (⟨"com/example/tallygate/tallygate/KeyType", "ordinal", "()I"⟩ : MethodName)) (y := (⟨"java/lang/Enum", "ordinal", "()I"⟩ : MethodName)) hown (mvT hZ (hw _ (List.mem_of_getElem? (i := 35) rfl))) (mvT hZ (hw _ (List.mem_of_getElem? (i := 36) rfl))) (mvT hZ (hw _ (List.mem_of_getElem? (i := 37) rfl))) (by decide) (mvT hZ (hw _ (List.mem_of_getElem? (i := 39) rfl))) (mvT hZ (hw _ (List.mem_of_getElem? (i := 38) rfl))) (backOf (W := 0) (own_ordinal l Z a0 hw [] a1 (0 : Int32) h0 n0 Z0 O_a1) hZ (hw _ (List.mem_of_getElem? (i := 41) rfl)) (hw _ (List.mem_of_getElem? (i := 40) rfl)) (by decide) (by decide)) q2a q2c (g := (mkF m 1 #[.val (.ref a1)] [(.ref a1)])) rfl (by rw [hml]; rfl) (Steps.refl _) (argsL := []) (rest := []) (lenOf own_pd3 rfl) rfl (by show 2 * 0 + _ ≤ _; exact Nat.le_of_eq rfl) (hb hby own_d_own_proven0_1) (fun _ _ => ⟨rfl, e0, (by decide : 0 + 0 ≤ _), (by decide : 0 + 0 ≤ _)⟩)
  dsimp only [Pt.U, Pt.locs, Pt.cells, Pt.slots] at X2 l2 y2 z2 st2 hQ2
  subst l2 y2 z2
  obtain ⟨rfl, N2q, e2⟩ := hQ2
  have N2 := Fr.app N0 N2q
  have pre3 : Goes p e below s₁ (entryFrame m #[(.ref a1)] 1) T2 (mkF m 4 #[.val (.ref a1)] [(.int (0 : Int32))]) := fun t kt => pre1 t (st2.trans kt)
  have pre4 : Goes p e below s₁ (entryFrame m #[(.ref a1)] 1) T2 (mkF m 47 #[.val (.ref a1)] [(.int (1 : Int32))]) := fun t kt => pre3 t (by
      show Steps p.tables e below (T2.setTop (mkF m 4 #[.val (.ref a1)] [(.int (0 : Int32))])) _
      refine XS.tswIn X2.here hx rfl (pc0 := 4) (pc' := 42) rfl (hb hby own_d_own_proven0_4) rfl (by decide) (o := 38) (by decide) (by decide) (by decide) ?_
      show Steps p.tables e below (T2.setTop (mkF m 42 #[.val (.ref a1)] [])) _
      refine XS.iconst X2.here hx rfl (hb hby own_d_own_proven0_42) ?_
      show Steps p.tables e below (T2.setTop (mkF m 43 #[.val (.ref a1)] [(.int (1 : Int32))])) _
      refine XS.goto X2.here hx rfl (pc0 := 43) (pc' := 47) rfl (hb hby own_d_own_proven0_43) (by decide) (by decide) ?_
      exact kt)
  obtain ⟨fs, hr, hrun, hended, hW, hsame⟩ := X2.leave (v := some (.int (1 : Int32))) (fun h => by rw [Bd.returns] at h; cases h)
  refine ⟨_, _, pre4 _ ?_, hrun, hended, _, _, rfl, ?_, ⟨_, rfl⟩, hW, hsame.mono (by decide) (by decide)⟩
  · show Steps p.tables e below (T2.setTop (mkF m 47 #[.val (.ref a1)] [(.int (1 : Int32))])) _
    exact retN X2 hx (t := .boolean) Bd.returns (by simp) (hb hby own_d_own_proven0_47) hr
  · show Q_own_proven0 Z a1 h0 n0 _ T2.heap _
    rw [e2]
    exact ⟨rfl, N2, rfl⟩
theorem own_d_own_proven1_0 : decode prog_10_method_5_code 0 = .ok (.aload_n 0, 1) := by decide +kernel
theorem own_d_own_proven1_1 : decode prog_10_method_5_code 1 = .ok (.invokevirtual 48, 3) := by decide +kernel
theorem own_d_own_proven1_4 : decode prog_10_method_5_code 4 = .ok (.tableswitch 28 0 2 #[38, 42, 38], 28) := by decide +kernel
theorem own_d_own_proven1_46 : decode prog_10_method_5_code 46 = .ok (.iconst 0, 1) := by decide +kernel
theorem own_d_own_proven1_47 : decode prog_10_method_5_code 47 = .ok (.ireturn, 1) := by decide +kernel
theorem own_pn_own_proven1 : plainName "com/example/tallygate/tallygate/KeyType" = true := by first | (simp [plainName, overriddenIn]; done) | decide +kernel
theorem own_ef_own_proven1 (m : MethodId) (x0 : Addr) : entryFrame m #[(.ref x0)] 1 = mkF m 0 #[.val (.ref x0)] [] := by first | (simp [entryFrame, mkF, argsToLocals, Value.category]; done) | rfl
def Q_own_proven1 (Z : State) (a1 : Addr) (h0 : Heap) (n0 : Nat) (v : Option Value) (h : Heap) (L : List Loc) : Prop := v = some (.int (0 : Int32)) ∧ Fr n0 L ∧ h = h0
set_option maxRecDepth 65536 in
set_option maxHeartbeats 40000000 in
theorem own_proven1 (l : Launch) (Z : State) (a0 : Array Value) (hw : ∀ d ∈ tables_1, d.before a0 Z = true) (ws : List Jvm.Cond) (a1 : Addr) (h0 : Heap) (n0 : Nat) (Z0 : n0 ≤ h0.size) (E_a1 : Exa Z h0 a1 "com/example/tallygate/tallygate/KeyType") (O_a1 : Fld Z h0 a1 "java/lang/Enum" "ordinal" "I" (.int (1 : Int32))) :
    MetFree l (⟨"com/example/tallygate/tallygate/KeyType", "isProvenBySuccess", "()Z"⟩ : MethodName) (head1 (Jvm.Cond.code (⟨"com/example/tallygate/tallygate/KeyType", "isProvenBySuccess", "()Z"⟩ : MethodName) prog_10_method_5_code 1 (some .boolean) :: ws) ({ frames := 1, cells := 0, slots := 0, locals := 12 } : Room)) (fun a U => a = #[(.ref a1)] ∧ Z.Warmed39 U.vm ∧ U.heap = h0) (fun _ _ _ _ _ => True) (fun _ U o U' => ∃ v L, o = .returned v ∧ Q_own_proven1 Z a1 h0 n0 v U'.heap L ∧ FrameEnd U o U' L ({ frames := 1, cells := 0, slots := 0, locals := 12 } : Room).cells ({ frames := 1, cells := 0, slots := 0, locals := 12 } : Room).slots) := by
  refine MetFree.of_bodySF (plainFor_of_name own_pn_own_proven1) hisR ?_
  intro p e s m args below meth c s₁ Bd hml0 hP hK
  obtain ⟨rfl, hZ, hh⟩ := hP
  have hx := Bd.exec
  have hby := Bd.bytes
  have hml : c.maxLocals = 1 := hml0
  have hown : s.vm.findClass "com/example/tallygate/tallygate/KeyType" = some m.cls := findClass_of_methodNamed Bd.named
  have hnm := (name_of_methodNamed Bd.named Bd.method).1
  have X0 : Stand p l e ({ frames := 1, cells := 0, slots := 0, locals := 12 } : Room) s m #[(.ref a1)] below meth c s₁ [] 0 0 := Stand.of_body Bd
  have e0 : s₁.heap = h0 := by rw [← hh, Bd.state]; rfl
  have N0 := Fr.nil n0
  have pre0 : Goes p e below s₁ (entryFrame m #[(.ref a1)] 1) s₁ (mkF m 0 #[.val (.ref a1)] []) := fun t k => castTop (own_ef_own_proven1 m a1) k
  have pre1 : Goes p e below s₁ (entryFrame m #[(.ref a1)] 1) s₁ (mkF m 1 #[.val (.ref a1)] [(.ref a1)]) := fun t kt => pre0 t (by
      show Steps p.tables e below (s₁.setTop (mkF m 0 #[.val (.ref a1)] [])) _
      refine XS.aloadN X0.here hx rfl (hb hby own_d_own_proven1_0) rfl rfl ?_
      exact kt)
  obtain ⟨cq2, kq2, q2a, q2b, q2c⟩ := isOf hZ e0 E_a1
  obtain ⟨_, _, ⟨T2, L2, k2, n2⟩, -, X2, ⟨Lc2, hQ2, l2, y2, z2⟩, st2⟩ := X0.virtualBackUp hx (x := (⟨"com/example/tallygate/tallygate/KeyType", "ordinal", "()I"⟩ : MethodName)) (y := (⟨"java/lang/Enum", "ordinal", "()I"⟩ : MethodName)) hown (mvT hZ (hw _ (List.mem_of_getElem? (i := 35) rfl))) (mvT hZ (hw _ (List.mem_of_getElem? (i := 36) rfl))) (mvT hZ (hw _ (List.mem_of_getElem? (i := 37) rfl))) (by decide) (mvT hZ (hw _ (List.mem_of_getElem? (i := 39) rfl))) (mvT hZ (hw _ (List.mem_of_getElem? (i := 38) rfl))) (backOf (W := 0) (own_ordinal l Z a0 hw [] a1 (1 : Int32) h0 n0 Z0 O_a1) hZ (hw _ (List.mem_of_getElem? (i := 41) rfl)) (hw _ (List.mem_of_getElem? (i := 40) rfl)) (by decide) (by decide)) q2a q2c (g := (mkF m 1 #[.val (.ref a1)] [(.ref a1)])) rfl (by rw [hml]; rfl) (Steps.refl _) (argsL := []) (rest := []) (lenOf own_pd3 rfl) rfl (by show 2 * 0 + _ ≤ _; exact Nat.le_of_eq rfl) (hb hby own_d_own_proven1_1) (fun _ _ => ⟨rfl, e0, (by decide : 0 + 0 ≤ _), (by decide : 0 + 0 ≤ _)⟩)
  dsimp only [Pt.U, Pt.locs, Pt.cells, Pt.slots] at X2 l2 y2 z2 st2 hQ2
  subst l2 y2 z2
  obtain ⟨rfl, N2q, e2⟩ := hQ2
  have N2 := Fr.app N0 N2q
  have pre3 : Goes p e below s₁ (entryFrame m #[(.ref a1)] 1) T2 (mkF m 4 #[.val (.ref a1)] [(.int (1 : Int32))]) := fun t kt => pre1 t (st2.trans kt)
  have pre4 : Goes p e below s₁ (entryFrame m #[(.ref a1)] 1) T2 (mkF m 47 #[.val (.ref a1)] [(.int (0 : Int32))]) := fun t kt => pre3 t (by
      show Steps p.tables e below (T2.setTop (mkF m 4 #[.val (.ref a1)] [(.int (1 : Int32))])) _
      refine XS.tswIn X2.here hx rfl (pc0 := 4) (pc' := 46) rfl (hb hby own_d_own_proven1_4) rfl (by decide) (o := 42) (by decide) (by decide) (by decide) ?_
      show Steps p.tables e below (T2.setTop (mkF m 46 #[.val (.ref a1)] [])) _
      refine XS.iconst X2.here hx rfl (hb hby own_d_own_proven1_46) ?_
      exact kt)
  obtain ⟨fs, hr, hrun, hended, hW, hsame⟩ := X2.leave (v := some (.int (0 : Int32))) (fun h => by rw [Bd.returns] at h; cases h)
  refine ⟨_, _, pre4 _ ?_, hrun, hended, _, _, rfl, ?_, ⟨_, rfl⟩, hW, hsame.mono (by decide) (by decide)⟩
  · show Steps p.tables e below (T2.setTop (mkF m 47 #[.val (.ref a1)] [(.int (0 : Int32))])) _
    exact retN X2 hx (t := .boolean) Bd.returns (by simp) (hb hby own_d_own_proven1_47) hr
  · show Q_own_proven1 Z a1 h0 n0 _ T2.heap _
    rw [e2]
    exact ⟨rfl, N2, rfl⟩
theorem own_d_own_proven2_0 : decode prog_10_method_5_code 0 = .ok (.aload_n 0, 1) := by decide +kernel
theorem own_d_own_proven2_1 : decode prog_10_method_5_code 1 = .ok (.invokevirtual 48, 3) := by decide +kernel
theorem own_d_own_proven2_4 : decode prog_10_method_5_code 4 = .ok (.tableswitch 28 0 2 #[38, 42, 38], 28) := by decide +kernel
theorem own_d_own_proven2_42 : decode prog_10_method_5_code 42 = .ok (.iconst 1, 1) := by decide +kernel
theorem own_d_own_proven2_43 : decode prog_10_method_5_code 43 = .ok (.goto 4, 3) := by decide +kernel
theorem own_d_own_proven2_47 : decode prog_10_method_5_code 47 = .ok (.ireturn, 1) := by decide +kernel
theorem own_pn_own_proven2 : plainName "com/example/tallygate/tallygate/KeyType" = true := by first | (simp [plainName, overriddenIn]; done) | decide +kernel
theorem own_ef_own_proven2 (m : MethodId) (x0 : Addr) : entryFrame m #[(.ref x0)] 1 = mkF m 0 #[.val (.ref x0)] [] := by first | (simp [entryFrame, mkF, argsToLocals, Value.category]; done) | rfl
def Q_own_proven2 (Z : State) (a1 : Addr) (h0 : Heap) (n0 : Nat) (v : Option Value) (h : Heap) (L : List Loc) : Prop := v = some (.int (1 : Int32)) ∧ Fr n0 L ∧ h = h0
set_option maxRecDepth 65536 in
set_option maxHeartbeats 40000000 in
theorem own_proven2 (l : Launch) (Z : State) (a0 : Array Value) (hw : ∀ d ∈ tables_1, d.before a0 Z = true) (ws : List Jvm.Cond) (a1 : Addr) (h0 : Heap) (n0 : Nat) (Z0 : n0 ≤ h0.size) (E_a1 : Exa Z h0 a1 "com/example/tallygate/tallygate/KeyType") (O_a1 : Fld Z h0 a1 "java/lang/Enum" "ordinal" "I" (.int (2 : Int32))) :
    MetFree l (⟨"com/example/tallygate/tallygate/KeyType", "isProvenBySuccess", "()Z"⟩ : MethodName) (head1 (Jvm.Cond.code (⟨"com/example/tallygate/tallygate/KeyType", "isProvenBySuccess", "()Z"⟩ : MethodName) prog_10_method_5_code 1 (some .boolean) :: ws) ({ frames := 1, cells := 0, slots := 0, locals := 12 } : Room)) (fun a U => a = #[(.ref a1)] ∧ Z.Warmed39 U.vm ∧ U.heap = h0) (fun _ _ _ _ _ => True) (fun _ U o U' => ∃ v L, o = .returned v ∧ Q_own_proven2 Z a1 h0 n0 v U'.heap L ∧ FrameEnd U o U' L ({ frames := 1, cells := 0, slots := 0, locals := 12 } : Room).cells ({ frames := 1, cells := 0, slots := 0, locals := 12 } : Room).slots) := by
  refine MetFree.of_bodySF (plainFor_of_name own_pn_own_proven2) hisR ?_
  intro p e s m args below meth c s₁ Bd hml0 hP hK
  obtain ⟨rfl, hZ, hh⟩ := hP
  have hx := Bd.exec
  have hby := Bd.bytes
  have hml : c.maxLocals = 1 := hml0
  have hown : s.vm.findClass "com/example/tallygate/tallygate/KeyType" = some m.cls := findClass_of_methodNamed Bd.named
  have hnm := (name_of_methodNamed Bd.named Bd.method).1
  have X0 : Stand p l e ({ frames := 1, cells := 0, slots := 0, locals := 12 } : Room) s m #[(.ref a1)] below meth c s₁ [] 0 0 := Stand.of_body Bd
  have e0 : s₁.heap = h0 := by rw [← hh, Bd.state]; rfl
  have N0 := Fr.nil n0
  have pre0 : Goes p e below s₁ (entryFrame m #[(.ref a1)] 1) s₁ (mkF m 0 #[.val (.ref a1)] []) := fun t k => castTop (own_ef_own_proven2 m a1) k
  have pre1 : Goes p e below s₁ (entryFrame m #[(.ref a1)] 1) s₁ (mkF m 1 #[.val (.ref a1)] [(.ref a1)]) := fun t kt => pre0 t (by
      show Steps p.tables e below (s₁.setTop (mkF m 0 #[.val (.ref a1)] [])) _
      refine XS.aloadN X0.here hx rfl (hb hby own_d_own_proven2_0) rfl rfl ?_
      exact kt)
  obtain ⟨cq2, kq2, q2a, q2b, q2c⟩ := isOf hZ e0 E_a1
  obtain ⟨_, _, ⟨T2, L2, k2, n2⟩, -, X2, ⟨Lc2, hQ2, l2, y2, z2⟩, st2⟩ := X0.virtualBackUp hx (x := (⟨"com/example/tallygate/tallygate/KeyType", "ordinal", "()I"⟩ : MethodName)) (y := (⟨"java/lang/Enum", "ordinal", "()I"⟩ : MethodName)) hown (mvT hZ (hw _ (List.mem_of_getElem? (i := 35) rfl))) (mvT hZ (hw _ (List.mem_of_getElem? (i := 36) rfl))) (mvT hZ (hw _ (List.mem_of_getElem? (i := 37) rfl))) (by decide) (mvT hZ (hw _ (List.mem_of_getElem? (i := 39) rfl))) (mvT hZ (hw _ (List.mem_of_getElem? (i := 38) rfl))) (backOf (W := 0) (own_ordinal l Z a0 hw [] a1 (2 : Int32) h0 n0 Z0 O_a1) hZ (hw _ (List.mem_of_getElem? (i := 41) rfl)) (hw _ (List.mem_of_getElem? (i := 40) rfl)) (by decide) (by decide)) q2a q2c (g := (mkF m 1 #[.val (.ref a1)] [(.ref a1)])) rfl (by rw [hml]; rfl) (Steps.refl _) (argsL := []) (rest := []) (lenOf own_pd3 rfl) rfl (by show 2 * 0 + _ ≤ _; exact Nat.le_of_eq rfl) (hb hby own_d_own_proven2_1) (fun _ _ => ⟨rfl, e0, (by decide : 0 + 0 ≤ _), (by decide : 0 + 0 ≤ _)⟩)
  dsimp only [Pt.U, Pt.locs, Pt.cells, Pt.slots] at X2 l2 y2 z2 st2 hQ2
  subst l2 y2 z2
  obtain ⟨rfl, N2q, e2⟩ := hQ2
  have N2 := Fr.app N0 N2q
  have pre3 : Goes p e below s₁ (entryFrame m #[(.ref a1)] 1) T2 (mkF m 4 #[.val (.ref a1)] [(.int (2 : Int32))]) := fun t kt => pre1 t (st2.trans kt)
  have pre4 : Goes p e below s₁ (entryFrame m #[(.ref a1)] 1) T2 (mkF m 47 #[.val (.ref a1)] [(.int (1 : Int32))]) := fun t kt => pre3 t (by
      show Steps p.tables e below (T2.setTop (mkF m 4 #[.val (.ref a1)] [(.int (2 : Int32))])) _
      refine XS.tswIn X2.here hx rfl (pc0 := 4) (pc' := 42) rfl (hb hby own_d_own_proven2_4) rfl (by decide) (o := 38) (by decide) (by decide) (by decide) ?_
      show Steps p.tables e below (T2.setTop (mkF m 42 #[.val (.ref a1)] [])) _
      refine XS.iconst X2.here hx rfl (hb hby own_d_own_proven2_42) ?_
      show Steps p.tables e below (T2.setTop (mkF m 43 #[.val (.ref a1)] [(.int (1 : Int32))])) _
      refine XS.goto X2.here hx rfl (pc0 := 43) (pc' := 47) rfl (hb hby own_d_own_proven2_43) (by decide) (by decide) ?_
      exact kt)
  obtain ⟨fs, hr, hrun, hended, hW, hsame⟩ := X2.leave (v := some (.int (1 : Int32))) (fun h => by rw [Bd.returns] at h; cases h)
  refine ⟨_, _, pre4 _ ?_, hrun, hended, _, _, rfl, ?_, ⟨_, rfl⟩, hW, hsame.mono (by decide) (by decide)⟩
  · show Steps p.tables e below (T2.setTop (mkF m 47 #[.val (.ref a1)] [(.int (1 : Int32))])) _
    exact retN X2 hx (t := .boolean) Bd.returns (by simp) (hb hby own_d_own_proven2_47) hr
  · show Q_own_proven2 Z a1 h0 n0 _ T2.heap _
    rw [e2]
    exact ⟨rfl, N2, rfl⟩
theorem own_d_own_canKey0_0 : decode prog_10_method_7_code 0 = .ok (.aload_n 0, 1) := by decide +kernel
theorem own_d_own_canKey0_1 : decode prog_10_method_7_code 1 = .ok (.invokevirtual 48, 3) := by decide +kernel
theorem own_d_own_canKey0_4 : decode prog_10_method_7_code 4 = .ok (.tableswitch 28 0 2 #[38, 50, 62], 28) := by decide +kernel
theorem own_d_own_canKey0_42 : decode prog_10_method_7_code 42 = .ok (.aload_n 1, 1) := by decide +kernel
theorem own_d_own_canKey0_43 : decode prog_10_method_7_code 43 = .ok (.ifnull 7, 3) := by decide +kernel
theorem own_d_own_canKey0_50 : decode prog_10_method_7_code 50 = .ok (.iconst 0, 1) := by decide +kernel
theorem own_d_own_canKey0_51 : decode prog_10_method_7_code 51 = .ok (.goto 28, 3) := by decide +kernel
theorem own_d_own_canKey0_79 : decode prog_10_method_7_code 79 = .ok (.ireturn, 1) := by decide +kernel
theorem own_pn_own_canKey0 : plainName "com/example/tallygate/tallygate/KeyType" = true := by first | (simp [plainName, overriddenIn]; done) | decide +kernel
theorem own_ef_own_canKey0 (m : MethodId) (x0 : Addr) (x2 : Addr) : entryFrame m #[(.ref x0), .null, (.ref x2)] 3 = mkF m 0 #[.val (.ref x0), .val .null, .val (.ref x2)] [] := by first | (simp [entryFrame, mkF, argsToLocals, Value.category]; done) | rfl
def Q_own_canKey0 (Z : State) (a1 : Addr) (a3 : Addr) (h0 : Heap) (n0 : Nat) (v : Option Value) (h : Heap) (L : List Loc) : Prop := v = some (.int (0 : Int32)) ∧ Fr n0 L ∧ h = h0
set_option maxRecDepth 65536 in
set_option maxHeartbeats 40000000 in
theorem own_canKey0 (l : Launch) (Z : State) (a0 : Array Value) (hw : ∀ d ∈ tables_1, d.before a0 Z = true) (ws : List Jvm.Cond) (a1 : Addr) (a3 : Addr) (h0 : Heap) (n0 : Nat) (Z0 : n0 ≤ h0.size) (E_a1 : Exa Z h0 a1 "com/example/tallygate/tallygate/KeyType") (O_a1 : Fld Z h0 a1 "java/lang/Enum" "ordinal" "I" (.int (0 : Int32))) :
    MetFree l (⟨"com/example/tallygate/tallygate/KeyType", "canKey", "(Ljava/lang/String;Ljava/lang/String;)Z"⟩ : MethodName) (head1 (Jvm.Cond.code (⟨"com/example/tallygate/tallygate/KeyType", "canKey", "(Ljava/lang/String;Ljava/lang/String;)Z"⟩ : MethodName) prog_10_method_7_code 3 (some .boolean) :: ws) ({ frames := 1, cells := 0, slots := 0, locals := 12 } : Room)) (fun a U => a = #[(.ref a1), .null, (.ref a3)] ∧ Z.Warmed39 U.vm ∧ U.heap = h0) (fun _ _ _ _ _ => True) (fun _ U o U' => ∃ v L, o = .returned v ∧ Q_own_canKey0 Z a1 a3 h0 n0 v U'.heap L ∧ FrameEnd U o U' L ({ frames := 1, cells := 0, slots := 0, locals := 12 } : Room).cells ({ frames := 1, cells := 0, slots := 0, locals := 12 } : Room).slots) := by
  refine MetFree.of_bodySF (plainFor_of_name own_pn_own_canKey0) hisR ?_
  intro p e s m args below meth c s₁ Bd hml0 hP hK
  obtain ⟨rfl, hZ, hh⟩ := hP
  have hx := Bd.exec
  have hby := Bd.bytes
  have hml : c.maxLocals = 3 := hml0
  have hown : s.vm.findClass "com/example/tallygate/tallygate/KeyType" = some m.cls := findClass_of_methodNamed Bd.named
  have hnm := (name_of_methodNamed Bd.named Bd.method).1
  have X0 : Stand p l e ({ frames := 1, cells := 0, slots := 0, locals := 12 } : Room) s m #[(.ref a1), .null, (.ref a3)] below meth c s₁ [] 0 0 := Stand.of_body Bd
  have e0 : s₁.heap = h0 := by rw [← hh, Bd.state]; rfl
  have N0 := Fr.nil n0
  have pre0 : Goes p e below s₁ (entryFrame m #[(.ref a1), .null, (.ref a3)] 3) s₁ (mkF m 0 #[.val (.ref a1), .val .null, .val (.ref a3)] []) := fun t k => castTop (own_ef_own_canKey0 m a1 a3) k
  have pre1 : Goes p e below s₁ (entryFrame m #[(.ref a1), .null, (.ref a3)] 3) s₁ (mkF m 1 #[.val (.ref a1), .val .null, .val (.ref a3)] [(.ref a1)]) := fun t kt => pre0 t (by
      show Steps p.tables e below (s₁.setTop (mkF m 0 #[.val (.ref a1), .val .null, .val (.ref a3)] [])) _
      refine XS.aloadN X0.here hx rfl (hb hby own_d_own_canKey0_0) rfl rfl ?_
      exact kt)
  obtain ⟨cq2, kq2, q2a, q2b, q2c⟩ := isOf hZ e0 E_a1
  obtain ⟨_, _, ⟨T2, L2, k2, n2⟩, -, X2, ⟨Lc2, hQ2, l2, y2, z2⟩, st2⟩ := X0.virtualBackUp hx (x := (⟨"com/example/tallygate/tallygate/KeyType", "ordinal", "()I"⟩ : MethodName)) (y := (⟨"java/lang/Enum", "ordinal", "()I"⟩ : MethodName)) hown (mvT hZ (hw _ (List.mem_of_getElem? (i := 35) rfl))) (mvT hZ (hw _ (List.mem_of_getElem? (i := 36) rfl))) (mvT hZ (hw _ (List.mem_of_getElem? (i := 37) rfl))) (by decide) (mvT hZ (hw _ (List.mem_of_getElem? (i := 39) rfl))) (mvT hZ (hw _ (List.mem_of_getElem? (i := 38) rfl))) (backOf (W := 0) (own_ordinal l Z a0 hw [] a1 (0 : Int32) h0 n0 Z0 O_a1) hZ (hw _ (List.mem_of_getElem? (i := 41) rfl)) (hw _ (List.mem_of_getElem? (i := 40) rfl)) (by decide) (by decide)) q2a q2c (g := (mkF m 1 #[.val (.ref a1), .val .null, .val (.ref a3)] [(.ref a1)])) rfl (by rw [hml]; rfl) (Steps.refl _) (argsL := []) (rest := []) (lenOf own_pd3 rfl) rfl (by show 2 * 0 + _ ≤ _; exact Nat.le_of_eq rfl) (hb hby own_d_own_canKey0_1) (fun _ _ => ⟨rfl, e0, (by decide : 0 + 0 ≤ _), (by decide : 0 + 0 ≤ _)⟩)
  dsimp only [Pt.U, Pt.locs, Pt.cells, Pt.slots] at X2 l2 y2 z2 st2 hQ2
  subst l2 y2 z2
  obtain ⟨rfl, N2q, e2⟩ := hQ2
  have N2 := Fr.app N0 N2q
  have pre3 : Goes p e below s₁ (entryFrame m #[(.ref a1), .null, (.ref a3)] 3) T2 (mkF m 4 #[.val (.ref a1), .val .null, .val (.ref a3)] [(.int (0 : Int32))]) := fun t kt => pre1 t (st2.trans kt)
  have pre4 : Goes p e below s₁ (entryFrame m #[(.ref a1), .null, (.ref a3)] 3) T2 (mkF m 79 #[.val (.ref a1), .val .null, .val (.ref a3)] [(.int (0 : Int32))]) := fun t kt => pre3 t (by
      show Steps p.tables e below (T2.setTop (mkF m 4 #[.val (.ref a1), .val .null, .val (.ref a3)] [(.int (0 : Int32))])) _
      refine XS.tswIn X2.here hx rfl (pc0 := 4) (pc' := 42) rfl (hb hby own_d_own_canKey0_4) rfl (by decide) (o := 38) (by decide) (by decide) (by decide) ?_
      show Steps p.tables e below (T2.setTop (mkF m 42 #[.val (.ref a1), .val .null, .val (.ref a3)] [])) _
      refine XS.aloadN X2.here hx rfl (hb hby own_d_own_canKey0_42) rfl rfl ?_
      show Steps p.tables e below (T2.setTop (mkF m 43 #[.val (.ref a1), .val .null, .val (.ref a3)] [.null])) _
      refine XS.ifnullYes X2.here hx rfl (pc0 := 43) (pc' := 50) rfl (hb hby own_d_own_canKey0_43) rfl (by decide) (by decide) ?_
      show Steps p.tables e below (T2.setTop (mkF m 50 #[.val (.ref a1), .val .null, .val (.ref a3)] [])) _
      refine XS.iconst X2.here hx rfl (hb hby own_d_own_canKey0_50) ?_
      show Steps p.tables e below (T2.setTop (mkF m 51 #[.val (.ref a1), .val .null, .val (.ref a3)] [(.int (0 : Int32))])) _
      refine XS.goto X2.here hx rfl (pc0 := 51) (pc' := 79) rfl (hb hby own_d_own_canKey0_51) (by decide) (by decide) ?_
      exact kt)
  obtain ⟨fs, hr, hrun, hended, hW, hsame⟩ := X2.leave (v := some (.int (0 : Int32))) (fun h => by rw [Bd.returns] at h; cases h)
  refine ⟨_, _, pre4 _ ?_, hrun, hended, _, _, rfl, ?_, ⟨_, rfl⟩, hW, hsame.mono (by decide) (by decide)⟩
  · show Steps p.tables e below (T2.setTop (mkF m 79 #[.val (.ref a1), .val .null, .val (.ref a3)] [(.int (0 : Int32))])) _
    exact retN X2 hx (t := .boolean) Bd.returns (by simp) (hb hby own_d_own_canKey0_79) hr
  · show Q_own_canKey0 Z a1 a3 h0 n0 _ T2.heap _
    rw [e2]
    exact ⟨rfl, N2, rfl⟩
theorem own_d_own_canKey1_0 : decode prog_10_method_7_code 0 = .ok (.aload_n 0, 1) := by decide +kernel
theorem own_d_own_canKey1_1 : decode prog_10_method_7_code 1 = .ok (.invokevirtual 48, 3) := by decide +kernel
theorem own_d_own_canKey1_4 : decode prog_10_method_7_code 4 = .ok (.tableswitch 28 0 2 #[38, 50, 62], 28) := by decide +kernel
theorem own_d_own_canKey1_54 : decode prog_10_method_7_code 54 = .ok (.aload_n 2, 1) := by decide +kernel
theorem own_d_own_canKey1_55 : decode prog_10_method_7_code 55 = .ok (.ifnull 7, 3) := by decide +kernel
theorem own_d_own_canKey1_58 : decode prog_10_method_7_code 58 = .ok (.iconst 1, 1) := by decide +kernel
theorem own_d_own_canKey1_59 : decode prog_10_method_7_code 59 = .ok (.goto 20, 3) := by decide +kernel
theorem own_d_own_canKey1_79 : decode prog_10_method_7_code 79 = .ok (.ireturn, 1) := by decide +kernel
theorem own_pn_own_canKey1 : plainName "com/example/tallygate/tallygate/KeyType" = true := by first | (simp [plainName, overriddenIn]; done) | decide +kernel
theorem own_ef_own_canKey1 (m : MethodId) (x0 : Addr) (x2 : Addr) : entryFrame m #[(.ref x0), .null, (.ref x2)] 3 = mkF m 0 #[.val (.ref x0), .val .null, .val (.ref x2)] [] := by first | (simp [entryFrame, mkF, argsToLocals, Value.category]; done) | rfl
def Q_own_canKey1 (Z : State) (a1 : Addr) (a3 : Addr) (h0 : Heap) (n0 : Nat) (v : Option Value) (h : Heap) (L : List Loc) : Prop := v = some (.int (1 : Int32)) ∧ Fr n0 L ∧ h = h0
set_option maxRecDepth 65536 in
set_option maxHeartbeats 40000000 in
theorem own_canKey1 (l : Launch) (Z : State) (a0 : Array Value) (hw : ∀ d ∈ tables_1, d.before a0 Z = true) (ws : List Jvm.Cond) (a1 : Addr) (a3 : Addr) (h0 : Heap) (n0 : Nat) (Z0 : n0 ≤ h0.size) (E_a1 : Exa Z h0 a1 "com/example/tallygate/tallygate/KeyType") (O_a1 : Fld Z h0 a1 "java/lang/Enum" "ordinal" "I" (.int (1 : Int32))) :
    MetFree l (⟨"com/example/tallygate/tallygate/KeyType", "canKey", "(Ljava/lang/String;Ljava/lang/String;)Z"⟩ : MethodName) (head1 (Jvm.Cond.code (⟨"com/example/tallygate/tallygate/KeyType", "canKey", "(Ljava/lang/String;Ljava/lang/String;)Z"⟩ : MethodName) prog_10_method_7_code 3 (some .boolean) :: ws) ({ frames := 1, cells := 0, slots := 0, locals := 12 } : Room)) (fun a U => a = #[(.ref a1), .null, (.ref a3)] ∧ Z.Warmed39 U.vm ∧ U.heap = h0) (fun _ _ _ _ _ => True) (fun _ U o U' => ∃ v L, o = .returned v ∧ Q_own_canKey1 Z a1 a3 h0 n0 v U'.heap L ∧ FrameEnd U o U' L ({ frames := 1, cells := 0, slots := 0, locals := 12 } : Room).cells ({ frames := 1, cells := 0, slots := 0, locals := 12 } : Room).slots) := by
  refine MetFree.of_bodySF (plainFor_of_name own_pn_own_canKey1) hisR ?_
  intro p e s m args below meth c s₁ Bd hml0 hP hK
  obtain ⟨rfl, hZ, hh⟩ := hP
  have hx := Bd.exec
  have hby := Bd.bytes
  have hml : c.maxLocals = 3 := hml0
  have hown : s.vm.findClass "com/example/tallygate/tallygate/KeyType" = some m.cls := findClass_of_methodNamed Bd.named
  have hnm := (name_of_methodNamed Bd.named Bd.method).1
  have X0 : Stand p l e ({ frames := 1, cells := 0, slots := 0, locals := 12 } : Room) s m #[(.ref a1), .null, (.ref a3)] below meth c s₁ [] 0 0 := Stand.of_body Bd
  have e0 : s₁.heap = h0 := by rw [← hh, Bd.state]; rfl
  have N0 := Fr.nil n0
  have pre0 : Goes p e below s₁ (entryFrame m #[(.ref a1), .null, (.ref a3)] 3) s₁ (mkF m 0 #[.val (.ref a1), .val .null, .val (.ref a3)] []) := fun t k => castTop (own_ef_own_canKey1 m a1 a3) k
  have pre1 : Goes p e below s₁ (entryFrame m #[(.ref a1), .null, (.ref a3)] 3) s₁ (mkF m 1 #[.val (.ref a1), .val .null, .val (.ref a3)] [(.ref a1)]) := fun t kt => pre0 t (by
      show Steps p.tables e below (s₁.setTop (mkF m 0 #[.val (.ref a1), .val .null, .val (.ref a3)] [])) _
      refine XS.aloadN X0.here hx rfl (hb hby own_d_own_canKey1_0) rfl rfl ?_
      exact kt)
  obtain ⟨cq2, kq2, q2a, q2b, q2c⟩ := isOf hZ e0 E_a1
  obtain ⟨_, _, ⟨T2, L2, k2, n2⟩, -, X2, ⟨Lc2, hQ2, l2, y2, z2⟩, st2⟩ := X0.virtualBackUp hx (x := (⟨"com/example/tallygate/tallygate/KeyType", "ordinal", "()I"⟩ : MethodName)) (y := (⟨"java/lang/Enum", "ordinal", "()I"⟩ : MethodName)) hown (mvT hZ (hw _ (List.mem_of_getElem? (i := 35) rfl))) (mvT hZ (hw _ (List.mem_of_getElem? (i := 36) rfl))) (mvT hZ (hw _ (List.mem_of_getElem? (i := 37) rfl))) (by decide) (mvT hZ (hw _ (List.mem_of_getElem? (i := 39) rfl))) (mvT hZ (hw _ (List.mem_of_getElem? (i := 38) rfl))) (backOf (W := 0) (own_ordinal l Z a0 hw [] a1 (1 : Int32) h0 n0 Z0 O_a1) hZ (hw _ (List.mem_of_getElem? (i := 41) rfl)) (hw _ (List.mem_of_getElem? (i := 40) rfl)) (by decide) (by decide)) q2a q2c (g := (mkF m 1 #[.val (.ref a1), .val .null, .val (.ref a3)] [(.ref a1)])) rfl (by rw [hml]; rfl) (Steps.refl _) (argsL := []) (rest := []) (lenOf own_pd3 rfl) rfl (by show 2 * 0 + _ ≤ _; exact Nat.le_of_eq rfl) (hb hby own_d_own_canKey1_1) (fun _ _ => ⟨rfl, e0, (by decide : 0 + 0 ≤ _), (by decide : 0 + 0 ≤ _)⟩)
  dsimp only [Pt.U, Pt.locs, Pt.cells, Pt.slots] at X2 l2 y2 z2 st2 hQ2
  subst l2 y2 z2
  obtain ⟨rfl, N2q, e2⟩ := hQ2
  have N2 := Fr.app N0 N2q
  have pre3 : Goes p e below s₁ (entryFrame m #[(.ref a1), .null, (.ref a3)] 3) T2 (mkF m 4 #[.val (.ref a1), .val .null, .val (.ref a3)] [(.int (1 : Int32))]) := fun t kt => pre1 t (st2.trans kt)
  have pre4 : Goes p e below s₁ (entryFrame m #[(.ref a1), .null, (.ref a3)] 3) T2 (mkF m 79 #[.val (.ref a1), .val .null, .val (.ref a3)] [(.int (1 : Int32))]) := fun t kt => pre3 t (by
      show Steps p.tables e below (T2.setTop (mkF m 4 #[.val (.ref a1), .val .null, .val (.ref a3)] [(.int (1 : Int32))])) _
      refine XS.tswIn X2.here hx rfl (pc0 := 4) (pc' := 54) rfl (hb hby own_d_own_canKey1_4) rfl (by decide) (o := 50) (by decide) (by decide) (by decide) ?_
      show Steps p.tables e below (T2.setTop (mkF m 54 #[.val (.ref a1), .val .null, .val (.ref a3)] [])) _
      refine XS.aloadN X2.here hx rfl (hb hby own_d_own_canKey1_54) rfl rfl ?_
      show Steps p.tables e below (T2.setTop (mkF m 55 #[.val (.ref a1), .val .null, .val (.ref a3)] [(.ref a3)])) _
      refine XS.ifnullNo X2.here hx rfl (hb hby own_d_own_canKey1_55) rfl ?_
      show Steps p.tables e below (T2.setTop (mkF m 58 #[.val (.ref a1), .val .null, .val (.ref a3)] [])) _
      refine XS.iconst X2.here hx rfl (hb hby own_d_own_canKey1_58) ?_
      show Steps p.tables e below (T2.setTop (mkF m 59 #[.val (.ref a1), .val .null, .val (.ref a3)] [(.int (1 : Int32))])) _
      refine XS.goto X2.here hx rfl (pc0 := 59) (pc' := 79) rfl (hb hby own_d_own_canKey1_59) (by decide) (by decide) ?_
      exact kt)
  obtain ⟨fs, hr, hrun, hended, hW, hsame⟩ := X2.leave (v := some (.int (1 : Int32))) (fun h => by rw [Bd.returns] at h; cases h)
  refine ⟨_, _, pre4 _ ?_, hrun, hended, _, _, rfl, ?_, ⟨_, rfl⟩, hW, hsame.mono (by decide) (by decide)⟩
  · show Steps p.tables e below (T2.setTop (mkF m 79 #[.val (.ref a1), .val .null, .val (.ref a3)] [(.int (1 : Int32))])) _
    exact retN X2 hx (t := .boolean) Bd.returns (by simp) (hb hby own_d_own_canKey1_79) hr
  · show Q_own_canKey1 Z a1 a3 h0 n0 _ T2.heap _
    rw [e2]
    exact ⟨rfl, N2, rfl⟩
theorem own_d_own_canKey2_0 : decode prog_10_method_7_code 0 = .ok (.aload_n 0, 1) := by decide +kernel
theorem own_d_own_canKey2_1 : decode prog_10_method_7_code 1 = .ok (.invokevirtual 48, 3) := by decide +kernel
theorem own_d_own_canKey2_4 : decode prog_10_method_7_code 4 = .ok (.tableswitch 28 0 2 #[38, 50, 62], 28) := by decide +kernel
theorem own_d_own_canKey2_66 : decode prog_10_method_7_code 66 = .ok (.aload_n 1, 1) := by decide +kernel
theorem own_d_own_canKey2_67 : decode prog_10_method_7_code 67 = .ok (.ifnull 11, 3) := by decide +kernel
theorem own_d_own_canKey2_78 : decode prog_10_method_7_code 78 = .ok (.iconst 0, 1) := by decide +kernel
theorem own_d_own_canKey2_79 : decode prog_10_method_7_code 79 = .ok (.ireturn, 1) := by decide +kernel
theorem own_pn_own_canKey2 : plainName "com/example/tallygate/tallygate/KeyType" = true := by first | (simp [plainName, overriddenIn]; done) | decide +kernel
theorem own_ef_own_canKey2 (m : MethodId) (x0 : Addr) (x2 : Addr) : entryFrame m #[(.ref x0), .null, (.ref x2)] 3 = mkF m 0 #[.val (.ref x0), .val .null, .val (.ref x2)] [] := by first | (simp [entryFrame, mkF, argsToLocals, Value.category]; done) | rfl
def Q_own_canKey2 (Z : State) (a1 : Addr) (a3 : Addr) (h0 : Heap) (n0 : Nat) (v : Option Value) (h : Heap) (L : List Loc) : Prop := v = some (.int (0 : Int32)) ∧ Fr n0 L ∧ h = h0
set_option maxRecDepth 65536 in
set_option maxHeartbeats 40000000 in
theorem own_canKey2 (l : Launch) (Z : State) (a0 : Array Value) (hw : ∀ d ∈ tables_1, d.before a0 Z = true) (ws : List Jvm.Cond) (a1 : Addr) (a3 : Addr) (h0 : Heap) (n0 : Nat) (Z0 : n0 ≤ h0.size) (E_a1 : Exa Z h0 a1 "com/example/tallygate/tallygate/KeyType") (O_a1 : Fld Z h0 a1 "java/lang/Enum" "ordinal" "I" (.int (2 : Int32))) :
    MetFree l (⟨"com/example/tallygate/tallygate/KeyType", "canKey", "(Ljava/lang/String;Ljava/lang/String;)Z"⟩ : MethodName) (head1 (Jvm.Cond.code (⟨"com/example/tallygate/tallygate/KeyType", "canKey", "(Ljava/lang/String;Ljava/lang/String;)Z"⟩ : MethodName) prog_10_method_7_code 3 (some .boolean) :: ws) ({ frames := 1, cells := 0, slots := 0, locals := 12 } : Room)) (fun a U => a = #[(.ref a1), .null, (.ref a3)] ∧ Z.Warmed39 U.vm ∧ U.heap = h0) (fun _ _ _ _ _ => True) (fun _ U o U' => ∃ v L, o = .returned v ∧ Q_own_canKey2 Z a1 a3 h0 n0 v U'.heap L ∧ FrameEnd U o U' L ({ frames := 1, cells := 0, slots := 0, locals := 12 } : Room).cells ({ frames := 1, cells := 0, slots := 0, locals := 12 } : Room).slots) := by
  refine MetFree.of_bodySF (plainFor_of_name own_pn_own_canKey2) hisR ?_
  intro p e s m args below meth c s₁ Bd hml0 hP hK
  obtain ⟨rfl, hZ, hh⟩ := hP
  have hx := Bd.exec
  have hby := Bd.bytes
  have hml : c.maxLocals = 3 := hml0
  have hown : s.vm.findClass "com/example/tallygate/tallygate/KeyType" = some m.cls := findClass_of_methodNamed Bd.named
  have hnm := (name_of_methodNamed Bd.named Bd.method).1
  have X0 : Stand p l e ({ frames := 1, cells := 0, slots := 0, locals := 12 } : Room) s m #[(.ref a1), .null, (.ref a3)] below meth c s₁ [] 0 0 := Stand.of_body Bd
  have e0 : s₁.heap = h0 := by rw [← hh, Bd.state]; rfl
  have N0 := Fr.nil n0
  have pre0 : Goes p e below s₁ (entryFrame m #[(.ref a1), .null, (.ref a3)] 3) s₁ (mkF m 0 #[.val (.ref a1), .val .null, .val (.ref a3)] []) := fun t k => castTop (own_ef_own_canKey2 m a1 a3) k
  have pre1 : Goes p e below s₁ (entryFrame m #[(.ref a1), .null, (.ref a3)] 3) s₁ (mkF m 1 #[.val (.ref a1), .val .null, .val (.ref a3)] [(.ref a1)]) := fun t kt => pre0 t (by
      show Steps p.tables e below (s₁.setTop (mkF m 0 #[.val (.ref a1), .val .null, .val (.ref a3)] [])) _
      refine XS.aloadN X0.here hx rfl (hb hby own_d_own_canKey2_0) rfl rfl ?_
      exact kt)
  obtain ⟨cq2, kq2, q2a, q2b, q2c⟩ := isOf hZ e0 E_a1
  obtain ⟨_, _, ⟨T2, L2, k2, n2⟩, -, X2, ⟨Lc2, hQ2, l2, y2, z2⟩, st2⟩ := X0.virtualBackUp hx (x := (⟨"com/example/tallygate/tallygate/KeyType", "ordinal", "()I"⟩ : MethodName)) (y := (⟨"java/lang/Enum", "ordinal", "()I"⟩ : MethodName)) hown (mvT hZ (hw _ (List.mem_of_getElem? (i := 35) rfl))) (mvT hZ (hw _ (List.mem_of_getElem? (i := 36) rfl))) (mvT hZ (hw _ (List.mem_of_getElem? (i := 37) rfl))) (by decide) (mvT hZ (hw _ (List.mem_of_getElem? (i := 39) rfl))) (mvT hZ (hw _ (List.mem_of_getElem? (i := 38) rfl))) (backOf (W := 0) (own_ordinal l Z a0 hw [] a1 (2 : Int32) h0 n0 Z0 O_a1) hZ (hw _ (List.mem_of_getElem? (i := 41) rfl)) (hw _ (List.mem_of_getElem? (i := 40) rfl)) (by decide) (by decide)) q2a q2c (g := (mkF m 1 #[.val (.ref a1), .val .null, .val (.ref a3)] [(.ref a1)])) rfl (by rw [hml]; rfl) (Steps.refl _) (argsL := []) (rest := []) (lenOf own_pd3 rfl) rfl (by show 2 * 0 + _ ≤ _; exact Nat.le_of_eq rfl) (hb hby own_d_own_canKey2_1) (fun _ _ => ⟨rfl, e0, (by decide : 0 + 0 ≤ _), (by decide : 0 + 0 ≤ _)⟩)
  dsimp only [Pt.U, Pt.locs, Pt.cells, Pt.slots] at X2 l2 y2 z2 st2 hQ2
  subst l2 y2 z2
  obtain ⟨rfl, N2q, e2⟩ := hQ2
  have N2 := Fr.app N0 N2q
  have pre3 : Goes p e below s₁ (entryFrame m #[(.ref a1), .null, (.ref a3)] 3) T2 (mkF m 4 #[.val (.ref a1), .val .null, .val (.ref a3)] [(.int (2 : Int32))]) := fun t kt => pre1 t (st2.trans kt)
  have pre4 : Goes p e below s₁ (entryFrame m #[(.ref a1), .null, (.ref a3)] 3) T2 (mkF m 79 #[.val (.ref a1), .val .null, .val (.ref a3)] [(.int (0 : Int32))]) := fun t kt => pre3 t (by
      show Steps p.tables e below (T2.setTop (mkF m 4 #[.val (.ref a1), .val .null, .val (.ref a3)] [(.int (2 : Int32))])) _
      refine XS.tswIn X2.here hx rfl (pc0 := 4) (pc' := 66) rfl (hb hby own_d_own_canKey2_4) rfl (by decide) (o := 62) (by decide) (by decide) (by decide) ?_
      show Steps p.tables e below (T2.setTop (mkF m 66 #[.val (.ref a1), .val .null, .val (.ref a3)] [])) _
      refine XS.aloadN X2.here hx rfl (hb hby own_d_own_canKey2_66) rfl rfl ?_
      show Steps p.tables e below (T2.setTop (mkF m 67 #[.val (.ref a1), .val .null, .val (.ref a3)] [.null])) _
      refine XS.ifnullYes X2.here hx rfl (pc0 := 67) (pc' := 78) rfl (hb hby own_d_own_canKey2_67) rfl (by decide) (by decide) ?_
      show Steps p.tables e below (T2.setTop (mkF m 78 #[.val (.ref a1), .val .null, .val (.ref a3)] [])) _
      refine XS.iconst X2.here hx rfl (hb hby own_d_own_canKey2_78) ?_
      exact kt)
  obtain ⟨fs, hr, hrun, hended, hW, hsame⟩ := X2.leave (v := some (.int (0 : Int32))) (fun h => by rw [Bd.returns] at h; cases h)
  refine ⟨_, _, pre4 _ ?_, hrun, hended, _, _, rfl, ?_, ⟨_, rfl⟩, hW, hsame.mono (by decide) (by decide)⟩
  · show Steps p.tables e below (T2.setTop (mkF m 79 #[.val (.ref a1), .val .null, .val (.ref a3)] [(.int (0 : Int32))])) _
    exact retN X2 hx (t := .boolean) Bd.returns (by simp) (hb hby own_d_own_canKey2_79) hr
  · show Q_own_canKey2 Z a1 a3 h0 n0 _ T2.heap _
    rw [e2]
    exact ⟨rfl, N2, rfl⟩
theorem own_pn_own_rm0 : plainName "com/example/tallygate/tallygate/KeyTypeIsProvenBySuccessPinLaw" = true := by first | (simp [plainName, overriddenIn]; done) | decide +kernel
theorem own_ef_own_rm0 (m : MethodId) (x0 : Int32) (x1 : Int32) : entryFrame m #[(.int x0), (.int x1)] maxLocals = mkF m 0 #[.val (.int x0), .val (.int x1), .unset, .unset, .unset, .unset, .unset] [] := by first | (simp [entryFrame, mkF, argsToLocals, Value.category, maxLocals]; done) | rfl
def Q_own_rm0 (Z : State) (qk : Int32) (qc : Int32) (cs : Int32) (aACCOUNT : Addr) (aADDRESS : Addr) (aPAIR : Addr) (h0 : Heap) (n0 : Nat) (v : Option Value) (h : Heap) (L : List Loc) : Prop := v = some (.int (1 : Int32)) ∧ Fr n0 L
set_option maxRecDepth 65536 in
set_option maxHeartbeats 40000000 in
theorem own_rm0 (l : Launch) (Z : State) (a0 : Array Value) (hw : ∀ d ∈ tables_1, d.before a0 Z = true) (ws : List Jvm.Cond) (qk : Int32) (qc : Int32) (cs : Int32) (aACCOUNT : Addr) (aADDRESS : Addr) (aPAIR : Addr) (h0 : Heap) (n0 : Nat) (Z0 : n0 ≤ h0.size) (S_CS : Sta Z h0 "java/lang/String" "COMPACT_STRINGS" "Z" (.int cs)) (hcs : ¬ (cs = (0 : Int32))) (S_ACCOUNT : Sta Z h0 "com/example/tallygate/tallygate/KeyType" "ACCOUNT" "Lcom/example/tallygate/tallygate/KeyType;" (.ref aACCOUNT)) (S_ADDRESS : Sta Z h0 "com/example/tallygate/tallygate/KeyType" "ADDRESS" "Lcom/example/tallygate/tallygate/KeyType;" (.ref aADDRESS)) (S_PAIR : Sta Z h0 "com/example/tallygate/tallygate/KeyType" "PAIR" "Lcom/example/tallygate/tallygate/KeyType;" (.ref aPAIR)) (E_ACCOUNT : Exa Z h0 aACCOUNT "com/example/tallygate/tallygate/KeyType") (E_ADDRESS : Exa Z h0 aADDRESS "com/example/tallygate/tallygate/KeyType") (E_PAIR : Exa Z h0 aPAIR "com/example/tallygate/tallygate/KeyType") (O_ACCOUNT : Fld Z h0 aACCOUNT "java/lang/Enum" "ordinal" "I" (.int (0 : Int32))) (O_ADDRESS : Fld Z h0 aADDRESS "java/lang/Enum" "ordinal" "I" (.int (1 : Int32))) (O_PAIR : Fld Z h0 aPAIR "java/lang/Enum" "ordinal" "I" (.int (2 : Int32))) :
    MetFree l x (head1 (Jvm.Cond.code x code maxLocals ret :: ws) room_1) (fun a U => a = #[(.int qk), (.int qc)] ∧ Z.Warmed39 U.vm ∧ U.heap = h0) (fun _ _ _ _ _ => True) (fun _ U o U' => ∃ v L, o = .returned v ∧ Q_own_rm0 Z qk qc cs aACCOUNT aADDRESS aPAIR h0 n0 v U'.heap L ∧ FrameEnd U o U' L room_1.cells room_1.slots) := by
  refine MetFree.of_bodySF (plainFor_of_name own_pn_own_rm0) hisR ?_
  intro p e s m args below meth c s₁ Bd hml0 hP hK
  obtain ⟨rfl, hZ, hh⟩ := hP
  have hx := Bd.exec
  have hby := Bd.bytes
  have hml : c.maxLocals = 7 := hml0
  have hown : s.vm.findClass "com/example/tallygate/tallygate/KeyTypeIsProvenBySuccessPinLaw" = some m.cls := findClass_of_methodNamed Bd.named
  have hnm := (name_of_methodNamed Bd.named Bd.method).1
  have X0 : Stand p l e room_1 s m #[(.int qk), (.int qc)] below meth c s₁ [] 0 0 := Stand.of_body Bd
  have e0 : s₁.heap = h0 := by rw [← hh, Bd.state]; rfl
  have N0 := Fr.nil n0
  have pre0 : Goes p e below s₁ (entryFrame m #[(.int qk), (.int qc)] maxLocals) s₁ (mkF m 0 #[.val (.int qk), .val (.int qc), .unset, .unset, .unset, .unset, .unset] []) := fun t k => castTop (own_ef_own_rm0 m qk qc) k
  have pre1 : Goes p e below s₁ (entryFrame m #[(.int qk), (.int qc)] maxLocals) s₁ (mkF m 8 #[.val (.int qk), .val (.int qc), .val (.int ((qk &&& (2147483647 : Int32)) % (3 : Int32))), .unset, .unset, .unset, .unset] [(.int ((qk &&& (2147483647 : Int32)) % (3 : Int32)))]) := fun t kt => pre0 t (by
      show Steps p.tables e below (s₁.setTop (mkF m 0 #[.val (.int qk), .val (.int qc), .unset, .unset, .unset, .unset, .unset] [])) _
      refine XS.iloadN X0.here hx rfl (hb hby at_0) rfl ?_
      show Steps p.tables e below (s₁.setTop (mkF m 1 #[.val (.int qk), .val (.int qc), .unset, .unset, .unset, .unset, .unset] [(.int qk)])) _
      refine X0.ldcInt hx hown (mvT hZ (hw _ (List.mem_of_getElem? (i := 0) rfl))) (g := (mkF m 1 #[.val (.int qk), .val (.int qc), .unset, .unset, .unset, .unset, .unset] [(.int qk)])) rfl (hb hby at_1) _ ?_
      show Steps p.tables e below (s₁.setTop (mkF m 3 #[.val (.int qk), .val (.int qc), .unset, .unset, .unset, .unset, .unset] [(.int (2147483647 : Int32)), (.int qk)])) _
      refine XS.iand X0.here hx rfl (hb hby at_3) rfl ?_
      show Steps p.tables e below (s₁.setTop (mkF m 4 #[.val (.int qk), .val (.int qc), .unset, .unset, .unset, .unset, .unset] [(.int (qk &&& (2147483647 : Int32)))])) _
      refine XS.iconst X0.here hx rfl (hb hby at_4) ?_
      show Steps p.tables e below (s₁.setTop (mkF m 5 #[.val (.int qk), .val (.int qc), .unset, .unset, .unset, .unset, .unset] [(.int (3 : Int32)), (.int (qk &&& (2147483647 : Int32)))])) _
      refine iremM X0 hx rfl (hb hby at_5) rfl (by decide) ?_
      show Steps p.tables e below (s₁.setTop (mkF m 6 #[.val (.int qk), .val (.int qc), .unset, .unset, .unset, .unset, .unset] [(.int ((qk &&& (2147483647 : Int32)) % (3 : Int32)))])) _
      refine XS.istoreN X0.here hx rfl (hb hby at_6) rfl (l' := #[.val (.int qk), .val (.int qc), .val (.int ((qk &&& (2147483647 : Int32)) % (3 : Int32))), .unset, .unset, .unset, .unset]) rfl ?_
      show Steps p.tables e below (s₁.setTop (mkF m 7 #[.val (.int qk), .val (.int qc), .val (.int ((qk &&& (2147483647 : Int32)) % (3 : Int32))), .unset, .unset, .unset, .unset] [])) _
      refine XS.iloadN X0.here hx rfl (hb hby at_7) rfl ?_
      exact kt)
  by_cases hc8_2 : ((qk &&& (2147483647 : Int32)) % (3 : Int32)) = (0 : Int32)
  · -- yes at pc 8: 
    have pre3 : Goes p e below s₁ (entryFrame m #[(.int qk), (.int qc)] maxLocals) s₁ (mkF m 11 #[.val (.int qk), .val (.int qc), .val (.int ((qk &&& (2147483647 : Int32)) % (3 : Int32))), .unset, .unset, .unset, .unset] []) := fun t kt => pre1 t (by
        show Steps p.tables e below (s₁.setTop (mkF m 8 #[.val (.int qk), .val (.int qc), .val (.int ((qk &&& (2147483647 : Int32)) % (3 : Int32))), .unset, .unset, .unset, .unset] [(.int ((qk &&& (2147483647 : Int32)) % (3 : Int32)))])) _
        refine XS.ifNo X0.here hx rfl (hb hby at_8) rfl ((if0 _ _).trans (teq hc8_2).2) ?_
        exact kt)
    obtain ⟨T4, X4, e4, st4⟩ := getS2 X0 hx hZ hown (host := "") (Or.inl (hw _ (List.mem_of_getElem? (i := 1) rfl))) Via.refl e0 S_ACCOUNT (g := (mkF m 11 #[.val (.int qk), .val (.int qc), .val (.int ((qk &&& (2147483647 : Int32)) % (3 : Int32))), .unset, .unset, .unset, .unset] [])) rfl (hb hby at_11)
    have pre5 : Goes p e below s₁ (entryFrame m #[(.int qk), (.int qc)] maxLocals) T4 (mkF m 14 #[.val (.int qk), .val (.int qc), .val (.int ((qk &&& (2147483647 : Int32)) % (3 : Int32))), .unset, .unset, .unset, .unset] [(.ref aACCOUNT)]) := fun t kt => pre3 t (st4 t kt)
    have pre6 : Goes p e below s₁ (entryFrame m #[(.int qk), (.int qc)] maxLocals) T4 (mkF m 49 #[.val (.int qk), .val (.int qc), .val (.int ((qk &&& (2147483647 : Int32)) % (3 : Int32))), .val (.ref aACCOUNT), .val (.int (1 : Int32)), .unset, .unset] [(.int ((qc &&& (255 : Int32)).toUInt32.toUInt16.toUInt32.toInt32))]) := fun t kt => pre5 t (by
        show Steps p.tables e below (T4.setTop (mkF m 14 #[.val (.int qk), .val (.int qc), .val (.int ((qk &&& (2147483647 : Int32)) % (3 : Int32))), .unset, .unset, .unset, .unset] [(.ref aACCOUNT)])) _
        refine XS.astoreN X4.here hx rfl (hb hby at_14) rfl rfl (l' := #[.val (.int qk), .val (.int qc), .val (.int ((qk &&& (2147483647 : Int32)) % (3 : Int32))), .val (.ref aACCOUNT), .unset, .unset, .unset]) rfl ?_
        show Steps p.tables e below (T4.setTop (mkF m 15 #[.val (.int qk), .val (.int qc), .val (.int ((qk &&& (2147483647 : Int32)) % (3 : Int32))), .val (.ref aACCOUNT), .unset, .unset, .unset] [])) _
        refine XS.iconst X4.here hx rfl (hb hby at_15) ?_
        show Steps p.tables e below (T4.setTop (mkF m 16 #[.val (.int qk), .val (.int qc), .val (.int ((qk &&& (2147483647 : Int32)) % (3 : Int32))), .val (.ref aACCOUNT), .unset, .unset, .unset] [(.int (1 : Int32))])) _
        refine XS.istore X4.here hx rfl (hb hby at_16) rfl (l' := #[.val (.int qk), .val (.int qc), .val (.int ((qk &&& (2147483647 : Int32)) % (3 : Int32))), .val (.ref aACCOUNT), .val (.int (1 : Int32)), .unset, .unset]) rfl ?_
        show Steps p.tables e below (T4.setTop (mkF m 18 #[.val (.int qk), .val (.int qc), .val (.int ((qk &&& (2147483647 : Int32)) % (3 : Int32))), .val (.ref aACCOUNT), .val (.int (1 : Int32)), .unset, .unset] [])) _
        refine XS.goto X4.here hx rfl (pc0 := 18) (pc' := 43) rfl (hb hby at_18) (by decide) (by decide) ?_
        show Steps p.tables e below (T4.setTop (mkF m 43 #[.val (.int qk), .val (.int qc), .val (.int ((qk &&& (2147483647 : Int32)) % (3 : Int32))), .val (.ref aACCOUNT), .val (.int (1 : Int32)), .unset, .unset] [])) _
        refine XS.iloadN X4.here hx rfl (hb hby at_43) rfl ?_
        show Steps p.tables e below (T4.setTop (mkF m 44 #[.val (.int qk), .val (.int qc), .val (.int ((qk &&& (2147483647 : Int32)) % (3 : Int32))), .val (.ref aACCOUNT), .val (.int (1 : Int32)), .unset, .unset] [(.int qc)])) _
        refine XS.sipush X4.here hx rfl (hb hby at_44) ?_
        show Steps p.tables e below (T4.setTop (mkF m 47 #[.val (.int qk), .val (.int qc), .val (.int ((qk &&& (2147483647 : Int32)) % (3 : Int32))), .val (.ref aACCOUNT), .val (.int (1 : Int32)), .unset, .unset] [(.int (255 : Int32)), (.int qc)])) _
        refine XS.iand X4.here hx rfl (hb hby at_47) rfl ?_
        show Steps p.tables e below (T4.setTop (mkF m 48 #[.val (.int qk), .val (.int qc), .val (.int ((qk &&& (2147483647 : Int32)) % (3 : Int32))), .val (.ref aACCOUNT), .val (.int (1 : Int32)), .unset, .unset] [(.int (qc &&& (255 : Int32)))])) _
        refine XS.i2c X4.here hx rfl (hb hby at_48) rfl ?_
        exact kt)
    obtain ⟨_, _, ⟨T7, L7, k7, n7⟩, -, X7, ⟨Lc7, hQ7, l7, y7, z7⟩, st7⟩ := Jvm.LawKit.callS X4 hx (y := (⟨"java/lang/String", "valueOf", "(C)Ljava/lang/String;"⟩ : MethodName)) hown (mvT hZ (hw _ (List.mem_of_getElem? (i := 4) rfl))) (mvT hZ (hw _ (List.mem_of_getElem? (i := 5) rfl))) (mvT hZ (hw _ (List.mem_of_getElem? (i := 6) rfl))) (mvT hZ (hw _ (List.mem_of_getElem? (i := 7) rfl))) (by decide) (backOf (W := 0) (own_valueOf l Z a0 hw [] ((qc &&& (255 : Int32)).toUInt32.toUInt16.toUInt32.toInt32) cs h0 n0 Z0 S_CS hcs (own_n1 qc qk hc8_2)) hZ (hw _ (List.mem_of_getElem? (i := 7) rfl)) (hw _ (List.mem_of_getElem? (i := 6) rfl)) (by decide) (by decide)) (g := (mkF m 49 #[.val (.int qk), .val (.int qc), .val (.int ((qk &&& (2147483647 : Int32)) % (3 : Int32))), .val (.ref aACCOUNT), .val (.int (1 : Int32)), .unset, .unset] [(.int ((qc &&& (255 : Int32)).toUInt32.toUInt16.toUInt32.toInt32))])) rfl (by rw [hml]; rfl) (argsL := [(.int ((qc &&& (255 : Int32)).toUInt32.toUInt16.toUInt32.toInt32))]) (rest := []) (lenOf own_pd4 rfl) rfl (by show 2 * 0 + _ ≤ _; exact Nat.le_of_eq rfl) (hb hby at_49) (fun _ _ => ⟨rfl, e4, (by decide : 0 + 2 ≤ _), (by decide : 0 + 5 ≤ _)⟩)
    dsimp only [Pt.U, Pt.locs, Pt.cells, Pt.slots] at X7 l7 y7 z7 st7 hQ7
    subst l7 y7 z7
    obtain ⟨bb7, rfl, N7q, K7q⟩ := hQ7
    have N7 := Fr.app N0 N7q
    have KC7 : Keep h0 T7.heap [] := (Keep.refl h0 []).trans K7q all0
    have pre8 : Goes p e below s₁ (entryFrame m #[(.int qk), (.int qc)] maxLocals) T7 (mkF m 52 #[.val (.int qk), .val (.int qc), .val (.int ((qk &&& (2147483647 : Int32)) % (3 : Int32))), .val (.ref aACCOUNT), .val (.int (1 : Int32)), .unset, .unset] [(.ref bb7)]) := fun t kt => pre6 t (st7 t kt)
    have pre9 : Goes p e below s₁ (entryFrame m #[(.int qk), (.int qc)] maxLocals) T7 (mkF m 55 #[.val (.int qk), .val (.int qc), .val (.int ((qk &&& (2147483647 : Int32)) % (3 : Int32))), .val (.ref aACCOUNT), .val (.int (1 : Int32)), .val (.ref bb7), .unset] [(.ref aACCOUNT)]) := fun t kt => pre8 t (by
        show Steps p.tables e below (T7.setTop (mkF m 52 #[.val (.int qk), .val (.int qc), .val (.int ((qk &&& (2147483647 : Int32)) % (3 : Int32))), .val (.ref aACCOUNT), .val (.int (1 : Int32)), .unset, .unset] [(.ref bb7)])) _
        refine XS.astore X7.here hx rfl (hb hby at_52) rfl rfl (l' := #[.val (.int qk), .val (.int qc), .val (.int ((qk &&& (2147483647 : Int32)) % (3 : Int32))), .val (.ref aACCOUNT), .val (.int (1 : Int32)), .val (.ref bb7), .unset]) rfl ?_
        show Steps p.tables e below (T7.setTop (mkF m 54 #[.val (.int qk), .val (.int qc), .val (.int ((qk &&& (2147483647 : Int32)) % (3 : Int32))), .val (.ref aACCOUNT), .val (.int (1 : Int32)), .val (.ref bb7), .unset] [])) _
        refine XS.aloadN X7.here hx rfl (hb hby at_54) rfl rfl ?_
        exact kt)
    obtain ⟨cq10, kq10, q10a, q10b, q10c⟩ := isOf hZ rfl (E_ACCOUNT.keep K7q)
    obtain ⟨_, _, ⟨T10, L10, k10, n10⟩, -, X10, ⟨Lc10, hQ10, l10, y10, z10⟩, st10⟩ := X7.virtualBack hx (y := (⟨"com/example/tallygate/tallygate/KeyType", "isProvenBySuccess", "()Z"⟩ : MethodName)) (z := (⟨"com/example/tallygate/tallygate/KeyType", "isProvenBySuccess", "()Z"⟩ : MethodName)) hown (mvT hZ (hw _ (List.mem_of_getElem? (i := 30) rfl))) (mvT hZ (hw _ (List.mem_of_getElem? (i := 31) rfl))) (notFace_of_selects (args := #[]) (mvT hZ (hw _ (List.mem_of_getElem? (i := 33) rfl)))) (mvT hZ (hw _ (List.mem_of_getElem? (i := 33) rfl))) (mvT hZ (hw _ (List.mem_of_getElem? (i := 32) rfl))) (by decide) (backOf (W := 0) (own_proven0 l Z a0 hw [] aACCOUNT T7.heap n0 (Nat.le_trans Z0 K7q.1) (E_ACCOUNT.keep K7q) (O_ACCOUNT.keep K7q nin0)) hZ (hw _ (List.mem_of_getElem? (i := 34) rfl)) (hw _ (List.mem_of_getElem? (i := 2) rfl)) (by decide) (by decide)) q10a q10c (g := (mkF m 55 #[.val (.int qk), .val (.int qc), .val (.int ((qk &&& (2147483647 : Int32)) % (3 : Int32))), .val (.ref aACCOUNT), .val (.int (1 : Int32)), .val (.ref bb7), .unset] [(.ref aACCOUNT)])) rfl (by rw [hml]; rfl) (Steps.refl _) (argsL := []) (rest := []) (lenOf own_pd5 rfl) rfl (by show 2 * 0 + _ ≤ _; exact Nat.le_of_eq rfl) (hb hby at_55) (fun _ _ => ⟨rfl, rfl, (by decide : 2 + 0 ≤ _), (by decide : 5 + 0 ≤ _)⟩)
    dsimp only [Pt.U, Pt.locs, Pt.cells, Pt.slots] at X10 l10 y10 z10 st10 hQ10
    subst l10 y10 z10
    obtain ⟨rfl, N10q, e10⟩ := hQ10
    have N10 := Fr.app N7 N10q
    have pre11 : Goes p e below s₁ (entryFrame m #[(.int qk), (.int qc)] maxLocals) T10 (mkF m 58 #[.val (.int qk), .val (.int qc), .val (.int ((qk &&& (2147483647 : Int32)) % (3 : Int32))), .val (.ref aACCOUNT), .val (.int (1 : Int32)), .val (.ref bb7), .unset] [(.int (1 : Int32))]) := fun t kt => pre9 t (st10.trans kt)
    have pre12 : Goes p e below s₁ (entryFrame m #[(.int qk), (.int qc)] maxLocals) T10 (mkF m 73 #[.val (.int qk), .val (.int qc), .val (.int ((qk &&& (2147483647 : Int32)) % (3 : Int32))), .val (.ref aACCOUNT), .val (.int (1 : Int32)), .val (.ref bb7), .val (.int (1 : Int32))] [(.ref bb7), .null, (.ref aACCOUNT), (.int (1 : Int32))]) := fun t kt => pre11 t (by
        show Steps p.tables e below (T10.setTop (mkF m 58 #[.val (.int qk), .val (.int qc), .val (.int ((qk &&& (2147483647 : Int32)) % (3 : Int32))), .val (.ref aACCOUNT), .val (.int (1 : Int32)), .val (.ref bb7), .unset] [(.int (1 : Int32))])) _
        refine XS.istore X10.here hx rfl (hb hby at_58) rfl (l' := #[.val (.int qk), .val (.int qc), .val (.int ((qk &&& (2147483647 : Int32)) % (3 : Int32))), .val (.ref aACCOUNT), .val (.int (1 : Int32)), .val (.ref bb7), .val (.int (1 : Int32))]) rfl ?_
        show Steps p.tables e below (T10.setTop (mkF m 60 #[.val (.int qk), .val (.int qc), .val (.int ((qk &&& (2147483647 : Int32)) % (3 : Int32))), .val (.ref aACCOUNT), .val (.int (1 : Int32)), .val (.ref bb7), .val (.int (1 : Int32))] [])) _
        refine XS.iload X10.here hx rfl (hb hby at_60) rfl ?_
        show Steps p.tables e below (T10.setTop (mkF m 62 #[.val (.int qk), .val (.int qc), .val (.int ((qk &&& (2147483647 : Int32)) % (3 : Int32))), .val (.ref aACCOUNT), .val (.int (1 : Int32)), .val (.ref bb7), .val (.int (1 : Int32))] [(.int (1 : Int32))])) _
        refine XS.iload X10.here hx rfl (hb hby at_62) rfl ?_
        show Steps p.tables e below (T10.setTop (mkF m 64 #[.val (.int qk), .val (.int qc), .val (.int ((qk &&& (2147483647 : Int32)) % (3 : Int32))), .val (.ref aACCOUNT), .val (.int (1 : Int32)), .val (.ref bb7), .val (.int (1 : Int32))] [(.int (1 : Int32)), (.int (1 : Int32))])) _
        refine XS.icmpNo X10.here hx rfl (hb hby at_64) rfl (teq (by decide : (1 : Int32) = (1 : Int32))).2 ?_
        show Steps p.tables e below (T10.setTop (mkF m 67 #[.val (.int qk), .val (.int qc), .val (.int ((qk &&& (2147483647 : Int32)) % (3 : Int32))), .val (.ref aACCOUNT), .val (.int (1 : Int32)), .val (.ref bb7), .val (.int (1 : Int32))] [])) _
        refine XS.iload X10.here hx rfl (hb hby at_67) rfl ?_
        show Steps p.tables e below (T10.setTop (mkF m 69 #[.val (.int qk), .val (.int qc), .val (.int ((qk &&& (2147483647 : Int32)) % (3 : Int32))), .val (.ref aACCOUNT), .val (.int (1 : Int32)), .val (.ref bb7), .val (.int (1 : Int32))] [(.int (1 : Int32))])) _
        refine XS.aloadN X10.here hx rfl (hb hby at_69) rfl rfl ?_
        show Steps p.tables e below (T10.setTop (mkF m 70 #[.val (.int qk), .val (.int qc), .val (.int ((qk &&& (2147483647 : Int32)) % (3 : Int32))), .val (.ref aACCOUNT), .val (.int (1 : Int32)), .val (.ref bb7), .val (.int (1 : Int32))] [(.ref aACCOUNT), (.int (1 : Int32))])) _
        refine XS.aconstNull X10.here hx rfl (hb hby at_70) ?_
        show Steps p.tables e below (T10.setTop (mkF m 71 #[.val (.int qk), .val (.int qc), .val (.int ((qk &&& (2147483647 : Int32)) % (3 : Int32))), .val (.ref aACCOUNT), .val (.int (1 : Int32)), .val (.ref bb7), .val (.int (1 : Int32))] [.null, (.ref aACCOUNT), (.int (1 : Int32))])) _
        refine XS.aload X10.here hx rfl (hb hby at_71) rfl rfl ?_
        exact kt)
    obtain ⟨cq13, kq13, q13a, q13b, q13c⟩ := isOf hZ e10 (E_ACCOUNT.keep K7q)
    obtain ⟨_, _, ⟨T13, L13, k13, n13⟩, -, X13, ⟨Lc13, hQ13, l13, y13, z13⟩, st13⟩ := X10.virtualBack hx (y := (⟨"com/example/tallygate/tallygate/KeyType", "canKey", "(Ljava/lang/String;Ljava/lang/String;)Z"⟩ : MethodName)) (z := (⟨"com/example/tallygate/tallygate/KeyType", "canKey", "(Ljava/lang/String;Ljava/lang/String;)Z"⟩ : MethodName)) hown (mvT hZ (hw _ (List.mem_of_getElem? (i := 44) rfl))) (mvT hZ (hw _ (List.mem_of_getElem? (i := 45) rfl))) (notFace_of_selects (args := #[]) (mvT hZ (hw _ (List.mem_of_getElem? (i := 47) rfl)))) (mvT hZ (hw _ (List.mem_of_getElem? (i := 47) rfl))) (mvT hZ (hw _ (List.mem_of_getElem? (i := 46) rfl))) (by decide) (backOf (W := 1) (own_canKey0 l Z a0 hw [] aACCOUNT bb7 T7.heap n0 (Nat.le_trans Z0 K7q.1) (E_ACCOUNT.keep K7q) (O_ACCOUNT.keep K7q nin0)) hZ (hw _ (List.mem_of_getElem? (i := 48) rfl)) (hw _ (List.mem_of_getElem? (i := 2) rfl)) (by decide) (by decide)) q13a q13c (g := (mkF m 73 #[.val (.int qk), .val (.int qc), .val (.int ((qk &&& (2147483647 : Int32)) % (3 : Int32))), .val (.ref aACCOUNT), .val (.int (1 : Int32)), .val (.ref bb7), .val (.int (1 : Int32))] [(.ref bb7), .null, (.ref aACCOUNT), (.int (1 : Int32))])) rfl (by rw [hml]; rfl) (Steps.refl _) (argsL := [.null, (.ref bb7)]) (rest := [(.int (1 : Int32))]) (lenOf own_pd6 rfl) rfl (by show 2 * 0 + _ ≤ _; exact Nat.le_of_eq rfl) (hb hby at_73) (fun _ _ => ⟨rfl, e10, (by decide : 2 + 0 ≤ _), (by decide : 5 + 0 ≤ _)⟩)
    dsimp only [Pt.U, Pt.locs, Pt.cells, Pt.slots] at X13 l13 y13 z13 st13 hQ13
    subst l13 y13 z13
    obtain ⟨rfl, N13q, e13⟩ := hQ13
    have N13 := Fr.app N10 N13q
    have pre14 : Goes p e below s₁ (entryFrame m #[(.int qk), (.int qc)] maxLocals) T13 (mkF m 76 #[.val (.int qk), .val (.int qc), .val (.int ((qk &&& (2147483647 : Int32)) % (3 : Int32))), .val (.ref aACCOUNT), .val (.int (1 : Int32)), .val (.ref bb7), .val (.int (1 : Int32))] [(.int (0 : Int32)), (.int (1 : Int32))]) := fun t kt => pre12 t (st13.trans kt)
    have pre15 : Goes p e below s₁ (entryFrame m #[(.int qk), (.int qc)] maxLocals) T13 (mkF m 92 #[.val (.int qk), .val (.int qc), .val (.int ((qk &&& (2147483647 : Int32)) % (3 : Int32))), .val (.ref aACCOUNT), .val (.int (1 : Int32)), .val (.ref bb7), .val (.int (1 : Int32))] [(.int (1 : Int32))]) := fun t kt => pre14 t (by
        show Steps p.tables e below (T13.setTop (mkF m 76 #[.val (.int qk), .val (.int qc), .val (.int ((qk &&& (2147483647 : Int32)) % (3 : Int32))), .val (.ref aACCOUNT), .val (.int (1 : Int32)), .val (.ref bb7), .val (.int (1 : Int32))] [(.int (0 : Int32)), (.int (1 : Int32))])) _
        refine XS.ifNo X13.here hx rfl (hb hby at_76) rfl ((if0 _ _).trans (teq (by decide : (0 : Int32) = (0 : Int32))).2) ?_
        show Steps p.tables e below (T13.setTop (mkF m 79 #[.val (.int qk), .val (.int qc), .val (.int ((qk &&& (2147483647 : Int32)) % (3 : Int32))), .val (.ref aACCOUNT), .val (.int (1 : Int32)), .val (.ref bb7), .val (.int (1 : Int32))] [(.int (1 : Int32))])) _
        refine XS.iconst X13.here hx rfl (hb hby at_79) ?_
        show Steps p.tables e below (T13.setTop (mkF m 80 #[.val (.int qk), .val (.int qc), .val (.int ((qk &&& (2147483647 : Int32)) % (3 : Int32))), .val (.ref aACCOUNT), .val (.int (1 : Int32)), .val (.ref bb7), .val (.int (1 : Int32))] [(.int (1 : Int32)), (.int (1 : Int32))])) _
        refine XS.goto X13.here hx rfl (pc0 := 80) (pc' := 84) rfl (hb hby at_80) (by decide) (by decide) ?_
        show Steps p.tables e below (T13.setTop (mkF m 84 #[.val (.int qk), .val (.int qc), .val (.int ((qk &&& (2147483647 : Int32)) % (3 : Int32))), .val (.ref aACCOUNT), .val (.int (1 : Int32)), .val (.ref bb7), .val (.int (1 : Int32))] [(.int (1 : Int32)), (.int (1 : Int32))])) _
        refine XS.icmpNo X13.here hx rfl (hb hby at_84) rfl (teq (by decide : (1 : Int32) = (1 : Int32))).2 ?_
        show Steps p.tables e below (T13.setTop (mkF m 87 #[.val (.int qk), .val (.int qc), .val (.int ((qk &&& (2147483647 : Int32)) % (3 : Int32))), .val (.ref aACCOUNT), .val (.int (1 : Int32)), .val (.ref bb7), .val (.int (1 : Int32))] [])) _
        refine XS.iconst X13.here hx rfl (hb hby at_87) ?_
        show Steps p.tables e below (T13.setTop (mkF m 88 #[.val (.int qk), .val (.int qc), .val (.int ((qk &&& (2147483647 : Int32)) % (3 : Int32))), .val (.ref aACCOUNT), .val (.int (1 : Int32)), .val (.ref bb7), .val (.int (1 : Int32))] [(.int (1 : Int32))])) _
        refine XS.goto X13.here hx rfl (pc0 := 88) (pc' := 92) rfl (hb hby at_88) (by decide) (by decide) ?_
        exact kt)
    obtain ⟨fs, hr, hrun, hended, hW, hsame⟩ := X13.leave (v := some (.int (1 : Int32))) (fun h => by rw [Bd.returns] at h; cases h)
    refine ⟨_, _, pre15 _ ?_, hrun, hended, _, _, rfl, ?_, ⟨_, rfl⟩, hW, hsame.mono (by decide) (by decide)⟩
    · show Steps p.tables e below (T13.setTop (mkF m 92 #[.val (.int qk), .val (.int qc), .val (.int ((qk &&& (2147483647 : Int32)) % (3 : Int32))), .val (.ref aACCOUNT), .val (.int (1 : Int32)), .val (.ref bb7), .val (.int (1 : Int32))] [(.int (1 : Int32))])) _
      exact retN X13 hx (t := .boolean) Bd.returns (by simp) (hb hby at_92) hr
    · show Q_own_rm0 Z qk qc cs aACCOUNT aADDRESS aPAIR h0 n0 _ T13.heap _
      rw [e13]
      exact ⟨rfl, N13⟩
  · -- no at pc 8: 
    have pre16 : Goes p e below s₁ (entryFrame m #[(.int qk), (.int qc)] maxLocals) s₁ (mkF m 23 #[.val (.int qk), .val (.int qc), .val (.int ((qk &&& (2147483647 : Int32)) % (3 : Int32))), .unset, .unset, .unset, .unset] [(.int (1 : Int32)), (.int ((qk &&& (2147483647 : Int32)) % (3 : Int32)))]) := fun t kt => pre1 t (by
        show Steps p.tables e below (s₁.setTop (mkF m 8 #[.val (.int qk), .val (.int qc), .val (.int ((qk &&& (2147483647 : Int32)) % (3 : Int32))), .unset, .unset, .unset, .unset] [(.int ((qk &&& (2147483647 : Int32)) % (3 : Int32)))])) _
        refine XS.ifYes X0.here hx rfl (pc0 := 8) (pc' := 21) rfl (hb hby at_8) rfl ((if0 _ _).trans (feq hc8_2).2) (by decide) (by decide) ?_
        show Steps p.tables e below (s₁.setTop (mkF m 21 #[.val (.int qk), .val (.int qc), .val (.int ((qk &&& (2147483647 : Int32)) % (3 : Int32))), .unset, .unset, .unset, .unset] [])) _
        refine XS.iloadN X0.here hx rfl (hb hby at_21) rfl ?_
        show Steps p.tables e below (s₁.setTop (mkF m 22 #[.val (.int qk), .val (.int qc), .val (.int ((qk &&& (2147483647 : Int32)) % (3 : Int32))), .unset, .unset, .unset, .unset] [(.int ((qk &&& (2147483647 : Int32)) % (3 : Int32)))])) _
        refine XS.iconst X0.here hx rfl (hb hby at_22) ?_
        exact kt)
    by_cases hc23_17 : ((qk &&& (2147483647 : Int32)) % (3 : Int32)) = (1 : Int32)
    · -- yes at pc 23: t
      have pre18 : Goes p e below s₁ (entryFrame m #[(.int qk), (.int qc)] maxLocals) s₁ (mkF m 26 #[.val (.int qk), .val (.int qc), .val (.int ((qk &&& (2147483647 : Int32)) % (3 : Int32))), .unset, .unset, .unset, .unset] []) := fun t kt => pre16 t (by
          show Steps p.tables e below (s₁.setTop (mkF m 23 #[.val (.int qk), .val (.int qc), .val (.int ((qk &&& (2147483647 : Int32)) % (3 : Int32))), .unset, .unset, .unset, .unset] [(.int (1 : Int32)), (.int ((qk &&& (2147483647 : Int32)) % (3 : Int32)))])) _
          refine XS.icmpNo X0.here hx rfl (hb hby at_23) rfl (teq hc23_17).2 ?_
          exact kt)
      obtain ⟨T19, X19, e19, st19⟩ := getS2 X0 hx hZ hown (host := "") (Or.inl (hw _ (List.mem_of_getElem? (i := 51) rfl))) Via.refl e0 S_ADDRESS (g := (mkF m 26 #[.val (.int qk), .val (.int qc), .val (.int ((qk &&& (2147483647 : Int32)) % (3 : Int32))), .unset, .unset, .unset, .unset] [])) rfl (hb hby at_26)
      have pre20 : Goes p e below s₁ (entryFrame m #[(.int qk), (.int qc)] maxLocals) T19 (mkF m 29 #[.val (.int qk), .val (.int qc), .val (.int ((qk &&& (2147483647 : Int32)) % (3 : Int32))), .unset, .unset, .unset, .unset] [(.ref aADDRESS)]) := fun t kt => pre18 t (st19 t kt)
      have pre21 : Goes p e below s₁ (entryFrame m #[(.int qk), (.int qc)] maxLocals) T19 (mkF m 49 #[.val (.int qk), .val (.int qc), .val (.int ((qk &&& (2147483647 : Int32)) % (3 : Int32))), .val (.ref aADDRESS), .val (.int (0 : Int32)), .unset, .unset] [(.int ((qc &&& (255 : Int32)).toUInt32.toUInt16.toUInt32.toInt32))]) := fun t kt => pre20 t (by
          show Steps p.tables e below (T19.setTop (mkF m 29 #[.val (.int qk), .val (.int qc), .val (.int ((qk &&& (2147483647 : Int32)) % (3 : Int32))), .unset, .unset, .unset, .unset] [(.ref aADDRESS)])) _
          refine XS.astoreN X19.here hx rfl (hb hby at_29) rfl rfl (l' := #[.val (.int qk), .val (.int qc), .val (.int ((qk &&& (2147483647 : Int32)) % (3 : Int32))), .val (.ref aADDRESS), .unset, .unset, .unset]) rfl ?_
          show Steps p.tables e below (T19.setTop (mkF m 30 #[.val (.int qk), .val (.int qc), .val (.int ((qk &&& (2147483647 : Int32)) % (3 : Int32))), .val (.ref aADDRESS), .unset, .unset, .unset] [])) _
          refine XS.iconst X19.here hx rfl (hb hby at_30) ?_
          show Steps p.tables e below (T19.setTop (mkF m 31 #[.val (.int qk), .val (.int qc), .val (.int ((qk &&& (2147483647 : Int32)) % (3 : Int32))), .val (.ref aADDRESS), .unset, .unset, .unset] [(.int (0 : Int32))])) _
          refine XS.istore X19.here hx rfl (hb hby at_31) rfl (l' := #[.val (.int qk), .val (.int qc), .val (.int ((qk &&& (2147483647 : Int32)) % (3 : Int32))), .val (.ref aADDRESS), .val (.int (0 : Int32)), .unset, .unset]) rfl ?_
          show Steps p.tables e below (T19.setTop (mkF m 33 #[.val (.int qk), .val (.int qc), .val (.int ((qk &&& (2147483647 : Int32)) % (3 : Int32))), .val (.ref aADDRESS), .val (.int (0 : Int32)), .unset, .unset] [])) _
          refine XS.goto X19.here hx rfl (pc0 := 33) (pc' := 43) rfl (hb hby at_33) (by decide) (by decide) ?_
          show Steps p.tables e below (T19.setTop (mkF m 43 #[.val (.int qk), .val (.int qc), .val (.int ((qk &&& (2147483647 : Int32)) % (3 : Int32))), .val (.ref aADDRESS), .val (.int (0 : Int32)), .unset, .unset] [])) _
          refine XS.iloadN X19.here hx rfl (hb hby at_43) rfl ?_
          show Steps p.tables e below (T19.setTop (mkF m 44 #[.val (.int qk), .val (.int qc), .val (.int ((qk &&& (2147483647 : Int32)) % (3 : Int32))), .val (.ref aADDRESS), .val (.int (0 : Int32)), .unset, .unset] [(.int qc)])) _
          refine XS.sipush X19.here hx rfl (hb hby at_44) ?_
          show Steps p.tables e below (T19.setTop (mkF m 47 #[.val (.int qk), .val (.int qc), .val (.int ((qk &&& (2147483647 : Int32)) % (3 : Int32))), .val (.ref aADDRESS), .val (.int (0 : Int32)), .unset, .unset] [(.int (255 : Int32)), (.int qc)])) _
          refine XS.iand X19.here hx rfl (hb hby at_47) rfl ?_
          show Steps p.tables e below (T19.setTop (mkF m 48 #[.val (.int qk), .val (.int qc), .val (.int ((qk &&& (2147483647 : Int32)) % (3 : Int32))), .val (.ref aADDRESS), .val (.int (0 : Int32)), .unset, .unset] [(.int (qc &&& (255 : Int32)))])) _
          refine XS.i2c X19.here hx rfl (hb hby at_48) rfl ?_
          exact kt)
      obtain ⟨_, _, ⟨T22, L22, k22, n22⟩, -, X22, ⟨Lc22, hQ22, l22, y22, z22⟩, st22⟩ := Jvm.LawKit.callS X19 hx (y := (⟨"java/lang/String", "valueOf", "(C)Ljava/lang/String;"⟩ : MethodName)) hown (mvT hZ (hw _ (List.mem_of_getElem? (i := 4) rfl))) (mvT hZ (hw _ (List.mem_of_getElem? (i := 5) rfl))) (mvT hZ (hw _ (List.mem_of_getElem? (i := 6) rfl))) (mvT hZ (hw _ (List.mem_of_getElem? (i := 7) rfl))) (by decide) (backOf (W := 0) (own_valueOf l Z a0 hw [] ((qc &&& (255 : Int32)).toUInt32.toUInt16.toUInt32.toInt32) cs h0 n0 Z0 S_CS hcs (own_n2 qc qk hc8_2 hc23_17)) hZ (hw _ (List.mem_of_getElem? (i := 7) rfl)) (hw _ (List.mem_of_getElem? (i := 6) rfl)) (by decide) (by decide)) (g := (mkF m 49 #[.val (.int qk), .val (.int qc), .val (.int ((qk &&& (2147483647 : Int32)) % (3 : Int32))), .val (.ref aADDRESS), .val (.int (0 : Int32)), .unset, .unset] [(.int ((qc &&& (255 : Int32)).toUInt32.toUInt16.toUInt32.toInt32))])) rfl (by rw [hml]; rfl) (argsL := [(.int ((qc &&& (255 : Int32)).toUInt32.toUInt16.toUInt32.toInt32))]) (rest := []) (lenOf own_pd4 rfl) rfl (by show 2 * 0 + _ ≤ _; exact Nat.le_of_eq rfl) (hb hby at_49) (fun _ _ => ⟨rfl, e19, (by decide : 0 + 2 ≤ _), (by decide : 0 + 5 ≤ _)⟩)
      dsimp only [Pt.U, Pt.locs, Pt.cells, Pt.slots] at X22 l22 y22 z22 st22 hQ22
      subst l22 y22 z22
      obtain ⟨bb22, rfl, N22q, K22q⟩ := hQ22
      have N22 := Fr.app N0 N22q
      have KC22 : Keep h0 T22.heap [] := (Keep.refl h0 []).trans K22q all0
      have pre23 : Goes p e below s₁ (entryFrame m #[(.int qk), (.int qc)] maxLocals) T22 (mkF m 52 #[.val (.int qk), .val (.int qc), .val (.int ((qk &&& (2147483647 : Int32)) % (3 : Int32))), .val (.ref aADDRESS), .val (.int (0 : Int32)), .unset, .unset] [(.ref bb22)]) := fun t kt => pre21 t (st22 t kt)
      have pre24 : Goes p e below s₁ (entryFrame m #[(.int qk), (.int qc)] maxLocals) T22 (mkF m 55 #[.val (.int qk), .val (.int qc), .val (.int ((qk &&& (2147483647 : Int32)) % (3 : Int32))), .val (.ref aADDRESS), .val (.int (0 : Int32)), .val (.ref bb22), .unset] [(.ref aADDRESS)]) := fun t kt => pre23 t (by
          show Steps p.tables e below (T22.setTop (mkF m 52 #[.val (.int qk), .val (.int qc), .val (.int ((qk &&& (2147483647 : Int32)) % (3 : Int32))), .val (.ref aADDRESS), .val (.int (0 : Int32)), .unset, .unset] [(.ref bb22)])) _
          refine XS.astore X22.here hx rfl (hb hby at_52) rfl rfl (l' := #[.val (.int qk), .val (.int qc), .val (.int ((qk &&& (2147483647 : Int32)) % (3 : Int32))), .val (.ref aADDRESS), .val (.int (0 : Int32)), .val (.ref bb22), .unset]) rfl ?_
          show Steps p.tables e below (T22.setTop (mkF m 54 #[.val (.int qk), .val (.int qc), .val (.int ((qk &&& (2147483647 : Int32)) % (3 : Int32))), .val (.ref aADDRESS), .val (.int (0 : Int32)), .val (.ref bb22), .unset] [])) _
          refine XS.aloadN X22.here hx rfl (hb hby at_54) rfl rfl ?_
          exact kt)
      obtain ⟨cq25, kq25, q25a, q25b, q25c⟩ := isOf hZ rfl (E_ADDRESS.keep K22q)
      obtain ⟨_, _, ⟨T25, L25, k25, n25⟩, -, X25, ⟨Lc25, hQ25, l25, y25, z25⟩, st25⟩ := X22.virtualBack hx (y := (⟨"com/example/tallygate/tallygate/KeyType", "isProvenBySuccess", "()Z"⟩ : MethodName)) (z := (⟨"com/example/tallygate/tallygate/KeyType", "isProvenBySuccess", "()Z"⟩ : MethodName)) hown (mvT hZ (hw _ (List.mem_of_getElem? (i := 30) rfl))) (mvT hZ (hw _ (List.mem_of_getElem? (i := 31) rfl))) (notFace_of_selects (args := #[]) (mvT hZ (hw _ (List.mem_of_getElem? (i := 33) rfl)))) (mvT hZ (hw _ (List.mem_of_getElem? (i := 33) rfl))) (mvT hZ (hw _ (List.mem_of_getElem? (i := 32) rfl))) (by decide) (backOf (W := 0) (own_proven1 l Z a0 hw [] aADDRESS T22.heap n0 (Nat.le_trans Z0 K22q.1) (E_ADDRESS.keep K22q) (O_ADDRESS.keep K22q nin0)) hZ (hw _ (List.mem_of_getElem? (i := 34) rfl)) (hw _ (List.mem_of_getElem? (i := 2) rfl)) (by decide) (by decide)) q25a q25c (g := (mkF m 55 #[.val (.int qk), .val (.int qc), .val (.int ((qk &&& (2147483647 : Int32)) % (3 : Int32))), .val (.ref aADDRESS), .val (.int (0 : Int32)), .val (.ref bb22), .unset] [(.ref aADDRESS)])) rfl (by rw [hml]; rfl) (Steps.refl _) (argsL := []) (rest := []) (lenOf own_pd5 rfl) rfl (by show 2 * 0 + _ ≤ _; exact Nat.le_of_eq rfl) (hb hby at_55) (fun _ _ => ⟨rfl, rfl, (by decide : 2 + 0 ≤ _), (by decide : 5 + 0 ≤ _)⟩)
      dsimp only [Pt.U, Pt.locs, Pt.cells, Pt.slots] at X25 l25 y25 z25 st25 hQ25
      subst l25 y25 z25
      obtain ⟨rfl, N25q, e25⟩ := hQ25
      have N25 := Fr.app N22 N25q
      have pre26 : Goes p e below s₁ (entryFrame m #[(.int qk), (.int qc)] maxLocals) T25 (mkF m 58 #[.val (.int qk), .val (.int qc), .val (.int ((qk &&& (2147483647 : Int32)) % (3 : Int32))), .val (.ref aADDRESS), .val (.int (0 : Int32)), .val (.ref bb22), .unset] [(.int (0 : Int32))]) := fun t kt => pre24 t (st25.trans kt)
      have pre27 : Goes p e below s₁ (entryFrame m #[(.int qk), (.int qc)] maxLocals) T25 (mkF m 73 #[.val (.int qk), .val (.int qc), .val (.int ((qk &&& (2147483647 : Int32)) % (3 : Int32))), .val (.ref aADDRESS), .val (.int (0 : Int32)), .val (.ref bb22), .val (.int (0 : Int32))] [(.ref bb22), .null, (.ref aADDRESS), (.int (0 : Int32))]) := fun t kt => pre26 t (by
          show Steps p.tables e below (T25.setTop (mkF m 58 #[.val (.int qk), .val (.int qc), .val (.int ((qk &&& (2147483647 : Int32)) % (3 : Int32))), .val (.ref aADDRESS), .val (.int (0 : Int32)), .val (.ref bb22), .unset] [(.int (0 : Int32))])) _
          refine XS.istore X25.here hx rfl (hb hby at_58) rfl (l' := #[.val (.int qk), .val (.int qc), .val (.int ((qk &&& (2147483647 : Int32)) % (3 : Int32))), .val (.ref aADDRESS), .val (.int (0 : Int32)), .val (.ref bb22), .val (.int (0 : Int32))]) rfl ?_
          show Steps p.tables e below (T25.setTop (mkF m 60 #[.val (.int qk), .val (.int qc), .val (.int ((qk &&& (2147483647 : Int32)) % (3 : Int32))), .val (.ref aADDRESS), .val (.int (0 : Int32)), .val (.ref bb22), .val (.int (0 : Int32))] [])) _
          refine XS.iload X25.here hx rfl (hb hby at_60) rfl ?_
          show Steps p.tables e below (T25.setTop (mkF m 62 #[.val (.int qk), .val (.int qc), .val (.int ((qk &&& (2147483647 : Int32)) % (3 : Int32))), .val (.ref aADDRESS), .val (.int (0 : Int32)), .val (.ref bb22), .val (.int (0 : Int32))] [(.int (0 : Int32))])) _
          refine XS.iload X25.here hx rfl (hb hby at_62) rfl ?_
          show Steps p.tables e below (T25.setTop (mkF m 64 #[.val (.int qk), .val (.int qc), .val (.int ((qk &&& (2147483647 : Int32)) % (3 : Int32))), .val (.ref aADDRESS), .val (.int (0 : Int32)), .val (.ref bb22), .val (.int (0 : Int32))] [(.int (0 : Int32)), (.int (0 : Int32))])) _
          refine XS.icmpNo X25.here hx rfl (hb hby at_64) rfl (teq (by decide : (0 : Int32) = (0 : Int32))).2 ?_
          show Steps p.tables e below (T25.setTop (mkF m 67 #[.val (.int qk), .val (.int qc), .val (.int ((qk &&& (2147483647 : Int32)) % (3 : Int32))), .val (.ref aADDRESS), .val (.int (0 : Int32)), .val (.ref bb22), .val (.int (0 : Int32))] [])) _
          refine XS.iload X25.here hx rfl (hb hby at_67) rfl ?_
          show Steps p.tables e below (T25.setTop (mkF m 69 #[.val (.int qk), .val (.int qc), .val (.int ((qk &&& (2147483647 : Int32)) % (3 : Int32))), .val (.ref aADDRESS), .val (.int (0 : Int32)), .val (.ref bb22), .val (.int (0 : Int32))] [(.int (0 : Int32))])) _
          refine XS.aloadN X25.here hx rfl (hb hby at_69) rfl rfl ?_
          show Steps p.tables e below (T25.setTop (mkF m 70 #[.val (.int qk), .val (.int qc), .val (.int ((qk &&& (2147483647 : Int32)) % (3 : Int32))), .val (.ref aADDRESS), .val (.int (0 : Int32)), .val (.ref bb22), .val (.int (0 : Int32))] [(.ref aADDRESS), (.int (0 : Int32))])) _
          refine XS.aconstNull X25.here hx rfl (hb hby at_70) ?_
          show Steps p.tables e below (T25.setTop (mkF m 71 #[.val (.int qk), .val (.int qc), .val (.int ((qk &&& (2147483647 : Int32)) % (3 : Int32))), .val (.ref aADDRESS), .val (.int (0 : Int32)), .val (.ref bb22), .val (.int (0 : Int32))] [.null, (.ref aADDRESS), (.int (0 : Int32))])) _
          refine XS.aload X25.here hx rfl (hb hby at_71) rfl rfl ?_
          exact kt)
      obtain ⟨cq28, kq28, q28a, q28b, q28c⟩ := isOf hZ e25 (E_ADDRESS.keep K22q)
      obtain ⟨_, _, ⟨T28, L28, k28, n28⟩, -, X28, ⟨Lc28, hQ28, l28, y28, z28⟩, st28⟩ := X25.virtualBack hx (y := (⟨"com/example/tallygate/tallygate/KeyType", "canKey", "(Ljava/lang/String;Ljava/lang/String;)Z"⟩ : MethodName)) (z := (⟨"com/example/tallygate/tallygate/KeyType", "canKey", "(Ljava/lang/String;Ljava/lang/String;)Z"⟩ : MethodName)) hown (mvT hZ (hw _ (List.mem_of_getElem? (i := 44) rfl))) (mvT hZ (hw _ (List.mem_of_getElem? (i := 45) rfl))) (notFace_of_selects (args := #[]) (mvT hZ (hw _ (List.mem_of_getElem? (i := 47) rfl)))) (mvT hZ (hw _ (List.mem_of_getElem? (i := 47) rfl))) (mvT hZ (hw _ (List.mem_of_getElem? (i := 46) rfl))) (by decide) (backOf (W := 1) (own_canKey1 l Z a0 hw [] aADDRESS bb22 T22.heap n0 (Nat.le_trans Z0 K22q.1) (E_ADDRESS.keep K22q) (O_ADDRESS.keep K22q nin0)) hZ (hw _ (List.mem_of_getElem? (i := 48) rfl)) (hw _ (List.mem_of_getElem? (i := 2) rfl)) (by decide) (by decide)) q28a q28c (g := (mkF m 73 #[.val (.int qk), .val (.int qc), .val (.int ((qk &&& (2147483647 : Int32)) % (3 : Int32))), .val (.ref aADDRESS), .val (.int (0 : Int32)), .val (.ref bb22), .val (.int (0 : Int32))] [(.ref bb22), .null, (.ref aADDRESS), (.int (0 : Int32))])) rfl (by rw [hml]; rfl) (Steps.refl _) (argsL := [.null, (.ref bb22)]) (rest := [(.int (0 : Int32))]) (lenOf own_pd6 rfl) rfl (by show 2 * 0 + _ ≤ _; exact Nat.le_of_eq rfl) (hb hby at_73) (fun _ _ => ⟨rfl, e25, (by decide : 2 + 0 ≤ _), (by decide : 5 + 0 ≤ _)⟩)
      dsimp only [Pt.U, Pt.locs, Pt.cells, Pt.slots] at X28 l28 y28 z28 st28 hQ28
      subst l28 y28 z28
      obtain ⟨rfl, N28q, e28⟩ := hQ28
      have N28 := Fr.app N25 N28q
      have pre29 : Goes p e below s₁ (entryFrame m #[(.int qk), (.int qc)] maxLocals) T28 (mkF m 76 #[.val (.int qk), .val (.int qc), .val (.int ((qk &&& (2147483647 : Int32)) % (3 : Int32))), .val (.ref aADDRESS), .val (.int (0 : Int32)), .val (.ref bb22), .val (.int (0 : Int32))] [(.int (1 : Int32)), (.int (0 : Int32))]) := fun t kt => pre27 t (st28.trans kt)
      have pre30 : Goes p e below s₁ (entryFrame m #[(.int qk), (.int qc)] maxLocals) T28 (mkF m 92 #[.val (.int qk), .val (.int qc), .val (.int ((qk &&& (2147483647 : Int32)) % (3 : Int32))), .val (.ref aADDRESS), .val (.int (0 : Int32)), .val (.ref bb22), .val (.int (0 : Int32))] [(.int (1 : Int32))]) := fun t kt => pre29 t (by
          show Steps p.tables e below (T28.setTop (mkF m 76 #[.val (.int qk), .val (.int qc), .val (.int ((qk &&& (2147483647 : Int32)) % (3 : Int32))), .val (.ref aADDRESS), .val (.int (0 : Int32)), .val (.ref bb22), .val (.int (0 : Int32))] [(.int (1 : Int32)), (.int (0 : Int32))])) _
          refine XS.ifYes X28.here hx rfl (pc0 := 76) (pc' := 83) rfl (hb hby at_76) rfl ((if0 _ _).trans (feq (by decide : ¬ ((1 : Int32) = (0 : Int32)))).2) (by decide) (by decide) ?_
          show Steps p.tables e below (T28.setTop (mkF m 83 #[.val (.int qk), .val (.int qc), .val (.int ((qk &&& (2147483647 : Int32)) % (3 : Int32))), .val (.ref aADDRESS), .val (.int (0 : Int32)), .val (.ref bb22), .val (.int (0 : Int32))] [(.int (0 : Int32))])) _
          refine XS.iconst X28.here hx rfl (hb hby at_83) ?_
          show Steps p.tables e below (T28.setTop (mkF m 84 #[.val (.int qk), .val (.int qc), .val (.int ((qk &&& (2147483647 : Int32)) % (3 : Int32))), .val (.ref aADDRESS), .val (.int (0 : Int32)), .val (.ref bb22), .val (.int (0 : Int32))] [(.int (0 : Int32)), (.int (0 : Int32))])) _
          refine XS.icmpNo X28.here hx rfl (hb hby at_84) rfl (teq (by decide : (0 : Int32) = (0 : Int32))).2 ?_
          show Steps p.tables e below (T28.setTop (mkF m 87 #[.val (.int qk), .val (.int qc), .val (.int ((qk &&& (2147483647 : Int32)) % (3 : Int32))), .val (.ref aADDRESS), .val (.int (0 : Int32)), .val (.ref bb22), .val (.int (0 : Int32))] [])) _
          refine XS.iconst X28.here hx rfl (hb hby at_87) ?_
          show Steps p.tables e below (T28.setTop (mkF m 88 #[.val (.int qk), .val (.int qc), .val (.int ((qk &&& (2147483647 : Int32)) % (3 : Int32))), .val (.ref aADDRESS), .val (.int (0 : Int32)), .val (.ref bb22), .val (.int (0 : Int32))] [(.int (1 : Int32))])) _
          refine XS.goto X28.here hx rfl (pc0 := 88) (pc' := 92) rfl (hb hby at_88) (by decide) (by decide) ?_
          exact kt)
      obtain ⟨fs, hr, hrun, hended, hW, hsame⟩ := X28.leave (v := some (.int (1 : Int32))) (fun h => by rw [Bd.returns] at h; cases h)
      refine ⟨_, _, pre30 _ ?_, hrun, hended, _, _, rfl, ?_, ⟨_, rfl⟩, hW, hsame.mono (by decide) (by decide)⟩
      · show Steps p.tables e below (T28.setTop (mkF m 92 #[.val (.int qk), .val (.int qc), .val (.int ((qk &&& (2147483647 : Int32)) % (3 : Int32))), .val (.ref aADDRESS), .val (.int (0 : Int32)), .val (.ref bb22), .val (.int (0 : Int32))] [(.int (1 : Int32))])) _
        exact retN X28 hx (t := .boolean) Bd.returns (by simp) (hb hby at_92) hr
      · show Q_own_rm0 Z qk qc cs aACCOUNT aADDRESS aPAIR h0 n0 _ T28.heap _
        rw [e28]
        exact ⟨rfl, N28⟩
    · -- no at pc 23: t
      have pre31 : Goes p e below s₁ (entryFrame m #[(.int qk), (.int qc)] maxLocals) s₁ (mkF m 36 #[.val (.int qk), .val (.int qc), .val (.int ((qk &&& (2147483647 : Int32)) % (3 : Int32))), .unset, .unset, .unset, .unset] []) := fun t kt => pre16 t (by
          show Steps p.tables e below (s₁.setTop (mkF m 23 #[.val (.int qk), .val (.int qc), .val (.int ((qk &&& (2147483647 : Int32)) % (3 : Int32))), .unset, .unset, .unset, .unset] [(.int (1 : Int32)), (.int ((qk &&& (2147483647 : Int32)) % (3 : Int32)))])) _
          refine XS.icmpYes X0.here hx rfl (pc0 := 23) (pc' := 36) rfl (hb hby at_23) rfl (feq hc23_17).2 (by decide) (by decide) ?_
          exact kt)
      obtain ⟨T32, X32, e32, st32⟩ := getS2 X0 hx hZ hown (host := "") (Or.inl (hw _ (List.mem_of_getElem? (i := 49) rfl))) Via.refl e0 S_PAIR (g := (mkF m 36 #[.val (.int qk), .val (.int qc), .val (.int ((qk &&& (2147483647 : Int32)) % (3 : Int32))), .unset, .unset, .unset, .unset] [])) rfl (hb hby at_36)
      have pre33 : Goes p e below s₁ (entryFrame m #[(.int qk), (.int qc)] maxLocals) T32 (mkF m 39 #[.val (.int qk), .val (.int qc), .val (.int ((qk &&& (2147483647 : Int32)) % (3 : Int32))), .unset, .unset, .unset, .unset] [(.ref aPAIR)]) := fun t kt => pre31 t (st32 t kt)
      have pre34 : Goes p e below s₁ (entryFrame m #[(.int qk), (.int qc)] maxLocals) T32 (mkF m 49 #[.val (.int qk), .val (.int qc), .val (.int ((qk &&& (2147483647 : Int32)) % (3 : Int32))), .val (.ref aPAIR), .val (.int (1 : Int32)), .unset, .unset] [(.int ((qc &&& (255 : Int32)).toUInt32.toUInt16.toUInt32.toInt32))]) := fun t kt => pre33 t (by
          show Steps p.tables e below (T32.setTop (mkF m 39 #[.val (.int qk), .val (.int qc), .val (.int ((qk &&& (2147483647 : Int32)) % (3 : Int32))), .unset, .unset, .unset, .unset] [(.ref aPAIR)])) _
          refine XS.astoreN X32.here hx rfl (hb hby at_39) rfl rfl (l' := #[.val (.int qk), .val (.int qc), .val (.int ((qk &&& (2147483647 : Int32)) % (3 : Int32))), .val (.ref aPAIR), .unset, .unset, .unset]) rfl ?_
          show Steps p.tables e below (T32.setTop (mkF m 40 #[.val (.int qk), .val (.int qc), .val (.int ((qk &&& (2147483647 : Int32)) % (3 : Int32))), .val (.ref aPAIR), .unset, .unset, .unset] [])) _
          refine XS.iconst X32.here hx rfl (hb hby at_40) ?_
          show Steps p.tables e below (T32.setTop (mkF m 41 #[.val (.int qk), .val (.int qc), .val (.int ((qk &&& (2147483647 : Int32)) % (3 : Int32))), .val (.ref aPAIR), .unset, .unset, .unset] [(.int (1 : Int32))])) _
          refine XS.istore X32.here hx rfl (hb hby at_41) rfl (l' := #[.val (.int qk), .val (.int qc), .val (.int ((qk &&& (2147483647 : Int32)) % (3 : Int32))), .val (.ref aPAIR), .val (.int (1 : Int32)), .unset, .unset]) rfl ?_
          show Steps p.tables e below (T32.setTop (mkF m 43 #[.val (.int qk), .val (.int qc), .val (.int ((qk &&& (2147483647 : Int32)) % (3 : Int32))), .val (.ref aPAIR), .val (.int (1 : Int32)), .unset, .unset] [])) _
          refine XS.iloadN X32.here hx rfl (hb hby at_43) rfl ?_
          show Steps p.tables e below (T32.setTop (mkF m 44 #[.val (.int qk), .val (.int qc), .val (.int ((qk &&& (2147483647 : Int32)) % (3 : Int32))), .val (.ref aPAIR), .val (.int (1 : Int32)), .unset, .unset] [(.int qc)])) _
          refine XS.sipush X32.here hx rfl (hb hby at_44) ?_
          show Steps p.tables e below (T32.setTop (mkF m 47 #[.val (.int qk), .val (.int qc), .val (.int ((qk &&& (2147483647 : Int32)) % (3 : Int32))), .val (.ref aPAIR), .val (.int (1 : Int32)), .unset, .unset] [(.int (255 : Int32)), (.int qc)])) _
          refine XS.iand X32.here hx rfl (hb hby at_47) rfl ?_
          show Steps p.tables e below (T32.setTop (mkF m 48 #[.val (.int qk), .val (.int qc), .val (.int ((qk &&& (2147483647 : Int32)) % (3 : Int32))), .val (.ref aPAIR), .val (.int (1 : Int32)), .unset, .unset] [(.int (qc &&& (255 : Int32)))])) _
          refine XS.i2c X32.here hx rfl (hb hby at_48) rfl ?_
          exact kt)
      obtain ⟨_, _, ⟨T35, L35, k35, n35⟩, -, X35, ⟨Lc35, hQ35, l35, y35, z35⟩, st35⟩ := Jvm.LawKit.callS X32 hx (y := (⟨"java/lang/String", "valueOf", "(C)Ljava/lang/String;"⟩ : MethodName)) hown (mvT hZ (hw _ (List.mem_of_getElem? (i := 4) rfl))) (mvT hZ (hw _ (List.mem_of_getElem? (i := 5) rfl))) (mvT hZ (hw _ (List.mem_of_getElem? (i := 6) rfl))) (mvT hZ (hw _ (List.mem_of_getElem? (i := 7) rfl))) (by decide) (backOf (W := 0) (own_valueOf l Z a0 hw [] ((qc &&& (255 : Int32)).toUInt32.toUInt16.toUInt32.toInt32) cs h0 n0 Z0 S_CS hcs (own_n3 qc qk hc8_2 hc23_17)) hZ (hw _ (List.mem_of_getElem? (i := 7) rfl)) (hw _ (List.mem_of_getElem? (i := 6) rfl)) (by decide) (by decide)) (g := (mkF m 49 #[.val (.int qk), .val (.int qc), .val (.int ((qk &&& (2147483647 : Int32)) % (3 : Int32))), .val (.ref aPAIR), .val (.int (1 : Int32)), .unset, .unset] [(.int ((qc &&& (255 : Int32)).toUInt32.toUInt16.toUInt32.toInt32))])) rfl (by rw [hml]; rfl) (argsL := [(.int ((qc &&& (255 : Int32)).toUInt32.toUInt16.toUInt32.toInt32))]) (rest := []) (lenOf own_pd4 rfl) rfl (by show 2 * 0 + _ ≤ _; exact Nat.le_of_eq rfl) (hb hby at_49) (fun _ _ => ⟨rfl, e32, (by decide : 0 + 2 ≤ _), (by decide : 0 + 5 ≤ _)⟩)
      dsimp only [Pt.U, Pt.locs, Pt.cells, Pt.slots] at X35 l35 y35 z35 st35 hQ35
      subst l35 y35 z35
      obtain ⟨bb35, rfl, N35q, K35q⟩ := hQ35
      have N35 := Fr.app N0 N35q
      have KC35 : Keep h0 T35.heap [] := (Keep.refl h0 []).trans K35q all0
      have pre36 : Goes p e below s₁ (entryFrame m #[(.int qk), (.int qc)] maxLocals) T35 (mkF m 52 #[.val (.int qk), .val (.int qc), .val (.int ((qk &&& (2147483647 : Int32)) % (3 : Int32))), .val (.ref aPAIR), .val (.int (1 : Int32)), .unset, .unset] [(.ref bb35)]) := fun t kt => pre34 t (st35 t kt)
      have pre37 : Goes p e below s₁ (entryFrame m #[(.int qk), (.int qc)] maxLocals) T35 (mkF m 55 #[.val (.int qk), .val (.int qc), .val (.int ((qk &&& (2147483647 : Int32)) % (3 : Int32))), .val (.ref aPAIR), .val (.int (1 : Int32)), .val (.ref bb35), .unset] [(.ref aPAIR)]) := fun t kt => pre36 t (by
          show Steps p.tables e below (T35.setTop (mkF m 52 #[.val (.int qk), .val (.int qc), .val (.int ((qk &&& (2147483647 : Int32)) % (3 : Int32))), .val (.ref aPAIR), .val (.int (1 : Int32)), .unset, .unset] [(.ref bb35)])) _
          refine XS.astore X35.here hx rfl (hb hby at_52) rfl rfl (l' := #[.val (.int qk), .val (.int qc), .val (.int ((qk &&& (2147483647 : Int32)) % (3 : Int32))), .val (.ref aPAIR), .val (.int (1 : Int32)), .val (.ref bb35), .unset]) rfl ?_
          show Steps p.tables e below (T35.setTop (mkF m 54 #[.val (.int qk), .val (.int qc), .val (.int ((qk &&& (2147483647 : Int32)) % (3 : Int32))), .val (.ref aPAIR), .val (.int (1 : Int32)), .val (.ref bb35), .unset] [])) _
          refine XS.aloadN X35.here hx rfl (hb hby at_54) rfl rfl ?_
          exact kt)
      obtain ⟨cq38, kq38, q38a, q38b, q38c⟩ := isOf hZ rfl (E_PAIR.keep K35q)
      obtain ⟨_, _, ⟨T38, L38, k38, n38⟩, -, X38, ⟨Lc38, hQ38, l38, y38, z38⟩, st38⟩ := X35.virtualBack hx (y := (⟨"com/example/tallygate/tallygate/KeyType", "isProvenBySuccess", "()Z"⟩ : MethodName)) (z := (⟨"com/example/tallygate/tallygate/KeyType", "isProvenBySuccess", "()Z"⟩ : MethodName)) hown (mvT hZ (hw _ (List.mem_of_getElem? (i := 30) rfl))) (mvT hZ (hw _ (List.mem_of_getElem? (i := 31) rfl))) (notFace_of_selects (args := #[]) (mvT hZ (hw _ (List.mem_of_getElem? (i := 33) rfl)))) (mvT hZ (hw _ (List.mem_of_getElem? (i := 33) rfl))) (mvT hZ (hw _ (List.mem_of_getElem? (i := 32) rfl))) (by decide) (backOf (W := 0) (own_proven2 l Z a0 hw [] aPAIR T35.heap n0 (Nat.le_trans Z0 K35q.1) (E_PAIR.keep K35q) (O_PAIR.keep K35q nin0)) hZ (hw _ (List.mem_of_getElem? (i := 34) rfl)) (hw _ (List.mem_of_getElem? (i := 2) rfl)) (by decide) (by decide)) q38a q38c (g := (mkF m 55 #[.val (.int qk), .val (.int qc), .val (.int ((qk &&& (2147483647 : Int32)) % (3 : Int32))), .val (.ref aPAIR), .val (.int (1 : Int32)), .val (.ref bb35), .unset] [(.ref aPAIR)])) rfl (by rw [hml]; rfl) (Steps.refl _) (argsL := []) (rest := []) (lenOf own_pd5 rfl) rfl (by show 2 * 0 + _ ≤ _; exact Nat.le_of_eq rfl) (hb hby at_55) (fun _ _ => ⟨rfl, rfl, (by decide : 2 + 0 ≤ _), (by decide : 5 + 0 ≤ _)⟩)
      dsimp only [Pt.U, Pt.locs, Pt.cells, Pt.slots] at X38 l38 y38 z38 st38 hQ38
      subst l38 y38 z38
      obtain ⟨rfl, N38q, e38⟩ := hQ38
      have N38 := Fr.app N35 N38q
      have pre39 : Goes p e below s₁ (entryFrame m #[(.int qk), (.int qc)] maxLocals) T38 (mkF m 58 #[.val (.int qk), .val (.int qc), .val (.int ((qk &&& (2147483647 : Int32)) % (3 : Int32))), .val (.ref aPAIR), .val (.int (1 : Int32)), .val (.ref bb35), .unset] [(.int (1 : Int32))]) := fun t kt => pre37 t (st38.trans kt)
      have pre40 : Goes p e below s₁ (entryFrame m #[(.int qk), (.int qc)] maxLocals) T38 (mkF m 73 #[.val (.int qk), .val (.int qc), .val (.int ((qk &&& (2147483647 : Int32)) % (3 : Int32))), .val (.ref aPAIR), .val (.int (1 : Int32)), .val (.ref bb35), .val (.int (1 : Int32))] [(.ref bb35), .null, (.ref aPAIR), (.int (1 : Int32))]) := fun t kt => pre39 t (by
          show Steps p.tables e below (T38.setTop (mkF m 58 #[.val (.int qk), .val (.int qc), .val (.int ((qk &&& (2147483647 : Int32)) % (3 : Int32))), .val (.ref aPAIR), .val (.int (1 : Int32)), .val (.ref bb35), .unset] [(.int (1 : Int32))])) _
          refine XS.istore X38.here hx rfl (hb hby at_58) rfl (l' := #[.val (.int qk), .val (.int qc), .val (.int ((qk &&& (2147483647 : Int32)) % (3 : Int32))), .val (.ref aPAIR), .val (.int (1 : Int32)), .val (.ref bb35), .val (.int (1 : Int32))]) rfl ?_
          show Steps p.tables e below (T38.setTop (mkF m 60 #[.val (.int qk), .val (.int qc), .val (.int ((qk &&& (2147483647 : Int32)) % (3 : Int32))), .val (.ref aPAIR), .val (.int (1 : Int32)), .val (.ref bb35), .val (.int (1 : Int32))] [])) _
          refine XS.iload X38.here hx rfl (hb hby at_60) rfl ?_
          show Steps p.tables e below (T38.setTop (mkF m 62 #[.val (.int qk), .val (.int qc), .val (.int ((qk &&& (2147483647 : Int32)) % (3 : Int32))), .val (.ref aPAIR), .val (.int (1 : Int32)), .val (.ref bb35), .val (.int (1 : Int32))] [(.int (1 : Int32))])) _
          refine XS.iload X38.here hx rfl (hb hby at_62) rfl ?_
          show Steps p.tables e below (T38.setTop (mkF m 64 #[.val (.int qk), .val (.int qc), .val (.int ((qk &&& (2147483647 : Int32)) % (3 : Int32))), .val (.ref aPAIR), .val (.int (1 : Int32)), .val (.ref bb35), .val (.int (1 : Int32))] [(.int (1 : Int32)), (.int (1 : Int32))])) _
          refine XS.icmpNo X38.here hx rfl (hb hby at_64) rfl (teq (by decide : (1 : Int32) = (1 : Int32))).2 ?_
          show Steps p.tables e below (T38.setTop (mkF m 67 #[.val (.int qk), .val (.int qc), .val (.int ((qk &&& (2147483647 : Int32)) % (3 : Int32))), .val (.ref aPAIR), .val (.int (1 : Int32)), .val (.ref bb35), .val (.int (1 : Int32))] [])) _
          refine XS.iload X38.here hx rfl (hb hby at_67) rfl ?_
          show Steps p.tables e below (T38.setTop (mkF m 69 #[.val (.int qk), .val (.int qc), .val (.int ((qk &&& (2147483647 : Int32)) % (3 : Int32))), .val (.ref aPAIR), .val (.int (1 : Int32)), .val (.ref bb35), .val (.int (1 : Int32))] [(.int (1 : Int32))])) _
          refine XS.aloadN X38.here hx rfl (hb hby at_69) rfl rfl ?_
          show Steps p.tables e below (T38.setTop (mkF m 70 #[.val (.int qk), .val (.int qc), .val (.int ((qk &&& (2147483647 : Int32)) % (3 : Int32))), .val (.ref aPAIR), .val (.int (1 : Int32)), .val (.ref bb35), .val (.int (1 : Int32))] [(.ref aPAIR), (.int (1 : Int32))])) _
          refine XS.aconstNull X38.here hx rfl (hb hby at_70) ?_
          show Steps p.tables e below (T38.setTop (mkF m 71 #[.val (.int qk), .val (.int qc), .val (.int ((qk &&& (2147483647 : Int32)) % (3 : Int32))), .val (.ref aPAIR), .val (.int (1 : Int32)), .val (.ref bb35), .val (.int (1 : Int32))] [.null, (.ref aPAIR), (.int (1 : Int32))])) _
          refine XS.aload X38.here hx rfl (hb hby at_71) rfl rfl ?_
          exact kt)
      obtain ⟨cq41, kq41, q41a, q41b, q41c⟩ := isOf hZ e38 (E_PAIR.keep K35q)
      obtain ⟨_, _, ⟨T41, L41, k41, n41⟩, -, X41, ⟨Lc41, hQ41, l41, y41, z41⟩, st41⟩ := X38.virtualBack hx (y := (⟨"com/example/tallygate/tallygate/KeyType", "canKey", "(Ljava/lang/String;Ljava/lang/String;)Z"⟩ : MethodName)) (z := (⟨"com/example/tallygate/tallygate/KeyType", "canKey", "(Ljava/lang/String;Ljava/lang/String;)Z"⟩ : MethodName)) hown (mvT hZ (hw _ (List.mem_of_getElem? (i := 44) rfl))) (mvT hZ (hw _ (List.mem_of_getElem? (i := 45) rfl))) (notFace_of_selects (args := #[]) (mvT hZ (hw _ (List.mem_of_getElem? (i := 47) rfl)))) (mvT hZ (hw _ (List.mem_of_getElem? (i := 47) rfl))) (mvT hZ (hw _ (List.mem_of_getElem? (i := 46) rfl))) (by decide) (backOf (W := 1) (own_canKey2 l Z a0 hw [] aPAIR bb35 T35.heap n0 (Nat.le_trans Z0 K35q.1) (E_PAIR.keep K35q) (O_PAIR.keep K35q nin0)) hZ (hw _ (List.mem_of_getElem? (i := 48) rfl)) (hw _ (List.mem_of_getElem? (i := 2) rfl)) (by decide) (by decide)) q41a q41c (g := (mkF m 73 #[.val (.int qk), .val (.int qc), .val (.int ((qk &&& (2147483647 : Int32)) % (3 : Int32))), .val (.ref aPAIR), .val (.int (1 : Int32)), .val (.ref bb35), .val (.int (1 : Int32))] [(.ref bb35), .null, (.ref aPAIR), (.int (1 : Int32))])) rfl (by rw [hml]; rfl) (Steps.refl _) (argsL := [.null, (.ref bb35)]) (rest := [(.int (1 : Int32))]) (lenOf own_pd6 rfl) rfl (by show 2 * 0 + _ ≤ _; exact Nat.le_of_eq rfl) (hb hby at_73) (fun _ _ => ⟨rfl, e38, (by decide : 2 + 0 ≤ _), (by decide : 5 + 0 ≤ _)⟩)
      dsimp only [Pt.U, Pt.locs, Pt.cells, Pt.slots] at X41 l41 y41 z41 st41 hQ41
      subst l41 y41 z41
      obtain ⟨rfl, N41q, e41⟩ := hQ41
      have N41 := Fr.app N38 N41q
      have pre42 : Goes p e below s₁ (entryFrame m #[(.int qk), (.int qc)] maxLocals) T41 (mkF m 76 #[.val (.int qk), .val (.int qc), .val (.int ((qk &&& (2147483647 : Int32)) % (3 : Int32))), .val (.ref aPAIR), .val (.int (1 : Int32)), .val (.ref bb35), .val (.int (1 : Int32))] [(.int (0 : Int32)), (.int (1 : Int32))]) := fun t kt => pre40 t (st41.trans kt)
      have pre43 : Goes p e below s₁ (entryFrame m #[(.int qk), (.int qc)] maxLocals) T41 (mkF m 92 #[.val (.int qk), .val (.int qc), .val (.int ((qk &&& (2147483647 : Int32)) % (3 : Int32))), .val (.ref aPAIR), .val (.int (1 : Int32)), .val (.ref bb35), .val (.int (1 : Int32))] [(.int (1 : Int32))]) := fun t kt => pre42 t (by
          show Steps p.tables e below (T41.setTop (mkF m 76 #[.val (.int qk), .val (.int qc), .val (.int ((qk &&& (2147483647 : Int32)) % (3 : Int32))), .val (.ref aPAIR), .val (.int (1 : Int32)), .val (.ref bb35), .val (.int (1 : Int32))] [(.int (0 : Int32)), (.int (1 : Int32))])) _
          refine XS.ifNo X41.here hx rfl (hb hby at_76) rfl ((if0 _ _).trans (teq (by decide : (0 : Int32) = (0 : Int32))).2) ?_
          show Steps p.tables e below (T41.setTop (mkF m 79 #[.val (.int qk), .val (.int qc), .val (.int ((qk &&& (2147483647 : Int32)) % (3 : Int32))), .val (.ref aPAIR), .val (.int (1 : Int32)), .val (.ref bb35), .val (.int (1 : Int32))] [(.int (1 : Int32))])) _
          refine XS.iconst X41.here hx rfl (hb hby at_79) ?_
          show Steps p.tables e below (T41.setTop (mkF m 80 #[.val (.int qk), .val (.int qc), .val (.int ((qk &&& (2147483647 : Int32)) % (3 : Int32))), .val (.ref aPAIR), .val (.int (1 : Int32)), .val (.ref bb35), .val (.int (1 : Int32))] [(.int (1 : Int32)), (.int (1 : Int32))])) _
          refine XS.goto X41.here hx rfl (pc0 := 80) (pc' := 84) rfl (hb hby at_80) (by decide) (by decide) ?_
          show Steps p.tables e below (T41.setTop (mkF m 84 #[.val (.int qk), .val (.int qc), .val (.int ((qk &&& (2147483647 : Int32)) % (3 : Int32))), .val (.ref aPAIR), .val (.int (1 : Int32)), .val (.ref bb35), .val (.int (1 : Int32))] [(.int (1 : Int32)), (.int (1 : Int32))])) _
          refine XS.icmpNo X41.here hx rfl (hb hby at_84) rfl (teq (by decide : (1 : Int32) = (1 : Int32))).2 ?_
          show Steps p.tables e below (T41.setTop (mkF m 87 #[.val (.int qk), .val (.int qc), .val (.int ((qk &&& (2147483647 : Int32)) % (3 : Int32))), .val (.ref aPAIR), .val (.int (1 : Int32)), .val (.ref bb35), .val (.int (1 : Int32))] [])) _
          refine XS.iconst X41.here hx rfl (hb hby at_87) ?_
          show Steps p.tables e below (T41.setTop (mkF m 88 #[.val (.int qk), .val (.int qc), .val (.int ((qk &&& (2147483647 : Int32)) % (3 : Int32))), .val (.ref aPAIR), .val (.int (1 : Int32)), .val (.ref bb35), .val (.int (1 : Int32))] [(.int (1 : Int32))])) _
          refine XS.goto X41.here hx rfl (pc0 := 88) (pc' := 92) rfl (hb hby at_88) (by decide) (by decide) ?_
          exact kt)
      obtain ⟨fs, hr, hrun, hended, hW, hsame⟩ := X41.leave (v := some (.int (1 : Int32))) (fun h => by rw [Bd.returns] at h; cases h)
      refine ⟨_, _, pre43 _ ?_, hrun, hended, _, _, rfl, ?_, ⟨_, rfl⟩, hW, hsame.mono (by decide) (by decide)⟩
      · show Steps p.tables e below (T41.setTop (mkF m 92 #[.val (.int qk), .val (.int qc), .val (.int ((qk &&& (2147483647 : Int32)) % (3 : Int32))), .val (.ref aPAIR), .val (.int (1 : Int32)), .val (.ref bb35), .val (.int (1 : Int32))] [(.int (1 : Int32))])) _
        exact retN X41 hx (t := .boolean) Bd.returns (by simp) (hb hby at_92) hr
      · show Q_own_rm0 Z qk qc cs aACCOUNT aADDRESS aPAIR h0 n0 _ T41.heap _
        rw [e41]
        exact ⟨rfl, N41⟩
set_option maxRecDepth 65536 in
set_option maxHeartbeats 40000000 in
theorem comes_1 {Post : Tables → Env → Array Value → State → Outcome → State → Prop} (hpost : ∀ tb e args s v u, (limb_1_1.after args s (.returned v) u = true ∧ limb_1_2.after args s (.returned v) u = true ∧ True) → FrameEnd s (.returned v) u (Jvm.fieldLocs frame_1_writes args s ++ Jvm.arrayLocs frame_1_arrays args s ++ Jvm.staticLocs frame_1_statics s) 16 128 → Post tb e args s (.returned v) u) :
    ArmFor flags0 classFile x code maxLocals ret World_1 tables_1 room_1 Calls_1 rest_1 Pre_1 Post := by
  intro l hfl _ _ p e ha hc hk s m args below hf hA hF happ hP
  obtain ⟨hcalls, hrest, hpre⟩ := hP
  obtain ⟨-, -, -, hnamed, -, -, -, hat⟩ := (Spec.applies_iff hf).mp happ
  obtain ⟨hg, hn⟩ := and_e (Cond.before_iff.mp (show (Jvm.Cond.and given_1 narrow_1).before args s = true from hpre))
  obtain ⟨g5, g6⟩ := and_e hg
  obtain ⟨g7, g8⟩ := and_e g6
  obtain ⟨w0, w1, rfl⟩ : ∃ w0 w1 : Value, args = #[w0, w1] := by
    have hs : args.size = 2 := by simpa [Cond.value, given_1] using g5
    obtain ⟨L⟩ := args
    match L, hs with
    | [w0, w1], _ => exact ⟨w0, w1, rfl⟩
  have hw := fun d (hd : d ∈ tables_1) => atoms_spec (ws := Jvm.Cond.code x code maxLocals ret :: tables_1) hat d (List.mem_cons_of_mem _ hd)
  have hfit : Fit s := fun {y c} hc i hi => by
    obtain ⟨ha, rfl⟩ := Array.getElem?_eq_some_iff.mp hc
    have q := List.all_eq_true.mp ((Array.all_eq_true_iff_forall_mem.mp hF) _ (Array.getElem_mem ha)) i (List.mem_range.mpr hi)
    simpa [Array.getElem?_eq_getElem hi] using q
  obtain ⟨hsets, hown0⟩ := atoms_of _ (rest_1_c_eq ▸ (show rest_1_c.before _ s = true from hrest))
  have hr0 := Cond.before_iff.mp hown0
  obtain ⟨i0, ei0⟩ := is_v g7
  obtain rfl : w0 = (.int i0) := Option.some.inj ei0
  obtain ⟨i1, ei1⟩ := is_v g8
  obtain rfl : w1 = (.int i1) := Option.some.inj ei1
  have n5 := not_v (Cond.before_iff.mp (hsets _ (List.mem_of_getElem? (i := 2) rfl)))
  obtain ⟨ics, ecs⟩ := is_v (Cond.before_iff.mp (hsets _ (List.mem_of_getElem? (i := 1) rfl)))
  have S_CS : Sta s s.heap "java/lang/String" "COMPACT_STRINGS" "Z" (.int ics) := Sta.start ecs (Or.inl (hsets _ (List.mem_of_getElem? (i := 0) rfl)))
  have hcs : ¬ (ics = (0 : Int32)) := gotF (Cond.eq_ints ecs (Term.int_eval (0))) n5
  obtain ⟨q0, r0⟩ := and_e hn
  obtain ⟨q1, r1⟩ := and_e r0
  obtain ⟨q2, r2⟩ := and_e r1
  obtain ⟨q3, r3⟩ := and_e r2
  obtain ⟨q4, r4⟩ := and_e r3
  obtain ⟨aACCOUNT, evACCOUNT⟩ := exa_v q0
  have E_ACCOUNT := Exa.start evACCOUNT q0
  have S_ACCOUNT := Sta.start evACCOUNT (Or.inr ⟨(hw _ (List.mem_of_getElem? (i := 2) rfl)), (hw _ (List.mem_of_getElem? (i := 3) rfl))⟩)
  obtain ⟨aPAIR, evPAIR⟩ := exa_v q2
  have E_PAIR := Exa.start evPAIR q2
  have S_PAIR := Sta.start evPAIR (Or.inr ⟨(hw _ (List.mem_of_getElem? (i := 2) rfl)), (hw _ (List.mem_of_getElem? (i := 50) rfl))⟩)
  obtain ⟨aADDRESS, evADDRESS⟩ := exa_v q4
  have E_ADDRESS := Exa.start evADDRESS q4
  have S_ADDRESS := Sta.start evADDRESS (Or.inr ⟨(hw _ (List.mem_of_getElem? (i := 2) rfl)), (hw _ (List.mem_of_getElem? (i := 52) rfl))⟩)
  have O_ACCOUNT := Fld.start (own_ord evACCOUNT q1)
  have O_PAIR := Fld.start (own_ord evPAIR q3)
  have O_ADDRESS := Fld.start (own_ord evADDRESS r4)
  obtain ⟨n, o, h1, h2, h3, _, L, rfl, ⟨rfl, N⟩, hq⟩ := own_rm0 l s _ hw tables_1 i0 i1 ics aACCOUNT aADDRESS aPAIR s.heap s.heap.size (Nat.le_refl _) S_CS hcs S_ACCOUNT S_ADDRESS S_PAIR E_ACCOUNT E_ADDRESS E_PAIR O_ACCOUNT O_ADDRESS O_PAIR p e ha hc hk s m _ below hf ((Spec.applies_iff_loose hf).mp happ).1 ⟨rfl, State.Warmed39.refl s, rfl⟩ trivial
  refine ⟨n, _, h1, h2, h3, hpost _ _ _ _ _ _ ⟨Cond.after_iff.mpr rfl, Cond.after_iff.mpr (eq_i res_at (Term.int_eval (1)) rfl), trivial⟩ ⟨hq.1, hq.2.1, (hq.2.2.sift fun y hy => Or.inr (N y hy)).mono (by decide) (by decide)⟩⟩
theorem main_1_1 : Claimed_1_1 := comes_1 fun _ _ _ _ _ _ h hF => ⟨h.1, hF⟩
theorem main_1_2 : Claimed_1_2 := comes_1 fun _ _ _ _ _ _ h hF => ⟨h.2.1, hF⟩
end Jvm.Pilot.@@N@@
namespace Jvm.Pilot.@@N@@
open Jvm Jvm.ClassFile Sem Op Lib Jvm.Free Jvm.Stand Jvm.Pilot.@@N@@.Jvm.D
/-! MADE BY PROGRAM (witnessworld.py) out of the Statement's table words and the real class files: 18 classes; the members and pool entries that the words name. The judged class is class 1, her method 1. -/
namespace start1
open Jvm.ClassFile
def u (s : String) : CpInfo := .utf8 (stringToUtf16 s)
/-- a pool by its gaps: so many unusable entries, then the entry; so many at the end -/
def gap : Nat → List CpInfo → List CpInfo
  | 0, r => r
  | n + 1, r => .unusable :: gap n r
def poolList (es : List (Nat × CpInfo)) (last : Nat) : List CpInfo := es.foldr (fun e r => gap e.1 (e.2 :: r)) (gap last [])
def pool (es : List (Nat × CpInfo)) (last : Nat) : Array CpInfo := ⟨poolList es last⟩
def fileOf (pool : Array CpInfo) (this : Nat) (attrs : Array Attribute := #[]) (ms : Array MethodInfo := #[]) (fl : Nat := 33) (sup : Nat := 0) (ifs : Array Nat := #[]) (fds : Array FieldInfo := #[]) : ClassFile where
  minorVersion := 0
  majorVersion := 65
  constantPool := pool
  accessFlags := fl
  thisClass := this
  superClass := sup
  interfaces := ifs
  fields := fds
  methods := ms
  attributes := attrs
def plain (name : String) (sup : Option ClassId) : Class where
  name := name
  kind := .ordinary
  loader := none
  accessFlags := 33
  super := sup
  interfaces := #[]
  cf := none
  fields := #[]
  methods := #[]
  instanceTypes := #[]
  staticTypes := #[]
  resolved := #[]
  callSites := []
  init := .initialized
  statics := none
  mirror := none

def pool0 : Array CpInfo := pool [(5, u "<init>"), (0, u "()V"), (1, .class_ 10), (1, u "java/lang/Object")] 113

def k0c0 : Code := { maxStack := 0, maxLocals := 1, code := object_method_1_code, exceptionTable := #[], attributes := #[] }
def k0m0 : Method := { name := "<init>", desc := "()V", sig := { parameters := [], returnType := none }, accessFlags := 1, code := some k0c0 }
/-- java/lang/Object -/
def k0 : Class := { plain "java/lang/Object" none with
  accessFlags := 33
  interfaces := #[]
  cf := some (fileOf pool0 8 #[] #[{ accessFlags := 1, nameIndex := 5, descriptorIndex := 6, attributes := #[] }] 33 0 #[] #[])
  fields := #[]
  methods := #[k0m0]
  instanceTypes := #[]
  staticTypes := #[]
  resolved := Array.replicate 124 none
  statics := none }

def pool1 : Array CpInfo := pool [(2, .class_ 4), (1, u "java/lang/Object"), (0, u "<init>"), (0, u "()V"), (0, .integer 2147483647), (0, .fieldref 9 10), (0, .class_ 11), (0, .nameAndType 12 13), (0, u "com/example/tallygate/tallygate/KeyType"), (0, u "ACCOUNT"), (0, u "Lcom/example/tallygate/tallygate/KeyType;"), (0, .fieldref 9 15), (0, .nameAndType 16 13), (0, u "ADDRESS"), (0, .fieldref 9 18), (0, .nameAndType 19 13), (0, u "PAIR"), (0, .methodref 21 22), (0, .class_ 23), (0, .nameAndType 24 25), (0, u "java/lang/String"), (0, u "valueOf"), (0, u "(C)Ljava/lang/String;"), (0, .methodref 9 27), (0, .nameAndType 28 29), (0, u "isProvenBySuccess"), (0, u "()Z"), (0, .methodref 9 31), (0, .nameAndType 32 33), (0, u "canKey"), (0, u "(Ljava/lang/String;Ljava/lang/String;)Z"), (0, .class_ 35), (0, u "com/example/tallygate/tallygate/KeyTypeIsProvenBySuccessPinLaw"), (2, u "law"), (0, u "(II)Z")] 3

def k1m0 : Method := { name := "<init>", desc := "()V", sig := { parameters := [], returnType := none }, accessFlags := 1, code := none }
def k1c1 : Code := { maxStack := 4, maxLocals := 7, code := code, exceptionTable := #[], attributes := #[] }
def k1m1 : Method := { name := "law", desc := "(II)Z", sig := { parameters := [.int, .int], returnType := some .boolean }, accessFlags := 9, code := some k1c1 }
/-- com/example/tallygate/tallygate/KeyTypeIsProvenBySuccessPinLaw -/
def k1 : Class := { plain "com/example/tallygate/tallygate/KeyTypeIsProvenBySuccessPinLaw" (some 0) with
  accessFlags := 49
  interfaces := #[]
  cf := some (fileOf pool1 34 #[] #[{ accessFlags := 1, nameIndex := 5, descriptorIndex := 6, attributes := #[] }, { accessFlags := 9, nameIndex := 38, descriptorIndex := 39, attributes := #[] }] 49 2 #[] #[])
  fields := #[]
  methods := #[k1m0, k1m1]
  instanceTypes := #[]
  staticTypes := #[]
  resolved := Array.replicate 43 none
  statics := none }

def pool2 : Array CpInfo := pool [(1, .class_ 2), (0, u "java/lang/constant/Constable"), (0, .class_ 4), (0, u "java/lang/Object")] 6

/-- java/lang/constant/Constable -/
def k2 : Class := { plain "java/lang/constant/Constable" (some 0) with
  accessFlags := 1537
  interfaces := #[]
  cf := some (fileOf pool2 1 #[] #[] 1537 3 #[] #[])
  fields := #[]
  methods := #[]
  instanceTypes := #[]
  staticTypes := #[]
  resolved := Array.replicate 11 none
  statics := none }

def pool3 : Array CpInfo := pool [(1, .class_ 2), (0, u "java/lang/Comparable"), (0, .class_ 4), (0, u "java/lang/Object")] 7

/-- java/lang/Comparable -/
def k3 : Class := { plain "java/lang/Comparable" (some 0) with
  accessFlags := 1537
  interfaces := #[]
  cf := some (fileOf pool3 1 #[] #[] 1537 3 #[] #[])
  fields := #[]
  methods := #[]
  instanceTypes := #[]
  staticTypes := #[]
  resolved := Array.replicate 12 none
  statics := none }

def pool4 : Array CpInfo := pool [(1, .class_ 2), (0, u "java/io/Serializable"), (0, .class_ 4), (0, u "java/lang/Object")] 2

/-- java/io/Serializable -/
def k4 : Class := { plain "java/io/Serializable" (some 0) with
  accessFlags := 1537
  interfaces := #[]
  cf := some (fileOf pool4 1 #[] #[] 1537 3 #[] #[])
  fields := #[]
  methods := #[]
  instanceTypes := #[]
  staticTypes := #[]
  resolved := Array.replicate 7 none
  statics := none }

def pool5 : Array CpInfo := pool [(2, .class_ 4), (1, u "java/lang/Enum"), (0, u "name"), (0, u "Ljava/lang/String;"), (0, .fieldref 2 8), (0, .nameAndType 9 10), (0, u "ordinal"), (0, u "I"), (1, .class_ 14), (1, u "java/lang/Object"), (4, u "hash"), (86, .class_ 108), (1, u "java/lang/Enum$EnumDesc"), (2, .class_ 112), (0, u "java/lang/constant/Constable"), (0, .class_ 114), (0, u "java/lang/Comparable"), (0, .class_ 116), (0, u "java/io/Serializable"), (9, u "()I")] 77

def k5c0 : Code := { maxStack := 1, maxLocals := 1, code := jdk_37_method_2_code, exceptionTable := #[], attributes := #[] }
def k5m0 : Method := { name := "ordinal", desc := "()I", sig := { parameters := [], returnType := some .int }, accessFlags := 17, code := some k5c0 }
/-- java/lang/Enum -/
def k5 : Class := { plain "java/lang/Enum" (some 0) with
  accessFlags := 1057
  interfaces := #[2, 3, 4]
  cf := some (fileOf pool5 2 #[.nestMembers #[106]] #[{ accessFlags := 17, nameIndex := 9, descriptorIndex := 126, attributes := #[] }] 1057 12 #[111, 113, 115] #[{ accessFlags := 18, nameIndex := 5, descriptorIndex := 6, attributes := #[] }, { accessFlags := 18, nameIndex := 9, descriptorIndex := 10, attributes := #[] }, { accessFlags := 2, nameIndex := 19, descriptorIndex := 10, attributes := #[] }])
  fields := #[{ name := "name", type := (.object "java/lang/String"), accessFlags := 18, slot := 0, constantValue := 0 }, { name := "ordinal", type := .int, accessFlags := 18, slot := 1, constantValue := 0 }, { name := "hash", type := .int, accessFlags := 2, slot := 2, constantValue := 0 }]
  methods := #[k5m0]
  instanceTypes := #[(.object "java/lang/String"), .int, .int]
  staticTypes := #[]
  resolved := Array.replicate 204 none
  statics := none }

def pool6 : Array CpInfo := pool [(1, .class_ 2), (0, u "com/example/tallygate/tallygate/KeyType"), (2, u "ACCOUNT"), (0, u "Lcom/example/tallygate/tallygate/KeyType;"), (2, u "ADDRESS"), (2, u "PAIR"), (2, u "$VALUES"), (0, u "[Lcom/example/tallygate/tallygate/KeyType;"), (6, .class_ 25), (1, u "java/lang/Enum"), (22, .methodref 1 49), (0, .nameAndType 50 51), (0, u "ordinal"), (0, u "()I"), (7, u "canKey"), (0, u "(Ljava/lang/String;Ljava/lang/String;)Z"), (95, u "DIGEST_LENGTH"), (0, u "I"), (2, u "DIGEST_CHUNK"), (8, u "isProvenBySuccess"), (0, u "()Z")] 25

def k6c0 : Code := { maxStack := 4, maxLocals := 1, code := prog_10_method_5_code, exceptionTable := #[], attributes := #[] }
def k6m0 : Method := { name := "isProvenBySuccess", desc := "()Z", sig := { parameters := [], returnType := some .boolean }, accessFlags := 1, code := some k6c0 }
def k6c1 : Code := { maxStack := 4, maxLocals := 3, code := prog_10_method_7_code, exceptionTable := #[], attributes := #[] }
def k6m1 : Method := { name := "canKey", desc := "(Ljava/lang/String;Ljava/lang/String;)Z", sig := { parameters := [(.object "java/lang/String"), (.object "java/lang/String")], returnType := some .boolean }, accessFlags := 1, code := some k6c1 }
/-- com/example/tallygate/tallygate/KeyType -/
def k6 : Class := { plain "com/example/tallygate/tallygate/KeyType" (some 5) with
  accessFlags := 16433
  interfaces := #[]
  cf := some (fileOf pool6 1 #[] #[{ accessFlags := 1, nameIndex := 169, descriptorIndex := 170, attributes := #[] }, { accessFlags := 1, nameIndex := 59, descriptorIndex := 60, attributes := #[] }] 16433 23 #[] #[{ accessFlags := 16409, nameIndex := 5, descriptorIndex := 6, attributes := #[] }, { accessFlags := 16409, nameIndex := 9, descriptorIndex := 6, attributes := #[] }, { accessFlags := 16409, nameIndex := 12, descriptorIndex := 6, attributes := #[] }, { accessFlags := 26, nameIndex := 156, descriptorIndex := 157, attributes := #[] }, { accessFlags := 26, nameIndex := 160, descriptorIndex := 157, attributes := #[] }, { accessFlags := 4122, nameIndex := 15, descriptorIndex := 16, attributes := #[] }])
  fields := #[{ name := "ACCOUNT", type := (.object "com/example/tallygate/tallygate/KeyType"), accessFlags := 16409, slot := 0, constantValue := 0 }, { name := "ADDRESS", type := (.object "com/example/tallygate/tallygate/KeyType"), accessFlags := 16409, slot := 1, constantValue := 0 }, { name := "PAIR", type := (.object "com/example/tallygate/tallygate/KeyType"), accessFlags := 16409, slot := 2, constantValue := 0 }, { name := "DIGEST_LENGTH", type := .int, accessFlags := 26, slot := 3, constantValue := 0 }, { name := "DIGEST_CHUNK", type := .int, accessFlags := 26, slot := 4, constantValue := 0 }, { name := "$VALUES", type := (.array (.object "com/example/tallygate/tallygate/KeyType")), accessFlags := 4122, slot := 5, constantValue := 0 }]
  methods := #[k6m0, k6m1]
  instanceTypes := #[(.object "java/lang/String"), .int, .int]
  staticTypes := #[(.object "com/example/tallygate/tallygate/KeyType"), (.object "com/example/tallygate/tallygate/KeyType"), (.object "com/example/tallygate/tallygate/KeyType"), .int, .int, (.array (.object "com/example/tallygate/tallygate/KeyType"))]
  resolved := Array.replicate 196 none
  statics := some 0 }

def pool7 : Array CpInfo := pool [(2, .class_ 4), (1, u "java/lang/CharSequence"), (42, .class_ 48), (0, u "java/lang/CharSequence$1CodePointIterator"), (10, .class_ 60), (0, u "java/lang/CharSequence$1CharIterator"), (5, .class_ 67), (0, u "java/lang/Object")] 63

/-- java/lang/CharSequence -/
def k7 : Class := { plain "java/lang/CharSequence" (some 0) with
  accessFlags := 1537
  interfaces := #[]
  cf := some (fileOf pool7 2 #[.nestMembers #[47, 59]] #[] 1537 66 #[] #[])
  fields := #[]
  methods := #[]
  instanceTypes := #[]
  staticTypes := #[]
  resolved := Array.replicate 131 none
  statics := none }

def pool8 : Array CpInfo := pool [(1, .class_ 2), (0, u "java/lang/constant/ConstantDesc"), (0, .class_ 4), (0, u "java/lang/Object")] 32

/-- java/lang/constant/ConstantDesc -/
def k8 : Class := { plain "java/lang/constant/ConstantDesc" (some 0) with
  accessFlags := 1537
  interfaces := #[]
  cf := some (fileOf pool8 1 #[] #[] 1537 3 #[] #[])
  fields := #[]
  methods := #[]
  instanceTypes := #[]
  staticTypes := #[]
  resolved := Array.replicate 37 none
  statics := none }

def pool9 : Array CpInfo := pool [(1, .methodref 2 3), (0, .class_ 4), (0, .nameAndType 5 6), (0, u "java/lang/Object"), (0, u "<init>"), (0, u "()V"), (2, .fieldref 10 11), (0, .class_ 12), (0, .nameAndType 13 14), (0, u "java/lang/String"), (0, u "value"), (0, u "[B"), (0, .fieldref 10 16), (0, .nameAndType 17 18), (0, u "coder"), (0, u "B"), (2, u "hash"), (0, u "I"), (2, u "hashIsZero"), (0, u "Z"), (11, .fieldref 10 39), (0, .nameAndType 40 26), (0, u "COMPACT_STRINGS"), (12, u "toBytes"), (53, .class_ 109), (1, u "java/lang/StringLatin1"), (99, .methodref 10 210), (0, .nameAndType 5 211), (0, u "([BB)V"), (157, u "(C)Z"), (205, .class_ 576), (0, u "java/lang/CharSequence"), (22, u "CASE_INSENSITIVE_ORDER"), (0, u "Ljava/util/Comparator;"), (181, u "valueOf"), (0, u "(C)Ljava/lang/String;"), (231, .methodref 107 1016), (0, .nameAndType 1017 369), (0, u "canEncode"), (0, .methodref 107 1019), (0, .nameAndType 53 1020), (0, u "(C)[B"), (80, u "serialPersistentFields"), (0, u "[Ljava/io/ObjectStreamField;"), (0, .class_ 1104), (0, u "java/lang/String$CaseInsensitiveComparator"), (1, .class_ 1107), (0, u "java/io/Serializable"), (0, .class_ 1109), (0, u "java/lang/Comparable"), (0, .class_ 1111), (0, u "java/lang/constant/Constable"), (0, .class_ 1113), (0, u "java/lang/constant/ConstantDesc"), (2, u "serialVersionUID"), (0, u "J"), (3, u "REPL"), (0, u "C"), (2, u "LATIN1"), (1, u "UTF16")] 323

def k9m0 : Method := { name := "<init>", desc := "()V", sig := { parameters := [], returnType := none }, accessFlags := 1, code := none }
def k9c1 : Code := { maxStack := 4, maxLocals := 1, code := jdk_42_method_139_code, exceptionTable := #[], attributes := #[] }
def k9m1 : Method := { name := "valueOf", desc := "(C)Ljava/lang/String;", sig := { parameters := [.char], returnType := some (.object "java/lang/String") }, accessFlags := 9, code := some k9c1 }
def k9c2 : Code := { maxStack := 2, maxLocals := 3, code := jdk_42_method_151_code, exceptionTable := #[], attributes := #[] }
def k9m2 : Method := { name := "<init>", desc := "([BB)V", sig := { parameters := [(.array .byte), .byte], returnType := none }, accessFlags := 0, code := some k9c2 }
/-- java/lang/String -/
def k9 : Class := { plain "java/lang/String" (some 0) with
  accessFlags := 49
  interfaces := #[4, 3, 7, 2, 8]
  cf := some (fileOf pool9 10 #[.nestMembers #[1103]] #[{ accessFlags := 1, nameIndex := 5, descriptorIndex := 6, attributes := #[] }, { accessFlags := 9, nameIndex := 782, descriptorIndex := 783, attributes := #[] }, { accessFlags := 0, nameIndex := 5, descriptorIndex := 211, attributes := #[] }] 49 2 #[1106, 1108, 575, 1110, 1112] #[{ accessFlags := 18, nameIndex := 13, descriptorIndex := 14, attributes := #[] }, { accessFlags := 18, nameIndex := 17, descriptorIndex := 18, attributes := #[] }, { accessFlags := 2, nameIndex := 21, descriptorIndex := 22, attributes := #[] }, { accessFlags := 2, nameIndex := 25, descriptorIndex := 26, attributes := #[] }, { accessFlags := 26, nameIndex := 1116, descriptorIndex := 1117, attributes := #[] }, { accessFlags := 24, nameIndex := 40, descriptorIndex := 26, attributes := #[] }, { accessFlags := 26, nameIndex := 1101, descriptorIndex := 1102, attributes := #[] }, { accessFlags := 26, nameIndex := 1121, descriptorIndex := 1122, attributes := #[] }, { accessFlags := 25, nameIndex := 599, descriptorIndex := 600, attributes := #[] }, { accessFlags := 24, nameIndex := 1125, descriptorIndex := 18, attributes := #[] }, { accessFlags := 24, nameIndex := 1127, descriptorIndex := 18, attributes := #[] }])
  fields := #[{ name := "value", type := (.array .byte), accessFlags := 18, slot := 0, constantValue := 0 }, { name := "coder", type := .byte, accessFlags := 18, slot := 1, constantValue := 0 }, { name := "hash", type := .int, accessFlags := 2, slot := 2, constantValue := 0 }, { name := "hashIsZero", type := .boolean, accessFlags := 2, slot := 3, constantValue := 0 }, { name := "serialVersionUID", type := .long, accessFlags := 26, slot := 0, constantValue := 0 }, { name := "COMPACT_STRINGS", type := .boolean, accessFlags := 24, slot := 1, constantValue := 0 }, { name := "serialPersistentFields", type := (.array (.object "java/io/ObjectStreamField")), accessFlags := 26, slot := 2, constantValue := 0 }, { name := "REPL", type := .char, accessFlags := 26, slot := 3, constantValue := 0 }, { name := "CASE_INSENSITIVE_ORDER", type := (.object "java/util/Comparator"), accessFlags := 25, slot := 4, constantValue := 0 }, { name := "LATIN1", type := .byte, accessFlags := 24, slot := 5, constantValue := 0 }, { name := "UTF16", type := .byte, accessFlags := 24, slot := 6, constantValue := 0 }]
  methods := #[k9m0, k9m1, k9m2]
  instanceTypes := #[(.array .byte), .byte, .int, .boolean]
  staticTypes := #[.long, .boolean, (.array (.object "java/io/ObjectStreamField")), .char, (.object "java/util/Comparator"), .byte, .byte]
  resolved := Array.replicate 1451 none
  statics := some 1 }

def pool10 : Array CpInfo := pool [(4, .class_ 6), (1, u "java/lang/Object"), (0, u "<init>"), (0, u "()V"), (5, .class_ 16), (1, u "java/lang/StringLatin1"), (73, u "canEncode"), (14, u "(C)Z"), (15, u "$assertionsDisabled"), (0, u "Z"), (98, .class_ 223), (1, u "java/lang/StringLatin1$LinesSpliterator"), (156, u "toBytes"), (1, u "(C)[B"), (7, .class_ 391), (0, u "java/lang/StringLatin1$CharsSpliterator")] 3

def k10m0 : Method := { name := "<init>", desc := "()V", sig := { parameters := [], returnType := none }, accessFlags := 0, code := none }
def k10c1 : Code := { maxStack := 2, maxLocals := 1, code := jdk_43_method_3_code, exceptionTable := #[], attributes := #[] }
def k10m1 : Method := { name := "canEncode", desc := "(C)Z", sig := { parameters := [.char], returnType := some .boolean }, accessFlags := 9, code := some k10c1 }
def k10c2 : Code := { maxStack := 4, maxLocals := 1, code := jdk_43_method_46_code, exceptionTable := #[], attributes := #[] }
def k10m2 : Method := { name := "toBytes", desc := "(C)[B", sig := { parameters := [.char], returnType := some (.array .byte) }, accessFlags := 9, code := some k10c2 }
/-- java/lang/StringLatin1 -/
def k10 : Class := { plain "java/lang/StringLatin1" (some 0) with
  accessFlags := 48
  interfaces := #[]
  cf := some (fileOf pool10 14 #[.nestMembers #[390, 221]] #[{ accessFlags := 0, nameIndex := 7, descriptorIndex := 8, attributes := #[] }, { accessFlags := 9, nameIndex := 90, descriptorIndex := 105, attributes := #[] }, { accessFlags := 9, nameIndex := 380, descriptorIndex := 382, attributes := #[] }] 48 4 #[] #[{ accessFlags := 4120, nameIndex := 121, descriptorIndex := 122, attributes := #[] }])
  fields := #[{ name := "$assertionsDisabled", type := .boolean, accessFlags := 4120, slot := 0, constantValue := 0 }]
  methods := #[k10m0, k10m1, k10m2]
  instanceTypes := #[]
  staticTypes := #[.boolean]
  resolved := Array.replicate 395 none
  statics := none }

def pool11 : Array CpInfo := pool [(2, .class_ 4), (1, u "java/lang/Object"), (0, u "<init>"), (0, u "()V"), (17, .class_ 26), (1, u "jdk/internal/util/Preconditions"), (28, .class_ 56), (0, u "jdk/internal/util/Preconditions$4"), (57, .class_ 115), (0, u "jdk/internal/util/Preconditions$1"), (7, u "SIOOBE_FORMATTER"), (0, u "Ljava/util/function/BiFunction;"), (0, .class_ 126), (0, u "jdk/internal/util/Preconditions$2"), (3, u "AIOOBE_FORMATTER"), (0, .class_ 132), (0, u "jdk/internal/util/Preconditions$3"), (3, u "IOOBE_FORMATTER")] 57

def k11m0 : Method := { name := "<init>", desc := "()V", sig := { parameters := [], returnType := none }, accessFlags := 1, code := none }
/-- jdk/internal/util/Preconditions -/
def k11 : Class := { plain "jdk/internal/util/Preconditions" (some 0) with
  accessFlags := 33
  interfaces := #[]
  cf := some (fileOf pool11 24 #[.nestMembers #[55, 131, 125, 114]] #[{ accessFlags := 1, nameIndex := 5, descriptorIndex := 6, attributes := #[] }] 33 2 #[] #[{ accessFlags := 25, nameIndex := 123, descriptorIndex := 124, attributes := #[] }, { accessFlags := 25, nameIndex := 130, descriptorIndex := 124, attributes := #[] }, { accessFlags := 25, nameIndex := 136, descriptorIndex := 124, attributes := #[] }])
  fields := #[{ name := "SIOOBE_FORMATTER", type := (.object "java/util/function/BiFunction"), accessFlags := 25, slot := 0, constantValue := 0 }, { name := "AIOOBE_FORMATTER", type := (.object "java/util/function/BiFunction"), accessFlags := 25, slot := 1, constantValue := 0 }, { name := "IOOBE_FORMATTER", type := (.object "java/util/function/BiFunction"), accessFlags := 25, slot := 2, constantValue := 0 }]
  methods := #[k11m0]
  instanceTypes := #[]
  staticTypes := #[(.object "java/util/function/BiFunction"), (.object "java/util/function/BiFunction"), (.object "java/util/function/BiFunction")]
  resolved := Array.replicate 194 none
  statics := some 2 }

def pool12 : Array CpInfo := pool [(9, u "<init>"), (6, .class_ 18), (1, u "java/lang/Object"), (0, u "()V"), (1, .class_ 23), (1, u "jdk/internal/util/ArraysSupport"), (0, u "LOG2_ARRAY_LONG_INDEX_SCALE"), (0, u "I"), (2, u "U"), (0, u "Ljdk/internal/misc/Unsafe;"), (8, u "BIG_ENDIAN"), (0, u "Z"), (8, u "LOG2_BYTE_BIT_SIZE"), (4, u "LOG2_ARRAY_INT_INDEX_SCALE"), (54, u "JLA"), (0, u "Ljdk/internal/access/JavaLangAccess;"), (11, u "LOG2_ARRAY_BOOLEAN_INDEX_SCALE"), (9, u "LOG2_ARRAY_BYTE_INDEX_SCALE"), (5, u "LOG2_ARRAY_CHAR_INDEX_SCALE"), (5, u "LOG2_ARRAY_SHORT_INDEX_SCALE"), (18, u "LOG2_ARRAY_FLOAT_INDEX_SCALE"), (24, u "LOG2_ARRAY_DOUBLE_INDEX_SCALE"), (89, u "T_BOOLEAN"), (2, u "T_CHAR"), (1, u "T_FLOAT"), (1, u "T_DOUBLE"), (1, u "T_BYTE"), (1, u "T_SHORT"), (1, u "T_INT"), (1, u "T_LONG"), (1, u "SOFT_MAX_ARRAY_LENGTH")] 83

def k12m0 : Method := { name := "<init>", desc := "()V", sig := { parameters := [], returnType := none }, accessFlags := 2, code := none }
/-- jdk/internal/util/ArraysSupport -/
def k12 : Class := { plain "jdk/internal/util/ArraysSupport" (some 0) with
  accessFlags := 33
  interfaces := #[]
  cf := some (fileOf pool12 21 #[] #[{ accessFlags := 2, nameIndex := 9, descriptorIndex := 19, attributes := #[] }] 33 16 #[] #[{ accessFlags := 24, nameIndex := 28, descriptorIndex := 29, attributes := #[] }, { accessFlags := 26, nameIndex := 38, descriptorIndex := 39, attributes := #[] }, { accessFlags := 25, nameIndex := 121, descriptorIndex := 25, attributes := #[] }, { accessFlags := 25, nameIndex := 131, descriptorIndex := 25, attributes := #[] }, { accessFlags := 25, nameIndex := 137, descriptorIndex := 25, attributes := #[] }, { accessFlags := 25, nameIndex := 143, descriptorIndex := 25, attributes := #[] }, { accessFlags := 25, nameIndex := 53, descriptorIndex := 25, attributes := #[] }, { accessFlags := 25, nameIndex := 24, descriptorIndex := 25, attributes := #[] }, { accessFlags := 25, nameIndex := 162, descriptorIndex := 25, attributes := #[] }, { accessFlags := 25, nameIndex := 187, descriptorIndex := 25, attributes := #[] }, { accessFlags := 26, nameIndex := 48, descriptorIndex := 25, attributes := #[] }, { accessFlags := 25, nameIndex := 277, descriptorIndex := 25, attributes := #[] }, { accessFlags := 25, nameIndex := 280, descriptorIndex := 25, attributes := #[] }, { accessFlags := 25, nameIndex := 282, descriptorIndex := 25, attributes := #[] }, { accessFlags := 25, nameIndex := 284, descriptorIndex := 25, attributes := #[] }, { accessFlags := 25, nameIndex := 286, descriptorIndex := 25, attributes := #[] }, { accessFlags := 25, nameIndex := 288, descriptorIndex := 25, attributes := #[] }, { accessFlags := 25, nameIndex := 290, descriptorIndex := 25, attributes := #[] }, { accessFlags := 25, nameIndex := 292, descriptorIndex := 25, attributes := #[] }, { accessFlags := 26, nameIndex := 108, descriptorIndex := 109, attributes := #[] }, { accessFlags := 25, nameIndex := 294, descriptorIndex := 25, attributes := #[] }])
  fields := #[{ name := "U", type := (.object "jdk/internal/misc/Unsafe"), accessFlags := 24, slot := 0, constantValue := 0 }, { name := "BIG_ENDIAN", type := .boolean, accessFlags := 26, slot := 1, constantValue := 0 }, { name := "LOG2_ARRAY_BOOLEAN_INDEX_SCALE", type := .int, accessFlags := 25, slot := 2, constantValue := 0 }, { name := "LOG2_ARRAY_BYTE_INDEX_SCALE", type := .int, accessFlags := 25, slot := 3, constantValue := 0 }, { name := "LOG2_ARRAY_CHAR_INDEX_SCALE", type := .int, accessFlags := 25, slot := 4, constantValue := 0 }, { name := "LOG2_ARRAY_SHORT_INDEX_SCALE", type := .int, accessFlags := 25, slot := 5, constantValue := 0 }, { name := "LOG2_ARRAY_INT_INDEX_SCALE", type := .int, accessFlags := 25, slot := 6, constantValue := 0 }, { name := "LOG2_ARRAY_LONG_INDEX_SCALE", type := .int, accessFlags := 25, slot := 7, constantValue := 0 }, { name := "LOG2_ARRAY_FLOAT_INDEX_SCALE", type := .int, accessFlags := 25, slot := 8, constantValue := 0 }, { name := "LOG2_ARRAY_DOUBLE_INDEX_SCALE", type := .int, accessFlags := 25, slot := 9, constantValue := 0 }, { name := "LOG2_BYTE_BIT_SIZE", type := .int, accessFlags := 26, slot := 10, constantValue := 0 }, { name := "T_BOOLEAN", type := .int, accessFlags := 25, slot := 11, constantValue := 0 }, { name := "T_CHAR", type := .int, accessFlags := 25, slot := 12, constantValue := 0 }, { name := "T_FLOAT", type := .int, accessFlags := 25, slot := 13, constantValue := 0 }, { name := "T_DOUBLE", type := .int, accessFlags := 25, slot := 14, constantValue := 0 }, { name := "T_BYTE", type := .int, accessFlags := 25, slot := 15, constantValue := 0 }, { name := "T_SHORT", type := .int, accessFlags := 25, slot := 16, constantValue := 0 }, { name := "T_INT", type := .int, accessFlags := 25, slot := 17, constantValue := 0 }, { name := "T_LONG", type := .int, accessFlags := 25, slot := 18, constantValue := 0 }, { name := "JLA", type := (.object "jdk/internal/access/JavaLangAccess"), accessFlags := 26, slot := 19, constantValue := 0 }, { name := "SOFT_MAX_ARRAY_LENGTH", type := .int, accessFlags := 25, slot := 20, constantValue := 0 }]
  methods := #[k12m0]
  instanceTypes := #[]
  staticTypes := #[(.object "jdk/internal/misc/Unsafe"), .boolean, .int, .int, .int, .int, .int, .int, .int, .int, .int, .int, .int, .int, .int, .int, .int, .int, .int, (.object "jdk/internal/access/JavaLangAccess"), .int]
  resolved := Array.replicate 378 none
  statics := none }

def pool13 : Array CpInfo := pool [(1, u "java/lang/Cloneable"), (0, .class_ 1), (0, u "java/lang/Object"), (0, .class_ 3)] 3

/-- java/lang/Cloneable -/
def k13 : Class := { plain "java/lang/Cloneable" (some 0) with
  accessFlags := 1537
  interfaces := #[]
  cf := some (fileOf pool13 2 #[] #[] 1537 4 #[] #[])
  fields := #[]
  methods := #[]
  instanceTypes := #[]
  staticTypes := #[]
  resolved := Array.replicate 8 none
  statics := none }

/-- the primitive byte -/
def k14 : Class := { plain "byte" none with kind := .primitive 'B', accessFlags := 0x411 }
/-- [B -/
def k15 : Class := { plain "[B" (some 0) with kind := .array 14 .byte, interfaces := #[13, 4], accessFlags := 1041 }

/-- the primitive int -/
def k16 : Class := { plain "int" none with kind := .primitive 'I', accessFlags := 0x411 }
/-- [I -/
def k17 : Class := { plain "[I" (some 0) with kind := .array 16 .int, interfaces := #[13, 4], accessFlags := 1041 }

def heap : Heap := #[{ cls := 6, slots := #[.ref 3, .ref 4, .ref 5, .int 0, .int 0, .null], vm := .statics 6 },
  { cls := 9, slots := #[.long 0, .int 1, .null, .int 0, .null, .int 0, .int 0], vm := .statics 9 },
  { cls := 11, slots := #[.null, .null, .null], vm := .statics 11 },
  { cls := 6, slots := #[.null, .int 0, .int 0], vm := .none },
  { cls := 6, slots := #[.null, .int 1, .int 0], vm := .none },
  { cls := 6, slots := #[.null, .int 2, .int 0], vm := .none }]
def classes : Array Class := #[k0, k1, k2, k3, k4, k5, k6, k7, k8, k9, k10, k11, k12, k13, k14, k15, k16, k17]
def interned : List (Array UInt16 × Addr) := []
def slotsUsed : Nat := 25
def theMethod : MethodId := ⟨1, 1⟩
def args0 : Array Value := #[.int 5, .int 7]
def aboutOver (below : List Frame) : State where
  vm := { classes := classes, interned := interned.toArray }
  heap := heap
  slotsUsed := slotsUsed
  threads := #[{ frames := .invoking theMethod args0 :: below }]
def below0 : List Frame := [.native { method := ⟨0, 0⟩, args := #[] }]
def about1 : State := aboutOver below0
def p0 : Program := .bare "" "" ""
def e0 : Env := launch0.env 0 0 0
theorem w_frames : about1.frames = Frame.invoking theMethod args0 :: below0 := rfl
set_option maxRecDepth 65536 in
theorem w_args : argsFit about1.vm theMethod args0 = true := by decide +kernel
set_option maxRecDepth 65536 in
theorem w_heap : heapFits about1 = true := by decide +kernel
set_option maxRecDepth 65536 in
theorem w_runnable : about1.curStatus? = some .runnable := by decide +kernel
set_option maxRecDepth 65536 in
theorem w_alone : about1.alone = true := by decide +kernel
set_option maxRecDepth 65536 in
theorem w_named : about1.methodNamed? x = some theMethod := by decide +kernel
set_option maxRecDepth 65536 in
theorem w_hears : about1.hears theMethod below0 = true := by decide +kernel
set_option maxRecDepth 65536 in
theorem w_ripe : about1.ripe theMethod args0 below0 = true := by decide +kernel
theorem w_running : about1.status = .running := rfl
set_option maxRecDepth 65536 in
theorem w_room : about1.hasRoom e0.platform room_1 = true :=
  launch0.hasRoom_least _ room_1 (by decide +kernel) (by decide +kernel) (by decide +kernel) (by decide +kernel) (by decide +kernel) (by decide +kernel)
theorem allAtoms_all (ts : List Jvm.Cond) (a : Array Jvm.Value) (st : Jvm.State) : (allAtoms ts).before a st = ts.all (fun c => c.before a st) := by
  induction ts with
  | nil => rfl
  | cons c t ih =>
    show (Jvm.Cond.and c (allAtoms t)).before a st = _
    rw [Jvm.Cond.before_and, ih, List.all_cons]
def words1 : List Jvm.Cond := Jvm.Cond.code x code maxLocals ret :: tables_1
/-- a 'code' word, met by the world's own term for the bytes: nothing is compared byte by byte -/
theorem code_word {y : MethodName} {bytes : ByteArray} {mx : Nat} {rt : Option FieldType} {a : Array Value} {s : State} {m : MethodId} {meth : Method} {c : Code} (h1 : s.methodNamed? y = some m) (h2 : s.vm.method? m = some meth) (h3 : meth.code = some c) (h4 : c.code = bytes)
    (h5 : (c.maxLocals == mx && c.exceptionTable.isEmpty && decide (c.maxStack ≤ mostOperands) && decide (meth.sig.returnType = rt) && !meth.locks && decide (parseMethodDescriptor y.desc = some meth.sig)) = true) : (Jvm.Cond.code y bytes mx rt).before a s = true := by
  simp only [Bool.and_eq_true, beq_iff_eq, Bool.not_eq_true', decide_eq_true_eq] at h5
  obtain ⟨⟨⟨⟨⟨g1, g2⟩, g3⟩, g4⟩, g5⟩, g6⟩ := h5
  simp [Cond.before, Cond.holds, Cond.value, h1, h2, h3, h4, g1, g2, g3, g4, g5, g6]
def isCode : Jvm.Cond → Bool
  | .code _ _ _ _ => true
  | _ => false
theorem all_split {L : List Jvm.Cond} {P : Jvm.Cond → Bool} (h1 : L.all (fun c => isCode c || P c) = true) (h2 : ∀ c ∈ L.filter isCode, P c = true) : L.all P = true := by
  refine List.all_eq_true.mpr fun c hc => ?_
  have h := List.all_eq_true.mp h1 c hc
  rcases Bool.eq_false_or_eq_true (isCode c) with hi | hi
  · exact h2 c (List.mem_filter.mpr ⟨hc, hi⟩)
  · simpa [hi] using h
set_option maxRecDepth 65536 in
theorem w_c0 : (Jvm.Cond.code x code maxLocals ret).before args0 about1 = true := code_word (m := ⟨1, 1⟩) (meth := k1m1) (c := k1c1) (by decide +kernel) rfl rfl rfl (by decide +kernel)
set_option maxRecDepth 65536 in
theorem w_c1 : (Jvm.Cond.code ({ cls := "java/lang/String", name := "valueOf", desc := "(C)Ljava/lang/String;" } : Jvm.MethodName) jdk_42_method_139_code (1 : Nat) (Option.some (Jvm.ClassFile.FieldType.object "java/lang/String"))).before args0 about1 = true := code_word (m := ⟨9, 1⟩) (meth := k9m1) (c := k9c1) (by decide +kernel) rfl rfl rfl (by decide +kernel)
set_option maxRecDepth 65536 in
theorem w_c2 : (Jvm.Cond.code ({ cls := "java/lang/StringLatin1", name := "canEncode", desc := "(C)Z" } : Jvm.MethodName) jdk_43_method_3_code (1 : Nat) (Option.some Jvm.ClassFile.FieldType.boolean)).before args0 about1 = true := code_word (m := ⟨10, 1⟩) (meth := k10m1) (c := k10c1) (by decide +kernel) rfl rfl rfl (by decide +kernel)
set_option maxRecDepth 65536 in
theorem w_c3 : (Jvm.Cond.code ({ cls := "java/lang/StringLatin1", name := "toBytes", desc := "(C)[B" } : Jvm.MethodName) jdk_43_method_46_code (1 : Nat) (Option.some (Jvm.ClassFile.FieldType.array Jvm.ClassFile.FieldType.byte))).before args0 about1 = true := code_word (m := ⟨10, 2⟩) (meth := k10m2) (c := k10c2) (by decide +kernel) rfl rfl rfl (by decide +kernel)
set_option maxRecDepth 65536 in
theorem w_c4 : (Jvm.Cond.code ({ cls := "java/lang/String", name := "<init>", desc := "([BB)V" } : Jvm.MethodName) jdk_42_method_151_code (3 : Nat) (Option.none : Option Jvm.ClassFile.FieldType)).before args0 about1 = true := code_word (m := ⟨9, 2⟩) (meth := k9m2) (c := k9c2) (by decide +kernel) rfl rfl rfl (by decide +kernel)
set_option maxRecDepth 65536 in
theorem w_c5 : (Jvm.Cond.code ({ cls := "java/lang/Object", name := "<init>", desc := "()V" } : Jvm.MethodName) object_method_1_code (1 : Nat) (Option.none : Option Jvm.ClassFile.FieldType)).before args0 about1 = true := code_word (m := ⟨0, 0⟩) (meth := k0m0) (c := k0c0) (by decide +kernel) rfl rfl rfl (by decide +kernel)
set_option maxRecDepth 65536 in
theorem w_c6 : (Jvm.Cond.code ({ cls := "com/example/tallygate/tallygate/KeyType", name := "isProvenBySuccess", desc := "()Z" } : Jvm.MethodName) prog_10_method_5_code (1 : Nat) (Option.some Jvm.ClassFile.FieldType.boolean)).before args0 about1 = true := code_word (m := ⟨6, 0⟩) (meth := k6m0) (c := k6c0) (by decide +kernel) rfl rfl rfl (by decide +kernel)
set_option maxRecDepth 65536 in
theorem w_c7 : (Jvm.Cond.code ({ cls := "java/lang/Enum", name := "ordinal", desc := "()I" } : Jvm.MethodName) jdk_37_method_2_code (1 : Nat) (Option.some Jvm.ClassFile.FieldType.int)).before args0 about1 = true := code_word (m := ⟨5, 0⟩) (meth := k5m0) (c := k5c0) (by decide +kernel) rfl rfl rfl (by decide +kernel)
set_option maxRecDepth 65536 in
theorem w_c8 : (Jvm.Cond.code ({ cls := "com/example/tallygate/tallygate/KeyType", name := "canKey", desc := "(Ljava/lang/String;Ljava/lang/String;)Z" } : Jvm.MethodName) prog_10_method_7_code (3 : Nat) (Option.some Jvm.ClassFile.FieldType.boolean)).before args0 about1 = true := code_word (m := ⟨6, 1⟩) (meth := k6m1) (c := k6c1) (by decide +kernel) rfl rfl rfl (by decide +kernel)
def codes1 : List Jvm.Cond := [Jvm.Cond.code x code maxLocals ret, Jvm.Cond.code ({ cls := "java/lang/String", name := "valueOf", desc := "(C)Ljava/lang/String;" } : Jvm.MethodName) jdk_42_method_139_code (1 : Nat) (Option.some (Jvm.ClassFile.FieldType.object "java/lang/String")), Jvm.Cond.code ({ cls := "java/lang/StringLatin1", name := "canEncode", desc := "(C)Z" } : Jvm.MethodName) jdk_43_method_3_code (1 : Nat) (Option.some Jvm.ClassFile.FieldType.boolean), Jvm.Cond.code ({ cls := "java/lang/StringLatin1", name := "toBytes", desc := "(C)[B" } : Jvm.MethodName) jdk_43_method_46_code (1 : Nat) (Option.some (Jvm.ClassFile.FieldType.array Jvm.ClassFile.FieldType.byte)), Jvm.Cond.code ({ cls := "java/lang/String", name := "<init>", desc := "([BB)V" } : Jvm.MethodName) jdk_42_method_151_code (3 : Nat) (Option.none : Option Jvm.ClassFile.FieldType), Jvm.Cond.code ({ cls := "java/lang/Object", name := "<init>", desc := "()V" } : Jvm.MethodName) object_method_1_code (1 : Nat) (Option.none : Option Jvm.ClassFile.FieldType), Jvm.Cond.code ({ cls := "com/example/tallygate/tallygate/KeyType", name := "isProvenBySuccess", desc := "()Z" } : Jvm.MethodName) prog_10_method_5_code (1 : Nat) (Option.some Jvm.ClassFile.FieldType.boolean), Jvm.Cond.code ({ cls := "java/lang/Enum", name := "ordinal", desc := "()I" } : Jvm.MethodName) jdk_37_method_2_code (1 : Nat) (Option.some Jvm.ClassFile.FieldType.int), Jvm.Cond.code ({ cls := "com/example/tallygate/tallygate/KeyType", name := "canKey", desc := "(Ljava/lang/String;Ljava/lang/String;)Z" } : Jvm.MethodName) prog_10_method_7_code (3 : Nat) (Option.some Jvm.ClassFile.FieldType.boolean)]
set_option maxRecDepth 65536 in
theorem codes_eq : words1.filter isCode = codes1 := rfl
theorem w_codes : ∀ c ∈ words1.filter isCode, c.before args0 about1 = true := by
  rw [codes_eq]
  intro c hc
  simp only [codes1, List.mem_cons, List.not_mem_nil, or_false] at hc
  rcases hc with rfl | rfl | rfl | rfl | rfl | rfl | rfl | rfl | rfl
  · exact w_c0
  · exact w_c1
  · exact w_c2
  · exact w_c3
  · exact w_c4
  · exact w_c5
  · exact w_c6
  · exact w_c7
  · exact w_c8
set_option maxRecDepth 65536 in
theorem w_t1 : (words1.take 24).all (fun c => isCode c || c.before args0 about1) = true := by decide +kernel
set_option maxRecDepth 65536 in
theorem w_t2 : ((words1.drop 24).take 24).all (fun c => isCode c || c.before args0 about1) = true := by decide +kernel
set_option maxRecDepth 65536 in
theorem w_t3 : ((words1.drop 24).drop 24).all (fun c => isCode c || c.before args0 about1) = true := by decide +kernel
theorem w_tables : (allAtoms (Jvm.Cond.code x code maxLocals ret :: tables_1)).before args0 about1 = true := by
  rw [allAtoms_all]
  show words1.all (fun c => c.before args0 about1) = true
  refine all_split ?_ w_codes
  rw [← List.take_append_drop 24 words1, List.all_append, w_t1, ← List.take_append_drop 24 (words1.drop 24), List.all_append, w_t2, w_t3]
  rfl
set_option maxRecDepth 65536 in
theorem w_rest : rest_1_c.before args0 about1 = true := by decide +kernel
set_option maxRecDepth 65536 in
theorem w_case : (Jvm.Cond.and given_1 narrow_1).before args0 about1 = true := by decide +kernel
theorem w_applies : (headSpec (Jvm.Cond.code x code maxLocals ret :: tables_1) room_1).applies x e0.platform about1 = true :=
  (Spec.applies_iff w_frames).mpr ⟨w_running, w_runnable, w_alone, w_named, w_hears, w_ripe, w_room, w_tables⟩
theorem atStart : AtStart classFile x code maxLocals ret World_1 tables_1 room_1 Calls_1 rest_1 Pre_1 launch0 p0 e0 about1 theMethod args0 below0 :=
  ⟨lists_1, trivial, launch0.admits_env _ _ _, launch0.least_env, fairChoices_fair.cas, fairChoices_fair.clock, w_frames, w_args, w_heap, w_applies, trivial, w_rest, w_case⟩
end start1
theorem witness_1 : WitnessClaimed_1 := ⟨start1.p0, start1.e0, start1.about1, start1.theMethod, start1.args0, start1.below0, start1.atStart⟩
end Jvm.Pilot.@@N@@
